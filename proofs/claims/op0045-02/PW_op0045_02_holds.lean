import PyProof.Rows.All
import Wide.All
import OpenK.AllK
import Wide.FinOn
import KE.KSuperObj
import OpenK.KMake
import OpenK.KMore
import PySem.Challenge.RW_op0045_02
open PySem PySem.W PySem.Calls PyProof.Rows
set_option Elab.async false
set_option maxRecDepth 100000
set_option linter.unusedVariables false
set_option maxHeartbeats 0
set_option linter.unusedSimpArgs false
open PySem PySem.W PyProof.Rows
namespace Mine

noncomputable abbrev PM := Addr → Option Obj
noncomputable def Le (φ ψ : PM) : Prop := ∀ a o, φ a = some o → ψ a = some o
theorem Le.refl (φ : PM) : Le φ φ := fun _ _ h => h
theorem Le.trans {φ ψ χ : PM} (h : Le φ ψ) (k : Le ψ χ) : Le φ χ := fun a o e => k a o (h a o e)
noncomputable def Sub (φ : PM) (h : Heap) : Prop := ∀ a o, φ a = some o → h.get? a = some o

structure VP where
  p : PM → Value → Prop
  mono : ∀ {φ ψ : PM} {v : Value}, Le φ ψ → p φ v → p ψ v

inductive All2 {α β : Type} (R : α → β → Prop) : List α → List β → Prop
  | nil : All2 R [] []
  | cons {a b as bs} : R a b → All2 R as bs → All2 R (a :: as) (b :: bs)
theorem All2.imp {α β : Type} {R S : α → β → Prop} (f : ∀ a b, R a b → S a b) {as : List α} {bs : List β} (h : All2 R as bs) : All2 S as bs := by
  induction h with
  | nil => exact .nil
  | cons h _ ih => exact .cons (f _ _ h) ih
theorem All2.length {α β : Type} {R : α → β → Prop} {as : List α} {bs : List β} (h : All2 R as bs) : as.length = bs.length := by
  induction h with
  | nil => rfl
  | cons _ _ ih => simp [ih]
theorem All2.get {α β : Type} {R : α → β → Prop} {as : List α} {bs : List β} (h : All2 R as bs) : ∀ {i : Nat} {a : α}, as[i]? = some a → ∃ b, bs[i]? = some b ∧ R a b := by
  induction h with
  | nil => intro i a e; simp at e
  | cons h _ ih =>
    intro i a e
    cases i with
    | zero => simp at e; subst e; exact ⟨_, by simp, h⟩
    | succ i => simp at e; obtain ⟨b, hb, r⟩ := ih e; exact ⟨b, by simpa using hb, r⟩
theorem All2.get' {α β : Type} {R : α → β → Prop} {as : List α} {bs : List β} (h : All2 R as bs) : ∀ {i : Nat} {b : β}, bs[i]? = some b → ∃ a, as[i]? = some a ∧ R a b := by
  induction h with
  | nil => intro i a e; simp at e
  | cons h _ ih =>
    intro i a e
    cases i with
    | zero => simp at e; subst e; exact ⟨_, by simp, h⟩
    | succ i => simp at e; obtain ⟨b, hb, r⟩ := ih e; exact ⟨b, by simpa using hb, r⟩
theorem All2.append {α β : Type} {R : α → β → Prop} {as as' : List α} {bs bs' : List β} (h : All2 R as bs) (k : All2 R as' bs') : All2 R (as ++ as') (bs ++ bs') := by
  induction h with
  | nil => exact k
  | cons h _ ih => exact .cons h ih
theorem All2.of_get {α β : Type} {R : α → β → Prop} : ∀ {as : List α} {bs : List β}, as.length = bs.length → (∀ (i : Nat) a b, as[i]? = some a → bs[i]? = some b → R a b) → All2 R as bs
  | [], [], _, _ => .nil
  | a :: as, b :: bs, h, f => .cons (f 0 a b (by simp) (by simp)) (All2.of_get (by simpa using h) fun i x y e1 e2 => f (i + 1) x y (by simpa using e1) (by simpa using e2))

noncomputable def vVal (x : Value) : VP := ⟨fun _ v => v = x, fun _ h => h⟩
noncomputable def vInt (i : Int) : VP := ⟨fun _ v => ∃ t, v = .int i t, fun _ h => h⟩
noncomputable def vBool (b : Bool) : VP := ⟨fun _ v => v = .bool b, fun _ h => h⟩
noncomputable def vStr (x : Str) : VP := ⟨fun _ v => ∃ t, v = .str x t, fun _ h => h⟩
noncomputable def vNone : VP := ⟨fun _ v => v = .none, fun _ h => h⟩
noncomputable def vSeq (c : String) (ps : List VP) : VP :=
  ⟨fun φ v => ∃ (a : Addr) (vs : List Value) (n : Nat), v = .ref a ∧ φ a = some { cls := .type c, data := .seq vs.toArray n } ∧ All2 (fun (P : VP) v => P.p φ v) ps vs,
   fun le => by
    rintro ⟨a, vs, n, e, h, k⟩
    exact ⟨a, vs, n, e, le _ _ h, k.imp fun P _ x => P.mono le x⟩⟩
noncomputable abbrev vList (ps : List VP) : VP := vSeq "list" ps
noncomputable abbrev vTup (ps : List VP) : VP := vSeq "tuple" ps

noncomputable def Kept (F : List Addr) (b : Addr) (o : Obj) (r : Option Obj) : Prop :=
  (∃ sl, r = some { o with slots := sl } ∧ (sl = o.slots ∨ (b ∈ F ∧ ∀ vs, o.data ≠ .fields vs))) ∨
  (b ∈ F ∧ o.cls = .none ∧ ∃ vs more, o.data = .fields vs ∧ r = some { o with data := .fields (vs ++ more) })
structure Ext (F : List Addr) (s s' : Shared) : Prop where
  rest : ∃ h' tk, s' = { s with heap := h', toks := tk }
  kept : ∀ b o, s.heap.get? b = some o → Kept F b o (s'.heap.get? b)
theorem Kept.same {F : List Addr} {b : Addr} {o : Obj} {r : Option Obj} (h : r = some o) : Kept F b o r := .inl ⟨o.slots, h, .inl rfl⟩
theorem Kept.trans {F : List Addr} {b : Addr} {o : Obj} {r r' : Option Obj} (h : Kept F b o r) (k : ∀ o1, r = some o1 → Kept F b o1 r') : Kept F b o r' := by
  rcases h with ⟨sl, rfl, hs⟩ | ⟨hF, hc, vs, more, hd, rfl⟩
  · rcases k _ rfl with ⟨sl2, rfl, hs2⟩ | ⟨hF, hc, vs, more, hd, rfl⟩
    · refine .inl ⟨sl2, rfl, ?_⟩
      rcases hs2 with hs2 | hs2
      · rcases hs with hs | hs
        · exact .inl (hs2.trans hs)
        · exact .inr hs
      · exact .inr hs2
    · rcases hs with rfl | hs
      · exact .inr ⟨hF, hc, vs, more, hd, rfl⟩
      · exact absurd hd (hs.2 vs)
  · rcases k _ rfl with ⟨sl2, rfl, hs2⟩ | ⟨_, _, vs2, more2, hd2, rfl⟩
    · rcases hs2 with hs2 | hs2
      · subst hs2; exact .inr ⟨hF, hc, vs, more, hd, rfl⟩
      · exact absurd rfl (hs2.2 _)
    · cases hd2
      exact .inr ⟨hF, hc, vs, more ++ more2, hd, by rw [Array.append_assoc]⟩
theorem Kept.there {F : List Addr} {b : Addr} {o : Obj} {r : Option Obj} (h : Kept F b o r) : ∃ o', r = some o' := by
  rcases h with ⟨sl, rfl, _⟩ | ⟨_, _, _, _, _, rfl⟩ <;> exact ⟨_, rfl⟩
theorem Kept.off {F : List Addr} {b : Addr} {o : Obj} {r : Option Obj} (h : Kept F b o r) (hb : b ∉ F) : r = some o := by
  rcases h with ⟨sl, rfl, rfl | hs⟩ | ⟨hF, _⟩
  · rfl
  · exact absurd hs.1 hb
  · exact absurd hF hb
theorem Kept.solid {F : List Addr} {b : Addr} {o : Obj} {r : Option Obj} (h : Kept F b o r) (hb : ∀ vs, o.data ≠ .fields vs) : ∃ sl, r = some { o with slots := sl } := by
  rcases h with ⟨sl, rfl, _⟩ | ⟨_, _, vs, _, hd, _⟩
  · exact ⟨sl, rfl⟩
  · exact absurd hd (hb vs)
theorem Kept.mono {F G : List Addr} {b : Addr} {o : Obj} {r : Option Obj} (h : Kept F b o r) (k : b ∈ F → b ∈ G) : Kept G b o r :=
  h.imp (fun ⟨sl, e, hs⟩ => ⟨sl, e, hs.imp id fun ⟨a, c⟩ => ⟨k a, c⟩⟩) fun ⟨a, c⟩ => ⟨k a, c⟩

theorem Ext.refl (F : List Addr) (s : Shared) : Ext F s s := ⟨⟨s.heap, s.toks, rfl⟩, fun _ o e => .same e⟩
theorem Ext.trans {F : List Addr} {s s' s'' : Shared} (x : Ext F s s') (y : Ext F s' s'') : Ext F s s'' := by
  refine ⟨?_, fun b o e => (x.kept b o e).trans fun o1 e1 => y.kept b o1 e1⟩
  obtain ⟨h', tk, rfl⟩ := x.rest
  obtain ⟨h'', tk', rfl⟩ := y.rest
  exact ⟨h'', tk', rfl⟩
theorem Ext.keep_off {F : List Addr} {s s' : Shared} (x : Ext F s s') {b : Addr} {o : Obj} (e : s.heap.get? b = some o) (hb : b ∉ F) : s'.heap.get? b = some o := (x.kept b o e).off hb
theorem Ext.there {F : List Addr} {s s' : Shared} (x : Ext F s s') {b : Addr} {o : Obj} (e : s.heap.get? b = some o) : ∃ o', s'.heap.get? b = some o' := (x.kept b o e).there
theorem Ext.solid {F : List Addr} {s s' : Shared} (x : Ext F s s') {b : Addr} {o : Obj} (e : s.heap.get? b = some o) (hb : ∀ vs, o.data ≠ .fields vs) : ∃ sl, s'.heap.get? b = some { o with slots := sl } := (x.kept b o e).solid hb
theorem Ext.of_keeps {F : List Addr} {s : Shared} {h' : Heap} {tk : Nat} (k : ∀ b o, s.heap.get? b = some o → h'.get? b = some o) : Ext F s { s with heap := h', toks := tk } :=
  ⟨⟨h', tk, rfl⟩, fun b o e => .same (k b o e)⟩
theorem Ext.none {F : List Addr} {s s' : Shared} (x : Ext F s s') {b : Addr} (e : s'.heap.get? b = none) : s.heap.get? b = none := by
  cases q : s.heap.get? b with
  | none => rfl
  | some o => obtain ⟨o', e1⟩ := x.there q; rw [e] at e1; cases e1
theorem Ext.ns {F : List Addr} {s s' : Shared} (x : Ext F s s') {L : Addr} {m : Str → Option Value} (n : s.heap.Ns L m) : s'.heap.Ns L m := by
  obtain ⟨o, es, ep, ho, hd, hk, hf⟩ := n
  obtain ⟨sl, e1⟩ := x.solid ho (fun vs q => by rw [hd] at q; cases q)
  exact ⟨_, es, ep, e1, hd, hk, hf⟩
theorem Ext.cell {F : List Addr} {s s' : Shared} (x : Ext F s s') {c : Addr} {v : Option Value} (n : s.heap.IsCell c v) : s'.heap.IsCell c v := by
  obtain ⟨o, ho, hd⟩ := n
  obtain ⟨sl, e1⟩ := x.solid ho (fun vs q => by rw [hd] at q; cases q)
  exact ⟨_, e1, hd⟩
theorem Ext.sub {F : List Addr} {s s' : Shared} (x : Ext F s s') {φ : PM} (h : Sub φ s.heap) (off : ∀ b ∈ F, φ b = Option.none) : Sub φ s'.heap := by
  intro a o e
  refine x.keep_off (h a o e) fun hF => ?_
  rw [off a hF] at e; cases e

structure Grow (F : List Addr) (ψ : PM) (s : Shared) (ψ' : PM) (s' : Shared) : Prop where
  ext : Ext F s s'
  le : Le ψ ψ'
  sub : Sub ψ' s'.heap
  new : ∀ b o, ψ' b = some o → ψ b = some o ∨ s.heap.get? b = none
theorem Grow.refl {F : List Addr} {ψ : PM} {s : Shared} (h : Sub ψ s.heap) : Grow F ψ s ψ s := ⟨Ext.refl F s, Le.refl ψ, h, fun _ _ e => .inl e⟩
theorem Grow.trans {F : List Addr} {ψ ψ' ψ'' : PM} {s s' s'' : Shared} (x : Grow F ψ s ψ' s') (y : Grow F ψ' s' ψ'' s'') : Grow F ψ s ψ'' s'' :=
  ⟨x.ext.trans y.ext, x.le.trans y.le, y.sub, fun b o e => (y.new b o e).elim (x.new b o) fun e => .inr (x.ext.none e)⟩
theorem Grow.of_ext {F : List Addr} {ψ : PM} {s s' : Shared} (x : Ext F s s') (h : Sub ψ s.heap) (off : ∀ b ∈ F, ψ b = Option.none) : Grow F ψ s ψ s' :=
  ⟨x, Le.refl ψ, x.sub h off, fun _ _ e => .inl e⟩

noncomputable def put (ψ : PM) (a : Addr) (o : Obj) : PM := fun b => if b = a then some o else ψ b
theorem put_self (ψ : PM) (a : Addr) (o : Obj) : put ψ a o a = some o := by simp [put]
theorem put_ne {ψ : PM} {a b : Addr} {o : Obj} (h : b ≠ a) : put ψ a o b = ψ b := by simp [put, h]
theorem le_put {ψ : PM} {a : Addr} {o : Obj} (h : ψ a = none) : Le ψ (put ψ a o) := fun b x e => by
  by_cases q : b = a
  · subst q; rw [h] at e; cases e
  · rw [put_ne q]; exact e
theorem Sub.put {ψ : PM} {h : Heap} {a : Addr} {o : Obj} (x : Sub ψ h) (e : h.get? a = some o) : Sub (put ψ a o) h := fun b y q => by
  by_cases z : b = a
  · subst z; rw [put_self] at q; cases q; exact e
  · rw [put_ne z] at q; exact x b y q
theorem none_of_sub {ψ : PM} {h : Heap} (x : Sub ψ h) {a : Addr} (e : h.get? a = none) : ψ a = none := by
  cases q : ψ a with
  | none => rfl
  | some o => rw [x a o q] at e; cases e
theorem get_size (h : Heap) : h.get? h.objs.size = none := Heap.get?_none_of_le (Nat.le_refl _)
theorem Grow.push {F : List Addr} {ψ : PM} {s : Shared} (h : Sub ψ s.heap) (o : Obj) (hf : o.isFreed = false) (tk : Nat) :
    Grow F ψ s (put ψ s.heap.objs.size o) { s with heap := s.heap.push o, toks := tk } := by
  have hn := none_of_sub h (get_size s.heap)
  refine ⟨Ext.of_keeps fun b x e => Heap.get?_push_of_some _ e, le_put hn, Sub.put (fun a x e => Heap.get?_push_of_some _ (h a x e)) (Heap.get?_push_size _ hf), fun b x e => ?_⟩
  by_cases q : b = s.heap.objs.size
  · subst q; exact .inr (get_size _)
  · rw [put_ne q] at e; exact .inl e

noncomputable def frs (A : Around) : List Addr := (A.frames.getD []).filterMap (·.frame)
noncomputable def Stk (A : Around) (h : Heap) : Prop := ∃ fr, A.frames = some fr ∧ ∀ env ∈ fr, env.scope.kind ≠ .module ∧ ∃ L o, env.frame = some L ∧ h.get? L = some o ∧ ∀ vs, o.data ≠ .fields vs
noncomputable def HK (ψ : PM) (x : Addr) : Prop := ∃ o vs, ψ x = some o ∧ o.data = .fields vs ∧ (vs[2]? = some .none ∨ ∃ y oy ys, vs[2]? = some (.ref y) ∧ ψ y = some oy ∧ oy.data = .fields ys ∧ ys[2]? = some .none)
theorem HK.le {ψ ψ' : PM} {x : Addr} (h : HK ψ x) (k : Le ψ ψ') : HK ψ' x := let ⟨o, vs, a, b, c⟩ := h; ⟨o, vs, k _ _ a, b, c.imp id fun ⟨y, oy, ys, d, e, f⟩ => ⟨y, oy, ys, d, k _ _ e, f⟩⟩
noncomputable def HOk (A : Around) (ψ : PM) : Prop := A.handled = none ∨ ∃ x, A.handled = some (.ref x) ∧ HK ψ x
theorem HOk.le {A : Around} {ψ ψ' : PM} (h : HOk A ψ) (k : Le ψ ψ') : HOk A ψ' := h.imp id fun ⟨x, a, b⟩ => ⟨x, a, b.le k⟩
theorem Stk.ext {A : Around} {F : List Addr} {s s' : Shared} (h : Stk A s.heap) (x : Ext F s s') : Stk A s'.heap := by
  obtain ⟨fr, e, k⟩ := h
  refine ⟨fr, e, fun env he => ?_⟩
  obtain ⟨h1, L, o, h2, h3, h4⟩ := k env he
  obtain ⟨sl, e1⟩ := x.solid h3 h4
  exact ⟨h1, L, _, h2, e1, h4⟩

structure Md where
  k : Nat
  n : Bool
structure Cx (μ : Md) (A : Around) (ψ : PM) (s : Shared) : Prop where
  depth : A.depth + μ.k < 1000
  units : A.units + 10 * μ.k < 9900
  none : μ.n = true → A.handled = none
  hand : HOk A ψ
  stk : Stk A s.heap
  off : ∀ b ∈ frs A, ψ b = Option.none
  sub : Sub ψ s.heap
theorem frs_mem {A : Around} {h : Heap} (k : Stk A h) {b : Addr} (hb : b ∈ frs A) : ∃ o, h.get? b = some o := by
  obtain ⟨fr, e, k⟩ := k
  unfold frs at hb
  rw [e] at hb
  obtain ⟨env, he, hf⟩ := List.mem_filterMap.mp hb
  obtain ⟨_, L, o, h2, h3, _⟩ := k env he
  rw [hf] at h2; cases h2
  exact ⟨o, h3⟩
theorem Cx.grow {μ : Md} {A : Around} {ψ ψ' : PM} {s s' : Shared} (c : Cx μ A ψ s) (g : Grow (frs A) ψ s ψ' s') : Cx μ A ψ' s' :=
  ⟨c.depth, c.units, c.none, c.hand.le g.le, c.stk.ext g.ext, (fun b hb => by
    cases q : ψ' b with
    | none => rfl
    | some o =>
      obtain ⟨x, hx⟩ := frs_mem c.stk hb
      rcases g.new b o q with e | e
      · rw [c.off b hb] at e; cases e
      · rw [hx] at e; cases e), g.sub⟩
theorem Cx.in1 {k : Nat} {n : Bool} {A : Around} {ψ : PM} {s : Shared} (c : Cx ⟨k + 1, n⟩ A ψ s) : Cx ⟨k, n⟩ A.in1 ψ s :=
  ⟨by have := c.depth; simp at *; omega, by have := c.units; simp at *; omega, c.none, c.hand, c.stk, c.off, c.sub⟩

section
variable {prog : Program} {w : World}

noncomputable def Good (prog : Program) (w : World) (A : Around) (ψ : PM) (s : Shared) (t : Sem Value) (R : VP) : Prop :=
  wpAny (model prog w) A t (fun v s' => ∃ ψ', Grow (frs A) ψ s ψ' s' ∧ R.p ψ' v) (fun _ _ => False) s

theorem Good.use {A : Around} {ψ : PM} {s : Shared} {t : Sem Value} {R : VP} {Q : Value → Shared → Prop} {E : Value → Shared → Prop} (h : Good prog w A ψ s t R)
    (k : ∀ v ψ' s', Grow (frs A) ψ s ψ' s' → R.p ψ' v → Q v s') : wpAny (model prog w) A t Q E s :=
  wpAny_mono h (fun v s' ⟨ψ', g, r⟩ => k v ψ' s' g r) fun _ _ e => e.elim
theorem Good.pure {A : Around} {ψ : PM} {s : Shared} {v : Value} {R : VP} (h : Sub ψ s.heap) (r : R.p ψ v) : Good prog w A ψ s (Pure.pure v) R := wpAny_pure ⟨ψ, Grow.refl h, r⟩
theorem Good.bind {A : Around} {ψ : PM} {s : Shared} {t : Sem Value} {f : Value → Sem Value} {P R : VP} (h : Good prog w A ψ s t P)
    (k : ∀ v ψ' s', Grow (frs A) ψ s ψ' s' → P.p ψ' v → Good prog w A ψ' s' (f v) R) : Good prog w A ψ s (t >>= f) R :=
  wpAny_bind (h.use fun v ψ' s' g r => (k v ψ' s' g r).use fun v2 ψ2 s2 g2 r2 => ⟨ψ2, g.trans g2, r2⟩)
end
end Mine
namespace Mine

structure Fram (env : Env) (m : Str → Option Value) (h : Heap) : Prop where
  fn : env.scope.kind = .function
  gl : env.globals = mainGlobals
  bi : env.builtins = builtinsNs
  loc : ∃ ml, h.Ns env.locals ml ∧ ∀ x, env.kindOf x = some .local → ml x = m x
  cel : ∀ x, (env.kindOf x = some .cell ∨ env.kindOf x = some .free) → ∃ c, env.cells.lookup x = some c ∧ h.IsCell c (m x)
  inj : ∀ x y c, env.cells.lookup x = some c → env.cells.lookup y = some c → x = y
  nl : ∀ x c, env.cells.lookup x = some c → c ≠ env.locals
theorem Fram.ext {env : Env} {m : Str → Option Value} {F : List Addr} {s s' : Shared} (f : Fram env m s.heap) (x : Ext F s s') : Fram env m s'.heap :=
  ⟨f.fn, f.gl, f.bi, let ⟨ml, n, k⟩ := f.loc; ⟨ml, x.ns n, k⟩, fun y hy => let ⟨c, a, b⟩ := f.cel y hy; ⟨c, a, x.cell b⟩, f.inj, f.nl⟩

noncomputable def Typ (Γ : List (Str × VP)) (ψ : PM) (m : Str → Option Value) : Prop := ∀ x P, Γ.lookup x = some P → ∃ v, m x = some v ∧ P.p ψ v
theorem Typ.le {Γ : List (Str × VP)} {ψ ψ' : PM} {m : Str → Option Value} (t : Typ Γ ψ m) (k : Le ψ ψ') : Typ Γ ψ' m := fun x P h => let ⟨v, a, b⟩ := t x P h; ⟨v, a, P.mono k b⟩
theorem Typ.nil {ψ : PM} {m : Str → Option Value} : Typ [] ψ m := fun x P h => by cases h
theorem Typ.cons {Γ : List (Str × VP)} {ψ : PM} {m : Str → Option Value} {x : Str} {P : VP} {v : Value} (t : Typ Γ ψ m) (r : P.p ψ v) : Typ ((x, P) :: Γ) ψ (fun y => if y = x then some v else m y) := by
  intro y P' h
  rw [List.lookup_cons] at h
  by_cases q : y = x
  · subst q
    simp only [beq_self_eq_true] at h
    cases h
    exact ⟨v, by simp, r⟩
  · have : (y == x) = false := by simpa using q
    rw [this] at h
    obtain ⟨v', a, b⟩ := t y P' h
    exact ⟨v', by simp [q, a], b⟩

inductive NsKnows (φ : PM) (a : Addr) (x : Str) (r : Option Value) : Prop
  | mk (o : _) (es : _) (ep : _) (h1 : φ a = some o) (h2 : o.data = .dict es ep) (h3 : StrKeys es) (h4 : nsFind es x = r) : NsKnows φ a x r
theorem NsKnows.ns {φ : PM} {a : Addr} {x : Str} {r : Option Value} (k : NsKnows φ a x r) {h : Heap} (hs : Sub φ h) : ∃ m, h.Ns a m ∧ m x = r :=
  let ⟨o, es, ep, ho, hd, hk, hf⟩ := k; ⟨fun n => nsFind es n, ⟨o, es, ep, hs _ _ ho, hd, hk, fun _ => rfl⟩, hf⟩
noncomputable def GN (φ : PM) (x : Str) (v : Value) : Prop := NsKnows φ mainGlobals x (some v)
noncomputable def BN (φ : PM) (x : Str) (v : Value) : Prop := NsKnows φ mainGlobals x none ∧ NsKnows φ builtinsNs x (some v)
theorem NsKnows.le {φ ψ : PM} {a : Addr} {x : Str} {r : Option Value} (k : NsKnows φ a x r) (l : Le φ ψ) : NsKnows ψ a x r :=
  let ⟨o, es, ep, ho, a, b, c⟩ := k; ⟨o, es, ep, l _ _ ho, a, b, c⟩

section
variable {prog : Program} {w : World}

noncomputable def Ev (prog : Program) (w : World) (μ : Md) (sc : Scope) (Γ : List (Str × VP)) (φ : PM) (e : Expr) (P : VP) : Prop :=
  ∀ A env m ψ s, env.scope = sc → Cx μ A ψ s → Le φ ψ → Fram env m s.heap → Typ Γ ψ m → Good prog w A ψ s (eval e env) P
noncomputable def EvB (prog : Program) (w : World) (μ : Md) (sc : Scope) (Γ : List (Str × VP)) (φ : PM) (e : Expr) (b : Bool) : Prop :=
  ∀ A env m ψ s, env.scope = sc → Cx μ A ψ s → Le φ ψ → Fram env m s.heap → Typ Γ ψ m →
    wpAny (model prog w) A (isTrue e env (eval e env)) (fun r s' => r = b ∧ ∃ ψ', Grow (frs A) ψ s ψ' s') (fun _ _ => False) s
theorem EvB.use {μ : Md} {sc : Scope} {Γ : List (Str × VP)} {φ : PM} {e : Expr} {b : Bool} (h : EvB prog w μ sc Γ φ e b) {A : Around} {env : Env} {m : Str → Option Value} {ψ : PM} {s : Shared}
    (he : env.scope = sc) (c : Cx μ A ψ s) (l : Le φ ψ) (f : Fram env m s.heap) (t : Typ Γ ψ m) {Q : Bool → Shared → Prop} {E : Value → Shared → Prop} (k : ∀ ψ' s', Grow (frs A) ψ s ψ' s' → Q b s') :
    wpAny (model prog w) A (isTrue e env (eval e env)) Q E s :=
  wpAny_mono (h A env m ψ s he c l f t) (fun r s' ⟨e1, ψ', g⟩ => e1 ▸ k ψ' s' g) fun _ _ e => e.elim

variable {μ : Md} {sc : Scope} {Γ : List (Str × VP)} {φ : PM}

theorem Ev.le {ψ : PM} {e : Expr} {P : VP} (h : Ev prog w μ sc Γ φ e P) (l : Le φ ψ) : Ev prog w μ sc Γ ψ e P := fun A env m χ s he c k f t => h A env m χ s he c (l.trans k) f t

noncomputable def isVar : Option NameKind → Bool
  | some .local | some .cell | some .free => true
  | _ => false
theorem load_var {A : Around} {env : Env} {m : Str → Option Value} {s : Shared} {x : Str} {v : Value} {Q : Value → Shared → Prop} {E : Value → Shared → Prop} (f : Fram env m s.heap)
    (hk : isVar (env.scope.names.lookup x) = true) (hv : m x = some v) (h : Q v s) (hn : (x == ("__classdict__" : Str)) = false) : wpAny (model prog w) A (loadName env x) Q E s := by
  have hk' : env.kindOf x = env.scope.names.lookup x := rfl
  cases q : env.scope.names.lookup x with
  | none => rw [q] at hk; cases hk
  | some k =>
    rw [q] at hk hk'
    cases k with
    | «local» =>
      obtain ⟨ml, n, hm⟩ := f.loc
      exact wpAny_loadName_local f.fn hk' n ((hm x hk').trans hv) h
    | cell =>
      obtain ⟨c, hc, hi⟩ := f.cel x (.inl hk')
      rw [hv] at hi
      exact wpAny_loadName_cell f.fn hk' hc hi h
    | free =>
      obtain ⟨c, hc, hi⟩ := f.cel x (.inr hk')
      rw [hv] at hi
      exact wpAny_loadName_free f.fn hk' hc hi h hn
    | globalImplicit => cases hk
    | globalExplicit => cases hk
theorem ev_var {x : Str} {pos : Pos} {P : VP} (h : Γ.lookup x = some P) (hk : isVar (sc.names.lookup x) = true) (hd : (x == ("__debug__" : Str) || x == ("__classdict__" : Str)) = false) : Ev prog w μ sc Γ φ (.Name x pos) P := by
  intro A env m ψ s he c l f t
  obtain ⟨v, hv, hp⟩ := t x P h
  simp only [Bool.or_eq_false_iff] at hd
  exact wpAny_Name (load_var f (he ▸ hk) hv ⟨ψ, Grow.refl c.sub, hp⟩ hd.2) hd.1
theorem ev_glob {x : Str} {pos : Pos} {v : Value} (hg : GN φ x v) (hk : sc.names.lookup x = some .globalImplicit) (hd : (x == ("__debug__" : Str)) = false) : Ev prog w μ sc Γ φ (.Name x pos) (vVal v) := by
  intro A env m ψ s he c l f t
  obtain ⟨mg, n, hm⟩ := (NsKnows.le hg l).ns c.sub
  exact Name_function_global f.fn (by show env.scope.names.lookup x = _; rw [he]; exact hk) (loadGlobal_global (f.gl ▸ n) hm ⟨ψ, Grow.refl c.sub, rfl⟩) hd
theorem ev_builtin {x : Str} {pos : Pos} {v : Value} (hg : BN φ x v) (hk : sc.names.lookup x = some .globalImplicit) (hd : (x == ("__debug__" : Str)) = false) : Ev prog w μ sc Γ φ (.Name x pos) (vVal v) := by
  intro A env m ψ s he c l f t
  obtain ⟨mg, n, hm⟩ := (NsKnows.le hg.1 l).ns c.sub
  obtain ⟨mb, n2, hm2⟩ := (NsKnows.le hg.2 l).ns c.sub
  exact Name_function_global f.fn (by show env.scope.names.lookup x = _; rw [he]; exact hk) (loadGlobal_builtin (f.gl ▸ n) hm (f.bi ▸ n2) hm2 ⟨ψ, Grow.refl c.sub, rfl⟩) hd

theorem grow_tok {F : List Addr} {ψ : PM} {s : Shared} {tk : Nat} (h : Sub ψ s.heap) : Grow F ψ s ψ { s with toks := tk } := ⟨⟨⟨s.heap, tk, rfl⟩, fun _ o e => .same e⟩, Le.refl _, h, fun _ _ e => .inl e⟩
theorem ev_int {i : Int} {k : Nat} {pos : Pos} : Ev prog w μ sc Γ φ (.Constant (.int i) k pos) (vInt i) := by
  intro A env m ψ s he c l f t
  rw [arm_eval_Constant]
  exact wpAny_mkInt ⟨ψ, grow_tok c.sub, _, rfl⟩
theorem ev_bool {b : Bool} {k : Nat} {pos : Pos} : Ev prog w μ sc Γ φ (.Constant (.bool b) k pos) (vBool b) := by
  intro A env m ψ s he c l f t
  rw [arm_eval_Constant]
  exact wpAny_pure ⟨ψ, Grow.refl c.sub, rfl⟩
theorem ev_str {x : Str} {k : Nat} {pos : Pos} : Ev prog w μ sc Γ φ (.Constant (.str x) k pos) (vStr x) := by
  intro A env m ψ s he c l f t
  rw [arm_eval_Constant]
  exact wpAny_mkText ⟨ψ, grow_tok c.sub, _, rfl⟩

noncomputable def Op2 (prog : Program) (w : World) (μ : Md) (φ : PM) (t : Value → Value → Sem Value) (P Q R : VP) : Prop :=
  ∀ A ψ s a b, Cx μ A ψ s → Le φ ψ → P.p ψ a → Q.p ψ b → Good prog w A ψ s (t a b) R
noncomputable def Op1 (prog : Program) (w : World) (μ : Md) (φ : PM) (t : Value → Sem Value) (P R : VP) : Prop :=
  ∀ A ψ s a, Cx μ A ψ s → Le φ ψ → P.p ψ a → Good prog w A ψ s (t a) R

theorem wpAny_release {M : Model} {A : Around} {E : Value → Shared → Prop} {s : Shared} {vs keep : List Value} {Q : Unit → Shared → Prop} (h : Q () s) : wpAny M A (release vs keep) Q E s := by
  unfold release
  generalize (vs.filter fun | .ref _ => true | _ => false) = l
  induction l with
  | nil => exact wpAny_pure h
  | cons x r ih =>
    cases r with
    | nil => exact wpAny_pure h
    | cons y r => exact wpAny_bind (wpAny_holding (wpAny_point ih))
theorem wpAny_operate {M : Model} {A : Around} {E : Value → Shared → Prop} {s : Shared} {vs : List Value} {t : Sem Value} {Q : Value → Shared → Prop} (h : wpAny M A t Q E s) : wpAny M A (operate vs t) Q E s :=
  wpAny_bind (wpAny_holding (wpAny_mono h (fun v s' hq => wpAny_bind (wpAny_release (wpAny_pure hq))) fun _ _ e => e))

theorem ev_bin {l r : Expr} {op : Operator} {pos : Pos} {P Q R : VP} (hl : Ev prog w μ sc Γ φ l P) (hr : Ev prog w μ sc Γ φ r Q) (ho : Op2 prog w μ φ (binaryOp op) P Q R) : Ev prog w μ sc Γ φ (.BinOp l op r pos) R := by
  intro A env m ψ s he c le f t
  rw [arm_eval_BinOp]
  refine Good.bind (hl A env m ψ s he c le f t) fun a ψ1 s1 g1 p1 => ?_
  have c1 := c.grow g1
  refine wpAny_bind (wpAny_holding ((hr A env m ψ1 s1 he c1 (le.trans g1.le) (f.ext g1.ext) (t.le g1.le)).use fun b ψ2 s2 g2 p2 => ?_))
  refine wpAny_bind (wpAny_standAt (wpAny_operate ((ho A ψ2 s2 a b (c1.grow g2) (le.trans (g1.le.trans g2.le)) (P.mono g2.le p1) p2).use fun v ψ3 s3 g3 p3 => ⟨ψ3, g2.trans g3, p3⟩)))
theorem ev_un {x : Expr} {op : UnaryOp} {pos : Pos} {P R : VP} (hl : Ev prog w μ sc Γ φ x P) (ho : Op1 prog w μ φ (unaryOp op) P R) : Ev prog w μ sc Γ φ (.UnaryOp op x pos) R := by
  intro A env m ψ s he c le f t
  rw [arm_eval_UnaryOp]
  refine Good.bind (hl A env m ψ s he c le f t) fun a ψ1 s1 g1 p1 => ?_
  exact wpAny_bind (wpAny_standAt (wpAny_holding ((ho A ψ1 s1 a (c.grow g1) (le.trans g1.le) p1).use fun v ψ3 s3 g3 p3 => ⟨ψ3, g3, p3⟩)))
theorem ev_cmp {l r : Expr} {op : CmpOp} {pos : Pos} {P Q R : VP} (hl : Ev prog w μ sc Γ φ l P) (hr : Ev prog w μ sc Γ φ r Q) (ho : Op2 prog w μ φ (compareOp op) P Q R) (hm : behindInMarks op r = false) : Ev prog w μ sc Γ φ (.Compare l [op] [r] pos) R := by
  intro A env m ψ s he c le f t
  rw [eval_Compare1]
  refine Good.bind (hl A env m ψ s he c le f t) fun a ψ1 s1 g1 p1 => ?_
  have c1 := c.grow g1
  have hmk : markedBehindIn op r (eval r env) = eval r env := by unfold markedBehindIn; rw [hm]
  rw [hmk]
  refine wpAny_bind (wpAny_holding ((hr A env m ψ1 s1 he c1 (le.trans g1.le) (f.ext g1.ext) (t.le g1.le)).use fun b ψ2 s2 g2 p2 => ?_))
  refine wpAny_bind (wpAny_standAt (wpAny_operate ((ho A ψ2 s2 a b (c1.grow g2) (le.trans (g1.le.trans g2.le)) (P.mono g2.le p1) p2).use fun v ψ3 s3 g3 p3 => ⟨ψ3, g2.trans g3, p3⟩)))

noncomputable def Tru (prog : Program) (w : World) (μ : Md) (φ : PM) (P : VP) (b : Bool) : Prop :=
  ∀ A ψ s v, Cx μ A ψ s → Le φ ψ → P.p ψ v → wpAny (model prog w) A (truthy v) (fun r s' => r = b ∧ ∃ ψ', Grow (frs A) ψ s ψ' s') (fun _ _ => False) s
theorem tru_bool {b : Bool} : Tru prog w μ φ (vBool b) b := by
  rintro A ψ s v c le rfl
  exact wpAny_truthy_bool ⟨rfl, ψ, Grow.refl c.sub⟩
theorem evb_cmp {l r : Expr} {op : CmpOp} {pos : Pos} {P Q : VP} {b : Bool} (hl : Ev prog w μ sc Γ φ l P) (hr : Ev prog w μ sc Γ φ r Q) (ho : Op2 prog w μ φ (compareOp op) P Q (vBool b)) (hm : behindInMarks op r = false) : EvB prog w μ sc Γ φ (.Compare l [op] [r] pos) b := by
  intro A env m ψ s he c le f t
  refine wpAny_isTrue_Compare1 ((hl A env m ψ s he c le f t).use fun a ψ1 s1 g1 p1 => ?_) hm
  have c1 := c.grow g1
  refine (hr A env m ψ1 s1 he c1 (le.trans g1.le) (f.ext g1.ext) (t.le g1.le)).use fun b' ψ2 s2 g2 p2 => ?_
  refine (ho A ψ2 s2 a b' (c1.grow g2) (le.trans (g1.le.trans g2.le)) (P.mono g2.le p1) p2).use fun v ψ3 s3 g3 p3 => ?_
  cases p3
  exact wpAny_truthy_bool ⟨rfl, ψ3, g1.trans (g2.trans g3)⟩
theorem evb_not {x : Expr} {pos : Pos} {b : Bool} (h : EvB prog w μ sc Γ φ x b) : EvB prog w μ sc Γ φ (.UnaryOp .Not x pos) (!b) := by
  intro A env m ψ s he c le f t
  exact wpAny_isTrue_Not (h.use he c le f t fun ψ' s' g => ⟨rfl, ψ', g⟩)
theorem evb_and_nil {pos : Pos} : EvB prog w μ sc Γ φ (.BoolOp .And [] pos) true := fun A env m ψ s he c le f t => isTrue_and_nil ⟨rfl, ψ, Grow.refl c.sub⟩
theorem evb_or_nil {pos : Pos} : EvB prog w μ sc Γ φ (.BoolOp .Or [] pos) false := fun A env m ψ s he c le f t => isTrue_or_nil ⟨rfl, ψ, Grow.refl c.sub⟩
theorem evb_and {x : Expr} {rest : List Expr} {pos : Pos} {a b : Bool} (h : EvB prog w μ sc Γ φ x a) (k : a = true → EvB prog w μ sc Γ φ (.BoolOp .And rest pos) b) : EvB prog w μ sc Γ φ (.BoolOp .And (x :: rest) pos) (a && b) := by
  intro A env m ψ s he c le f t
  refine isTrue_and (h.use he c le f t fun ψ1 s1 g1 => ?_)
  cases a with
  | false => simp only [Bool.false_eq_true, if_false]; exact ⟨rfl, ψ1, g1⟩
  | true =>
    simp only [if_true]
    exact wpAny_mono ((k rfl) A env m ψ1 s1 he (c.grow g1) (le.trans g1.le) (f.ext g1.ext) (t.le g1.le)) (fun r s' ⟨e1, ψ', g⟩ => ⟨by simpa using e1, ψ', g1.trans g⟩) fun _ _ e => e
theorem evb_or {x : Expr} {rest : List Expr} {pos : Pos} {a b : Bool} (h : EvB prog w μ sc Γ φ x a) (k : a = false → EvB prog w μ sc Γ φ (.BoolOp .Or rest pos) b) : EvB prog w μ sc Γ φ (.BoolOp .Or (x :: rest) pos) (a || b) := by
  intro A env m ψ s he c le f t
  refine isTrue_or (h.use he c le f t fun ψ1 s1 g1 => ?_)
  cases a with
  | true => simp only [if_true]; exact ⟨rfl, ψ1, g1⟩
  | false =>
    simp only [Bool.false_eq_true, if_false]
    exact wpAny_mono ((k rfl) A env m ψ1 s1 he (c.grow g1) (le.trans g1.le) (f.ext g1.ext) (t.le g1.le)) (fun r s' ⟨e1, ψ', g⟩ => ⟨by simpa using e1, ψ', g1.trans g⟩) fun _ _ e => e
theorem evb_val {e : Expr} {P : VP} {b : Bool} (h : Ev prog w μ sc Γ φ e P) (k : Tru prog w μ φ P b) (he : ∀ env whole, isTrue e env whole = (do let v ← whole; standAt e.pos; holding [v] (truthy v))) : EvB prog w μ sc Γ φ e b := by
  intro A env m ψ s hs c le f t
  refine isTrue_plain ((h A env m ψ s hs c le f t).use fun v ψ1 s1 g1 p1 => ?_) (he env _)
  exact wpAny_mono (k A ψ1 s1 v (c.grow g1) (le.trans g1.le) p1) (fun r s' ⟨e1, ψ', g⟩ => ⟨e1, ψ', g1.trans g⟩) fun _ _ e => e

noncomputable def notStar : Expr → Bool
  | .Starred .. => false
  | _ => true
theorem starEach_cons {e : Expr} (h : notStar e = true) (rest : List Expr) (env : Env) : starEach (e :: rest) env = (false, eval e env) :: starEach rest env := by
  cases e <;> first | rfl | cases h
noncomputable def EvA (prog : Program) (w : World) (μ : Md) (sc : Scope) (Γ : List (Str × VP)) (φ : PM) (es : List Expr) (Ps : List VP) : Prop := All2 (fun e P => notStar e = true ∧ Ev prog w μ sc Γ φ e P) es Ps
theorem EvA.nil : EvA prog w μ sc Γ φ [] [] := All2.nil
theorem EvA.cons {e : Expr} {es : List Expr} {P : VP} {Ps : List VP} (h : Ev prog w μ sc Γ φ e P) (k : EvA prog w μ sc Γ φ es Ps) (n : notStar e = true) : EvA prog w μ sc Γ φ (e :: es) (P :: Ps) := All2.cons ⟨n, h⟩ k
theorem spliced_ok {A : Around} {env : Env} {m : Str → Option Value} {pos : Pos} {E : Value → Shared → Prop} (he : env.scope = sc) {es : List Expr} {Ps : List VP} (h : EvA prog w μ sc Γ φ es Ps) :
    ∀ {ψ s} {Q : List Value → Shared → Prop}, Cx μ A ψ s → Le φ ψ → Fram env m s.heap → Typ Γ ψ m → (∀ vs ψ' s', Grow (frs A) ψ s ψ' s' → All2 (fun (P : VP) v => P.p ψ' v) Ps vs → Q vs s') →
      wpAny (model prog w) A (spliced (backTo pos (starEach es env))) Q E s := by
  induction h with
  | nil => intro ψ s Q c l f t k; exact wpAny_pure (k [] ψ s (Grow.refl c.sub) .nil)
  | @cons e P es Ps h0 _ ih =>
    intro ψ s Q c l f t k
    rw [starEach_cons h0.1]
    show wpAny _ _ (spliced ((false, if (false = true) then _ else eval e env) :: backTo pos (starEach es env))) _ _ _
    unfold spliced
    simp only [Bool.false_eq_true, if_false]
    refine wpAny_bind ((h0.2 A env m ψ s he c l f t).use fun v ψ1 s1 g1 p1 => ?_)
    refine wpAny_bind (wpAny_pure (wpAny_bind (wpAny_holding (ih (c.grow g1) (l.trans g1.le) (f.ext g1.ext) (t.le g1.le) fun vs ψ2 s2 g2 p2 => wpAny_pure ?_))))
    exact k (v :: vs) ψ2 s2 (g1.trans g2) (.cons (P.mono g2.le p1) p2)
theorem good_newSeq {A : Around} {ψ : PM} {s : Shared} {c : String} {Ps : List VP} {vs : List Value} (h : Sub ψ s.heap) (k : All2 (fun (P : VP) v => P.p ψ v) Ps vs) (hsz : vs.length ≤ sizeLine) :
    Good prog w A ψ s (newObj (.type c) (.seq vs.toArray)) (vSeq c Ps) := by
  refine wpAny_newObj_type ⟨_, Grow.push h _ rfl s.toks, s.heap.objs.size, vs, 0, rfl, put_self _ _ _, ?_⟩ (by show vs.toArray.size ≤ sizeLine; rw [List.size_toArray]; exact hsz)
  exact k.imp fun P v x => P.mono (le_put (none_of_sub h (get_size _))) x
theorem ev_listD {es : List Expr} {pos : Pos} {Ps : List VP} (h : EvA prog w μ sc Γ φ es Ps) (hsz : Ps.length ≤ sizeLine) : Ev prog w μ sc Γ φ (.List es pos) (vList Ps) := by
  intro A env m ψ s he c le f t
  rw [arm_eval_List]
  refine wpAny_bind (wpAny_standAt (wpAny_bind (spliced_ok he h c le f t fun vs ψ1 s1 g1 p1 => ?_)))
  exact (good_newSeq g1.sub p1 (by rw [← p1.length]; exact hsz)).use fun v ψ3 s3 g3 p3 => ⟨ψ3, g1.trans g3, p3⟩
theorem ev_tupD {es : List Expr} {k : Nat} {pos : Pos} {Ps : List VP} (h : EvA prog w μ sc Γ φ es Ps) (hsz : Ps.length ≤ sizeLine) : Ev prog w μ sc Γ φ (.Tuple es k pos) (vTup Ps) := by
  intro A env m ψ s he c le f t
  rw [arm_eval_Tuple]
  refine wpAny_bind (wpAny_standAt (wpAny_bind (spliced_ok he h c le f t fun vs ψ1 s1 g1 p1 => ?_)))
  exact (good_newSeq g1.sub p1 (by rw [← p1.length]; exact hsz)).use fun v ψ3 s3 g3 p3 => ⟨ψ3, g1.trans g3, p3⟩
end
end Mine
namespace Mine

section
variable {prog : Program} {w : World}

noncomputable def Spec (prog : Program) (w : World) (μ : Md) (φ : PM) (f : Value) (Ps : List VP) (R : VP) : Prop :=
  ∀ A ψ s vs, Cx μ A ψ s → Le φ ψ → All2 (fun (P : VP) v => P.p ψ v) Ps vs → Good prog w A ψ s (call f vs) R
theorem Spec.le {μ : Md} {φ ψ : PM} {f : Value} {Ps : List VP} {R : VP} (h : Spec prog w μ φ f Ps R) (l : Le φ ψ) : Spec prog w μ ψ f Ps R := fun A χ s vs c k a => h A χ s vs c (l.trans k) a
noncomputable def KeepOk (φ : PM) (f : Value) : Prop := ∀ (M : Model) (h : Heap), Sub φ h → ∃ k, (k = Keeper.frame ∨ k = Keeper.machine ∨ k = Keeper.boundFrame) ∧ Looks M h (keeperOf f) k
theorem keep_builtin {φ : PM} {id : String} : KeepOk φ (.builtin id) := fun M h _ => ⟨.machine, .inr (.inl rfl), Looks.of_pure rfl⟩
theorem keep_type {φ : PM} {id : String} : KeepOk φ (.type id) := fun M h _ => ⟨.machine, .inr (.inl rfl), Looks.of_pure rfl⟩
theorem keep_fn {φ : PM} {a : Addr} {o : Obj} {fd : FuncData} (h : φ a = some o) (hd : o.data = .func fd) : KeepOk φ (.ref a) := by
  intro M hp hs
  refine ⟨.frame, .inl rfl, fun A Q E s k q => ?_⟩
  unfold keeperOf
  refine wpAny_bind (wpAny_load (k _ _ (hs _ _ h)) ?_)
  rw [hd]
  exact wpAny_pure q

variable {μ : Md} {sc : Scope} {Γ : List (Str × VP)} {φ : PM}
theorem any_star {es : List Expr} {Ps : List VP} (h : EvA prog w μ sc Γ φ es Ps) (pos : Pos) (env : Env) : (backTo pos (starEach es env)).any (·.1) = false := by
  induction h with
  | nil => rfl
  | @cons e P es Ps h0 _ ih =>
    rw [starEach_cons h0.1]
    show (false || (backTo pos (starEach es env)).any (·.1)) = false
    rw [ih]; rfl
theorem evalArgs_ok {A : Around} {env : Env} {m : Str → Option Value} {pos : Pos} {E : Value → Shared → Prop} (he : env.scope = sc) {es : List Expr} {Ps : List VP} (h : EvA prog w μ sc Γ φ es Ps) {fv : Value}
    {ψ : PM} {s : Shared} {Q : Args → Shared → Prop} (c : Cx μ A ψ s) (l : Le φ ψ) (f : Fram env m s.heap) (t : Typ Γ ψ m) (k : ∀ vs ψ' s', Grow (frs A) ψ s ψ' s' → All2 (fun (P : VP) v => P.p ψ' v) Ps vs → Q ⟨vs, []⟩ s') :
    wpAny (model prog w) A (evalArgs fv true (backTo pos (starEach es env)) []) Q E s := by
  have h' := spliced_ok (pos := pos) (E := E) he h c l f t (Q := fun vs s' => Q ⟨vs, []⟩ s') k
  cases h with
  | nil => exact evalArgs_nil3 (k [] ψ s (Grow.refl c.sub) .nil)
  | @cons e P es Ps h0 _ =>
    rw [starEach_cons h0.1] at h' ⊢
    exact evalArgs_plain h'
theorem callWith_ok {A : Around} {env : Env} {m : Str → Option Value} {pos : Pos} (he : env.scope = sc) {es : List Expr} {Ps Fs : List VP} (h : EvA prog w μ sc Γ φ es Ps) {fv : Value} {first : List Value} {R : VP}
    (hk : KeepOk φ fv) (hs : Spec prog w μ φ fv (Fs ++ Ps) R)
    {ψ : PM} {s : Shared} (c : Cx μ A ψ s) (l : Le φ ψ) (f : Fram env m s.heap) (t : Typ Γ ψ m) (hf : All2 (fun (P : VP) v => P.p ψ v) Fs first) :
    Good prog w A ψ s (callWith pos fv first (backTo pos (starEach es env)) []) R := by
  refine callWith_of (P := fun h => ∃ k, (k = Keeper.frame ∨ k = Keeper.machine ∨ k = Keeper.boundFrame) ∧ Looks (model prog w) h (keeperOf fv) k) (by rw [any_star h]; rfl) (fun _ x => x) ?_
  refine evalArgs_ok he h c l f t fun vs ψ' s' g p => ?_
  exact ⟨hk _ _ (fun a o e => g.sub a o (g.le _ _ (l _ _ e))), (hs A ψ' s' (first ++ vs) (c.grow g) (l.trans g.le) (All2.append (hf.imp fun P _ x => P.mono g.le x) p)).use fun v ψ3 s3 g3 p3 => ⟨ψ3, g.trans g3, p3⟩⟩
theorem ev_call {x : Str} {px pos : Pos} {args : List Expr} {fv : Value} {Ps : List VP} {R : VP} (hf : Ev prog w μ sc Γ φ (.Name x px) (vVal fv)) (ha : EvA prog w μ sc Γ φ args Ps) (hk : KeepOk φ fv) (hs : Spec prog w μ φ fv Ps R) :
    Ev prog w μ sc Γ φ (.Call (.Name x px) args [] pos) R := by
  intro A env m ψ s he c l f t
  rw [arm_eval_Call_Name']
  refine Good.bind (hf A env m ψ s he c l f t) fun v ψ1 s1 g1 p1 => ?_
  cases p1
  exact callWith_ok (Fs := []) he ha hk hs (c.grow g1) (l.trans g1.le) (f.ext g1.ext) (t.le g1.le) .nil


inductive Lnk (A₀ : Around) (env : Env) : Option Addr → Around → Prop
  | deep : env.frame = some env.locals → Lnk A₀ env none (A₀.deeper env)
  | mark (e : Addr) : env.frame = some env.locals → Lnk A₀ env (some e) ((A₀.deeper env).mark (some (.ref e)))
  | same : Lnk A₀ env none A₀
structure Fix where
  A₀ : Around
  A : Around
  ψ₀ : PM
  s₀ : Shared
  ft : List Addr
  env : Env
  hx : Option Addr := none
  tb : List (Addr × Obj) := []
noncomputable def Fix.F (X : Fix) : List Addr := X.tb.map (·.1) ++ frs X.A₀
structure CX (μ : Md) (X : Fix) : Prop where
  base : ∃ n0, Cx ⟨μ.k + 1, n0⟩ X.A₀ X.ψ₀ X.s₀ ∧ (μ.n = true → n0 = true ∧ X.hx = none)
theorem CX.of {k : Nat} {n : Bool} {X : Fix} (c : Cx ⟨k + 1, n⟩ X.A₀ X.ψ₀ X.s₀) (h : X.hx = none) : CX ⟨k, n⟩ X := ⟨n, c, fun e => ⟨e, h⟩⟩
theorem CX.stk {μ : Md} {X : Fix} (c : CX μ X) : Stk X.A₀ X.s₀.heap := let ⟨_, c, _⟩ := c.base; c.stk
theorem CX.off {μ : Md} {X : Fix} (c : CX μ X) : ∀ b ∈ frs X.A₀, X.ψ₀ b = none := let ⟨_, c, _⟩ := c.base; c.off
structure S (X : Fix) (m : Str → Option Value) (ψ ω : PM) (s : Shared) : Prop where
  ext : Ext X.F X.s₀ s
  le : Le X.ψ₀ ψ
  new : ∀ b o, ψ b = some o → X.ψ₀ b = some o ∨ X.s₀.heap.get? b = none
  sub : Sub ψ s.heap
  fram : Fram X.env m s.heap
  link : Lnk X.A₀ X.env X.hx X.A
  hnd : ∀ e, X.hx = some e → HK ψ e
  loc : X.env.locals ∈ X.ft
  there : ∀ c ∈ X.ft, ∃ o, s.heap.get? c = some o
  off : ∀ c ∈ X.ft, ψ c = none ∧ X.s₀.heap.get? c = none
  fre : ∀ x c, X.env.cells.lookup x = some c → c ∉ X.ft → ∃ o, X.s₀.heap.get? c = some o
  own : ∀ a o, ω a = some o → s.heap.get? a = some o ∧ ψ a = none ∧ X.s₀.heap.get? a = none ∧ a ∉ X.ft
  tab : ∀ p ∈ X.tb, s.heap.get? p.1 = some p.2 ∧ ψ p.1 = none ∧ p.1 ∉ X.ft ∧ ω p.1 = none ∧ p.1 ∉ frs X.A₀ ∧ (∃ o, X.s₀.heap.get? p.1 = some o) ∧ X.ψ₀ p.1 = none
theorem frs_deeper {A : Around} {env : Env} {fr : List Env} (h : A.frames = some fr) (hf : env.frame = some env.locals) : frs (A.deeper env) = env.locals :: frs A := by
  unfold frs
  rw [Around.frames_deeper h, h]
  simp [hf]
theorem Lnk.frs {A₀ A : Around} {env : Env} {hx : Option Addr} {fr : List Env} (l : Lnk A₀ env hx A) (h : A₀.frames = some fr) {b : Addr} (hb : b ∈ frs A) : b = env.locals ∨ b ∈ Mine.frs A₀ := by
  cases l with
  | deep hf => rw [frs_deeper h hf] at hb; exact List.mem_cons.mp hb
  | mark e hf => rw [show Mine.frs ((A₀.deeper env).mark (some (.ref e))) = Mine.frs (A₀.deeper env) from rfl, frs_deeper h hf] at hb; exact List.mem_cons.mp hb
  | same => exact .inr hb
variable {X : Fix} {m : Str → Option Value} {ψ ω : PM} {s s' : Shared} {k : Nat} {n : Bool}
theorem S.frs_off (x : S X m ψ ω s) (c : CX μ X) {b : Addr} (hb : b ∈ frs X.A) : ψ b = none := by
  obtain ⟨fr, e, _⟩ := c.stk
  rcases x.link.frs e hb with rfl | hb
  · exact (x.off _ x.loc).1
  · cases q : ψ b with
    | none => rfl
    | some o =>
      obtain ⟨ob, hob⟩ := frs_mem c.stk hb
      rcases x.new b o q with z | z
      · rw [c.off b hb] at z; cases z
      · rw [hob] at z; cases z
theorem S.cx (x : S X m ψ ω s) (c : CX ⟨k, n⟩ X) : Cx ⟨k, n⟩ X.A ψ s := by
  have hoff : ∀ b ∈ frs X.A, ψ b = none := fun b hb => x.frs_off c hb
  obtain ⟨fr, e, hst⟩ := c.stk.ext x.ext
  obtain ⟨ml, ⟨oL, es, ep, hL, hd, _⟩, _⟩ := x.fram.loc
  have hlink := x.link
  obtain ⟨n0, cb, hn⟩ := c.base
  obtain ⟨A₀, A, ψ₀, s₀, ft, env, hx⟩ := X
  dsimp only at hlink c x hoff e hL cb hn ⊢
  have hstk : ∀ A', A'.frames = (A₀.deeper env).frames → env.frame = some env.locals → Stk A' s.heap := fun A' hA hf => by
    refine ⟨env :: fr, hA.trans (Around.frames_deeper e), ?_⟩
    intro env' he
    rcases List.mem_cons.mp he with rfl | he
    · exact ⟨by have := x.fram.fn; simp at this; rw [this]; decide, _, _, hf, hL, fun vs q => by rw [hd] at q; cases q⟩
    · exact hst env' he
  cases hlink with
  | deep hf => exact ⟨by have := cb.depth; simp [Around.deeper] at *; omega, by have := cb.units; simp [Around.deeper] at *; omega, fun z => cb.none (hn z).1, HOk.le (A := A₀) cb.hand x.le, hstk _ rfl hf, hoff, x.sub⟩
  | mark e' hf =>
    have h1 := x.hnd e' rfl
    exact ⟨by have := cb.depth; simp [Around.deeper, Around.mark] at *; omega, by have := cb.units; simp [Around.deeper, Around.mark] at *; omega, fun z => (by cases (hn z).2), .inr ⟨e', rfl, h1⟩, hstk _ rfl hf, hoff, x.sub⟩
  | same => exact ⟨by have := cb.depth; simp at *; omega, by have := cb.units; simp at *; omega, fun z => cb.none (hn z).1, cb.hand.le x.le, ⟨fr, e, hst⟩, hoff, x.sub⟩
theorem Ext.trans_new {F G : List Addr} {s₀ s s' : Shared} (x : Ext F s₀ s) (y : Ext G s s') (hL : ∀ b ∈ G, b ∈ F ∨ s₀.heap.get? b = Option.none) : Ext F s₀ s' := by
  refine ⟨?_, fun b o e => (x.kept b o e).trans fun o1 e1 => (y.kept b o1 e1).mono fun hG => (hL b hG).elim id fun z => by rw [z] at e; cases e⟩
  obtain ⟨h', tk, rfl⟩ := x.rest
  obtain ⟨h'', tk', rfl⟩ := y.rest
  exact ⟨h'', tk', rfl⟩
theorem S.frs_new (x : S X m ψ ω s) (c : CX μ X) : ∀ b ∈ frs X.A, b ∈ X.F ∨ X.s₀.heap.get? b = none := fun b hb => by
  obtain ⟨fr, e, _⟩ := c.stk
  rcases x.link.frs e hb with rfl | hb
  · exact .inr (x.off _ x.loc).2
  · exact .inl (List.mem_append_right _ hb)
theorem S.grow {ψ' : PM} (x : S X m ψ ω s) (cx : CX μ X) (g : Grow (frs X.A) ψ s ψ' s') : S X m ψ' ω s' := by
  have hn : ∀ c oc, s.heap.get? c = some oc → ψ c = none → ψ' c = none := fun c oc hoc hc => by
    cases q : ψ' c with
    | none => rfl
    | some o =>
      rcases g.new c o q with z | z
      · rw [hc] at z; cases z
      · rw [hoc] at z; cases z
  refine ⟨x.ext.trans_new g.ext (x.frs_new cx), x.le.trans g.le, fun b o e => ?_, g.sub, x.fram.ext g.ext, x.link, (fun e he => (x.hnd e he).le g.le), x.loc, fun c hc => ?_, fun c hc => ?_, x.fre, fun a o e => ?_, fun p hp => ?_⟩
  · rcases g.new b o e with z | z
    · exact x.new b o z
    · exact .inr (x.ext.none z)
  · obtain ⟨o, ho⟩ := x.there c hc
    exact g.ext.there ho
  · obtain ⟨o, ho⟩ := x.there c hc
    exact ⟨hn c o ho (x.off c hc).1, (x.off c hc).2⟩
  · obtain ⟨h1, h2, h3, h4⟩ := x.own a o e
    refine ⟨g.ext.keep_off h1 fun hm => ?_, hn a o h1 h2, h3, h4⟩
    obtain ⟨fr, ee, _⟩ := cx.stk
    rcases x.link.frs ee hm with rfl | hm
    · exact h4 x.loc
    · obtain ⟨ob, hob⟩ := frs_mem cx.stk hm
      rw [h3] at hob; cases hob
  · obtain ⟨h1, h2, h3, h4, h5, h6⟩ := x.tab p hp
    refine ⟨g.ext.keep_off h1 fun hm => ?_, hn p.1 p.2 h1 h2, h3, h4, h5, h6⟩
    obtain ⟨fr, ee, _⟩ := cx.stk
    rcases x.link.frs ee hm with q | hm
    · exact h3 (q ▸ x.loc)
    · exact h5 hm
theorem Ext.but {F : List Addr} {s₀ : Shared} (x : Ext F s₀ s) {W : Addr → Prop} (hW : ∀ b, W b → s₀.heap.get? b = Option.none) (hr : ∃ h' tk, s' = { s with heap := h', toks := tk })
    (hs : ∀ b ob, ¬ W b → s.heap.get? b = some ob → s'.heap.get? b = some ob) : Ext F s₀ s' := by
  refine ⟨?_, fun b ob e => (x.kept b ob e).trans fun o1 e1 => .same (hs b o1 (fun z => by rw [hW b z] at e; cases e) e1)⟩
  obtain ⟨q1, q2, rfl⟩ := x.rest
  obtain ⟨q3, q4, rfl⟩ := hr
  exact ⟨q3, q4, rfl⟩
theorem S.turn {ω' : PM} {W : Addr → Prop} (x : S X m ψ ω s) (hW : ∀ a, W a → ∃ o, ω a = some o) (hr : ∃ h' tk, s' = { s with heap := h', toks := tk }) (hs : ∀ b ob, ¬ W b → s.heap.get? b = some ob → s'.heap.get? b = some ob)
    (h1 : ∀ a o, ω' a = some o → (W a ∧ s'.heap.get? a = some o) ∨ (¬ W a ∧ ω a = some o)) : S X m ψ ω' s' := by
  have hw : ∀ a, W a → ψ a = none ∧ X.s₀.heap.get? a = none ∧ a ∉ X.ft := fun a ha => by obtain ⟨o, ho⟩ := hW a ha; exact (x.own a o ho).2
  refine ⟨x.ext.but (fun b hb => (hw b hb).2.1) hr hs, x.le, x.new, fun b ob e => hs b ob (fun z => by rw [(hw b z).1] at e; cases e) (x.sub b ob e), ?_, x.link, x.hnd, x.loc, fun c hc => ?_, x.off, x.fre, fun b ob e => ?_, fun p hp => ?_⟩
  · obtain ⟨fn, gl, bi, ⟨ml, ⟨oL, es, ep, hL, hd⟩, hm⟩, cel, inj, nl⟩ := x.fram
    refine ⟨fn, gl, bi, ⟨ml, ⟨oL, es, ep, hs _ _ (fun z => (hw _ z).2.2 x.loc) hL, hd⟩, hm⟩, fun y hy => ?_, inj, nl⟩
    obtain ⟨c, hc, oc, hoc, hdc⟩ := cel y hy
    refine ⟨c, hc, oc, hs _ _ (fun z => ?_) hoc, hdc⟩
    obtain ⟨ob, hob⟩ := x.fre y c hc (hw c z).2.2
    rw [(hw c z).2.1] at hob; cases hob
  · obtain ⟨o, ho⟩ := x.there c hc
    exact ⟨o, hs c o (fun z => (hw c z).2.2 hc) ho⟩
  · rcases h1 b ob e with ⟨z, q⟩ | ⟨z, q⟩
    · exact ⟨q, hw b z⟩
    · obtain ⟨k1, k2, k3, k4⟩ := x.own b ob q
      exact ⟨hs b ob z k1, k2, k3, k4⟩
  · obtain ⟨k1, k2, k3, k4, k5⟩ := x.tab p hp
    have hnw : ¬ W p.1 := fun z => by obtain ⟨o, ho⟩ := hW p.1 z; rw [k4] at ho; cases ho
    refine ⟨hs _ _ hnw k1, k2, k3, ?_, k5⟩
    cases q : ω' p.1 with
    | none => rfl
    | some o =>
      rcases h1 p.1 o q with ⟨z, _⟩ | ⟨_, z⟩
      · exact absurd z hnw
      · rw [k4] at z; cases z
theorem S.sameBut {a : Addr} {o o0 : Obj} (x : S X m ψ ω s) (ha : ω a = some o0) (hr : ∃ h' tk, s' = { s with heap := h', toks := tk }) (hs : ∀ b ob, b ≠ a → s.heap.get? b = some ob → s'.heap.get? b = some ob)
    (h' : s'.heap.get? a = some o) : S X m ψ (put ω a o) s' :=
  x.turn (W := fun b => b = a) (fun b hb => ⟨o0, by rw [hb]; exact ha⟩) hr hs fun b ob e => by
    by_cases q : b = a
    · subst q; rw [put_self] at e; cases e; exact .inl ⟨rfl, h'⟩
    · rw [put_ne q] at e; exact .inr ⟨q, e⟩
theorem S.lay (x : S X m ψ ω s) (o : Obj) (hf : o.isFreed = false) (tk : Nat) : S X m ψ (put ω s.heap.objs.size o) { s with heap := s.heap.push o, toks := tk } := by
  have k : ∀ b ob, s.heap.get? b = some ob → (s.heap.push o).get? b = some ob := fun b ob e => Heap.get?_push_of_some _ e
  have e2 : Ext X.F s { s with heap := s.heap.push o, toks := tk } := Ext.of_keeps k
  refine ⟨x.ext.trans e2, x.le, x.new, fun b ob e => k b ob (x.sub b ob e), x.fram.ext e2, x.link, x.hnd, x.loc, fun c hc => let ⟨o', ho'⟩ := x.there c hc; ⟨o', k _ _ ho'⟩, x.off, x.fre, fun b ob e => ?_, fun p hp => ?_⟩
  · by_cases q : b = s.heap.objs.size
    · subst q
      rw [put_self] at e; cases e
      refine ⟨Heap.get?_push_size _ hf, none_of_sub x.sub (get_size _), x.ext.none (get_size _), fun hft => ?_⟩
      obtain ⟨oc, hoc⟩ := x.there _ hft
      rw [get_size] at hoc; cases hoc
    · rw [put_ne q] at e
      obtain ⟨k1, k2, k3, k4⟩ := x.own b ob e
      exact ⟨k b ob k1, k2, k3, k4⟩
  · obtain ⟨k1, k2, k3, k4, k5⟩ := x.tab p hp
    exact ⟨k _ _ k1, k2, k3, by rw [put_ne (fun q => by rw [q, get_size] at k1; cases k1)]; exact k4, k5⟩
theorem S.freeze {a : Addr} {o : Obj} (x : S X m ψ ω s) (ha : ω a = some o) : S X m (put ψ a o) (fun b => if b = a then none else ω b) s := by
  obtain ⟨h1, h2, h3, h4⟩ := x.own a o ha
  refine ⟨x.ext, x.le.trans (le_put h2), fun b ob e => ?_, x.sub.put h1, x.fram, x.link, (fun e he => (x.hnd e he).le (le_put h2)), x.loc, x.there, fun c hc => ⟨?_, (x.off c hc).2⟩, x.fre, fun b ob e => ?_, fun p hp => ?_⟩
  · by_cases q : b = a
    · subst q; exact .inr h3
    · rw [put_ne q] at e; exact x.new b ob e
  · rw [put_ne (fun (q : c = a) => h4 (by rw [← q]; exact hc))]; exact (x.off c hc).1
  · by_cases q : b = a
    · simp [q] at e
    · simp only [if_neg q] at e
      obtain ⟨k1, k2, k3, k4⟩ := x.own b ob e
      exact ⟨k1, by rw [put_ne q]; exact k2, k3, k4⟩
  · obtain ⟨k1, k2, k3, k4, k5⟩ := x.tab p hp
    have hne : p.1 ≠ a := fun q => by rw [q, ha] at k4; cases k4
    exact ⟨k1, by rw [put_ne hne]; exact k2, k3, by simp [hne, k4], k5⟩
theorem S.forget {ω' : PM} (x : S X m ψ ω s) (h : Le ω' ω) : S X m ψ ω' s :=
  ⟨x.ext, x.le, x.new, x.sub, x.fram, x.link, x.hnd, x.loc, x.there, x.off, x.fre, fun a o e => x.own a o (h a o e), fun p hp => by
    obtain ⟨k1, k2, k3, k4, k5⟩ := x.tab p hp
    refine ⟨k1, k2, k3, ?_, k5⟩
    cases q : ω' p.1 with
    | none => rfl
    | some o => have := h _ _ q; rw [k4] at this; cases this⟩
noncomputable def both (ψ ω : PM) : PM := fun a => (ω a).or (ψ a)
theorem le_both {ψ ω : PM} (h : ∀ a o, ω a = some o → ψ a = none) : Le ψ (both ψ ω) := fun a o e => by
  unfold both
  cases q : ω a with
  | none => simpa using e
  | some o' => rw [h a o' q] at e; cases e
theorem both_own {ψ ω : PM} {a : Addr} {o : Obj} (h : ω a = some o) : both ψ ω a = some o := by unfold both; rw [h]; rfl
theorem S.all (x : S X m ψ ω s) : S X m (both ψ ω) (fun _ => none) s := by
  have get : ∀ b ob, both ψ ω b = some ob → ω b = some ob ∨ ψ b = some ob := fun b ob e => by
    unfold both at e
    cases q : ω b with
    | none => rw [q] at e; exact .inr (by simpa using e)
    | some o' => rw [q] at e; exact .inl (by simpa using e)
  refine ⟨x.ext, x.le.trans (le_both fun a o e => (x.own a o e).2.1), fun b ob e => ?_, fun b ob e => ?_, x.fram, x.link, (fun e he => (x.hnd e he).le (le_both fun a o e => (x.own a o e).2.1)), x.loc, x.there, fun c hc => ⟨?_, (x.off c hc).2⟩, x.fre, fun a o e => (by cases e), fun p hp => ?_⟩
  · rcases get b ob e with z | z
    · exact .inr (x.own b ob z).2.2.1
    · exact x.new b ob z
  · rcases get b ob e with z | z
    · exact (x.own b ob z).1
    · exact x.sub b ob z
  · cases q : both ψ ω c with
    | none => rfl
    | some o =>
      rcases get c o q with z | z
      · exact absurd hc (x.own c o z).2.2.2
      · rw [(x.off c hc).1] at z; cases z
  · obtain ⟨k1, k2, k3, k4, k5⟩ := x.tab p hp
    exact ⟨k1, by unfold both; rw [k4, k2]; rfl, k3, rfl, k5⟩
theorem S.back (x : S X m ψ ω s) (cx : CX μ X) (e : Ext (frs X.A) s s') : S X m ψ ω s' :=
  x.grow cx ⟨e, Le.refl _, e.sub x.sub fun b hb => x.frs_off cx hb, fun _ _ z => .inl z⟩
end
end Mine
namespace Mine
section
variable {prog : Program} {w : World} {X : Fix} {m : Str → Option Value} {ψ ω : PM} {s : Shared}

theorem S.touch {c : Addr} {m' : Str → Option Value} {s' : Shared} (x : S X m ψ ω s) (hc : c ∈ X.ft) (hr : ∃ h' tk, s' = { s with heap := h', toks := tk })
    (hs : ∀ b ob, b ≠ c → s.heap.get? b = some ob → s'.heap.get? b = some ob) (ht : ∃ o, s'.heap.get? c = some o) (hf : Fram X.env m' s'.heap) : S X m' ψ ω s' := by
  refine ⟨x.ext.but (W := fun b => b = c) (fun b hb => by rw [hb]; exact (x.off _ hc).2) hr hs, x.le, x.new, fun b ob e => hs b ob (fun z => ?_) (x.sub b ob e), hf, x.link, x.hnd, x.loc, fun d hd => ?_, x.off, x.fre, fun b ob e => ?_, fun p hp => ?_⟩
  · subst z; rw [(x.off _ hc).1] at e; cases e
  · by_cases q : d = c
    · subst q; exact ht
    · obtain ⟨o, ho⟩ := x.there d hd; exact ⟨o, hs d o q ho⟩
  · obtain ⟨k1, k2, k3, k4⟩ := x.own b ob e
    exact ⟨hs b ob (fun z => k4 (by rw [z]; exact hc)) k1, k2, k3, k4⟩
  · obtain ⟨k1, k2, k3, k4⟩ := x.tab p hp
    exact ⟨hs _ _ (fun z => k3 (by rw [z]; exact hc)) k1, k2, k3, k4⟩

noncomputable def stores (X : Fix) (x : Str) : Prop := X.env.kindOf x = some .local ∨ (X.env.kindOf x = some .cell ∧ ∀ c, X.env.cells.lookup x = some c → c ∈ X.ft)
theorem S.store' {A : Around} {x : Str} {v : Value} {Q : Unit → Shared → Prop} {E : Value → Shared → Prop} (Y : S X m ψ ω s) (hk : stores X x)
    (h : ∀ s', S X (fun y => if y = x then some v else m y) ψ ω s' → (∀ b o, b ∉ X.ft → s.heap.get? b = some o → s'.heap.get? b = some o) → Q () s') : wpAny (model prog w) A (storeName X.env x v) Q E s := by
  have F := Y.fram
  rcases hk with hk | ⟨hk, hft⟩
  · obtain ⟨ml, n, hm⟩ := F.loc
    refine wpAny_storeName_local hk n (fun h' hn hs => h _ (Y.touch Y.loc ⟨h', _, rfl⟩ (fun b ob hb e => (hs.2 b hb).trans e) (let ⟨o, _, _, ho, _⟩ := hn; ⟨o, ho⟩) ?_) fun b o hb e => (hs.2 b fun q => hb (q ▸ Y.loc)).trans e) (by rw [F.fn]; rfl)
    refine ⟨F.fn, F.gl, F.bi, ⟨_, hn, fun y hy => ?_⟩, fun y hy => ?_, F.inj, F.nl⟩
    · by_cases q : y = x
      · simp [q]
      · simp only [if_neg q]; exact hm y hy
    · obtain ⟨c, hc, hi⟩ := F.cel y hy
      refine ⟨c, hc, ?_⟩
      have : y ≠ x := fun q => by subst q; rw [hk] at hy; rcases hy with hy | hy <;> cases hy
      simp only [if_neg this]
      exact hi.sameBut hs (F.nl y c hc)
  · obtain ⟨c, hc, hi⟩ := F.cel x (.inl hk)
    refine wpAny_storeName_cell F.fn hk hc hi fun h' hi' hs => h _ (Y.touch (hft c hc) ⟨h', s.toks, rfl⟩ (fun b ob hb e => (hs.2 b hb).trans e) (let ⟨o, ho, _⟩ := hi'; ⟨o, ho⟩) ?_) fun b o hb e => (hs.2 b fun q => hb (q ▸ hft c hc)).trans e
    refine ⟨F.fn, F.gl, F.bi, ?_, fun y hy => ?_, F.inj, F.nl⟩
    · obtain ⟨ml, n, hm⟩ := F.loc
      refine ⟨ml, n.sameBut hs (fun q => F.nl x c hc q.symm), fun y hy => ?_⟩
      have : y ≠ x := fun q => by subst q; rw [hk] at hy; cases hy
      simp only [if_neg this]; exact hm y hy
    · obtain ⟨c', hc', hi2⟩ := F.cel y hy
      by_cases q : y = x
      · subst q
        rw [hc] at hc'; cases hc'
        exact ⟨c, hc, by simpa using hi'⟩
      · refine ⟨c', hc', ?_⟩
        simp only [if_neg q]
        exact hi2.sameBut hs fun z => q (F.inj y x c (z ▸ hc') hc)

theorem S.store {A : Around} {x : Str} {v : Value} {Q : Unit → Shared → Prop} {E : Value → Shared → Prop} (Y : S X m ψ ω s) (hk : stores X x)
    (h : ∀ s', S X (fun y => if y = x then some v else m y) ψ ω s' → Q () s') : wpAny (model prog w) A (storeName X.env x v) Q E s := Y.store' hk fun s' x _ => h s' x

structure FnK (φ : PM) (a : Addr) (fd : FuncData) : Prop where
  obj : ∃ o, φ a = some o ∧ o.data = .func fd
  gl : fd.globals = mainGlobals
  bi : fd.builtins = builtinsNs
  kind : fd.scope.kind = .function
  co : fd.scope.isCoroutine = false
  gen : fd.scope.isGenerator = false
  code : ∃ c oc vs tq, fd.code = .ref c ∧ φ c = some oc ∧ oc.data = .fields vs ∧ vs[1]? = some (.str fd.qualname tq)
  lim : NsKnows φ cStatics "sys.recursionlimit" none
theorem FnK.le {φ ψ : PM} {a : Addr} {fd : FuncData} (k : FnK φ a fd) (l : Le φ ψ) : FnK ψ a fd :=
  ⟨let ⟨o, h, d⟩ := k.obj; ⟨o, l _ _ h, d⟩, k.gl, k.bi, k.kind, k.co, k.gen, let ⟨c, oc, vs, tq, a, b, d⟩ := k.code; ⟨c, oc, vs, tq, a, l _ _ b, d⟩, k.lim.le l⟩
theorem FnK.noLimit {φ : PM} {a : Addr} {fd : FuncData} (k : FnK φ a fd) {h : Heap} (hs : Sub φ h) : h.NoLimit := k.lim.ns hs
theorem FnK.codeRec {φ : PM} {a : Addr} {fd : FuncData} (k : FnK φ a fd) {h : Heap} (hs : Sub φ h) : h.CodeRec fd.code fd.qualname :=
  let ⟨c, oc, vs, tq, a, b, d⟩ := k.code; ⟨c, oc, vs, tq, a, hs _ _ b, d⟩
theorem FnK.keepOk {φ : PM} {a : Addr} {fd : FuncData} (k : FnK φ a fd) : KeepOk φ (.ref a) := let ⟨o, h, d⟩ := k.obj; keep_fn h d

theorem bindL_is (kindOf : Str → Option NameKind) : ∀ (binds : List (Str × Value)) (m : Str → Option Value) (x : Str), kindOf x = some .local → bindL kindOf binds m x = (binds.reverse.lookup x).or (m x)
  | [], m, x, _ => by simp [bindL]
  | (n, v) :: r, m, x, h => by
    unfold bindL
    rw [bindL_is kindOf r _ x h, List.reverse_cons, List.lookup_append]
    by_cases q : x = n
    · subst q
      simp [h, List.lookup]
    · have qb : (x == n) = false := by simpa using q
      by_cases k : kindOf n = some .local
      · simp [k, q, List.lookup, qb]
      · simp [k, List.lookup, qb]
theorem bindC_is (kindOf : Str → Option NameKind) : ∀ (binds : List (Str × Value)) (m : Str → Option Value) (x : Str), kindOf x = some .cell → bindC kindOf binds m x = (binds.reverse.lookup x).or (m x)
  | [], m, x, _ => by simp [bindC]
  | (n, v) :: r, m, x, h => by
    unfold bindC
    rw [bindC_is kindOf r _ x h, List.reverse_cons, List.lookup_append]
    by_cases q : x = n
    · subst q
      have : ¬ kindOf x = some .local := by rw [h]; decide
      simp [this, List.lookup]
    · have qb : (x == n) = false := by simpa using q
      by_cases k : kindOf n = some .local
      · simp [k, List.lookup, qb]
      · simp [k, q, List.lookup, qb]

noncomputable def outOf (fl : Flow) : Value := match fl with | .ret v => v | _ => .none
noncomputable def leaveE (prog : Program) (w : World) (A : Around) (env : Env) (E : Value → Shared → Prop) : Value → Shared → Prop :=
  fun e s' => wpAny (model prog w) (A.deeper env) (leaving env e) (fun _ s'' => E e s'') (fun e' s'' => E e' s'') s'

theorem enter_code {tb : List (Addr × Obj)} {k : Nat} {n : Bool} {A : Around} {a : Addr} {fd : FuncData} {body : List Stmt} {vs : List Value} {kw : List (Str × Value)} {binds : List (Str × Value)} {Q : Value → Shared → Prop} {E : Value → Shared → Prop}
    (htb : ∀ p ∈ tb, s.heap.get? p.1 = some p.2 ∧ ψ p.1 = none ∧ p.1 ∉ frs A) (c : Cx ⟨k + 1, n⟩ A ψ s) (K : FnK ψ a fd) (hb : fd.body = .stmts body) (hcl : fd.closure = []) (hbind : BindsTo s fd ⟨vs, kw⟩ binds)
    (hkind : (binds.all fun y => fd.scope.names.lookup y.1 == some .local || fd.scope.names.lookup y.1 == some .cell) = true) (hfree : (fd.scope.names.all fun x => x.2 != .free) = true) (hnd' : decide (((cellsFrom 0 fd.scope.names []).map (·.1)).Nodup) = true)
    (h : ∀ env s', env.scope = fd.scope → env.code = fd.code ∧ env.qual = fd.qualname ++ ".<locals>." → S ⟨A, A.deeper env, ψ, s, env.locals :: env.cells.map (·.2), env, none, tb⟩ (fun x => binds.reverse.lookup x) ψ (fun _ => none) s' →
      wpAny (model prog w) (A.deeper env) (execs body env) (fun fl s2 => Q (outOf fl) s2) (leaveE prog w A env E) s') : codeAny (model prog w) A (.call (.ref a) ⟨vs, kw⟩) (fun r s' => match r with | .ok (.ret v) => Q v s' | .ok _ => False | .error e => E e s') s := by
  obtain ⟨o, ho, hd⟩ := K.obj
  have hnodup : ((cellsFrom 0 fd.scope.names []).map (·.1)).Nodup := of_decide_eq_true hnd'
  have hdepth : A.depth < recursionLimit := by have := c.depth; simp at this; show _ < 1000; omega
  refine codeAny_call_function hdepth (c.sub _ _ ho) hd K.co K.gen hb (K.codeRec c.sub) (hbind _ _ _ _ ?_)
  rw [hcl]
  refine wpAny_newFunctionEnv_cells K.kind (kindsX hkind _) fun env' he s' x => ?_
  subst he
  refine ⟨(K.noLimit c.sub).keeps x.toInCall.keep, codeAny_func ?_⟩
  have hLn : s.heap.get? s.heap.objs.size = none := get_size _
  have hnofree : ∀ x, fd.scope.names.lookup x ≠ some .free := fun y hy => by
    have := List.all_eq_true.mp hfree _ (mem_of_lookup hy)
    simp at this
  have cellNone : ∀ y c, (cellsFrom (s.heap.objs.size + 1) fd.scope.names []).lookup y = some c → s.heap.get? c = none := fun y cc hy => by
    have := x.above y cc (mem_of_lookup hy)
    cases q : s.heap.get? cc with
    | none => rfl
    | some o => exact absurd (Nat.lt_trans (Heap.lt_size q) this) (Nat.lt_irrefl _)
  refine wpAny_mono (h _ s' rfl ⟨rfl, rfl⟩ ?_) (fun fl s2 q => ?_) fun _ _ q => q
  · refine ⟨?_, Le.refl _, fun _ _ e => .inl e, fun b ob e => x.toInCall.keep b ob (c.sub b ob e), ?_, .deep rfl, (fun e he => by cases he), List.mem_cons_self .., ?_, ?_, ?_, (fun a o e => by cases e), ?_⟩
    · obtain ⟨h', tk, e, kk⟩ := x.done
      subst e
      exact Ext.of_keeps kk
    · refine ⟨K.kind, K.gl, K.bi, ⟨_, x.toInCall.ns, fun y hy => ?_⟩, fun y hy => ?_, fun y z cc hy hz => ?_, fun y cc hy => ?_⟩
      · rw [bindL_is _ _ _ _ hy]; simp
      · rcases hy with hy | hy
        · have hsome := cellsFrom_some fd.scope.names (s.heap.objs.size + 1) [] (.inl hy)
          obtain ⟨cc, hcc⟩ := Option.isSome_iff_exists.mp hsome
          refine ⟨cc, hcc, ?_⟩
          have := x.cell y cc hcc
          rw [bindC_is _ _ _ _ hy] at this
          simpa using this
        · exact absurd hy (hnofree y)
      · exact name_of_addr x.apart (mem_of_lookup hy) (mem_of_lookup hz)
      · exact Nat.ne_of_gt (x.above y cc (mem_of_lookup hy))
    · intro cc hcc
      rcases List.mem_cons.mp hcc with rfl | hcc
      · obtain ⟨o, _, _, ho, _⟩ := x.toInCall.ns; exact ⟨o, ho⟩
      · obtain ⟨⟨y, c'⟩, hy, rfl⟩ := List.mem_map.mp hcc
        have hnd := cellsFrom_names fd.scope.names 0 (s.heap.objs.size + 1) [] [] rfl
        obtain ⟨o, ho, _⟩ := x.cell y c' (lookup_of_mem_nodup (hnd ▸ hnodup) hy)
        exact ⟨o, ho⟩
    · intro cc hcc
      rcases List.mem_cons.mp hcc with rfl | hcc
      · exact ⟨none_of_sub c.sub hLn, hLn⟩
      · obtain ⟨⟨y, c'⟩, hy, rfl⟩ := List.mem_map.mp hcc
        have hnd := cellsFrom_names fd.scope.names 0 (s.heap.objs.size + 1) [] [] rfl
        have hy' := lookup_of_mem_nodup (hnd ▸ hnodup) hy
        exact ⟨none_of_sub c.sub (cellNone y c' hy'), cellNone y c' hy'⟩
    · intro y cc hy hnin
      exact absurd (List.mem_cons_of_mem _ (List.mem_map.mpr ⟨(y, cc), mem_of_lookup hy, rfl⟩)) hnin
    · intro p hp
      obtain ⟨t1, t2, t3⟩ := htb p hp
      refine ⟨x.toInCall.keep _ _ t1, t2, fun hcc => ?_, rfl, t3, ⟨_, t1⟩, t2⟩
      rcases List.mem_cons.mp hcc with q | hcc
      · have q' : p.1 = s.heap.objs.size := q
        rw [q', hLn] at t1; cases t1
      · obtain ⟨⟨y, c'⟩, hy, q⟩ := List.mem_map.mp hcc
        have hnd := cellsFrom_names fd.scope.names 0 (s.heap.objs.size + 1) [] [] rfl
        have hy' := lookup_of_mem_nodup (hnd ▸ hnodup) hy
        have := cellNone y c' hy'
        have q' : c' = p.1 := q
        rw [← q', this] at t1; cases t1
  · cases fl <;> exact q

theorem enter_cells {tb : List (Addr × Obj)} {k : Nat} {n : Bool} {A : Around} {a : Addr} {fd : FuncData} {body : List Stmt} {vs : List Value} {kw : List (Str × Value)} {binds : List (Str × Value)} {Q : Value → Shared → Prop} {E : Value → Shared → Prop}
    (htb : ∀ p ∈ tb, s.heap.get? p.1 = some p.2 ∧ ψ p.1 = none ∧ p.1 ∉ frs A) (c : Cx ⟨k + 1, n⟩ A ψ s) (K : FnK ψ a fd) (hb : fd.body = .stmts body) (hcl : fd.closure = []) (hbind : BindsTo s fd ⟨vs, kw⟩ binds)
    (hkind : (binds.all fun y => fd.scope.names.lookup y.1 == some .local || fd.scope.names.lookup y.1 == some .cell) = true) (hfree : (fd.scope.names.all fun x => x.2 != .free) = true) (hnd' : decide (((cellsFrom 0 fd.scope.names []).map (·.1)).Nodup) = true)
    (h : ∀ env s', env.scope = fd.scope → env.code = fd.code ∧ env.qual = fd.qualname ++ ".<locals>." → S ⟨A, A.deeper env, ψ, s, env.locals :: env.cells.map (·.2), env, none, tb⟩ (fun x => binds.reverse.lookup x) ψ (fun _ => none) s' →
      wpAny (model prog w) (A.deeper env) (execs body env) (fun fl s2 => Q (outOf fl) s2) (leaveE prog w A env E) s') : wpAny (model prog w) A (call (.ref a) vs kw) Q E s := wpAny_call (enter_code htb c K hb hcl hbind hkind hfree hnd' h)
theorem enter_closure {tb : List (Addr × Obj)} {k : Nat} {n : Bool} {A : Around} {a : Addr} {fd : FuncData} {body : List Stmt} {vs : List Value} {kw : List (Str × Value)} {binds : List (Str × Value)} {mc : Str → Option Value} {Q : Value → Shared → Prop} {E : Value → Shared → Prop}
    (htb : ∀ p ∈ tb, s.heap.get? p.1 = some p.2 ∧ ψ p.1 = none ∧ p.1 ∉ frs A) (c : Cx ⟨k + 1, n⟩ A ψ s) (K : FnK ψ a fd) (hb : fd.body = .stmts body) (hbind : BindsTo s fd ⟨vs, kw⟩ binds)
    (hloc : (binds.all fun y => fd.scope.names.lookup y.1 == some .local) = true) (hcell : (fd.scope.names.all fun x => x.2 != .cell) = true)
    (hcl : ∀ x, fd.scope.names.lookup x = some .free → ∃ cc oc, fd.closure.lookup x = some cc ∧ ψ cc = some oc ∧ oc.data = .cell (mc x))
    (hinj : ∀ x y cc, fd.closure.lookup x = some cc → fd.closure.lookup y = some cc → x = y) (hin : ∀ x cc, fd.closure.lookup x = some cc → ∃ oc, ψ cc = some oc)
    (h : ∀ env s', env.scope = fd.scope → env.code = fd.code ∧ env.qual = fd.qualname ++ ".<locals>." → S ⟨A, A.deeper env, ψ, s, [env.locals], env, none, tb⟩ (fun x => if fd.scope.names.lookup x = some .local then binds.reverse.lookup x else mc x) ψ (fun _ => none) s' →
      wpAny (model prog w) (A.deeper env) (execs body env) (fun fl s2 => Q (outOf fl) s2) (leaveE prog w A env E) s') : wpAny (model prog w) A (call (.ref a) vs kw) Q E s := by
  obtain ⟨o, ho, hd⟩ := K.obj
  have hdepth : A.depth < recursionLimit := by have := c.depth; simp at this; show _ < 1000; omega
  have hcell' : ∀ x ∈ fd.scope.names, x.2 ≠ .cell := fun x hx => by have := List.all_eq_true.mp hcell x hx; simpa using this
  have hloc' : ∀ x ∈ binds, fd.scope.names.lookup x.1 = some .local := fun x hx => by have := List.all_eq_true.mp hloc x hx; simpa using this
  have hnocell : ∀ x, fd.scope.names.lookup x ≠ some .cell := fun y hy => hcell' _ (mem_of_lookup hy) rfl
  refine wpAny_call (codeAny_call_def hdepth (c.sub _ _ ho) hd (K.noLimit c.sub) (K.codeRec c.sub) hb hbind hcell' hloc' (fun h₀ hns hk => ?_) K.co K.gen K.kind)
  have hLn : s.heap.get? s.heap.objs.size = none := get_size _
  refine wpAny_mono (h _ _ rfl ⟨rfl, rfl⟩ ?_) (fun fl s2 q => by cases fl <;> exact q) fun _ _ q => q
  have hfreeC : ∀ x, (callEnv fd s.heap.objs.size a).kindOf x = fd.scope.names.lookup x := fun _ => rfl
  refine ⟨Ext.of_keeps hk, Le.refl _, fun _ _ e => .inl e, fun b ob e => hk b ob (c.sub b ob e), ?_, .deep rfl, (fun e he => by cases he), List.mem_cons_self .., ?_, ?_, ?_, (fun a o e => by cases e), ?_⟩
  · refine ⟨K.kind, K.gl, K.bi, ⟨_, hns, fun y hy => ?_⟩, fun y hy => ?_, hinj, fun y cc hy => ?_⟩
    · have hy' : fd.scope.names.lookup y = some .local := hy
      simp [hy']
    · rcases hy with hy | hy
      · exact absurd hy (hnocell y)
      · have hy' : fd.scope.names.lookup y = some .free := hy
        obtain ⟨cc, oc, h1, h2, h3⟩ := hcl y hy'
        refine ⟨cc, h1, oc, hk _ _ (c.sub _ _ h2), ?_⟩
        simp [hy', h3]
    · obtain ⟨oc, h2⟩ := hin y cc hy
      intro q
      have q' : cc = s.heap.objs.size := q
      have := c.sub _ _ h2
      rw [q', hLn] at this; cases this
  · intro cc hcc
    rw [List.mem_singleton.mp hcc]
    obtain ⟨o, _, _, ho, _⟩ := hns; exact ⟨o, ho⟩
  · intro cc hcc
    rw [List.mem_singleton.mp hcc]
    exact ⟨none_of_sub c.sub hLn, hLn⟩
  · intro y cc hy _
    obtain ⟨oc, h2⟩ := hin y cc hy
    exact ⟨oc, c.sub _ _ h2⟩
  · intro p hp
    obtain ⟨t1, t2, t3⟩ := htb p hp
    refine ⟨hk _ _ t1, t2, fun hcc => ?_, rfl, t3, ⟨_, t1⟩, t2⟩
    have q : p.1 = s.heap.objs.size := List.mem_singleton.mp hcc
    rw [q, hLn] at t1; cases t1
end
end Mine
namespace Mine

noncomputable def Flat (P : VP) : Prop := ∀ φ ψ v, P.p φ v → P.p ψ v
theorem flat_int (i : Int) : Flat (vInt i) := fun _ _ _ h => h
theorem flat_bool (b : Bool) : Flat (vBool b) := fun _ _ _ h => h

theorem Typ.view {Γ : List (Str × VP)} {ψ : PM} {m : Str → Option Value} {x : Str} {v : Value} {P : VP} (t : Typ Γ ψ m) (h : Γ.lookup x = some (vVal v)) (r : P.p ψ v) : Typ ((x, P) :: Γ) ψ m := by
  intro y P' hy
  rw [List.lookup_cons] at hy
  by_cases q : y = x
  · subst q
    simp only [beq_self_eq_true] at hy
    cases hy
    obtain ⟨v', a, b⟩ := t y _ h
    cases b
    exact ⟨v, a, r⟩
  · have : (y == x) = false := by simpa using q
    rw [this] at hy
    exact t y P' hy
theorem Typ.sub {Γ Γ' : List (Str × VP)} {ψ : PM} {m : Str → Option Value} (t : Typ Γ ψ m) (h : ∀ x P, Γ'.lookup x = some P → Γ.lookup x = some P) : Typ Γ' ψ m := fun x P e => t x P (h x P e)

section
variable {prog : Program} {w : World}

inductive B (X : Fix) (Γ : List (Str × VP)) (ψ ω : PM) (s : Shared) : Prop
  | mk (m : _) (h1 : S X m ψ ω s) (h2 : Typ Γ ψ m) : B X Γ ψ ω s
variable {X : Fix} {Γ : List (Str × VP)} {ψ ω φ : PM} {s : Shared} {k : Nat} {n : Bool}

theorem B.toGrow (b : B X Γ ψ ω s) : Grow X.F X.ψ₀ X.s₀ ψ s := let ⟨m, x, _⟩ := b; ⟨x.ext, x.le, x.sub, x.new⟩
theorem B.cx (b : B X Γ ψ ω s) (c : CX ⟨k, n⟩ X) : Cx ⟨k, n⟩ X.A ψ s := let ⟨m, x, _⟩ := b; x.cx c
theorem B.retype {Γ' : List (Str × VP)} (b : B X Γ ψ ω s) (h : ∀ m, Typ Γ ψ m → Typ Γ' ψ m) : B X Γ' ψ ω s := let ⟨m, x, t⟩ := b; ⟨m, x, h m t⟩
theorem B.forget {ω' : PM} (b : B X Γ ψ ω s) (h : Le ω' ω) : B X Γ ψ ω' s := let ⟨m, x, t⟩ := b; ⟨m, x.forget h, t⟩
theorem B.freeze {a : Addr} {o : Obj} (b : B X Γ ψ ω s) (h : ω a = some o) : B X Γ (put ψ a o) (fun c => if c = a then none else ω c) s :=
  let ⟨m, x, t⟩ := b; ⟨m, x.freeze h, t.le (le_put (x.own a o h).2.1)⟩
theorem B.ownNone {a : Addr} {o : Obj} (b : B X Γ ψ ω s) (h : ω a = some o) : ψ a = none := let ⟨m, x, t⟩ := b; (x.own a o h).2.1
theorem B.view {x : Str} {v : Value} {P : VP} (b : B X Γ ψ ω s) (h : Γ.lookup x = some (vVal v)) (r : P.p ψ v) : B X ((x, P) :: Γ) ψ ω s := b.retype fun m t => t.view h r

theorem B.eval {e : Expr} {P : VP} {Q : Value → Shared → Prop} {E : Value → Shared → Prop} (b : B X Γ ψ ω s) (c : CX ⟨k, n⟩ X) (h : Ev prog w ⟨k, n⟩ X.env.scope Γ ψ e P)
    (q : ∀ v ψ' s', Le ψ ψ' → P.p ψ' v → B X Γ ψ' ω s' → Q v s') : wpAny (model prog w) X.A (eval e X.env) Q E s := by
  obtain ⟨m, x, t⟩ := b
  exact (h _ X.env m ψ s rfl (x.cx c) (Le.refl _) x.fram t).use fun v ψ' s' g p => q v ψ' s' g.le p ⟨m, x.grow c g, t.le g.le⟩
theorem B.evalO {e : Expr} {P : VP} {Γ' : List (Str × VP)} {Q : Value → Shared → Prop} {E : Value → Shared → Prop} (b : B X Γ ψ ω s) (c : CX ⟨k, n⟩ X)
    (hΓ : ∀ m, Typ Γ (both ψ ω) m → Typ Γ' (both ψ ω) m) (h : Ev prog w ⟨k, n⟩ X.env.scope Γ' (both ψ ω) e P) (hP : Flat P)
    (q : ∀ v s', P.p ψ v → B X Γ ψ ω s' → Q v s') : wpAny (model prog w) X.A (PySem.eval e X.env) Q E s := by
  obtain ⟨m, x, t⟩ := b
  have y := x.all
  have tb : Typ Γ (both ψ ω) m := t.le (le_both fun a o e => (x.own a o e).2.1)
  exact (h _ X.env m _ s rfl (y.cx c) (Le.refl _) y.fram (hΓ m tb)).use fun v ψ' s' g p => q v s' (hP _ _ _ p) ⟨m, x.back c g.ext, t⟩
theorem B.test {e : Expr} {r : Bool} {Q : Bool → Shared → Prop} {E : Value → Shared → Prop} (b : B X Γ ψ ω s) (c : CX ⟨k, n⟩ X) (h : EvB prog w ⟨k, n⟩ X.env.scope Γ ψ e r)
    (q : ∀ ψ' s', Le ψ ψ' → B X Γ ψ' ω s' → Q r s') : wpAny (model prog w) X.A (isTrue e X.env (PySem.eval e X.env)) Q E s := by
  obtain ⟨m, x, t⟩ := b
  exact h.use rfl (x.cx c) (Le.refl _) x.fram t fun ψ' s' g => q ψ' s' g.le ⟨m, x.grow c g, t.le g.le⟩
theorem B.testO {e : Expr} {r : Bool} {Γ' : List (Str × VP)} {Q : Bool → Shared → Prop} {E : Value → Shared → Prop} (b : B X Γ ψ ω s) (c : CX ⟨k, n⟩ X)
    (hΓ : ∀ m, Typ Γ (both ψ ω) m → Typ Γ' (both ψ ω) m) (h : EvB prog w ⟨k, n⟩ X.env.scope Γ' (both ψ ω) e r)
    (q : ∀ s', B X Γ ψ ω s' → Q r s') : wpAny (model prog w) X.A (isTrue e X.env (PySem.eval e X.env)) Q E s := by
  obtain ⟨m, x, t⟩ := b
  have y := x.all
  have tb : Typ Γ (both ψ ω) m := t.le (le_both fun a o e => (x.own a o e).2.1)
  exact h.use rfl (y.cx c) (Le.refl _) y.fram (hΓ m tb) fun ψ' s' g => q s' ⟨m, x.back c g.ext, t⟩
theorem stores_local {sc : Scope} {x : Str} (he : X.env.scope = sc) (h : sc.names.lookup x = some .local) : stores X x := .inl (by show X.env.scope.names.lookup x = _; rw [he]; exact h)
theorem stores_cell {sc : Scope} {x : Str} (he : X.env.scope = sc) (h : sc.names.lookup x = some .cell) (hf : ∀ c ∈ X.env.cells.map (·.2), c ∈ X.ft) : stores X x :=
  .inr ⟨by show X.env.scope.names.lookup x = _; rw [he]; exact h, fun c hc => hf c (List.mem_map.mpr ⟨_, mem_of_lookup hc, rfl⟩)⟩
theorem B.store {A : Around} {x : Str} {v : Value} {P : VP} {Q : Unit → Shared → Prop} {E : Value → Shared → Prop} (b : B X Γ ψ ω s) (hk : stores X x) (p : P.p ψ v)
    (h : ∀ s', B X ((x, P) :: Γ) ψ ω s' → Q () s') : wpAny (model prog w) A (storeName X.env x v) Q E s :=
  let ⟨m, y, t⟩ := b; y.store hk fun s' y' => h s' ⟨_, y', t.cons p⟩

variable {rest : List Stmt} {Q : Flow → Shared → Prop} {E : Value → Shared → Prop}
noncomputable def seqQ (prog : Program) (w : World) (A : Around) (env : Env) (rest : List Stmt) (Q : Flow → Shared → Prop) (E : Value → Shared → Prop) : Flow → Shared → Prop
  | .next, s => wpAny (model prog w) A (execs rest env) Q E s
  | .brk, s => Q .brk s
  | .cont, s => Q .cont s
  | .ret v, s => Q (.ret v) s
theorem ex_cons {A : Around} {env : Env} {st : Stmt} (h : wpAny (model prog w) A (exec st env) (seqQ prog w A env rest Q E) E s) : wpAny (model prog w) A (execs (st :: rest) env) Q E s :=
  wpAny_execs_cons (wpAny_mono h (fun f s' q => by cases f <;> exact q) fun _ _ e => e)
noncomputable def lst (vs : List Value) (n : Nat) : Obj := { cls := .type "list", data := .seq vs.toArray n }
theorem B.newList {A : Around} {vs : List Value} {Q : Value → Shared → Prop} {E : Value → Shared → Prop} (b : B X Γ ψ ω s) (hsz : vs.length ≤ sizeLine)
    (h : ∀ a s', (∀ o, ω a ≠ some o) → ψ a = none → B X Γ ψ (put ω a (lst vs 0)) s' → Q (.ref a) s') : wpAny (model prog w) A (newList vs) Q E s := by
  obtain ⟨m, x, t⟩ := b
  refine wpAny_newObj_type (h _ _ (fun o e => ?_) ?_ ⟨m, x.lay (lst vs 0) rfl s.toks, t⟩) (by show vs.toArray.size ≤ sizeLine; rw [List.size_toArray]; exact hsz)
  · have := (x.own _ _ e).1
    rw [get_size] at this; cases this
  · exact none_of_sub x.sub (get_size _)
theorem B.append {A : Around} {a : Addr} {vs : List Value} {j : Nat} {v : Value} {Q : Value → Shared → Prop} {E : Value → Shared → Prop} (b : B X Γ ψ ω s) (ha : ω a = some (lst vs j)) (hsz : vs.length ≤ sizeLine)
    (h : ∀ s' j', B X Γ ψ (put ω a (lst (vs ++ [v]) j')) s' → Q .none s') : wpAny (model prog w) A (call (.builtin "list.append") [.ref a, v]) Q E s := by
  obtain ⟨m, x, t⟩ := b
  refine wpAny_list_append_plain (items := vs.toArray) ⟨j, (x.own _ _ ha).1⟩ (fun h' hp hs => ?_) (by rw [List.size_toArray]; exact hsz)
  obtain ⟨j', hj⟩ := hp
  refine h _ j' ⟨m, x.sameBut ha ⟨h', s.toks, rfl⟩ (fun b ob hb e => (hs.2 b hb).trans e) ?_, t⟩
  rw [hj]
  simp [lst]
end
end Mine
namespace Mine
section
variable {prog : Program} {w : World} {μ : Md} {φ : PM}

theorem op_add_int {a b : Int} : Op2 prog w μ φ (binaryOp .Add) (vInt a) (vInt b) (vInt (a + b)) := by
  rintro A ψ s _ _ c l ⟨t, rfl⟩ ⟨u, rfl⟩
  exact PyProof.Rows.add_int ⟨ψ, grow_tok c.sub, _, rfl⟩
theorem op_sub_bool {a b : Bool} : Op2 prog w μ φ (binaryOp .Sub) (vBool a) (vBool b) (vInt (b2i a - b2i b)) := by
  rintro A ψ s _ _ c l rfl rfl
  exact PyProof.Rows.sub_bool ⟨ψ, grow_tok c.sub, _, rfl⟩
theorem op_mod_int {a b : Int} (hb : b ≠ 0) : Op2 prog w μ φ (binaryOp .Mod) (vInt a) (vInt b) (vInt (a.fmod b)) := by
  rintro A ψ s _ _ c l ⟨t, rfl⟩ ⟨u, rfl⟩
  exact PyProof.Rows.mod_int hb ⟨ψ, grow_tok c.sub, _, rfl⟩
theorem op_and_int {a b : Int} : Op2 prog w μ φ (binaryOp .BitAnd) (vInt a) (vInt b) (vInt (Builtin.bitAnd a b)) := by
  rintro A ψ s _ _ c l ⟨t, rfl⟩ ⟨u, rfl⟩
  exact PyProof.Rows.and_int ⟨ψ, grow_tok c.sub, _, rfl⟩
theorem op_shr_int {a b : Int} (hb : 0 ≤ b) : Op2 prog w μ φ (binaryOp .RShift) (vInt a) (vInt b) (vInt (a.fdiv (2 ^ b.toNat))) := by
  rintro A ψ s _ _ c l ⟨t, rfl⟩ ⟨u, rfl⟩
  exact PyProof.Rows.rshift_int hb ⟨ψ, grow_tok c.sub, _, rfl⟩
theorem op_pow_int {a b : Int} (hb : 0 ≤ b) (hb2 : b ≤ 1000000) (ha : a.natAbs < 2 ^ 64) : Op2 prog w μ φ (binaryOp .Pow) (vInt a) (vInt b) (vInt (a ^ b.toNat)) := by
  rintro A ψ s _ _ c l ⟨t, rfl⟩ ⟨u, rfl⟩
  exact PyProof.Rows.pow_int_small hb hb2 ha ⟨ψ, grow_tok c.sub, _, rfl⟩
theorem op_neg_int {a : Int} : Op1 prog w μ φ (unaryOp .USub) (vInt a) (vInt (-a)) := by
  rintro A ψ s _ c l ⟨t, rfl⟩
  exact PyProof.Rows.neg_int ⟨ψ, grow_tok c.sub, _, rfl⟩
theorem op_inv_int {a : Int} : Op1 prog w μ φ (unaryOp .Invert) (vInt a) (vInt (Builtin.bitNot a)) := by
  rintro A ψ s _ c l ⟨t, rfl⟩
  exact PyProof.Rows.invert_int ⟨ψ, grow_tok c.sub, _, rfl⟩
theorem op_not {P : VP} {b : Bool} (h : Tru prog w μ φ P b) : Op1 prog w μ φ (unaryOp .Not) P (vBool (!b)) := by
  intro A ψ s v c l p
  exact PyProof.Rows.not_of (wpAny_mono (h A ψ s v c l p) (fun r s' ⟨e, ψ', g⟩ => ⟨ψ', g, by rw [e]; rfl⟩) fun _ _ e => e)
theorem op_lt_int {a b : Int} : Op2 prog w μ φ (compareOp .Lt) (vInt a) (vInt b) (vBool (decide (a < b))) := by
  rintro A ψ s _ _ c l ⟨t, rfl⟩ ⟨u, rfl⟩
  exact PyProof.Rows.lt_int ⟨ψ, Grow.refl c.sub, rfl⟩
theorem op_gt_int {a b : Int} : Op2 prog w μ φ (compareOp .Gt) (vInt a) (vInt b) (vBool (decide (b < a))) := by
  rintro A ψ s _ _ c l ⟨t, rfl⟩ ⟨u, rfl⟩
  exact PyProof.Rows.gt_int ⟨ψ, Grow.refl c.sub, rfl⟩
theorem op_eq_int {a b : Int} : Op2 prog w μ φ (compareOp .Eq) (vInt a) (vInt b) (vBool (a == b)) := by
  rintro A ψ s _ _ c l ⟨t, rfl⟩ ⟨u, rfl⟩
  exact PyProof.Rows.eq_int ⟨ψ, Grow.refl c.sub, rfl⟩
theorem op_ne_int {a b : Int} : Op2 prog w μ φ (compareOp .NotEq) (vInt a) (vInt b) (vBool (a != b)) := by
  rintro A ψ s _ _ c l ⟨t, rfl⟩ ⟨u, rfl⟩
  exact PyProof.Rows.ne_int ⟨ψ, Grow.refl c.sub, rfl⟩
end
end Mine
namespace Mine

theorem lookup_rev {α : Type} : ∀ {l : List (Str × α)}, (l.map (·.1)).Nodup → ∀ x, l.reverse.lookup x = l.lookup x
  | [], _, _ => rfl
  | (n, v) :: r, h, x => by
    rw [List.map_cons, List.nodup_cons] at h
    rw [List.reverse_cons, List.lookup_append, lookup_rev h.2]
    by_cases q : x = n
    · subst q
      have : r.lookup x = none := by
        cases e : r.lookup x with
        | none => rfl
        | some v' => exact absurd (List.mem_map.mpr ⟨(x, v'), mem_of_lookup e, rfl⟩) h.1
      rw [this]
      simp [List.lookup]
    · have qb : (x == n) = false := by simpa using q
      simp [List.lookup, qb]
theorem typ_binds {Γ : List (Str × VP)} {binds : List (Str × Value)} {ψ : PM} (h : All2 (fun (g : Str × VP) (b : Str × Value) => g.1 = b.1 ∧ g.2.p ψ b.2) Γ binds) (nd : decide ((Γ.map (·.1)).Nodup) = true) :
    Typ Γ ψ (fun x => binds.reverse.lookup x) := by
  have hnames : ∀ {Γ : List (Str × VP)} {binds : List (Str × Value)}, All2 (fun (g : Str × VP) (b : Str × Value) => g.1 = b.1 ∧ g.2.p ψ b.2) Γ binds → Γ.map (·.1) = binds.map (·.1) := by
    intro Γ binds h
    induction h with
    | nil => rfl
    | cons h _ ih => simp [h.1, ih]
  have nd' : (binds.map (·.1)).Nodup := by rw [← hnames h]; exact of_decide_eq_true nd
  intro x P hx
  show ∃ v, binds.reverse.lookup x = some v ∧ P.p ψ v
  rw [lookup_rev nd']
  clear nd nd'
  induction h with
  | nil => cases hx
  | @cons g b Γ binds h0 _ ih =>
    obtain ⟨gn, gp⟩ := g
    obtain ⟨bn, bv⟩ := b
    obtain ⟨h1, h2⟩ := h0
    simp only at h1 h2
    subst h1
    rw [List.lookup_cons] at hx ⊢
    cases q : x == gn with
    | true => rw [q] at hx; cases hx; exact ⟨bv, rfl, h2⟩
    | false => rw [q] at hx; exact ih hx

section
variable {prog : Program} {w : World} {X : Fix} {Γ : List (Str × VP)} {ψ ω φ : PM} {s : Shared} {k : Nat} {n : Bool} {m : Str → Option Value}

structure Walk (prog : Program) (w : World) (A : Around) (I : Addr) (wr fz : List Addr) (nn : Nat) (P : Nat → Value → Prop) (St : Nat → Heap → Prop) : Prop where
  wk : ∃ fp, Walks prog w A I fp wr nn P St ∧ ∀ b ∈ fp, b ∈ wr ∨ b ∈ fz
  live : ∀ i h, St i h → ∀ b ∈ wr, ∃ o, h.get? b = some o

noncomputable def wput (ω : PM) (wr : List Addr) (h : Heap) : PM := fun b => if b ∈ wr then h.get? b else ω b
theorem S.wmove {s' : Shared} {wr : List Addr} (x : S X m ψ ω s) (hw : ∀ b ∈ wr, ∃ o, ω b = some o) (hr : ∃ h' tk, s' = { s with heap := h', toks := tk }) (hs : ∀ b o, b ∉ wr → s.heap.get? b = some o → s'.heap.get? b = some o) :
    S X m ψ (wput ω wr s'.heap) s' :=
  x.turn (W := fun b => b ∈ wr) hw hr hs fun b o e => by
    unfold wput at e
    by_cases q : b ∈ wr
    · rw [if_pos q] at e; exact .inl ⟨q, e⟩
    · rw [if_neg q] at e; exact .inr ⟨q, e⟩

noncomputable def Itr (prog : Program) (w : World) (μ : Md) (φ : PM) (P : VP) (items : List VP) : Prop :=
  ∀ A ψ s v, Cx μ A ψ s → Le φ ψ → P.p ψ v → wpAny (model prog w) A (pyIter v) (fun it s' => ∃ I wr fz Pv St, it = .ref I ∧ Walk prog w A I wr fz items.length Pv St ∧ St 0 s'.heap ∧ (∀ b ∈ wr, s.heap.get? b = none) ∧
    (∀ b ∈ fz, ∃ o, ψ b = some o) ∧ (∀ i v, i < items.length → Pv i v → ∃ Q, items[i]? = some Q ∧ Q.p ψ v) ∧ Ext (frs A) s s') (fun _ _ => False) s
theorem ext_push {F : List Addr} (s : Shared) (o : Obj) : Ext F s { s with heap := s.heap.push o } := Ext.of_keeps (tk := s.toks) fun _ _ e => Heap.get?_push_of_some _ e
theorem itr_list {μ : Md} {ps : List VP} (hn : μ.n = true) : Itr prog w μ φ (vList ps) ps := by
  rintro A ψ s _ c l ⟨a, vs, j, rfl, ho, hall⟩
  have hl : s.heap.IsList a vs.toArray := ⟨_, c.sub _ _ ho, rfl, j, rfl⟩
  have hne : a ≠ s.heap.objs.size := Nat.ne_of_lt (Heap.lt_size (c.sub _ _ ho))
  have W := Walks.list (prog := prog) (w := w) (c.none hn) s.heap.objs.size a hne vs.toArray
  have e : vs.toArray.size = ps.length := by simp [hall.length]
  rw [e] at W
  have V : Walk prog w A s.heap.objs.size [s.heap.objs.size] [a] ps.length _ _ := ⟨⟨_, W, fun b hb => by simp at hb; rcases hb with rfl | rfl <;> simp⟩, fun i h hst b hb => by rw [List.mem_singleton.mp hb]; obtain ⟨o, ho, _⟩ := hst.1; exact ⟨o, ho⟩⟩
  refine wpAny_pyIter_list hl ⟨_, _, _, _, _, rfl, V, ?_, fun b hb => ?_, fun b hb => ?_, fun i v hi hv => ?_, ext_push s _⟩
  · exact ⟨⟨_, Heap.get?_push_size _ rfl, rfl, rfl⟩, hl.at fun o e => Heap.get?_push_of_some _ e⟩
  · rw [List.mem_singleton.mp hb]; exact get_size _
  · rw [List.mem_singleton.mp hb]; exact ⟨_, ho⟩
  · exact hall.get' (by simpa using hv)
theorem itr_tup {μ : Md} {ps : List VP} (hn : μ.n = true) : Itr prog w μ φ (vTup ps) ps := by
  rintro A ψ s _ c l ⟨a, vs, j, rfl, ho, hall⟩
  have hl : s.heap.IsTuple a vs.toArray := ⟨_, c.sub _ _ ho, rfl, j, rfl⟩
  have hne : a ≠ s.heap.objs.size := Nat.ne_of_lt (Heap.lt_size (c.sub _ _ ho))
  have W := Walks.tuple (prog := prog) (w := w) (c.none hn) s.heap.objs.size a hne vs.toArray
  have e : vs.toArray.size = ps.length := by simp [hall.length]
  rw [e] at W
  have V : Walk prog w A s.heap.objs.size [s.heap.objs.size] [a] ps.length _ _ := ⟨⟨_, W, fun b hb => by simp at hb; rcases hb with rfl | rfl <;> simp⟩, fun i h hst b hb => by rw [List.mem_singleton.mp hb]; obtain ⟨o, ho, _⟩ := hst.1; exact ⟨o, ho⟩⟩
  refine wpAny_pyIter_tuple hl ⟨_, _, _, _, _, rfl, V, ?_, fun b hb => ?_, fun b hb => ?_, fun i v hi hv => ?_, ext_push s _⟩
  · exact ⟨⟨_, Heap.get?_push_size _ rfl, rfl, rfl⟩, hl.at fun o e => Heap.get?_push_of_some _ e⟩
  · rw [List.mem_singleton.mp hb]; exact get_size _
  · rw [List.mem_singleton.mp hb]; exact ⟨_, ho⟩
  · exact hall.get' (by simpa using hv)
noncomputable def vRange (a b : Int) : VP := ⟨fun φ v => ∃ r t u x, v = .ref r ∧ φ r = some { cls := .type "range", data := .fields #[.int a t, .int b u, .int 1 x] }, fun le ⟨r, t, u, x, e, h⟩ => ⟨r, t, u, x, e, le _ _ h⟩⟩
noncomputable def upTo (a : Int) (k : Nat) : List Int := (List.range k).map fun i => a + (i : Nat)
theorem itr_range {μ : Md} {a b : Int} (hn : μ.n = true) (hs : Builtin.Range.small a b 1 = true) : Itr prog w μ φ (vRange a b) ((upTo a (b - a).toNat).map vInt) := by
  rintro A ψ s _ c l ⟨r, t, u, x, rfl, ho⟩
  have hr : IsRange s.heap r a b 1 t u x := c.sub _ _ ho
  have hsz : Builtin.Range.rangeSize a b 1 = ((b - a).toNat : Int) := by rw [rangeSize_one]; split <;> omega
  have W := Walks.range (prog := prog) (w := w) (c.none hn) s.heap.objs.size a 1 (b - a).toNat
  have e : ((upTo a (b - a).toNat).map vInt).length = (b - a).toNat := by simp [upTo]
  have V : Walk prog w A s.heap.objs.size [s.heap.objs.size] [] (b - a).toNat _ _ := ⟨⟨_, W, fun b hb => by simp at hb; subst hb; simp⟩, fun i h hst b hb => by rw [List.mem_singleton.mp hb]; exact ⟨_, hst⟩⟩
  rw [← e] at V
  refine wpAny_pyIter_range hr hs ⟨_, _, _, _, _, rfl, V, ?_, fun b hb => ?_, fun b hb => (nomatch hb), fun i v hi hv => ?_, ext_push s _⟩
  · show IsRangeIter _ _ _ _ _
    rw [hsz, e]
    have : IsRangeIter (s.heap.push { cls := .type "range_iterator", data := .fields #[rawInt a, rawInt ((b - a).toNat : Int), rawInt 1] }) s.heap.objs.size a ((b - a).toNat : Int) 1 := Heap.get?_push_size _ rfl
    simpa using this
  · rw [List.mem_singleton.mp hb]; exact get_size _
  · obtain ⟨t', rfl⟩ := hv
    refine ⟨vInt (a + (i : Nat)), ?_, t', by simp⟩
    have hi' : i < (b - a).toNat := by simpa [upTo] using hi
    simp [upTo, List.getElem?_map, List.getElem?_range hi']
theorem op_range1 {μ : Md} {b : Int} : Spec prog w μ φ (.type "range") [vInt b] (vRange 0 b) := by
  rintro A ψ s vs c l h
  obtain ⟨v, rfl, t, rfl⟩ : ∃ v, vs = [v] ∧ (vInt b).p ψ v := by cases h with | cons h1 h => cases h; exact ⟨_, rfl, h1⟩
  exact call_range_1 ⟨_, Grow.push c.sub _ rfl _, _, _, _, _, rfl, put_self _ _ _⟩
theorem op_range2 {μ : Md} {a b : Int} : Spec prog w μ φ (.type "range") [vInt a, vInt b] (vRange a b) := by
  rintro A ψ s vs c l h
  obtain ⟨v, v', rfl, ⟨t, rfl⟩, ⟨t', rfl⟩⟩ : ∃ v v', vs = [v, v'] ∧ (vInt a).p ψ v ∧ (vInt b).p ψ v' := by cases h with | cons h1 h => cases h with | cons h2 h => cases h; exact ⟨_, _, rfl, h1, h2⟩
  exact call_range_2 ⟨_, Grow.push c.sub _ rfl _, _, _, _, _, rfl, put_self _ _ _⟩
end
end Mine
namespace Mine
section
variable {prog : Program} {w : World} {X : Fix} {Γ : List (Str × VP)} {ψ ω φ : PM} {s s' : Shared} {k : Nat} {n : Bool} {m : Str → Option Value} {μ : Md}

theorem S.wnew {wr : List Addr} (x : S X m ψ ω s) (cx : CX μ X) (e : Ext (frs X.A) s s') (hw : ∀ b ∈ wr, s.heap.get? b = none) : S X m ψ (wput ω wr s'.heap) s' := by
  have y := x.back cx e
  refine ⟨y.ext, y.le, y.new, y.sub, y.fram, y.link, y.hnd, y.loc, y.there, y.off, y.fre, fun a o q => ?_, fun p hp => ?_⟩
  · unfold wput at q
    by_cases z : a ∈ wr
    · rw [if_pos z] at q
      refine ⟨q, none_of_sub x.sub (hw a z), x.ext.none (hw a z), fun hft => ?_⟩
      obtain ⟨ob, hob⟩ := x.there a hft
      rw [hw a z] at hob; cases hob
    · rw [if_neg z] at q
      exact y.own a o q
  · obtain ⟨k1, k2, k3, k4, k5⟩ := y.tab p hp
    obtain ⟨j1, _⟩ := x.tab p hp
    exact ⟨k1, k2, k3, by unfold wput; rw [if_neg (fun z => by rw [hw _ z] at j1; cases j1)]; exact k4, k5⟩
theorem wput_off {wr : List Addr} {h : Heap} {a : Addr} (h' : a ∉ wr) : wput ω wr h a = ω a := by unfold wput; rw [if_neg h']
theorem wput_on {wr : List Addr} {h : Heap} {a : Addr} (h' : a ∈ wr) : wput ω wr h a = h.get? a := by unfold wput; rw [if_pos h']

noncomputable def forQ (prog : Program) (w : World) (X : Fix) (J : Nat → List (Str × VP) → PM → PM → Prop) (i : Nat) (ω ψi ωi : PM) (rest : List Stmt) (Q : Flow → Shared → Prop) (E : Value → Shared → Prop) : Flow → Shared → Prop
  | .ret v, s => Q (.ret v) s
  | .brk, s => wpAny (model prog w) X.A (execs rest X.env) Q E s
  | _, s => ∃ Γ' ψ' ω', J (i + 1) Γ' ψ' ω' ∧ Le ψi ψ' ∧ B X Γ' ψ' ω' s ∧ ∀ a o, ωi a = some o → ω a = none → ω' a = some o
noncomputable def forE (prog : Program) (w : World) (X : Fix) (E : Value → Shared → Prop) : Value → Shared → Prop := notedBy (model prog w) X.A X.env fun e s' => cameBackBy (model prog w) X.A X.env E e s'

end
end Mine
namespace Mine

structure Steps (prog : Program) (w : World) (A : Around) (ψ : PM) (tgt : Expr) (it : Value) (wr fz : List Addr) (n : Nat) (Tg : Nat → List (Str × VP)) (St : Nat → Heap → Prop) : Prop where
  frame : ∀ i h h', St i h → (∀ b, b ∈ wr ∨ b ∈ fz → ∀ o, h.get? b = some o → h'.get? b = some o) → St i h'
  live : ∀ i h, St i h → ∀ b ∈ wr, ∃ o, h.get? b = some o
  self : ∀ i (s : Shared) (Q : Value → Shared → Prop) (E : Value → Shared → Prop), St i s.heap → Q it s → wpAny (model prog w) A (pyIter it) Q E s
  step : ∀ i X m ψ' ω (s : Shared) (Q : Unit → Shared → Prop) (E : Value → Shared → Prop), i < n → S X m ψ' ω s → Le ψ ψ' → St i s.heap → (∀ b ∈ wr, ∃ o, ω b = some o) → (∀ p ∈ Tg i, stores X p.1) →
    (∀ m' s', S X m' ψ' (wput ω wr s'.heap) s' → (∀ Γ, Typ Γ ψ' m → Typ (Tg i ++ Γ) ψ' m') → St (i + 1) s'.heap → Q () s') →
    wpAny (model prog w) A (pyNext it) (fun r s1 => ∃ v, r = some v ∧ wpAny (model prog w) A (letOwnedTupleGo tgt it v) (fun _ s2 => wpAny (model prog w) A (assign tgt X.env v) Q E s2) E s1) E s
  done : ∀ X m ψ' ω (s : Shared) (Q : Option Value → Shared → Prop) (E : Value → Shared → Prop), S X m ψ' ω s → Le ψ ψ' → St n s.heap → (∀ b ∈ wr, ∃ o, ω b = some o) →
    (∀ s', S X m ψ' (wput ω wr s'.heap) s' → Q none s') → wpAny (model prog w) A (pyNext it) Q E s
noncomputable def Src (prog : Program) (w : World) (μ : Md) (φ : PM) (tgt : Expr) (P : VP) (n : Nat) (Tg : Nat → List (Str × VP)) : Prop :=
  ∀ A ψ s v, Cx μ A ψ s → Le φ ψ → P.p ψ v → wpAny (model prog w) A (pyIter v) (fun it s' => ∃ wr fz St, Steps prog w A ψ tgt it wr fz n Tg St ∧ St 0 s'.heap ∧ (∀ b ∈ wr, s.heap.get? b = none) ∧
    (∀ b ∈ fz, ∃ o, ψ b = some o) ∧ Ext (frs A) s s') (fun _ _ => False) s
section
variable {prog : Program} {w : World} {X : Fix} {Γ : List (Str × VP)} {ψ ω φ : PM} {s s' : Shared} {k : Nat} {n : Bool} {m : Str → Option Value} {μ : Md}
noncomputable def tgName (x : Str) (items : List VP) (i : Nat) : List (Str × VP) := [(x, (items[i]?).getD vNone)]
noncomputable def SrcE (prog : Program) (w : World) (μ : Md) (sc : Scope) (Γ : List (Str × VP)) (φ : PM) (iter tgt : Expr) (n : Nat) (Tg : Nat → List (Str × VP)) : Prop :=
  ∀ A env m ψ s, env.scope = sc → Cx μ A ψ s → Le φ ψ → Fram env m s.heap → Typ Γ ψ m → wpAny (model prog w) A (eval iter env) (fun v s2 => wpAny (model prog w) A (pyIter v) (fun it s' => ∃ ψ1 s1 wr fz St,
    Grow (frs A) ψ s ψ1 s1 ∧ Steps prog w A ψ1 tgt it wr fz n Tg St ∧ St 0 s'.heap ∧ (∀ b ∈ wr, s1.heap.get? b = none) ∧ (∀ b ∈ fz, ∃ o, ψ1 b = some o) ∧ Ext (frs A) s1 s') (fun _ _ => False) s2) (fun _ _ => False) s
theorem SrcE.of {iter tgt : Expr} {P : VP} {nn : Nat} {Tg : Nat → List (Str × VP)} {Γ : List (Str × VP)} {sc : Scope} (hi : Ev prog w μ sc Γ φ iter P) (hI : Src prog w μ φ tgt P nn Tg) : SrcE prog w μ sc Γ φ iter tgt nn Tg := by
  intro A env m ψ s he c l f t
  refine (hi A env m ψ s he c l f t).use fun v ψ1 s1 g1 p1 => ?_
  refine wpAny_mono (hI A ψ1 s1 v (c.grow g1) (l.trans g1.le) p1) (fun it s' h => ?_) fun _ _ e => e
  obtain ⟨wr, fz, St, V, hst, hnew, hfz, hext⟩ := h
  exact ⟨ψ1, s1, wr, fz, St, g1, V, hst, hnew, hfz, hext⟩
theorem src_name {x : Str} {px : Pos} {P : VP} {items : List VP} (h : Itr prog w μ φ P items) : Src prog w μ φ (.Name x px) P items.length (tgName x items) := by
  intro A ψ s v c l p
  refine wpAny_mono (h A ψ s v c l p) (fun it s' h2 => ?_) fun _ _ e => e
  obtain ⟨I, wr, fz, Pv, St, rfl, V, hst, hnew, hfz, hitem, hext⟩ := h2
  obtain ⟨⟨fp, W, hfp⟩, hlive⟩ := V
  refine ⟨wr, fz, St, ⟨fun i h h' hs hk => W.frame i h h' hs fun b hb o e => hk b (hfp b hb) o e, hlive, W.self, ?_, ?_⟩, hst, hnew, hfz, hext⟩
  · intro i X m ψ' ω s Q E hi x3 le' hst3 hw hk q
    refine W.item i s _ _ hi hst3 fun v h' tk hPv hst' hkeep => ⟨v, rfl, wpAny_pure ?_⟩
    obtain ⟨Q', hQ', hq'⟩ := hitem i v hi hPv
    have x4 := x3.wmove (s' := { s with heap := h', toks := tk }) hw ⟨h', tk, rfl⟩ hkeep
    have hk' := hk _ (List.mem_singleton.mpr rfl)
    refine wpAny_assign_Name (x4.store hk' fun s5 x5 => ?_)
    have key : ∀ b ∈ wr, s5.heap.get? b = h'.get? b := fun b hb => by
      obtain ⟨o, ho⟩ := hlive _ _ hst' b hb
      rw [ho]
      exact (x5.own b o (by rw [wput_on hb]; exact ho)).1
    have e : wput ω wr h' = wput ω wr s5.heap := by
      funext b
      unfold wput
      by_cases q : b ∈ wr
      · simp [q, key b q]
      · simp [q]
    rw [e] at x5
    refine q _ s5 x5 (fun Γ t => ?_) (W.frame _ _ _ hst' fun b hb o ho => ?_)
    · have : tgName x items i = [(x, Q')] := by unfold tgName; rw [hQ']; rfl
      rw [this]
      exact t.cons (Q'.mono le' hq')
    · rcases hfp b hb with z | z
      · rw [key b z]; exact ho
      · obtain ⟨o', ho'⟩ := hfz b z
        have h1 : h'.get? b = some o' := x4.sub b o' (le' _ _ ho')
        rw [ho] at h1; cases h1
        exact x5.sub b o (le' _ _ ho')
  · intro X m ψ' ω s Q E x le' hst3 hw q
    exact W.done s _ _ hst3 fun h' tk hkeep => q _ (x.wmove (s' := { s with heap := h', toks := tk }) hw ⟨h', tk, rfl⟩ hkeep)

noncomputable def relS (scope sc : Scope) : Scope := { scope with names := scope.names.map fun (n, k) => if (k == .free && sc.names.lookup n == some .cell) then (n, .cell) else (n, k) }
theorem relabel_is {env : Env} {sc scope : Scope} (he : env.scope = sc) (hf : env.scope.kind = .function) : relabel scope env = relS scope sc := by
  unfold relabel relS
  have : ∀ n, env.kindOf n = sc.names.lookup n := fun n => by rw [← he]; rfl
  simp only [this, hf]
  congr 1
  congr 1
  funext ⟨n, k⟩
  have : (ScopeKind.function == ScopeKind.function) = true := rfl
  simp [this]
noncomputable def own (scope : Scope) (x : Str) : Bool := scope.names.lookup x == some .local || scope.names.lookup x == some .cell
noncomputable def isCF : Option NameKind → Bool
  | some .cell | some .free => true
  | _ => false
noncomputable def compOk (sc scope : Scope) : Bool := scope.kind == .function && scope.names.all fun p => match p.2 with
  | .cell => scope.names.lookup p.1 == some .cell
  | .local => scope.names.lookup p.1 == some .local
  | .free => scope.names.lookup p.1 == some .free && isCF (sc.names.lookup p.1)
  | _ => true
noncomputable def seen (scope : Scope) (Γ : List (Str × VP)) : List (Str × VP) := Γ.filter fun p => !own scope p.1

theorem lookup_map {f : Str × NameKind → Str × NameKind} (hf : ∀ p, (f p).1 = p.1) : ∀ (names : List (Str × NameKind)) (x : Str) {k : NameKind}, names.lookup x = some k → (names.map f).lookup x = some (f (x, k)).2
  | [], x, k, h => by cases h
  | (n, k') :: r, x, k, h => by
    rw [List.map_cons]
    have e := hf (n, k')
    rw [List.lookup_cons] at h
    cases q : x == n with
    | true =>
      rw [q] at h
      cases h
      have hn : x = n := by simpa using q
      subst hn
      generalize hg : f (x, k') = g at e
      obtain ⟨g1, g2⟩ := g
      simp only at e
      subst e
      simp [List.lookup_cons]
    | false =>
      rw [q] at h
      generalize hg : f (n, k') = g at e
      obtain ⟨g1, g2⟩ := g
      simp only at e
      subst e
      rw [List.lookup_cons, q]
      exact lookup_map hf r x h
theorem lookup_map_none {f : Str × NameKind → Str × NameKind} (hf : ∀ p, (f p).1 = p.1) : ∀ (names : List (Str × NameKind)) (x : Str), names.lookup x = none → (names.map f).lookup x = none
  | [], x, h => rfl
  | (n, k') :: r, x, h => by
    rw [List.map_cons]
    have e := hf (n, k')
    rw [List.lookup_cons] at h
    cases q : x == n with
    | true => rw [q] at h; cases h
    | false =>
      rw [q] at h
      generalize hg : f (n, k') = g at e
      obtain ⟨g1, g2⟩ := g
      simp only at e
      subst e
      rw [List.lookup_cons, q]
      exact lookup_map_none hf r x h
theorem relS_lookup {scope sc : Scope} {x : Str} {k : NameKind} (h : scope.names.lookup x = some k) : (relS scope sc).names.lookup x = some (if (k == .free && sc.names.lookup x == some .cell) then .cell else k) := by
  have := lookup_map (f := fun (n, k) => if (k == .free && sc.names.lookup n == some .cell) then (n, .cell) else (n, k)) (fun p => by obtain ⟨a, b⟩ := p; dsimp only; split <;> rfl) scope.names x h
  rw [show (relS scope sc).names = scope.names.map fun (n, k) => if (k == .free && sc.names.lookup n == some .cell) then (n, .cell) else (n, k) from rfl, this]
  dsimp only
  split <;> rfl
theorem relS_none {scope sc : Scope} {x : Str} (h : scope.names.lookup x = none) : (relS scope sc).names.lookup x = none :=
  lookup_map_none (f := fun (n, k) => if (k == .free && sc.names.lookup n == some .cell) then (n, .cell) else (n, k)) (fun p => by obtain ⟨a, b⟩ := p; dsimp only; split <;> rfl) scope.names x h

noncomputable def cloF (env : Env) : List (Str × NameKind) → List (Str × Addr) → List (Str × Addr)
  | [], acc => acc
  | (n, k) :: r, acc => if k == .free then cloF env r ((n, (env.cells.lookup n).getD 0) :: acc) else cloF env r acc
theorem cloF_is {env : Env} : ∀ (names : List (Str × NameKind)) (acc : List (Str × Addr)), (∀ p ∈ names, p.2 = .free → ∃ c, env.cells.lookup p.1 = some c) →
    (forIn names acc fun (x : Str × NameKind) (r : List (Str × Addr)) => (match x with | (name, kind) => if (kind == NameKind.free) = true then do let a ← cellOf env name; pure (ForInStep.yield ((name, a) :: r)) else pure (ForInStep.yield r) : Sem (ForInStep (List (Str × Addr))))) = pure (cloF env names acc)
  | [], acc, _ => by rw [List.forIn_nil]; rfl
  | (n, k) :: r, acc, h => by
    rw [List.forIn_cons]
    unfold cloF
    by_cases q : (k == .free) = true
    · obtain ⟨c, hc⟩ := h _ (List.mem_cons_self ..) (by simpa using q)
      simp only [q, if_true]
      have hcell : cellOf env n = pure c := by unfold cellOf; rw [hc]
      rw [hcell]
      have e : (env.cells.lookup n).getD 0 = c := by simp only at hc; rw [hc]; rfl
      rw [e]
      show (pure _ >>= _) = _
      simp only [pure_bind]
      exact cloF_is r _ fun p hp => h p (List.mem_cons_of_mem _ hp)
    · simp only [q]
      simp only [Bool.false_eq_true, if_false, pure_bind]
      exact cloF_is r _ fun p hp => h p (List.mem_cons_of_mem _ hp)
theorem closureFor_is {env : Env} {scope : Scope} (h : ∀ p ∈ scope.names, p.2 = .free → ∃ c, env.cells.lookup p.1 = some c) : closureFor scope env = pure (cloF env scope.names []) := by
  unfold closureFor
  have := cloF_is scope.names [] h
  simp only [bind_pure]
  exact this
theorem cloF_mem {env : Env} : ∀ (names : List (Str × NameKind)) (acc : List (Str × Addr)) {n : Str} {c : Addr}, (n, c) ∈ cloF env names acc → (n, c) ∈ acc ∨ ((n, NameKind.free) ∈ names ∧ c = (env.cells.lookup n).getD 0)
  | [], acc, n, c, h => .inl h
  | (x, k) :: r, acc, n, c, h => by
    unfold cloF at h
    by_cases q : (k == .free) = true
    · rw [if_pos q] at h
      have qk : k = .free := by simpa using q
      rcases cloF_mem r _ h with h | ⟨h, e⟩
      · rcases List.mem_cons.mp h with h | h
        · cases h; exact .inr ⟨by rw [qk]; exact List.mem_cons_self .., rfl⟩
        · exact .inl h
      · exact .inr ⟨List.mem_cons_of_mem _ h, e⟩
    · rw [if_neg q] at h
      rcases cloF_mem r _ h with h | ⟨h, e⟩
      · exact .inl h
      · exact .inr ⟨List.mem_cons_of_mem _ h, e⟩
theorem cloF_acc {env : Env} : ∀ (names : List (Str × NameKind)) (acc : List (Str × Addr)) {p : Str × Addr}, p ∈ acc → p ∈ cloF env names acc
  | [], acc, p, h => h
  | (x, k) :: r, acc, p, h => by
    unfold cloF
    split
    · exact cloF_acc r _ (List.mem_cons_of_mem _ h)
    · exact cloF_acc r _ h
theorem cloF_in {env : Env} : ∀ (names : List (Str × NameKind)) (acc : List (Str × Addr)) {n : Str}, (n, NameKind.free) ∈ names → ∃ c, (n, c) ∈ cloF env names acc
  | (x, k) :: r, acc, n, h => by
    unfold cloF
    rcases List.mem_cons.mp h with h | h
    · cases h
      rw [if_pos (by rfl)]
      exact ⟨_, cloF_acc r _ (List.mem_cons_self ..)⟩
    · split
      · exact cloF_in r _ h
      · exact cloF_in r _ h
theorem lookup_of_mem {α : Type} : ∀ {l : List (Str × α)} {n : Str} {c : α}, (n, c) ∈ l → ∃ d, l.lookup n = some d
  | (x, d) :: r, n, c, h => by
    rw [List.lookup_cons]
    cases q : n == x with
    | true => exact ⟨d, rfl⟩
    | false =>
      rcases List.mem_cons.mp h with h | h
      · cases h; simp at q
      · exact lookup_of_mem h
theorem cellsFrom_app : ∀ (N : Nat) (names : List (Str × NameKind)) (acc : List (Str × Addr)), cellsFrom N names acc = cellsFrom N names [] ++ acc
  | N, [], acc => rfl
  | N, (x, k) :: r, acc => by
    unfold cellsFrom
    split
    · rw [cellsFrom_app (N + 1) r ((x, N) :: acc), cellsFrom_app (N + 1) r [(x, N)]]
      simp
    · exact cellsFrom_app N r acc
theorem cellsFrom_kind : ∀ (N : Nat) (names : List (Str × NameKind)) {x : Str} {c : Addr}, (x, c) ∈ cellsFrom N names [] → (x, NameKind.cell) ∈ names
  | N, [], x, c, h => by cases h
  | N, (y, k) :: r, x, c, h => by
    unfold cellsFrom at h
    by_cases q : (k == .cell) = true
    · rw [if_pos q, cellsFrom_app] at h
      have qk : k = .cell := by simpa using q
      rcases List.mem_append.mp h with h | h
      · exact List.mem_cons_of_mem _ (cellsFrom_kind _ r h)
      · have := List.mem_singleton.mp h; cases this; rw [qk]; exact List.mem_cons_self ..
    · rw [if_neg q] at h
      exact List.mem_cons_of_mem _ (cellsFrom_kind _ r h)
end
end Mine
namespace Mine
section
variable {prog : Program} {w : World} {X : Fix} {Γ : List (Str × VP)} {ψ ω φ : PM} {s s' : Shared} {k : Nat} {n : Bool} {m : Str → Option Value} {μ : Md} {A : Around} {env : Env} {sc scope : Scope}

noncomputable def m0 (scope : Scope) (m : Str → Option Value) : Str → Option Value := fun x => if own scope x = true then none else m x
noncomputable def cenvOf (scope : Scope) (env : Env) (C : Addr) : Env := { newEnv scope C env.globals (cellsFrom (C + 1) scope.names (cloF env scope.names [])) env.qual none .none (some env) builtinsNs with scope := relabel scope env }
theorem typ_seen (t : Typ Γ ψ m) : Typ (seen scope Γ) ψ (m0 scope m) := by
  intro x P h
  have key : ∀ (l : List (Str × VP)), (l.filter fun p => !own scope p.1).lookup x = some P → own scope x = false ∧ l.lookup x = some P := by
    intro l
    induction l with
    | nil => intro h; cases h
    | cons p r ih =>
      obtain ⟨y, Q⟩ := p
      intro h
      rw [List.filter_cons] at h
      by_cases q : (!own scope y) = true
      · simp only [q, if_true] at h
        rw [List.lookup_cons] at h ⊢
        cases z : x == y with
        | true =>
          rw [z] at h
          have : x = y := by simpa using z
          subst this
          exact ⟨by simpa using q, h⟩
        | false => rw [z] at h; exact ih h
      · simp only [q, if_false] at h
        obtain ⟨h1, h2⟩ := ih h
        refine ⟨h1, ?_⟩
        rw [List.lookup_cons]
        cases z : x == y with
        | true =>
          have : x = y := by simpa using z
          subst this
          rw [h1] at q; simp at q
        | false => exact h2
  obtain ⟨h1, h2⟩ := key Γ h
  obtain ⟨v, a, b⟩ := t x P h2
  exact ⟨v, by unfold m0; rw [h1]; simpa using a, b⟩
theorem compOk_mem (hok : compOk sc scope = true) {p : Str × NameKind} (hp : p ∈ scope.names) : (match p.2 with
  | .cell => scope.names.lookup p.1 == some .cell
  | .local => scope.names.lookup p.1 == some .local
  | .free => scope.names.lookup p.1 == some .free && isCF (sc.names.lookup p.1)
  | _ => true) = true := by
  unfold compOk at hok
  rw [Bool.and_eq_true] at hok
  exact List.all_eq_true.mp hok.2 p hp
theorem compOk_kind (hok : compOk sc scope = true) : scope.kind = .function := by
  unfold compOk at hok
  rw [Bool.and_eq_true] at hok
  simpa using hok.1
theorem compOk_free (hok : compOk sc scope = true) {x : Str} (h : (x, NameKind.free) ∈ scope.names) : scope.names.lookup x = some .free ∧ (sc.names.lookup x = some .cell ∨ sc.names.lookup x = some .free) := by
  have := compOk_mem hok h
  simp only [Bool.and_eq_true, beq_iff_eq] at this
  refine ⟨this.1, ?_⟩
  have h2 := this.2
  cases q : sc.names.lookup x with
  | none => rw [q] at h2; cases h2
  | some k => rw [q] at h2; cases k <;> first | exact .inl rfl | exact .inr rfl | cases h2
theorem compOk_cell (hok : compOk sc scope = true) {x : Str} (h : (x, NameKind.cell) ∈ scope.names) : scope.names.lookup x = some .cell := by
  have := compOk_mem hok h
  simpa using this
theorem compOk_local (hok : compOk sc scope = true) {x : Str} (h : (x, NameKind.local) ∈ scope.names) : scope.names.lookup x = some .local := by
  have := compOk_mem hok h
  simpa using this
theorem free_cell (f : Fram env m s.heap) (he : env.scope = sc) (hok : compOk sc scope = true) {x : Str} (h : (x, NameKind.free) ∈ scope.names) : ∃ c, env.cells.lookup x = some c ∧ s.heap.IsCell c (m x) := by
  have h2 := (compOk_free hok h).2
  have e : env.kindOf x = sc.names.lookup x := by rw [← he]; rfl
  exact f.cel x (by rw [e]; exact h2)
theorem clo_mem (f : Fram env m s.heap) (he : env.scope = sc) (hok : compOk sc scope = true) {x : Str} {c : Addr} (h : (x, c) ∈ cloF env scope.names []) : (x, NameKind.free) ∈ scope.names ∧ env.cells.lookup x = some c ∧ s.heap.IsCell c (m x) := by
  rcases cloF_mem _ _ h with h | ⟨h, e⟩
  · cases h
  · obtain ⟨d, hd, hi⟩ := free_cell f he hok h
    rw [hd] at e
    have e' : c = d := e
    subst e'
    exact ⟨h, hd, hi⟩

theorem comp_env {cl : List (Str × Addr)} {Q : Env → Shared → Prop} {E : Value → Shared → Prop}
    (h : Q (newEnv scope s.heap.objs.size env.globals (cellsFrom (s.heap.objs.size + 1) scope.names cl) env.qual none .none (some env) builtinsNs)
      { s with heap := pushCells (s.heap.push { cls := .type "dict", data := .dict #[] }) scope.names }) :
    wpAny (model prog w) A (newFunctionEnv scope env.globals cl [] env.qual none .none (some env)) Q E s := by
  simp only [newFunctionEnv, Option.isSome_some, if_true]
  refine wpAny_bind (wpAny_alloc ?_)
  refine wpAny_bind (wpAny_layCells _ (fun name kind cells => by cases hkc : kind == NameKind.cell <;> simp [hkc]) _ _ _ _ ?_)
  rw [show ({ s with heap := s.heap.push { cls := .type "dict", data := .dict #[] } } : Shared).heap.objs.size = s.heap.objs.size + 1 from Heap.size_push ..]
  simp only [List.forIn_nil]
  exact wpAny_bind (wpAny_pure (wpAny_pure h))

theorem S_comp {ω₀ : PM} {s1 s3 : Shared} (f : Fram env m s1.heap) (he : env.scope = sc) (hok : compOk sc scope = true) (hsub : Sub ψ s1.heap) (ext : Ext (frs A) s1 s3) (hoff : ∀ b ∈ frs A, ψ b = none)
    (ho : ∀ a o, ω₀ a = some o → s3.heap.get? a = some o ∧ s1.heap.get? a = none) :
    S ⟨A, A, ψ, s1, s3.heap.objs.size :: (cellsFrom (s3.heap.objs.size + 1) scope.names []).map (·.2), cenvOf scope env s3.heap.objs.size, none, []⟩ (m0 scope m) ψ ω₀
      { s3 with heap := pushCells (s3.heap.push { cls := .type "dict", data := .dict #[] }) scope.names } := by
  have f3 := f.ext ext
  have keep : ∀ b o, s3.heap.get? b = some o → (pushCells (s3.heap.push { cls := .type "dict", data := .dict #[] }) scope.names).get? b = some o := fun b o e => pushCells_keeps _ _ b o (Heap.get?_push_of_some _ e)
  have ok := cellsFrom_ok scope.names (s3.heap.push { cls := .type "dict", data := .dict #[] }) (s3.heap.objs.size + 1) [] ⟨fun _ _ hm => (nomatch hm), List.Pairwise.nil⟩ (by rw [Heap.size_push]; exact Nat.le_refl _)
  rw [Heap.size_push] at ok
  have newNone : ∀ c, s3.heap.objs.size ≤ c → s3.heap.get? c = none := fun c hc => Heap.get?_none_of_le hc
  have newNone1 : ∀ c, s3.heap.objs.size ≤ c → s1.heap.get? c = none := fun c hc => ext.none (newNone c hc)
  have e2 : Ext (frs A) s3 { s3 with heap := pushCells (s3.heap.push { cls := .type "dict", data := .dict #[] }) scope.names } := Ext.of_keeps (tk := s3.toks) keep
  have ext' := ext.trans e2
  have hlook : ∀ x c, (cellsFrom (s3.heap.objs.size + 1) scope.names (cloF env scope.names [])).lookup x = some c → ((x, c) ∈ cellsFrom (s3.heap.objs.size + 1) scope.names []) ∨ ((x, c) ∈ cloF env scope.names []) := fun x c h => by
    have := mem_of_lookup h
    rw [cellsFrom_app] at this
    exact List.mem_append.mp this
  have hk : (cenvOf scope env s3.heap.objs.size).scope = relS scope sc := relabel_is he f.fn
  have hkind : ∀ x, (cenvOf scope env s3.heap.objs.size).kindOf x = (relS scope sc).names.lookup x := fun x => by show (cenvOf scope env s3.heap.objs.size).scope.names.lookup x = _; rw [hk]
  refine ⟨ext', Le.refl _, fun _ _ e => .inl e, ext'.sub hsub hoff, ?_, .same, (fun e he => by cases he), List.mem_cons_self .., ?_, ?_, ?_, (fun a o e => ?_), (fun p hp => by cases hp)⟩
  · refine ⟨(compOk_kind hok : scope.kind = .function), f.gl, f.bi, ⟨fun _ => none, ?_, fun x hx => ?_⟩, fun x hx => ?_, fun x y c hx hy => ?_, fun x c hx => ?_⟩
    · exact (Heap.Ns.new s3.heap (.type "dict")).keeps (pushCells_keeps _ _)
    · rw [hkind] at hx
      cases q : scope.names.lookup x with
      | none => rw [relS_none q] at hx; cases hx
      | some kk =>
        rw [relS_lookup q] at hx
        have : own scope x = true := by
          unfold own
          rw [q]
          cases kk <;> simp at hx ⊢
          split at hx <;> cases hx
        unfold m0; rw [this]; rfl
    · rw [hkind] at hx
      cases q : scope.names.lookup x with
      | none => rw [relS_none q] at hx; rcases hx with hx | hx <;> cases hx
      | some kk =>
        rw [relS_lookup q] at hx
        by_cases qc : kk = .cell
        · subst qc
          have hsome := cellsFrom_some scope.names (s3.heap.objs.size + 1) (cloF env scope.names []) (.inl q)
          obtain ⟨c, hc⟩ := Option.isSome_iff_exists.mp hsome
          refine ⟨c, hc, ?_⟩
          have hown : own scope x = true := by unfold own; rw [q]; rfl
          have hm : m0 scope m x = none := by unfold m0; rw [hown]; rfl
          rw [hm]
          rcases hlook x c hc with h | h
          · exact (ok.empty x c h).1
          · have := (clo_mem f he hok h).1
            rw [(compOk_free hok this).1] at q; cases q
        · have qf : kk = .free := by
            cases kk <;> first | rfl | exact absurd rfl qc | (simp at hx)
          subst qf
          have hmem := mem_of_lookup q
          obtain ⟨c0, hc0⟩ := cloF_in scope.names [] (env := env) hmem
          have hsome := cellsFrom_some (x := x) scope.names (s3.heap.objs.size + 1) (cloF env scope.names []) (.inr (by obtain ⟨d, hd⟩ := lookup_of_mem hc0; rw [hd]; rfl))
          obtain ⟨c, hc⟩ := Option.isSome_iff_exists.mp hsome
          refine ⟨c, hc, ?_⟩
          have hown : own scope x = false := by unfold own; rw [q]; rfl
          have hm : m0 scope m x = m x := by unfold m0; rw [hown]; rfl
          rw [hm]
          rcases hlook x c hc with h | h
          · have := compOk_cell hok (cellsFrom_kind _ _ h)
            rw [q] at this; cases this
          · exact e2.cell (clo_mem f3 he hok h).2.2
    · rcases hlook x c hx with h | h <;> rcases hlook y c hy with h' | h'
      · exact name_of_addr ok.apart h h'
      · obtain ⟨o, ho', _⟩ := (clo_mem f3 he hok h').2.2
        rw [newNone c (Nat.le_of_succ_le (ok.empty x c h).2)] at ho'; cases ho'
      · obtain ⟨o, ho', _⟩ := (clo_mem f3 he hok h).2.2
        rw [newNone c (Nat.le_of_succ_le (ok.empty y c h').2)] at ho'; cases ho'
      · exact f.inj x y c (clo_mem f he hok h).2.1 (clo_mem f he hok h').2.1
    · rcases hlook x c hx with h | h
      · exact fun q => by
          have := (ok.empty x c h).2
          have q' : c = s3.heap.objs.size := q
          rw [q'] at this; exact Nat.lt_irrefl _ this
      · obtain ⟨o, ho', _⟩ := (clo_mem f3 he hok h).2.2
        exact Nat.ne_of_lt (Heap.lt_size ho')
  · intro c hc
    rcases List.mem_cons.mp hc with rfl | hc
    · obtain ⟨o, _, _, h, _⟩ := (Heap.Ns.new s3.heap (.type "dict")).keeps (pushCells_keeps scope.names _)
      exact ⟨o, h⟩
    · obtain ⟨⟨y, c'⟩, hy, rfl⟩ := List.mem_map.mp hc
      obtain ⟨o, h, _⟩ := (ok.empty y c' hy).1
      exact ⟨o, h⟩
  · intro c hc
    have : s3.heap.objs.size ≤ c := by
      rcases List.mem_cons.mp hc with rfl | hc
      · exact Nat.le_refl _
      · obtain ⟨⟨y, c'⟩, hy, rfl⟩ := List.mem_map.mp hc
        exact Nat.le_of_succ_le (ok.empty y c' hy).2
    exact ⟨none_of_sub hsub (newNone1 c this), newNone1 c this⟩
  · intro x c hx hnin
    rcases hlook x c hx with h | h
    · exact absurd (List.mem_cons_of_mem _ (List.mem_map.mpr ⟨_, h, rfl⟩)) hnin
    · obtain ⟨o, ho', _⟩ := (clo_mem f he hok h).2.2
      exact ⟨o, ho'⟩
  · obtain ⟨h1, h2⟩ := ho a o e
    refine ⟨keep a o h1, none_of_sub hsub h2, h2, fun hc => ?_⟩
    have : s3.heap.objs.size ≤ a := by
      rcases List.mem_cons.mp hc with rfl | hc
      · exact Nat.le_refl _
      · obtain ⟨⟨y, c'⟩, hy, rfl⟩ := List.mem_map.mp hc
        exact Nat.le_of_succ_le (ok.empty y c' hy).2
    rw [newNone a this] at h1; cases h1

noncomputable def compR (X : Fix) (acc : Addr) (L : List VP) (r : Result) (s' : Shared) : Prop := r = .ok .next ∧ ∃ m' ψ' ω' vs j, S X m' ψ' ω' s' ∧ ω' acc = some (lst vs j) ∧ All2 (fun (P : VP) v => P.p ψ' v) L vs
structure CompIn (prog : Program) (w : World) (φ : PM) (Γ : List (Str × VP)) (sc scope : Scope) (k : Nat) (b : Bool) (tgt : Expr) (nn : Nat) (Tg : Nat → List (Str × VP)) (X : Fix) (it : Value) (acc : Addr) (wr fz : List Addr) (St : Nat → Heap → Prop)
    (m : Str → Option Value) (ω : PM) (s : Shared) : Prop where
  cx : CX ⟨k, b⟩ X
  le : Le φ X.ψ₀
  sc : X.env.scope = relS scope sc
  steps : Steps prog w X.A X.ψ₀ tgt it wr fz nn Tg St
  st : St 0 s.heap
  fzO : ∀ b ∈ fz, ∃ o, X.ψ₀ b = some o
  st0 : S X m X.ψ₀ ω s
  typ : Typ (seen scope Γ) X.ψ₀ m
  sto : ∀ x, own scope x = true → stores X x
  wrO : ∀ b ∈ wr, ∃ o, ω b = some o
  accO : ω acc = some (lst [] 0)
  ne : acc ∉ wr
theorem comp_core0 {e : Expr} {g : Comprehension} {gs : List Comprehension} {nn : Nat} {Tg : Nat → List (Str × VP)} {b : Bool} {pos : Pos} {use : Option (Value → Sem Unit)} {Q : Value → Shared → Prop} {E : Value → Shared → Prop} {L : List VP}
    (hcl : clausesOf e = g :: gs) (hs : ∀ x, foldedSetIterable g.iter env x = pure x) (he : env.scope = sc) (c : Cx ⟨k + 1, b⟩ A ψ s) (le : Le φ ψ) (f : Fram env m s.heap) (t : Typ Γ ψ m)
    (hI : SrcE prog w ⟨k + 1, b⟩ sc Γ φ g.iter g.target nn Tg) (hok : compOk sc scope = true)
    (loop : ∀ X it acc wr fz St m ω s, X.A₀ = A → X.A = A → CompIn prog w φ Γ sc scope k b g.target nn Tg X it acc wr fz St m ω s → codeAny (model prog w) A (.compStart e 0 it (.ref acc) X.env) (compR X acc L) s)
    (fin : ∀ acc C ψ' s' m', Grow (frs A) ψ s ψ' s' → (vList L).p ψ' acc → s.heap.get? C = none → ψ' C = none → s'.heap.Ns C m' → compPost (model prog w) A E use Q acc C (.ok .next) s') :
    wpAny (model prog w) A (comprehension e scope env pos (newList []) false (eval g.iter env) use) Q E s := by
  have hfree : ∀ p ∈ scope.names, p.2 = .free → ∃ c, env.cells.lookup p.1 = some c := fun p hp q => by
    obtain ⟨x, kk⟩ := p
    simp only at q
    subst q
    obtain ⟨c, hc, _⟩ := free_cell f he hok hp
    exact ⟨c, hc⟩
  refine wpAny_comprehension_free hcl hs (closureFor_is hfree) (compOk_kind hok) (fun x hx q => by obtain ⟨y, kk⟩ := x; simp only at q; subst q; exact compOk_local hok hx) ?_
  refine wpAny_mono (hI A env m ψ s he c le f t) (fun v s0 h0 => wpAny_mono h0 (fun it s2 h2 => ?_) fun _ _ e => e.elim) fun _ _ e => e.elim
  obtain ⟨ψ1, s1, wr, fz, St, g1, V, hst, hnew, hfz, hext⟩ := h2
  have c1 := c.grow g1
  refine wpAny_newObj_type ?_ (by show ([] : List Value).toArray.size ≤ sizeLine; exact Nat.zero_le _)
  refine comp_env ?_
  generalize hs3 : ({ s2 with heap := s2.heap.push { cls := .type "list", dict := none, data := .seq ([] : List Value).toArray } } : Shared) = s3
  have k23 : ∀ b o, s2.heap.get? b = some o → s3.heap.get? b = some o := fun b o e => by rw [← hs3]; exact Heap.get?_push_of_some _ e
  have ext3 : Ext (frs A) s1 s3 := hext.trans (by rw [← hs3]; exact Ext.of_keeps (tk := s2.toks) fun b o e => Heap.get?_push_of_some _ e)
  have hacc3 : s3.heap.get? s2.heap.objs.size = some (lst [] 0) := by rw [← hs3]; exact Heap.get?_push_size _ rfl
  have hlive := V.live 0 _ hst
  have haccwr : s2.heap.objs.size ∉ wr := fun hm => by obtain ⟨o, ho⟩ := hlive _ hm; exact Nat.lt_irrefl _ (Heap.lt_size ho)
  let ω₀ : PM := fun a => if a = s2.heap.objs.size then some (lst [] 0) else if a ∈ wr then s2.heap.get? a else none
  have ho : ∀ a o, ω₀ a = some o → s3.heap.get? a = some o ∧ s1.heap.get? a = none := fun a o e => by
    by_cases q : a = s2.heap.objs.size
    · subst q
      simp [ω₀] at e
      rw [← e]
      exact ⟨hacc3, hext.none (get_size _)⟩
    · by_cases z : a ∈ wr
      · simp [ω₀, q, z] at e
        exact ⟨k23 a o e, hnew a z⟩
      · simp [ω₀, q, z] at e
  have Y := S_comp (A := A) (ω₀ := ω₀) (f.ext g1.ext) he hok g1.sub ext3 c1.off ho
  generalize hs4 : ({ s3 with heap := pushCells (s3.heap.push { cls := .type "dict", data := .dict #[] }) scope.names } : Shared) = s4 at Y ⊢
  have k34 : ∀ b o, s3.heap.get? b = some o → s4.heap.get? b = some o := fun b o e => by rw [← hs4]; exact pushCells_keeps _ _ b o (Heap.get?_push_of_some _ e)
  have hst4 : St 0 s4.heap := V.frame _ _ _ hst fun b _ o e => k34 _ _ (k23 b o e)
  have hk : (cenvOf scope env s3.heap.objs.size).scope = relS scope sc := relabel_is he f.fn
  have hstores : ∀ x, own scope x = true → stores ⟨A, A, ψ1, s1, s3.heap.objs.size :: (cellsFrom (s3.heap.objs.size + 1) scope.names []).map (·.2), cenvOf scope env s3.heap.objs.size, none, []⟩ x := fun x hx => by
    have e : (cenvOf scope env s3.heap.objs.size).kindOf x = (relS scope sc).names.lookup x := by show (cenvOf scope env s3.heap.objs.size).scope.names.lookup x = _; rw [hk]
    unfold own at hx
    simp only [Bool.or_eq_true, beq_iff_eq] at hx
    rcases hx with hx | hx
    · refine .inl ?_
      show (cenvOf scope env s3.heap.objs.size).kindOf x = _
      rw [e, relS_lookup hx]; rfl
    · refine .inr ⟨?_, fun cc hcc => ?_⟩
      · show (cenvOf scope env s3.heap.objs.size).kindOf x = _
        rw [e, relS_lookup hx]; rfl
      · have hcc' : (cellsFrom (s3.heap.objs.size + 1) scope.names (cloF env scope.names [])).lookup x = some cc := hcc
        have := mem_of_lookup hcc'
        rw [cellsFrom_app] at this
        rcases List.mem_append.mp this with h | h
        · exact List.mem_cons_of_mem _ (List.mem_map.mpr ⟨_, h, rfl⟩)
        · have := (clo_mem f he hok h).1
          rw [(compOk_free hok this).1] at hx; cases hx
  have I : CompIn prog w φ Γ sc scope k b g.target nn Tg ⟨A, A, ψ1, s1, s3.heap.objs.size :: (cellsFrom (s3.heap.objs.size + 1) scope.names []).map (·.2), cenvOf scope env s3.heap.objs.size, none, []⟩ it s2.heap.objs.size wr fz St (m0 scope m) ω₀ s4 :=
    ⟨CX.of c1 rfl, le.trans g1.le, hk, V, hst4, hfz, Y, typ_seen (t.le g1.le), hstores, fun b hb => by
      obtain ⟨o, ho⟩ := hlive b hb
      refine ⟨o, ?_⟩
      have : b ≠ s2.heap.objs.size := fun q => haccwr (q ▸ hb)
      simp [ω₀, this, hb, ho], by simp [ω₀], haccwr⟩
  have L1 := loop _ it _ wr fz St _ ω₀ s4 rfl rfl I
  refine codeAny_mono L1 fun r s5 hr => ?_
  obtain ⟨rfl, m5, ψ5, ω5, vs, j, Y5, hacc5, hall⟩ := hr
  have hC : s3.heap.objs.size ∈ s3.heap.objs.size :: (cellsFrom (s3.heap.objs.size + 1) scope.names []).map (·.2) := List.mem_cons_self ..
  obtain ⟨h1, h2, h3, h4⟩ := Y5.own _ _ hacc5
  have hne : s2.heap.objs.size ≠ s3.heap.objs.size := fun q => h4 (by rw [q]; exact hC)
  obtain ⟨ml, hns, _⟩ := Y5.fram.loc
  refine fin (.ref s2.heap.objs.size) s3.heap.objs.size (put ψ5 s2.heap.objs.size (lst vs j)) s5 ml ?_ ?_ ?_ ?_ hns
  · refine g1.trans ⟨Y5.ext, Y5.le.trans (le_put h2), Sub.put Y5.sub h1, fun b o e => ?_⟩
    by_cases q : b = s2.heap.objs.size
    · subst q; exact .inr h3
    · rw [put_ne q] at e; exact Y5.new b o e
  · exact ⟨_, vs, j, rfl, put_self _ _ _, hall.imp fun P v x => P.mono (le_put h2) x⟩
  · exact g1.ext.none (Y5.off _ hC).2
  · rw [put_ne (Ne.symm hne)]; exact (Y5.off _ hC).1
end
end Mine
namespace Mine
section
variable {prog : Program} {w : World} {X : Fix} {Γ : List (Str × VP)} {ψ ω φ : PM} {s s' : Shared} {k : Nat} {b : Bool} {m : Str → Option Value} {μ : Md} {A : Around} {env : Env} {sc scope : Scope}

noncomputable def EvT (prog : Program) (w : World) (μ : Md) (sc : Scope) (Γ : List (Str × VP)) (φ : PM) (ifs : List Expr) (r : Bool) : Prop :=
  ∀ A env m ψ s, env.scope = sc → Cx μ A ψ s → Le φ ψ → Fram env m s.heap → Typ Γ ψ m →
    wpAny (model prog w) A (forIn ifs true fun c r => if r = true then do let ok ← isTrue c env (eval c env); pure (ForInStep.yield ok) else pure (ForInStep.yield r)) (fun r' s' => r' = r ∧ ∃ ψ', Grow (frs A) ψ s ψ' s') (fun _ _ => False) s
theorem evt_nil : EvT prog w μ sc Γ φ [] true := fun A env m ψ s he c l f t => wpAny_tests_nil ⟨rfl, ψ, Grow.refl c.sub⟩
theorem evt_one {c : Expr} {r : Bool} (h : EvB prog w μ sc Γ φ c r) : EvT prog w μ sc Γ φ [c] r := fun A env m ψ s he cx l f t => wpAny_tests_one (h A env m ψ s he cx l f t)

theorem seen_drop {Tg : List (Str × VP)} (hT : ∀ p ∈ Tg, own scope p.1 = true) {ψ : PM} {m : Str → Option Value} (t : Typ (Tg ++ seen scope Γ) ψ m) : Typ (seen scope Γ) ψ m := by
  refine t.sub fun x P h => ?_
  have hx : own scope x = false := by
    have := mem_of_lookup h
    have := (List.mem_filter.mp this).2
    simpa using this
  rw [List.lookup_append]
  have : Tg.lookup x = none := by
    cases q : Tg.lookup x with
    | none => rfl
    | some Q => have := hT _ (mem_of_lookup q); simp only at this; rw [hx] at this; cases this
  rw [this]
  simpa using h


theorem S.appendOwn {a : Addr} {vs : List Value} {j : Nat} {v : Value} {Q : Value → Shared → Prop} {E : Value → Shared → Prop} (x : S X m ψ ω s) (ha : ω a = some (lst vs j)) (hsz : vs.length ≤ sizeLine)
    (h : ∀ s' j', S X m ψ (put ω a (lst (vs ++ [v]) j')) s' → (∀ b o, b ≠ a → s.heap.get? b = some o → s'.heap.get? b = some o) → Q .none s') : wpAny (model prog w) A (call (.builtin "list.append") [.ref a, v]) Q E s := by
  refine wpAny_list_append_plain (items := vs.toArray) ⟨j, (x.own _ _ ha).1⟩ (fun h' hp hs => ?_) (by rw [List.size_toArray]; exact hsz)
  obtain ⟨j', hj⟩ := hp
  refine h _ j' (x.sameBut ha ⟨h', s.toks, rfl⟩ (fun b ob hb e => (hs.2 b hb).trans e) ?_) fun b o hb e => (hs.2 b hb).trans e
  rw [hj]
  simp [lst]


noncomputable def Tn (X : Fix) (acc : Addr) (wr ks : List Addr) (St : Nat → Heap → Prop) (Γ : List (Str × VP)) (ψ ω : PM) (vs : List Value) (i : Nat) (L : List VP) (s' : Shared) : Prop :=
  ∃ m' ψ' ω' vs' j', S X m' ψ' ω' s' ∧ Le ψ ψ' ∧ Typ Γ ψ' m' ∧ ω' acc = some (lst (vs ++ vs') j') ∧ (∀ b ∈ wr, ∃ o, ω' b = some o) ∧ (∀ b ∈ ks, ω' b = ω b) ∧ St (i + 1) s'.heap ∧ All2 (fun (P : VP) v => P.p ψ' v) L vs'

theorem Steps.keepS {tgt : Expr} {it : Value} {wr fz : List Addr} {St : Nat → Heap → Prop} {nn : Nat} {Tg : Nat → List (Str × VP)} {ψ₁ ψa ψb ωa ωb : PM} {ma mb : Str → Option Value} {sa sb : Shared} {i : Nat}
    (V : Steps prog w A ψ₁ tgt it wr fz nn Tg St) (hfz : ∀ b ∈ fz, ∃ o, ψ₁ b = some o) (h : St i sa.heap) (Ya : S X ma ψa ωa sa) (Yb : S X mb ψb ωb sb) (la : Le ψ₁ ψa) (lb : Le ψ₁ ψb) (hw : ∀ b ∈ wr, ∃ o, ωa b = some o ∧ ωb b = some o) : St i sb.heap := by
  refine V.frame _ _ _ h fun b hb o ho => ?_
  rcases hb with hb | hb
  · obtain ⟨o', h1, h2⟩ := hw b hb
    have := (Ya.own b o' h1).1
    rw [ho] at this; cases this
    exact (Yb.own b o h2).1
  · obtain ⟨o', h1⟩ := hfz b hb
    have := Ya.sub b o' (la _ _ h1)
    rw [ho] at this; cases this
    exact Yb.sub b o (lb _ _ h1)

theorem comp_turns {c : Code} {R : Result → Shared → Prop} {acc : Addr} {wr ks : List Addr} {St : Nat → Heap → Prop} {nn : Nat} {Γc : List (Str × VP)} {L : Nat → List VP} {vs0 : List Value} {j0 : Nat}
    {ψ₁ : PM} (hq : c.quiet = true) (hst : St 0 s.heap) (Y : S X m ψ₁ ω s) (t : Typ Γc ψ₁ m) (hwr : ∀ b ∈ wr, ∃ o, ω b = some o) (hacc : ω acc = some (lst vs0 j0))
    (turn : ∀ i m ψ ω s vs j, i < nn → S X m ψ ω s → Le ψ₁ ψ → Typ Γc ψ m → ω acc = some (lst vs j) → (∀ b ∈ wr, ∃ o, ω b = some o) → St i s.heap → vs.length ≤ vs0.length + ((List.range i).flatMap L).length →
      wpAny (model prog w) (X.A.under c) ((model prog w).den c) (fun fin s' => fin = .again c ∧ Tn X acc wr ks St Γc ψ ω vs i (L i) s') (fun _ _ => False) s)
    (last : ∀ m ψ ω s vs j, S X m ψ ω s → Le ψ₁ ψ → Typ Γc ψ m → ω acc = some (lst vs j) → (∀ b ∈ wr, ∃ o, ω b = some o) → St nn s.heap →
      wpAny (model prog w) (X.A.under c) ((model prog w).den c) (fun fin s' => fin = .done .next ∧ ∃ ω', S X m ψ ω' s' ∧ ω' acc = some (lst vs j) ∧ (∀ b ∈ ks, ω' b = ω b)) (fun _ _ => False) s)
    (fin : ∀ m' ψ' ω' s' vs j, S X m' ψ' ω' s' → Le ψ₁ ψ' → Typ Γc ψ' m' → ω' acc = some (lst (vs0 ++ vs) j) → (∀ b ∈ ks, ω' b = ω b) → All2 (fun (P : VP) v => P.p ψ' v) ((List.range nn).flatMap L) vs → R (.ok .next) s') :
    codeAny (model prog w) X.A c R s := by
  refine codeAny_loop hq (fun nk s3 => ∃ i mi ψi ωi vs j, nk = nn - i ∧ i ≤ nn ∧ S X mi ψi ωi s3 ∧ Le ψ₁ ψi ∧ Typ Γc ψi mi ∧ ωi acc = some (lst (vs0 ++ vs) j) ∧ (∀ b ∈ wr, ∃ o, ωi b = some o) ∧ (∀ b ∈ ks, ωi b = ω b) ∧ St i s3.heap ∧
    All2 (fun (P : VP) v => P.p ψi v) ((List.range i).flatMap L) vs) ?_ nn ⟨0, m, ψ₁, ω, [], j0, rfl, Nat.zero_le _, Y, Le.refl _, t, by simpa using hacc, hwr, fun _ _ => rfl, hst, .nil⟩
  rintro nk s3 ⟨i, mi, ψi, ωi, vs, j, rfl, hle, Yi, li, ti, hai, hwi, hki, hsi, hall⟩
  by_cases hlt : i < nn
  · refine wpAny_mono (turn i mi ψi ωi s3 (vs0 ++ vs) j hlt Yi li ti hai hwi hsi (by rw [List.length_append, ← hall.length]; exact Nat.le_refl _)) ?_ fun _ _ e => e.elim
    rintro _ s' ⟨rfl, m5, ψ5, ω5, vs5, j5, Y5, l5, t5, ha5, hw5, hk5, hst5, hall5⟩
    refine ⟨rfl, nn - (i + 1), by omega, i + 1, m5, ψ5, ω5, vs ++ vs5, j5, rfl, hlt, Y5, li.trans l5, t5, by rw [ha5, List.append_assoc], hw5, fun b hb => (hk5 b hb).trans (hki b hb), hst5, ?_⟩
    rw [List.range_succ, List.flatMap_append]
    simp only [List.flatMap_cons, List.flatMap_nil, List.append_nil]
    exact (hall.imp fun P _ x => P.mono l5 x).append hall5
  · have e : i = nn := by omega
    subst e
    refine wpAny_mono (last mi ψi ωi s3 (vs0 ++ vs) j Yi li ti hai hwi hsi) ?_ fun _ _ e => e.elim
    rintro _ s' ⟨rfl, ω5, Y5, ha5, hk5⟩
    exact fin mi ψi ω5 s' vs j Y5 li ti ha5 (fun b hb => (hk5 b hb).trans (hki b hb)) hall

noncomputable def pick (keep : Nat → Bool) (R : Nat → VP) (i : Nat) : List VP := if keep i then [R i] else []
theorem pick_length (keep : Nat → Bool) (R : Nat → VP) (n : Nat) : ((List.range n).flatMap (pick keep R)).length ≤ n := by
  induction n with
  | zero => exact Nat.le_refl _
  | succ n ih =>
    rw [List.range_succ, List.flatMap_append, List.length_append]
    have : ([n].flatMap (pick keep R)).length ≤ 1 := by
      simp only [List.flatMap_cons, List.flatMap_nil, List.append_nil]
      unfold pick; split <;> simp
    omega

theorem comp_inner {elt tgt iter : Expr} {ifs : List Expr} {gens : List Comprehension} {d : Nat} {pos : Pos} {it : Value} {acc : Addr} {wr fz ks : List Addr} {St : Nat → Heap → Prop} {nn : Nat} {Tg : Nat → List (Str × VP)} {Γc : List (Str × VP)} {vs0 : List Value} {j0 : Nat}
    {ψ₁ : PM} {R : Result → Shared → Prop} {keep : Nat → Bool} {E : Nat → VP} {sc' : Scope}
    (hturn : ∀ it acc env, compTurn (.ListComp elt gens scope pos) d it acc env = (do
      standAt iter.pos
      match ← pyNext it with
      | none => pure (.done .next)
      | some v =>
        letOwnedTupleGo tgt it v
        assign tgt env v
        let mut ok := true
        for c in ifs do
          if ok then ok ← isTrue c env (eval c env)
        if ok then
          (do let _ ← call (.builtin "list.append") [acc, ← eval elt env])
        again (.compLoop (.ListComp elt gens scope pos) d it acc env)))
    (cx : CX ⟨k, b⟩ X) (hsc : X.env.scope = sc') (V : Steps prog w X.A ψ₁ tgt it wr fz nn Tg St) (hst : St 0 s.heap) (hfz : ∀ b ∈ fz, ∃ o, ψ₁ b = some o) (Y : S X m ψ₁ ω s) (t : Typ Γc ψ₁ m) (hwr : ∀ b ∈ wr, ∃ o, ω b = some o) (hacc : ω acc = some (lst vs0 j0)) (hne : acc ∉ wr)
    (hks : ∀ b ∈ ks, b ∉ wr ∧ b ≠ acc) (hsto : ∀ i < nn, ∀ p ∈ Tg i, stores X p.1) (hdrop : ∀ i < nn, ∀ ψ m, Typ (Tg i ++ Γc) ψ m → Typ Γc ψ m)
    (ht : ∀ i < nn, EvT prog w ⟨k, b⟩ sc' (Tg i ++ Γc) ψ₁ ifs (keep i)) (he : ∀ i < nn, keep i = true → Ev prog w ⟨k, b⟩ sc' (Tg i ++ Γc) ψ₁ elt (E i)) (hsz : vs0.length + nn ≤ sizeLine)
    (fin : ∀ m' ψ' ω' s' vs j, S X m' ψ' ω' s' → Le ψ₁ ψ' → Typ Γc ψ' m' → ω' acc = some (lst (vs0 ++ vs) j) → (∀ b ∈ ks, ω' b = ω b) → All2 (fun (P : VP) v => P.p ψ' v) ((List.range nn).flatMap (pick keep E)) vs → R (.ok .next) s') :
    codeAny (model prog w) X.A (.compLoop (.ListComp elt gens scope pos) d it (.ref acc) X.env) R s := by
  refine comp_turns (ks := ks) (wr := wr) (St := St) (Γc := Γc) (vs0 := vs0) rfl hst Y t hwr hacc (fun i m ψ ω s vs j hlt Y l t ha hw hs hlen => ?_) (fun m ψ ω s vs j Y l t ha hw hs => ?_) fin
  all_goals
    show wpAny _ X.A ((compTurn (.ListComp elt gens scope pos) d it (.ref acc) X.env).onRaise (fun x => do noteFrame x X.env; theTreesLotGoes x)) _ _ s
    refine wpAny_noted ?_
    rw [hturn]
    refine wpAny_bind (wpAny_standAt (wpAny_bind ?_))
  · refine wpAny_mono (V.step i X m ψ ω s (fun _ s' => ∃ m', S X m' ψ (wput ω wr s'.heap) s' ∧ Typ (Tg i ++ Γc) ψ m' ∧ St (i + 1) s'.heap) (fun _ _ => False) hlt Y l hs hw (hsto i hlt) fun m' s' Y' T' hs' => ⟨m', Y', T' Γc t, hs'⟩) (fun r s1 hr => ?_) fun _ _ e => e.elim
    obtain ⟨v, rfl, h1⟩ := hr
    refine wpAny_bind (wpAny_mono h1 (fun _ s2 h2 => ?_) fun _ _ e => e.elim)
    refine wpAny_bind (wpAny_mono h2 (fun _ s' h3 => ?_) fun _ _ e => e.elim)
    obtain ⟨m', Y', t1, hs'⟩ := h3
    · have hw1 : ∀ b ∈ wr, ∃ o, wput ω wr s'.heap b = some o := fun b hb => by rw [wput_on hb]; exact V.live _ _ hs' b hb
      have c1 := Y'.cx cx
      refine wpAny_bind (wpAny_mono (ht i hlt X.A X.env m' ψ s' hsc c1 l Y'.fram t1) (fun ok s2 ⟨hok, ψ2, g2⟩ => ?_) fun _ _ e => e.elim)
      subst hok
      have Y2 := Y'.grow cx g2
      have hs2 : St (i + 1) s2.heap := V.keepS hfz hs' Y' Y2 l (l.trans g2.le) fun b hb => by obtain ⟨o, ho⟩ := hw1 b hb; exact ⟨o, ho, ho⟩
      have ha2 : wput ω wr s'.heap acc = some (lst vs j) := by rw [wput_off hne]; exact ha
      have hk2 : ∀ b ∈ ks, wput ω wr s'.heap b = ω b := fun b hb => wput_off (hks b hb).1
      cases hkp : keep i with
      | false =>
        simp only [Bool.false_eq_true, if_false]
        refine wpAny_pure ⟨rfl, m', ψ2, _, [], j, Y2, g2.le, hdrop i hlt _ _ (t1.le g2.le), by simpa using ha2, hw1, hk2, hs2, ?_⟩
        unfold pick; rw [hkp]; exact .nil
      | true =>
        simp only [if_true]
        refine wpAny_bind (wpAny_bind ((he i hlt hkp X.A X.env m' ψ2 s2 hsc (Y2.cx cx) (l.trans g2.le) Y2.fram (t1.le g2.le)).use fun v ψ3 s3 g3 p3 => ?_))
        have Y3 := Y2.grow cx g3
        refine wpAny_bind (Y3.appendOwn ha2 (by have := pick_length keep E i; omega) fun s4 j4 Y4 hk4 => wpAny_pure (wpAny_pure ⟨rfl, m', ψ3, _, [v], j4, Y4, g2.le.trans g3.le, hdrop i hlt _ _ (t1.le (g2.le.trans g3.le)), put_self _ _ _, fun b hb => ?_, fun b hb => ?_, ?_, ?_⟩))
        · rw [put_ne (show b ≠ acc from fun q => hne (by rw [← q]; exact hb))]; exact hw1 b hb
        · rw [put_ne (hks b hb).2]; exact hk2 b hb
        · exact V.keepS hfz hs2 Y2 Y4 (l.trans g2.le) (l.trans (g2.le.trans g3.le)) fun b hb => by
            obtain ⟨o, ho⟩ := hw1 b hb
            exact ⟨o, ho, by rw [put_ne (show b ≠ acc from fun q => hne (by rw [← q]; exact hb))]; exact ho⟩
        · unfold pick; rw [hkp]; exact .cons p3 .nil
  · refine V.done X m ψ ω s _ _ Y l hs hw fun s' Y' => ?_
    exact wpAny_pure ⟨rfl, _, Y', by rw [wput_off hne]; exact ha, fun b hb => wput_off (hks b hb).1⟩

theorem flatMap_pick (keep : Nat → Bool) (R : Nat → VP) (n : Nat) : (List.range n).flatMap (pick keep R) = ((List.range n).filter keep).map R := by
  induction n with
  | zero => rfl
  | succ n ih =>
    rw [List.range_succ, List.flatMap_append, List.filter_append, List.map_append, ih]
    congr 1
    simp only [List.flatMap_cons, List.flatMap_nil, List.append_nil]
    unfold pick
    cases q : keep n <;> simp [q]

theorem comp_one {elt tgt iter : Expr} {ifs : List Expr} {pos pos' : Pos} {nn : Nat} {Tg : Nat → List (Str × VP)} {keep : Nat → Bool} {R : Nat → VP} {use : Option (Value → Sem Unit)} {Q : Value → Shared → Prop} {E : Value → Shared → Prop}
    (hs : ∀ x, foldedSetIterable iter env x = pure x) (he : env.scope = sc) (c : Cx ⟨k + 1, b⟩ A ψ s) (le : Le φ ψ) (f : Fram env m s.heap) (t : Typ Γ ψ m)
    (hI : SrcE prog w ⟨k + 1, b⟩ sc Γ φ iter tgt nn Tg) (hok : compOk sc scope = true) (hT : ∀ i < nn, ∀ p ∈ Tg i, own scope p.1 = true)
    (ht : ∀ i < nn, EvT prog w ⟨k, b⟩ (relS scope sc) (Tg i ++ seen scope Γ) φ ifs (keep i)) (hel : ∀ i < nn, keep i = true → Ev prog w ⟨k, b⟩ (relS scope sc) (Tg i ++ seen scope Γ) φ elt (R i)) (hsz : nn ≤ sizeLine)
    (fin : ∀ acc C ψ' s' m', Grow (frs A) ψ s ψ' s' → (vList (((List.range nn).filter keep).map R)).p ψ' acc → s.heap.get? C = none → ψ' C = none → s'.heap.Ns C m' → compPost (model prog w) A E use Q acc C (.ok .next) s') :
    wpAny (model prog w) A (comprehension (.ListComp elt [⟨tgt, iter, ifs, 0⟩] scope pos) scope env pos' (newList []) false (eval iter env) use) Q E s := by
  refine comp_core0 (g := ⟨tgt, iter, ifs, 0⟩) rfl hs he c le f t hI hok (fun X it acc wr fz St m ω s hA₀ hA I => ?_) fin
  subst hA
  have L : ∀ s1, s1 = s → codeAny (model prog w) X.A (.compLoop (.ListComp elt [⟨tgt, iter, ifs, 0⟩] scope pos) 0 it (.ref acc) X.env) (compR X acc (((List.range nn).filter keep).map R)) s1 := by
    rintro s1 rfl
    refine comp_inner (ks := []) (iter := iter) (tgt := tgt) (ifs := ifs) (vs0 := []) (fun _ _ _ => compTurn_list ..) I.cx I.sc I.steps I.st I.fzO I.st0 I.typ I.wrO I.accO I.ne (fun b hb => by cases hb) (fun i hi p hp => I.sto _ (hT i hi p hp)) (fun i hi ψ m t => seen_drop (hT i hi) t)
      (fun i hi A env m ψ s h1 h2 h3 h4 h5 => ht i hi A env m ψ s h1 h2 (I.le.trans h3) h4 h5) (fun i hi hk => (hel i hi hk).le I.le) (by simpa using hsz) ?_
    intro m' ψ' ω' s' vs j Y' l' _ ha _ hall
    rw [flatMap_pick] at hall
    exact ⟨rfl, m', ψ', ω', vs, j, Y', by simpa using ha, hall⟩
  exact codeAny_compStart_list (L _ rfl) (I.steps.self 0 _ _ _ I.st (L _ rfl))

theorem ev_compE {elt tgt iter : Expr} {ifs : List Expr} {pos : Pos} {nn : Nat} {Tg : Nat → List (Str × VP)} {keep : Nat → Bool} {R : Nat → VP}
    (hI : SrcE prog w ⟨k + 1, b⟩ sc Γ φ iter tgt nn Tg) (hok : compOk sc scope = true) (hT : ∀ i < nn, ∀ p ∈ Tg i, own scope p.1 = true)
    (ht : ∀ i < nn, EvT prog w ⟨k, b⟩ (relS scope sc) (Tg i ++ seen scope Γ) φ ifs (keep i)) (hel : ∀ i < nn, keep i = true → Ev prog w ⟨k, b⟩ (relS scope sc) (Tg i ++ seen scope Γ) φ elt (R i)) (hsz : nn ≤ sizeLine)
    (hs : ∀ env x, foldedSetIterable iter env x = pure x := by intro _ _; rfl) : Ev prog w ⟨k + 1, b⟩ sc Γ φ (.ListComp elt [⟨tgt, iter, ifs, 0⟩] scope pos) (vList (((List.range nn).filter keep).map R)) := by
  intro A env m ψ s he c le f t
  rw [eval_ListComp]
  refine comp_one (hs env) he c le f t hI hok hT ht hel hsz fun acc C ψ' s' m' g p hC hCψ hns => ?_
  refine ⟨m', hns, fun h' hs' => ⟨ψ', ⟨?_, g.le, fun b o e => (hs'.2 b (fun q => by rw [q, hCψ] at e; cases e)).trans (g.sub b o e), g.new⟩, p⟩⟩
  exact g.ext.but (W := fun b => b = C) (fun b hb => by rw [hb]; exact hC) ⟨h', s'.toks, rfl⟩ fun b ob hb e => (hs'.2 b hb).trans e
theorem ev_comp {elt tgt iter : Expr} {ifs : List Expr} {pos : Pos} {P : VP} {nn : Nat} {Tg : Nat → List (Str × VP)} {keep : Nat → Bool} {R : Nat → VP}
    (hi : Ev prog w ⟨k + 1, b⟩ sc Γ φ iter P) (hI : Src prog w ⟨k + 1, b⟩ φ tgt P nn Tg) (hok : compOk sc scope = true) (hT : ∀ i < nn, ∀ p ∈ Tg i, own scope p.1 = true)
    (ht : ∀ i < nn, EvT prog w ⟨k, b⟩ (relS scope sc) (Tg i ++ seen scope Γ) φ ifs (keep i)) (hel : ∀ i < nn, keep i = true → Ev prog w ⟨k, b⟩ (relS scope sc) (Tg i ++ seen scope Γ) φ elt (R i)) (hsz : nn ≤ sizeLine)
    (hs : ∀ env x, foldedSetIterable iter env x = pure x := by intro _ _; rfl) : Ev prog w ⟨k + 1, b⟩ sc Γ φ (.ListComp elt [⟨tgt, iter, ifs, 0⟩] scope pos) (vList (((List.range nn).filter keep).map R)) :=
  ev_compE (SrcE.of hi hI) hok hT ht hel hsz hs
end
end Mine
namespace Mine
section
variable {prog : Program} {w : World} {X : Fix} {Γ : List (Str × VP)} {ψ ω φ : PM} {s s' : Shared} {k : Nat} {n b : Bool} {m : Str → Option Value} {μ : Md} {A : Around} {env : Env} {sc scope : Scope}
variable {rest : List Stmt} {Q : Flow → Shared → Prop} {E : Value → Shared → Prop}

noncomputable def EvIn (prog : Program) (w : World) (X : Fix) (Γ : List (Str × VP)) (ψ ω : PM) (e : Expr) (P : VP) : Prop :=
  ∀ (s : Shared) (Q : Value → Shared → Prop) (E : Value → Shared → Prop), B X Γ ψ ω s → (∀ v ψ' s', Le ψ ψ' → P.p ψ' v → B X Γ ψ' ω s' → Q v s') → wpAny (model prog w) X.A (eval e X.env) Q E s
noncomputable def TsIn (prog : Program) (w : World) (X : Fix) (Γ : List (Str × VP)) (ψ ω : PM) (e : Expr) (r : Bool) : Prop :=
  ∀ (s : Shared) (Q : Bool → Shared → Prop) (E : Value → Shared → Prop), B X Γ ψ ω s → (∀ ψ' s', Le ψ ψ' → B X Γ ψ' ω s' → Q r s') → wpAny (model prog w) X.A (isTrue e X.env (eval e X.env)) Q E s
theorem EvIn.pure {e : Expr} {P : VP} (c : CX ⟨k, n⟩ X) (h : Ev prog w ⟨k, n⟩ X.env.scope Γ ψ e P) : EvIn prog w X Γ ψ ω e P := fun s Q E b q => b.eval c h q
theorem EvIn.own {e : Expr} {P : VP} {Γ' : List (Str × VP)} (c : CX ⟨k, n⟩ X) (hΓ : ∀ m, Typ Γ (both ψ ω) m → Typ Γ' (both ψ ω) m) (h : Ev prog w ⟨k, n⟩ X.env.scope Γ' (both ψ ω) e P) (hP : Flat P) : EvIn prog w X Γ ψ ω e P :=
  fun s Q E b q => b.evalO c hΓ h hP fun v s' p b' => q v ψ s' (Le.refl _) p b'
theorem TsIn.pure {e : Expr} {r : Bool} (c : CX ⟨k, n⟩ X) (h : EvB prog w ⟨k, n⟩ X.env.scope Γ ψ e r) : TsIn prog w X Γ ψ ω e r := fun s Q E b q => b.test c h q
theorem TsIn.own {e : Expr} {r : Bool} {Γ' : List (Str × VP)} (c : CX ⟨k, n⟩ X) (hΓ : ∀ m, Typ Γ (both ψ ω) m → Typ Γ' (both ψ ω) m) (h : EvB prog w ⟨k, n⟩ X.env.scope Γ' (both ψ ω) e r) : TsIn prog w X Γ ψ ω e r :=
  fun s Q E b q => b.testO c hΓ h fun s' b' => q ψ s' (Le.refl _) b'
theorem seeOwn {x : Str} {a : Addr} {o : Obj} {P : VP} (hx : Γ.lookup x = some (vVal (.ref a))) (r : P.p (both ψ ω) (.ref a)) : ∀ m, Typ Γ (both ψ ω) m → Typ ((x, P) :: Γ) (both ψ ω) m := fun m t => t.view hx r
theorem own_list {a : Addr} {vs : List Value} {j : Nat} {ps : List VP} (ha : ω a = some (lst vs j)) (hno : ∀ a o, ω a = some o → ψ a = none) (h : All2 (fun (P : VP) v => P.p ψ v) ps vs) : (vList ps).p (both ψ ω) (.ref a) :=
  ⟨a, vs, j, rfl, both_own ha, h.imp fun P v x => P.mono (le_both hno) x⟩
theorem B.noOwn (b : B X Γ ψ ω s) : ∀ a o, ω a = some o → ψ a = none := fun a o e => b.ownNone e

theorem st_assign {x : Str} {px pos : Pos} {e : Expr} {P : VP} (b : B X Γ ψ ω s) (h : EvIn prog w X Γ ψ ω e P) (hk : stores X x) (hs : swapsWith e (some (.Name x px)) pos.line X.env = pure false)
    (q : ∀ v ψ' s', Le ψ ψ' → P.p ψ' v → B X ((x, P) :: Γ) ψ' ω s' → wpAny (model prog w) X.A (execs rest X.env) Q E s') :
    wpAny (model prog w) X.A (execs (.Assign [.Name x px] e pos :: rest) X.env) Q E s :=
  wpAny_execs_cons (wpAny_Assign_Name (h s _ _ b fun v ψ' s' l p b' => b'.store hk p fun s'' b'' => q v ψ' s'' l p b'') hs)
theorem st_return {pos : Pos} {e : Expr} {P : VP} (b : B X Γ ψ ω s) (h : EvIn prog w X Γ ψ ω e P) (q : ∀ v ψ' s', Le ψ ψ' → P.p ψ' v → B X Γ ψ' ω s' → Q (.ret v) s') : wpAny (model prog w) X.A (execs (.Return (some e) pos :: rest) X.env) Q E s :=
  wpAny_execs_cons (wpAny_Return_some (h s _ _ b q))
theorem st_if {pos : Pos} {t : Expr} {body orelse : List Stmt} {r : Bool} (b : B X Γ ψ ω s) (h : TsIn prog w X Γ ψ ω t r)
    (q : ∀ ψ' s', Le ψ ψ' → B X Γ ψ' ω s' → wpAny (model prog w) X.A (execs (if r then body else orelse) X.env) (seqQ prog w X.A X.env rest Q E) E s') :
    wpAny (model prog w) X.A (execs (.If t body orelse pos :: rest) X.env) Q E s := by
  refine ex_cons (wpAny_If (h s _ _ b fun ψ' s' l b' => ?_))
  have := q ψ' s' l b'
  cases r <;> simpa using this
theorem st_newList {x : Str} {px pos lp : Pos} (b : B X Γ ψ ω s) (hk : stores X x)
    (q : ∀ a s', ω a = none → ψ a = none → B X ((x, vVal (.ref a)) :: Γ) ψ (put ω a (lst [] 0)) s' → wpAny (model prog w) X.A (execs rest X.env) Q E s') :
    wpAny (model prog w) X.A (execs (.Assign [.Name x px] (.List [] lp) pos :: rest) X.env) Q E s := by
  refine wpAny_execs_cons (wpAny_Assign_Name ?_ (by rfl))
  rw [arm_eval_List]
  refine wpAny_bind (wpAny_standAt (wpAny_bind (wpAny_pure ?_)))
  refine b.newList (vs := []) (Nat.zero_le _) fun a s' h1 h2 b' => b'.store hk rfl fun s'' b'' => q a s'' ?_ h2 b''
  cases z : ω a with
  | none => rfl
  | some o => exact absurd z (h1 o)
theorem st_listD {x : Str} {px pos lp : Pos} {es : List Expr} {Ps : List VP} (b : B X Γ ψ ω s) (c : CX ⟨k, n⟩ X) (h : EvA prog w ⟨k, n⟩ X.env.scope Γ ψ es Ps) (hsz : Ps.length ≤ sizeLine) (hk : stores X x)
    (q : ∀ a vs ψ' s', ω a = none → ψ' a = none → Le ψ ψ' → All2 (fun (P : VP) v => P.p ψ' v) Ps vs → B X ((x, vVal (.ref a)) :: Γ) ψ' (put ω a (lst vs 0)) s' → wpAny (model prog w) X.A (execs rest X.env) Q E s') :
    wpAny (model prog w) X.A (execs (.Assign [.Name x px] (.List es lp) pos :: rest) X.env) Q E s := by
  refine wpAny_execs_cons (wpAny_Assign_Name ?_ (by rfl))
  rw [arm_eval_List]
  obtain ⟨m, Y, t⟩ := b
  refine wpAny_bind (wpAny_standAt (wpAny_bind (spliced_ok rfl h (Y.cx c) (Le.refl _) Y.fram t fun vs ψ1 s1 g1 p1 => ?_)))
  have b1 : B X Γ ψ1 ω s1 := ⟨m, Y.grow c g1, t.le g1.le⟩
  refine b1.newList (vs := vs) (by rw [← p1.length]; exact hsz) fun a s' h1 h2 b' => b'.store hk rfl fun s'' b'' => q a vs ψ1 s'' ?_ h2 g1.le p1 b''
  cases z : ω a with
  | none => rfl
  | some o => exact absurd z (h1 o)

theorem callWith_one {pos : Pos} {e : Expr} {id : String} {first : List Value} {Q : Value → Shared → Prop} {E : Value → Shared → Prop} (hn : notStar e = true)
    (h : wpAny (model prog w) A (eval e env) (fun v s' => wpAny (model prog w) A (call (.builtin id) (first ++ [v])) Q E s') E s) :
    wpAny (model prog w) A (callWith pos (.builtin id) first (backTo pos (starEach [e] env)) []) Q E s := by
  rw [starEach_cons hn]
  refine callWith_of (P := fun h => ∃ k, (k = Keeper.frame ∨ k = Keeper.machine ∨ k = Keeper.boundFrame) ∧ Looks (model prog w) h (keeperOf (.builtin id)) k) (by rfl) (fun _ x => x) ?_
  refine evalArgs_plain ?_
  show wpAny _ _ (spliced ((false, if (false = true) then _ else eval e env) :: [])) _ _ _
  unfold spliced
  simp only [Bool.false_eq_true, if_false]
  refine wpAny_bind (wpAny_mono h (fun v s' h' => ?_) fun _ _ e => e)
  refine wpAny_bind (wpAny_pure (wpAny_bind (wpAny_holding (wpAny_pure (wpAny_pure ⟨⟨.machine, .inr (.inl rfl), Looks.of_pure rfl⟩, h'⟩)))))
theorem attributeBase_name {x : Str} {px : Pos} {name : Str} {env : Env} {t : Sem Value} : attributeBase (.Name x px) name env t = t := rfl
theorem own_mcall {x name : Str} {px ap pos : Pos} {e : Expr} {id : String} {P : VP} {a : Addr} {vs : List Value} {j : Nat} {Q : Value → Shared → Prop} {E : Value → Shared → Prop} (b : B X Γ ψ ω s) (hx : Γ.lookup x = some (vVal (.ref a))) (hv : isVar (X.env.scope.names.lookup x) = true)
    (hd : (x == ("__debug__" : Str) || x == ("__classdict__" : Str)) = false) (slot : Slot "list" name id) (hty : typeOf (.builtin id) = pure (.type "method_descriptor")) (ha : ω a = some (lst vs j)) (h : EvIn prog w X Γ ψ ω e P) (hn : notStar e = true) (hl : (ap.endLine == pos.line) = true)
    (q : ∀ v ψ' s', Le ψ ψ' → P.p ψ' v → B X Γ ψ' ω s' → wpAny (model prog w) X.A (call (.builtin id) [.ref a, v]) Q E s') :
    wpAny (model prog w) X.A (eval (.Call (.Attribute (.Name x px) name ap) [e] [] pos) X.env) Q E s := by
  rw [arm_eval_Call, attributeBase_name]
  have b0 := b
  obtain ⟨m, Y, t⟩ := b0
  obtain ⟨v, hm, hp⟩ := t x _ hx
  cases hp
  simp only [Bool.or_eq_false_iff] at hd
  refine wpAny_bind (wpAny_Name (load_var Y.fram hv hm (wpAny_bind (wpAny_standAt ?_)) hd.2) hd.1)
  unfold methodCall
  have hform : methodCallForm ([e].length + ([] : List Keyword).length) (backTo pos (starEach [e] X.env)) (backToKw pos (keywordEach [] X.env)) = true := by
    rw [starEach_cons hn]; rfl
  rw [hform]
  refine wpAny_bind (wpAny_holding ?_)
  show wpAny _ _ (getMethod (.ref a) name _) _ _ _
  have hob := (Y.own _ _ ha).1
  refine getMethod_builtin (T := "list") ⟨_, hob, rfl⟩ PySem.F.plainAttrs_list slot hty (fun b e => by cases e; exact ⟨_, hob, rfl⟩) ?_
  have hpos : methodCallPos true (.Name x px) X.env ap pos = Pure.pure pos := by unfold methodCallPos; rw [hl]; rfl
  show wpAny _ _ (methodCallPos true (.Name x px) X.env ap pos >>= fun callPos => callWith callPos (.builtin id) [.ref a] (backTo pos (starEach [e] X.env)) []) _ _ _
  rw [hpos]
  exact wpAny_bind (wpAny_pure (callWith_one hn (h s _ _ b q)))

theorem st_append {x : Str} {px ap cpos pos : Pos} {e : Expr} {P : VP} {a : Addr} {vs : List Value} {j : Nat} (b : B X Γ ψ ω s) (hx : Γ.lookup x = some (vVal (.ref a))) (ha : ω a = some (lst vs j)) (h : EvIn prog w X Γ ψ ω e P) (hsz : vs.length ≤ sizeLine)
    (q : ∀ v ψ' s' j', Le ψ ψ' → P.p ψ' v → B X Γ ψ' (put ω a (lst (vs ++ [v]) j')) s' → wpAny (model prog w) X.A (execs rest X.env) Q E s')
    (hv : isVar (X.env.scope.names.lookup x) = true) (hd : (x == ("__debug__" : Str) || x == ("__classdict__" : Str)) = false) (hn : notStar e = true) (hl : (ap.endLine == cpos.line) = true) (hi : interactive X.env = false) :
    wpAny (model prog w) X.A (execs (.Expr (.Call (.Attribute (.Name x px) "append" ap) [e] [] cpos) pos :: rest) X.env) Q E s :=
  ex_cons (wpAny_Expr_any (own_mcall b hx hv hd slot_list_append (by rfl) ha h hn hl fun v ψ' s' l p b' => b'.append ha hsz fun s'' j' b'' => q v ψ' s'' j' l p b'') hi (by rfl))

theorem st_aug {x : Str} {px pos : Pos} {op : Operator} {e : Expr} {P P₁ R : VP} (b : B X Γ ψ ω s) (c : CX ⟨k, n⟩ X) (hx : Γ.lookup x = some P₁) (h : EvIn prog w X Γ ψ ω e P) (ho : Op2 prog w ⟨k, n⟩ ψ (inplaceOp op) P₁ P R) (hk : stores X x)
    (q : ∀ v ψ' s', Le ψ ψ' → R.p ψ' v → B X ((x, R) :: Γ) ψ' ω s' → wpAny (model prog w) X.A (execs rest X.env) Q E s')
    (hv : isVar (X.env.scope.names.lookup x) = true) (hd : (x == ("__classdict__" : Str)) = false) :
    wpAny (model prog w) X.A (execs (.AugAssign (.Name x px) op e pos :: rest) X.env) Q E s := by
  refine wpAny_execs_cons (wpAny_AugAssign_Name ?_)
  have b0 := b
  obtain ⟨m, Y, t⟩ := b0
  obtain ⟨v, hm, hp⟩ := t x _ hx
  refine load_var Y.fram hv hm (h s _ _ b fun v2 ψ' s' l p b' => ?_) hd
  have b1 := b'
  obtain ⟨m', Y', t'⟩ := b1
  refine (ho X.A ψ' s' v v2 (Y'.cx c) l (P₁.mono l hp) p).use fun r ψ2 s2 g2 p2 => ?_
  have b2 : B X Γ ψ2 ω s2 := ⟨m', Y'.grow c g2, t'.le g2.le⟩
  exact b2.store hk p2 fun s3 b3 => q r ψ2 s3 (l.trans g2.le) p2 b3

theorem st_assign2 {x y : Str} {px py pos : Pos} {e : Expr} {P : VP} (b : B X Γ ψ ω s) (h : EvIn prog w X Γ ψ ω e P) (hkx : stores X x) (hky : stores X y) (hw : swappedStores [.Name x px, .Name y py] e X.env = pure none)
    (q : ∀ v ψ' s', Le ψ ψ' → P.p ψ' v → B X ((y, P) :: (x, P) :: Γ) ψ' ω s' → wpAny (model prog w) X.A (execs rest X.env) Q E s') :
    wpAny (model prog w) X.A (execs (.Assign [.Name x px, .Name y py] e pos :: rest) X.env) Q E s :=
  wpAny_execs_cons (wpAny_Assign_two (h s _ _ b fun v ψ' s' l p b' => wpAny_assign_Name (b'.store hkx p fun s2 b2 => wpAny_assign_Name (b2.store hky p fun s3 b3 => q v ψ' s3 l p b3))) (by rfl) hw)

theorem S.junk {C : Addr} (x : S X m ψ ω s) (h0 : X.s₀.heap.get? C = none) (hψ : ψ C = none) (hω : ω C = none) (hf : C ∉ X.ft) (hr : ∃ h' tk, s' = { s with heap := h', toks := tk }) (hs : ∀ b ob, b ≠ C → s.heap.get? b = some ob → s'.heap.get? b = some ob) : S X m ψ ω s' := by
  refine ⟨x.ext.but (W := fun b => b = C) (fun b hb => by rw [hb]; exact h0) hr hs, x.le, x.new, fun b ob e => hs b ob (fun z => by rw [z, hψ] at e; cases e) (x.sub b ob e), ?_, x.link, x.hnd, x.loc, fun c hc => ?_, x.off, x.fre, fun b ob e => ?_, fun p hp => ?_⟩
  · obtain ⟨fn, gl, bi, ⟨ml, ⟨oL, es, ep, hL, hd⟩, hm⟩, cel, inj, nl⟩ := x.fram
    refine ⟨fn, gl, bi, ⟨ml, ⟨oL, es, ep, hs _ _ (fun z => hf (z ▸ x.loc)) hL, hd⟩, hm⟩, fun y hy => ?_, inj, nl⟩
    obtain ⟨c, hc, oc, hoc, hdc⟩ := cel y hy
    refine ⟨c, hc, oc, hs _ _ (fun z => ?_) hoc, hdc⟩
    obtain ⟨ob, hob⟩ := x.fre y c hc (by rw [z]; exact hf)
    rw [z, h0] at hob; cases hob
  · obtain ⟨o, ho⟩ := x.there c hc
    exact ⟨o, hs c o (fun z => hf (by rw [← z]; exact hc)) ho⟩
  · obtain ⟨k1, k2, k3, k4⟩ := x.own b ob e
    exact ⟨hs b ob (fun z => by rw [z, hω] at e; cases e) k1, k2, k3, k4⟩
  · obtain ⟨k1, k2, k3, k4, k5, k6, k7⟩ := x.tab p hp
    exact ⟨hs _ _ (fun z => by obtain ⟨o, ho⟩ := k6; rw [z, h0] at ho; cases ho) k1, k2, k3, k4, k5, k6, k7⟩

theorem st_assignCompE {x : Str} {px pos lp : Pos} {elt tgt iter : Expr} {ifs : List Expr} {nn : Nat} {Tg : Nat → List (Str × VP)} {keep : Nat → Bool} {R : Nat → VP} (bb : B X Γ ψ ω s) (c : CX ⟨k + 1, n⟩ X)
    (hsw : swapsWith (.ListComp elt [⟨tgt, iter, ifs, 0⟩] scope lp) (some (.Name x px)) pos.line X.env = pure true) (hk : stores X x)
    (hI : SrcE prog w ⟨k + 1, n⟩ X.env.scope Γ ψ iter tgt nn Tg) (hok : compOk X.env.scope scope = true) (hT : ∀ i < nn, ∀ p ∈ Tg i, own scope p.1 = true)
    (ht : ∀ i < nn, EvT prog w ⟨k, n⟩ (relS scope X.env.scope) (Tg i ++ seen scope Γ) ψ ifs (keep i)) (hel : ∀ i < nn, keep i = true → Ev prog w ⟨k, n⟩ (relS scope X.env.scope) (Tg i ++ seen scope Γ) ψ elt (R i)) (hsz : nn ≤ sizeLine)
    (q : ∀ v ψ' s', Le ψ ψ' → (vList (((List.range nn).filter keep).map R)).p ψ' v → B X ((x, vList (((List.range nn).filter keep).map R)) :: Γ) ψ' ω s' → wpAny (model prog w) X.A (execs rest X.env) Q E s')
    (hs : ∀ env x, foldedSetIterable iter env x = pure x := by intro _ _; rfl) :
    wpAny (model prog w) X.A (execs (.Assign [.Name x px] (.ListComp elt [⟨tgt, iter, ifs, 0⟩] scope lp) pos :: rest) X.env) Q E s := by
  refine wpAny_execs_cons ?_
  rw [exec_Assign_Name_used _ _ _ _ hsw]
  refine wpAny_bind (wpAny_standAt (wpAny_bind ?_))
  obtain ⟨m, Y, t⟩ := bb
  show wpAny _ X.A (do let _ ← comprehension (.ListComp elt [⟨tgt, iter, ifs, 0⟩] scope lp) scope X.env _ (newList []) false (eval iter X.env) (some (assign (.Name x px) X.env))) _ _ s
  refine wpAny_bind (wpAny_mono (comp_one (use := some (assign (.Name x px) X.env)) (Q := fun _ s' => wpAny (model prog w) X.A (execs rest X.env) Q E s') (hs X.env) rfl (Y.cx c) (Le.refl _) Y.fram t hI hok hT ht hel hsz fun acc C ψ' s1 m' g p hC hCψ hns => ?_)
    (fun _ s' hq => wpAny_pure (wpAny_pure hq)) fun _ _ e => e)
  have Y1 := Y.grow c g
  have b1 : B X Γ ψ' ω s1 := ⟨m, Y1, t.le g.le⟩
  have hCne : ∀ a o, s.heap.get? a = some o → a ≠ C := fun a o e q => by rw [q, hC] at e; cases e
  have hCω : ω C = none := by
    cases z : ω C with
    | none => rfl
    | some o => exact absurd rfl (hCne C o (Y.own C o z).1)
  have hCf : C ∉ X.ft := fun hm => by obtain ⟨o, ho⟩ := Y.there C hm; exact hCne C o ho rfl
  have hC0 := Y.ext.none hC
  show wpAny _ X.A (assign (.Name x px) X.env acc) _ _ _
  refine wpAny_assign_Name ?_
  obtain ⟨m2, Y2, t2⟩ := b1
  obtain ⟨oC, es, ep, hoC, hdC⟩ := hns
  refine Y2.store' hk fun s2 Y4 hk4 => ?_
  refine ⟨m', ⟨oC, es, ep, hk4 C oC hCf hoC, hdC⟩, fun h' hs' => q acc ψ' _ g.le p ⟨_, Y4.junk hC0 hCψ hCω hCf ⟨h', s2.toks, rfl⟩ fun b ob hb e => (hs'.2 b hb).trans e, t2.cons p⟩⟩
theorem st_assignComp {x : Str} {px pos lp : Pos} {elt tgt iter : Expr} {ifs : List Expr} {P : VP} {nn : Nat} {Tg : Nat → List (Str × VP)} {keep : Nat → Bool} {R : Nat → VP} (bb : B X Γ ψ ω s) (c : CX ⟨k + 1, n⟩ X)
    (hsw : swapsWith (.ListComp elt [⟨tgt, iter, ifs, 0⟩] scope lp) (some (.Name x px)) pos.line X.env = pure true) (hk : stores X x)
    (hi : Ev prog w ⟨k + 1, n⟩ X.env.scope Γ ψ iter P) (hI : Src prog w ⟨k + 1, n⟩ ψ tgt P nn Tg) (hok : compOk X.env.scope scope = true) (hT : ∀ i < nn, ∀ p ∈ Tg i, own scope p.1 = true)
    (ht : ∀ i < nn, EvT prog w ⟨k, n⟩ (relS scope X.env.scope) (Tg i ++ seen scope Γ) ψ ifs (keep i)) (hel : ∀ i < nn, keep i = true → Ev prog w ⟨k, n⟩ (relS scope X.env.scope) (Tg i ++ seen scope Γ) ψ elt (R i)) (hsz : nn ≤ sizeLine)
    (q : ∀ v ψ' s', Le ψ ψ' → (vList (((List.range nn).filter keep).map R)).p ψ' v → B X ((x, vList (((List.range nn).filter keep).map R)) :: Γ) ψ' ω s' → wpAny (model prog w) X.A (execs rest X.env) Q E s')
    (hs : ∀ env x, foldedSetIterable iter env x = pure x := by intro _ _; rfl) :
    wpAny (model prog w) X.A (execs (.Assign [.Name x px] (.ListComp elt [⟨tgt, iter, ifs, 0⟩] scope lp) pos :: rest) X.env) Q E s :=
  st_assignCompE bb c hsw hk (SrcE.of hi hI) hok hT ht hel hsz q hs
end
end Mine
namespace Mine
section
variable {prog : Program} {w : World} {X : Fix} {Γ : List (Str × VP)} {ψ ω φ : PM} {s s' : Shared} {k : Nat} {n b : Bool} {m : Str → Option Value} {μ : Md} {A : Around} {env : Env} {sc scope : Scope}

theorem codeAny_forS {R : Result → Shared → Prop} {target it body orelse env} (I : Nat → Shared → Prop)
    (turn : ∀ n s, I n s → wpAny (model prog w) A (pyNext it) (fun r s₁ => match r with
      | none => wpAny (model prog w) A (execs orelse env) (fun f s₃ => R (.ok f) s₃) (notedBy (model prog w) A env fun e s' => R (.error e) s') s₁
      | some v => wpAny (model prog w) A (letOwnedTupleGo target it v) (fun _ s₁' => wpAny (model prog w) A (assign target env v) (fun _ s₂ => wpAny (model prog w) A (execs body env) (fun f s₃ => match f with
          | .next | .cont => ∃ m, m < n ∧ I m s₃
          | .brk => R (.ok .next) s₃
          | .ret v => R (.ok (.ret v)) s₃) (notedBy (model prog w) A env fun e s' => R (.error e) s') s₂) (notedBy (model prog w) A env fun e s' => R (.error e) s') s₁') (notedBy (model prog w) A env fun e s' => R (.error e) s') s₁) (notedBy (model prog w) A env fun e s' => R (.error e) s') s)
    (n : Nat) (h : I n s) : codeAny (model prog w) A (.forLoop target it body orelse env) R s := by
  refine codeAny_loop' rfl I (fun n s hI => ?_) n h
  show wpAny _ _ ((forTurn target it body orelse env).onRaise (fun x => do noteFrame x env; theTreesLotGoes x)) _ _ s
  refine wpAny_noted ?_
  simp only [forTurn]
  refine wpAny_bind (wpAny_standAt (wpAny_bind (wpAny_onRaise (wpAny_mono (turn n s hI) (fun r s₁ h₁ => ?_) fun _ _ h' => wpAny_standAt h'))))
  cases r with
  | none => exact wpAny_pure (.inr ⟨rfl, codeAny_block h₁⟩)
  | some v =>
    refine wpAny_bind (wpAny_mono h₁ (fun _ s₁' h₁' => ?_) fun _ _ h' => h')
    refine wpAny_bind (wpAny_mono h₁' (fun _ s₂ h₂ => wpAny_bind (wpAny_mono h₂ (fun f s₃ h₃ => ?_) fun _ _ h' => h')) fun _ _ h' => h')
    cases f with
    | next => exact wpAny_pure (.inl ⟨rfl, h₃⟩)
    | cont => exact wpAny_pure (.inl ⟨rfl, h₃⟩)
    | brk => exact wpAny_pure h₃
    | ret v => exact wpAny_pure h₃

noncomputable def SrcB (prog : Program) (w : World) (X : Fix) (Γ : List (Str × VP)) (ψ ω : PM) (s : Shared) (iter tgt : Expr) (n : Nat) (Tg : Nat → List (Str × VP)) : Prop :=
  wpAny (model prog w) X.A (eval iter X.env) (fun v s2 => wpAny (model prog w) X.A (pyIter v) (fun it s' => ∃ ψ1 m1 wr fz St,
    Le ψ ψ1 ∧ S X m1 ψ1 (wput ω wr s'.heap) s' ∧ Typ Γ ψ1 m1 ∧ Steps prog w X.A ψ1 tgt it wr fz n Tg St ∧ St 0 s'.heap ∧ (∀ b ∈ wr, ω b = none) ∧ (∀ b ∈ fz, ∃ o, ψ1 b = some o)) (fun _ _ => False) s2) (fun _ _ => False) s
theorem SrcB.of {iter tgt : Expr} {nn : Nat} {Tg : Nat → List (Str × VP)} (c : CX ⟨k, n⟩ X) (hI : SrcE prog w ⟨k, n⟩ X.env.scope Γ ψ iter tgt nn Tg) (b : B X Γ ψ ω s) : SrcB prog w X Γ ψ ω s iter tgt nn Tg := by
  obtain ⟨m, x, t⟩ := b
  refine wpAny_mono (hI X.A X.env m ψ s rfl (x.cx c) (Le.refl _) x.fram t) (fun v s0 h0 => wpAny_mono h0 (fun it s2 h2 => ?_) fun _ _ e => e.elim) fun _ _ e => e.elim
  obtain ⟨ψ1, s1, wr, fz, St, g1, V, hst, hnew, hfz, hext⟩ := h2
  have x1 := x.grow c g1
  refine ⟨ψ1, m, wr, fz, St, g1.le, x1.wnew c hext hnew, t.le g1.le, V, hst, fun b hb => ?_, hfz⟩
  cases q : ω b with
  | none => rfl
  | some o => have := (x1.own b o q).1; rw [hnew b hb] at this; cases this
theorem st_forB {tgt : Expr} {pos : Pos} {iter : Expr} {body rest : List Stmt} {nn : Nat} {Tg : Nat → List (Str × VP)} {Q : Flow → Shared → Prop} {E : Value → Shared → Prop}
    (J : Nat → List (Str × VP) → PM → PM → Prop) (b : B X Γ ψ ω s) (c : CX ⟨k, n⟩ X) (hI : SrcB prog w X Γ ψ ω s iter tgt nn Tg) (hk : ∀ i < nn, ∀ p ∈ Tg i, stores X p.1)
    (Jst : ∀ i Γ' ψ' ω₁ ω₂, J i Γ' ψ' ω₁ → (∀ a o, ω a = some o → ω₂ a = ω₁ a) → J i Γ' ψ' ω₂) (h0 : ∀ ψ', Le ψ ψ' → J 0 Γ ψ' ω)
    (turn : ∀ i Γi ψi ωi si, i < nn → J i Γi ψi ωi → Le ψ ψi → B X (Tg i ++ Γi) ψi ωi si →
      wpAny (model prog w) X.A (execs body X.env) (forQ prog w X J i ω ψi ωi rest Q E) (forE prog w X E) si)
    (done : ∀ Γ' ψ' ω' s', J nn Γ' ψ' ω' → Le ψ ψ' → B X Γ' ψ' ω' s' → wpAny (model prog w) X.A (execs rest X.env) Q E s')
    (hs : ∀ x, foldedSetIterable iter X.env x = pure x := by intro _; rfl) : wpAny (model prog w) X.A (execs (.For tgt iter body [] pos :: rest) X.env) Q E s := by
  refine ex_cons (wpAny_For (wpAny_mono hI (fun v s0 hz0 => wpAny_mono hz0 (fun it s2 h2 => ?_) fun _ _ e => e.elim) fun _ _ e => e.elim) hs)
  obtain ⟨ψ1, m1, wr, fz, St, l1, x2, t1, V, hst, hwrω, hfz⟩ := h2
  refine codeAny_forS (fun nk s3 => ∃ i Γi ψi ωi, nk = nn - i ∧ i ≤ nn ∧ J i Γi ψi ωi ∧ B X Γi ψi ωi s3 ∧ Le ψ1 ψi ∧ St i s3.heap ∧ ∀ b ∈ wr, ∃ o, ωi b = some o) ?_ nn ?_
  · rintro nk s3 ⟨i, Γi, ψi, ωi, rfl, hle, hJ, ⟨m3, x3, t3⟩, l3, hst3, hw3⟩
    by_cases hlt : i < nn
    · refine wpAny_mono (V.step i X m3 ψi ωi s3 (fun _ s' => ∃ m', S X m' ψi (wput ωi wr s'.heap) s' ∧ Typ (Tg i ++ Γi) ψi m' ∧ St (i + 1) s'.heap) (fun _ _ => False) hlt x3 l3 hst3 hw3 (hk i hlt) fun m' s' Y' T' hs' => ⟨m', Y', T' Γi t3, hs'⟩) (fun r s4 hr => ?_) fun _ _ e => e.elim
      obtain ⟨v, rfl, h1⟩ := hr
      refine wpAny_mono h1 (fun _ s5 h5 => wpAny_mono h5 (fun _ s6 h6 => ?_) fun _ _ e => e.elim) fun _ _ e => e.elim
      obtain ⟨m6, x6, t6, hst6⟩ := h6
      have l4 : Le ψ ψi := l1.trans l3
      have hw6 : ∀ b ∈ wr, ∃ o, wput ωi wr s6.heap b = some o := fun b hb => by rw [wput_on hb]; exact V.live _ _ hst6 b hb
      have frame : ∀ {Γ5 ψ5 ω5 s5}, B X Γ5 ψ5 ω5 s5 → Le ψi ψ5 → (∀ a o, wput ωi wr s6.heap a = some o → ω a = none → ω5 a = some o) → St (i + 1) s5.heap := by
        rintro Γ5 ψ5 ω5 s5 ⟨m5, x5, _⟩ l5 hω
        exact V.keepS hfz hst6 x6 x5 l3 (l3.trans l5) fun b hb => by obtain ⟨o, ho⟩ := hw6 b hb; exact ⟨o, ho, hω b o ho (hwrω b hb)⟩
      have hJ6 : J i Γi ψi (wput ωi wr s6.heap) := Jst i Γi ψi ωi _ hJ fun a o e => wput_off fun hm => by rw [hwrω a hm] at e; cases e
      refine wpAny_mono (turn i Γi ψi _ s6 hlt hJ6 l4 ⟨m6, x6, t6⟩) (fun fl s7 q => ?_) fun _ _ e => e
      cases fl with
      | ret v => exact q
      | brk => exact q
      | next =>
        obtain ⟨Γ6, ψ6, ω6, hJ6, l6, b6, hω6⟩ := q
        refine ⟨nn - (i + 1), by omega, i + 1, Γ6, ψ6, ω6, rfl, hlt, hJ6, b6, l3.trans l6, frame b6 l6 hω6, fun b hb => ?_⟩
        obtain ⟨o, ho⟩ := hw6 b hb
        exact ⟨o, hω6 b o ho (hwrω b hb)⟩
      | cont =>
        obtain ⟨Γ6, ψ6, ω6, hJ6, l6, b6, hω6⟩ := q
        refine ⟨nn - (i + 1), by omega, i + 1, Γ6, ψ6, ω6, rfl, hlt, hJ6, b6, l3.trans l6, frame b6 l6 hω6, fun b hb => ?_⟩
        obtain ⟨o, ho⟩ := hw6 b hb
        exact ⟨o, hω6 b o ho (hwrω b hb)⟩
    · have hin : i = nn := by omega
      subst hin
      refine V.done X m3 ψi ωi s3 _ _ x3 l3 hst3 hw3 fun s4 x4 => ?_
      have hJ5 : J i Γi ψi (wput ωi wr s4.heap) := Jst _ Γi ψi ωi _ hJ fun a o e => wput_off fun hm => by rw [hwrω a hm] at e; cases e
      exact wpAny_execs_nil (done Γi ψi _ _ hJ5 (l1.trans l3) ⟨m3, x4, t3⟩)
  · refine ⟨0, Γ, ψ1, wput ω wr s2.heap, rfl, Nat.zero_le _, Jst 0 Γ ψ1 ω _ (h0 ψ1 l1) fun a o e => wput_off fun hm => ?_, ⟨m1, x2, t1⟩, Le.refl _, hst, fun b hb => ?_⟩
    · rw [hwrω a hm] at e; cases e
    · rw [wput_on hb]; exact V.live _ _ hst b hb
theorem st_for {tgt : Expr} {pos : Pos} {iter : Expr} {body rest : List Stmt} {P : VP} {nn : Nat} {Tg : Nat → List (Str × VP)} {Q : Flow → Shared → Prop} {E : Value → Shared → Prop}
    (J : Nat → List (Str × VP) → PM → PM → Prop) (b : B X Γ ψ ω s) (c : CX ⟨k, n⟩ X) (hi : Ev prog w ⟨k, n⟩ X.env.scope Γ ψ iter P) (hI : Src prog w ⟨k, n⟩ ψ tgt P nn Tg) (hk : ∀ i < nn, ∀ p ∈ Tg i, stores X p.1)
    (Jst : ∀ i Γ' ψ' ω₁ ω₂, J i Γ' ψ' ω₁ → (∀ a o, ω a = some o → ω₂ a = ω₁ a) → J i Γ' ψ' ω₂) (h0 : ∀ ψ', Le ψ ψ' → J 0 Γ ψ' ω)
    (turn : ∀ i Γi ψi ωi si, i < nn → J i Γi ψi ωi → Le ψ ψi → B X (Tg i ++ Γi) ψi ωi si →
      wpAny (model prog w) X.A (execs body X.env) (forQ prog w X J i ω ψi ωi rest Q E) (forE prog w X E) si)
    (done : ∀ Γ' ψ' ω' s', J nn Γ' ψ' ω' → Le ψ ψ' → B X Γ' ψ' ω' s' → wpAny (model prog w) X.A (execs rest X.env) Q E s')
    (hs : ∀ x, foldedSetIterable iter X.env x = pure x := by intro _; rfl) : wpAny (model prog w) X.A (execs (.For tgt iter body [] pos :: rest) X.env) Q E s :=
  st_forB J b c (SrcB.of c (SrcE.of hi hI) b) hk Jst h0 turn done hs

theorem compTurn_outer (elt : Expr) (g1 g2 : Comprehension) (h1 : g1.is_async = 0) (h2 : g2.is_async = 0) (h3 : g1.ifs = []) (scope : Scope) (pos : Pos) (it acc : Value) (env : Env) :
    compTurn (.ListComp elt [g1, g2] scope pos) 0 it acc env = (do
      standAt g1.iter.pos
      match ← pyNext it with
      | none => pure (.done .next)
      | some v =>
        letOwnedTupleGo g1.target it v
        assign g1.target env v
        let x ← eval g2.iter env
        standAt g2.iter.pos
        let x ← foldedSetIterable g2.iter env x
        let _ ← runOwn (.compStart (.ListComp elt [g1, g2] scope pos) 1 (← holding [x] (pyIter x)) acc env) env
        again (.compLoop (.ListComp elt [g1, g2] scope pos) 0 it acc env)) := by
  obtain ⟨t1, i1, f1, a1⟩ := g1
  obtain ⟨t2, i2, f2, a2⟩ := g2
  simp only at h1 h2 h3
  subst h1 h2 h3
  rfl
theorem compTurn_inner (elt tgt iter : Expr) (ifs : List Expr) (g1 : Comprehension) (scope : Scope) (pos : Pos) (it acc : Value) (env : Env) :
    compTurn (.ListComp elt [g1, ⟨tgt, iter, ifs, 0⟩] scope pos) 1 it acc env = (do
      standAt iter.pos
      match ← pyNext it with
      | none => pure (.done .next)
      | some v =>
        letOwnedTupleGo tgt it v
        assign tgt env v
        let mut ok := true
        for c in ifs do
          if ok then ok ← isTrue c env (eval c env)
        if ok then
          (do let _ ← call (.builtin "list.append") [acc, ← eval elt env])
        again (.compLoop (.ListComp elt [g1, ⟨tgt, iter, ifs, 0⟩] scope pos) 1 it acc env)) := by rfl
theorem codeAny_compStart1 {elt tgt iter ifs g1 scope pos it acc env} {R : Result → Shared → Prop}
    (h0 : codeAny (model prog w) A (.compLoop (.ListComp elt [g1, ⟨tgt, iter, ifs, 0⟩] scope pos) 1 it acc env) R s)
    (h : wpAny (model prog w) A (pyIter it) (fun it' s' => codeAny (model prog w) A (.compLoop (.ListComp elt [g1, ⟨tgt, iter, ifs, 0⟩] scope pos) 1 it' acc env) R s')
      (notedBy (model prog w) A env fun x s' => R (.error x) s') s) :
    codeAny (model prog w) A (.compStart (.ListComp elt [g1, ⟨tgt, iter, ifs, 0⟩] scope pos) 1 it acc env) R s := by
  refine codeAny_of_tree ?_
  show wpAny _ _ ((compStart (.ListComp elt [g1, ⟨tgt, iter, ifs, 0⟩] scope pos) 1 it acc env).onRaise (fun x => do noteFrame x env; standAt theWindowsPlace)) _ _ s
  refine wpAny_notedAt ?_
  unfold compStart
  show wpAny _ _ (ask >>= _) _ _ s
  refine wpAny_bind (wpAny_askSetting (wpAny_ite ?_))
  split
  · first
      | exact wpAny_bind (wpAny_pure (wpAny_pure (And.intro rfl h0)))
      | exact wpAny_pure (And.intro rfl h0)
  · first
      | exact wpAny_bind (wpAny_rule (wpAny_bind (wpAny_standAt (wpAny_bind (wpAny_mono h (fun it' s' h' => wpAny_pure (And.intro rfl h')) fun _ _ x => x)))))
      | (refine wpAny_bind (wpAny_rule ?_); show wpAny _ _ (standAt iter.pos >>= _) _ _ s; exact wpAny_bind (wpAny_standAt (wpAny_bind (wpAny_mono h (fun it' s' h' => wpAny_pure (And.intro rfl h')) fun _ _ x => x))))

noncomputable def all2 (n2 : Nat → Nat) (keep : Nat → Nat → Bool) (R : Nat → Nat → VP) (i : Nat) : List VP := (List.range (n2 i)).flatMap (pick (keep i) (R i))
theorem ev_comp2 {elt tgt1 iter1 tgt2 iter2 : Expr} {ifs2 : List Expr} {pos : Pos} {P1 : VP} {n1 : Nat} {Tg1 : Nat → List (Str × VP)} {P2 : Nat → VP} {n2 : Nat → Nat} {Tg2 : Nat → Nat → List (Str × VP)} {keep : Nat → Nat → Bool} {R : Nat → Nat → VP}
    (hi : Ev prog w ⟨k + 1, b⟩ sc Γ φ iter1 P1) (hI : Src prog w ⟨k + 1, b⟩ φ tgt1 P1 n1 Tg1) (hok : compOk sc scope = true) (hT : ∀ i < n1, ∀ p ∈ Tg1 i, own scope p.1 = true)
    (hi2 : ∀ i < n1, Ev prog w ⟨k, b⟩ (relS scope sc) (Tg1 i ++ seen scope Γ) φ iter2 (P2 i)) (hI2 : ∀ i < n1, Src prog w ⟨k, b⟩ φ tgt2 (P2 i) (n2 i) (Tg2 i))
    (hT2 : ∀ i < n1, ∀ j < n2 i, ∀ p ∈ Tg2 i j, own scope p.1 = true ∧ (Tg1 i).lookup p.1 = none)
    (ht : ∀ i < n1, ∀ j < n2 i, EvT prog w ⟨k, b⟩ (relS scope sc) (Tg2 i j ++ (Tg1 i ++ seen scope Γ)) φ ifs2 (keep i j)) (hel : ∀ i < n1, ∀ j < n2 i, keep i j = true → Ev prog w ⟨k, b⟩ (relS scope sc) (Tg2 i j ++ (Tg1 i ++ seen scope Γ)) φ elt (R i j))
    (hsz : ∀ i < n1, ((List.range i).flatMap (all2 n2 keep R)).length + n2 i ≤ sizeLine)
    (hs : ∀ env x, foldedSetIterable iter1 env x = pure x := by intro _ _; rfl) (hs2 : ∀ env x, foldedSetIterable iter2 env x = pure x := by intro _ _; rfl) :
    Ev prog w ⟨k + 1, b⟩ sc Γ φ (.ListComp elt [⟨tgt1, iter1, [], 0⟩, ⟨tgt2, iter2, ifs2, 0⟩] scope pos) (vList ((List.range n1).flatMap (all2 n2 keep R))) := by
  intro A env m ψ s he c le f t
  rw [eval_ListComp]
  refine comp_core0 (L := (List.range n1).flatMap (all2 n2 keep R)) (g := ⟨tgt1, iter1, [], 0⟩) rfl (hs env) he c le f t (SrcE.of hi hI) hok (fun X it acc wr fz St m ω s hA₀ hA I => ?_) fun acc C ψ' s' m' g p hC hCψ hns => ?_
  rotate_left
  · refine ⟨m', hns, fun h' hs' => ⟨ψ', ⟨?_, g.le, fun b o e => (hs'.2 b (fun q => by rw [q, hCψ] at e; cases e)).trans (g.sub b o e), g.new⟩, p⟩⟩
    exact g.ext.but (W := fun b => b = C) (fun b hb => by rw [hb]; exact hC) ⟨h', s'.toks, rfl⟩ fun b ob hb e => (hs'.2 b hb).trans e
  subst hA
  have V := I.steps
  have cx := I.cx
  have L : ∀ s1, s1 = s → codeAny (model prog w) X.A (.compLoop (.ListComp elt [⟨tgt1, iter1, [], 0⟩, ⟨tgt2, iter2, ifs2, 0⟩] scope pos) 0 it (.ref acc) X.env) (compR X acc ((List.range n1).flatMap (all2 n2 keep R))) s1 := by
    rintro s1 rfl
    refine comp_turns (ks := []) (wr := wr) (St := St) (Γc := seen scope Γ) (vs0 := []) (L := all2 n2 keep R) (nn := n1) rfl I.st I.st0 I.typ I.wrO I.accO (fun i m ψ ω s vs j hlt Y l t ha hw hs hlen => ?_) (fun m ψ ω s vs j Y l t ha hw hs => ?_)
      (fun m' ψ' ω' s' vs j Y' l' _ ha _ hall => ⟨rfl, m', ψ', ω', vs, j, Y', by simpa using ha, hall⟩)
    all_goals
      show wpAny _ X.A ((compTurn (.ListComp elt [⟨tgt1, iter1, [], 0⟩, ⟨tgt2, iter2, ifs2, 0⟩] scope pos) 0 it (.ref acc) X.env).onRaise (fun x => do noteFrame x X.env; theTreesLotGoes x)) _ _ s
      refine wpAny_noted ?_
      rw [compTurn_outer _ _ _ rfl rfl rfl]
      refine wpAny_bind (wpAny_standAt (wpAny_bind ?_))
    · refine wpAny_mono (V.step i X m ψ ω s (fun _ s' => ∃ m', S X m' ψ (wput ω wr s'.heap) s' ∧ Typ (Tg1 i ++ seen scope Γ) ψ m' ∧ St (i + 1) s'.heap) (fun _ _ => False) hlt Y l hs hw (fun p hp => I.sto _ (hT i hlt p hp)) fun m' s' Y' T' hs' => ⟨m', Y', T' _ t, hs'⟩) (fun r s1 hr => ?_) fun _ _ e => e.elim
      obtain ⟨v, rfl, h1⟩ := hr
      refine wpAny_bind (wpAny_mono h1 (fun _ s2 h2 => ?_) fun _ _ e => e.elim)
      refine wpAny_bind (wpAny_mono h2 (fun _ s' h3 => ?_) fun _ _ e => e.elim)
      obtain ⟨m', Y', t1, hs'⟩ := h3
      have hw1 : ∀ b ∈ wr, ∃ o, wput ω wr s'.heap b = some o := fun b hb => by rw [wput_on hb]; exact V.live _ _ hs' b hb
      have ha1 : wput ω wr s'.heap acc = some (lst vs j) := by rw [wput_off I.ne]; exact ha
      refine wpAny_bind ((hi2 i hlt X.A X.env m' ψ s' I.sc (Y'.cx cx) (I.le.trans l) Y'.fram t1).use fun xv ψ2 s2 g2 p2 => ?_)
      have Y2 := Y'.grow cx g2
      refine wpAny_bind (wpAny_standAt (wpAny_bind (wpAny_of_eq (hs2 X.env xv) (wpAny_bind (wpAny_holding ?_)))))
      refine wpAny_mono (hI2 i hlt X.A ψ2 s2 xv (Y2.cx cx) (I.le.trans (l.trans g2.le)) p2) (fun it2 s3 h3 => ?_) fun _ _ e => e.elim
      obtain ⟨wr2, fz2, St2, V2, hst2, hnew2, hfz2, hext2⟩ := h3
      have Y3 := Y2.wnew cx hext2 hnew2
      have hwr2 : ∀ b ∈ wr2, wput ω wr s'.heap b = none := fun b hb => by
        cases q : wput ω wr s'.heap b with
        | none => rfl
        | some o => have := (Y2.own b o q).1; rw [hnew2 b hb] at this; cases this
      have hwr : ∀ b ∈ wr, b ∉ wr2 := fun b hb h2 => by obtain ⟨o, ho⟩ := hw1 b hb; rw [hwr2 b h2] at ho; cases ho
      have hacc2 : acc ∉ wr2 := fun h2 => by rw [hwr2 acc h2] at ha1; cases ha1
      have ha3 : wput (wput ω wr s'.heap) wr2 s3.heap acc = some (lst vs j) := by rw [wput_off hacc2]; exact ha1
      have hw3 : ∀ b ∈ wr2, ∃ o, wput (wput ω wr s'.heap) wr2 s3.heap b = some o := fun b hb => by rw [wput_on hb]; exact V2.live _ _ hst2 b hb
      have L2 : codeAny (model prog w) X.A (.compLoop (.ListComp elt [⟨tgt1, iter1, [], 0⟩, ⟨tgt2, iter2, ifs2, 0⟩] scope pos) 1 it2 (.ref acc) X.env)
          (fun r s4 => r = .ok .next ∧ Tn X acc wr [] St (seen scope Γ) ψ ω vs i (all2 n2 keep R i) s4) s3 := by
        refine comp_inner (ks := wr) (iter := iter2) (tgt := tgt2) (ifs := ifs2) (vs0 := vs) (Γc := Tg1 i ++ seen scope Γ) (keep := keep i) (E := R i) (fun _ _ _ => compTurn_inner ..) cx I.sc V2 hst2 hfz2 Y3 (t1.le g2.le) hw3 ha3 hacc2
          (fun b hb => ⟨hwr b hb, fun q => I.ne (q ▸ hb)⟩) (fun jj hj p hp => I.sto _ (hT2 i hlt jj hj p hp).1) (fun jj hj ψ m t => t.sub fun x P hx => ?_)
          (fun jj hj A env m ψ s h1 h2 h3 h4 h5 => ht i hlt jj hj A env m ψ s h1 h2 (I.le.trans (l.trans (g2.le.trans h3))) h4 h5) (fun jj hj hk => (hel i hlt jj hj hk).le (I.le.trans (l.trans g2.le))) (by have := hsz i hlt; rw [List.length_nil, Nat.zero_add] at hlen; omega) ?_
        · have : (Tg2 i jj).lookup x = none := by
            cases q : (Tg2 i jj).lookup x with
            | none => rfl
            | some P' =>
              obtain ⟨h1, h2⟩ := hT2 i hlt jj hj _ (mem_of_lookup q)
              simp only at h1 h2
              rw [List.lookup_append, h2] at hx
              have hm := mem_of_lookup (show (seen scope Γ).lookup x = some P by simpa using hx)
              have := (List.mem_filter.mp hm).2
              rw [h1] at this; simp at this
          rw [List.lookup_append, this]; simpa using hx
        · intro m4 ψ4 ω4 s4 vs4 j4 Y4 l4 t4 ha4 hk4 hall4
          refine ⟨rfl, m4, ψ4, ω4, vs4, j4, Y4, g2.le.trans l4, seen_drop (hT i hlt) t4, ha4, fun b hb => ?_, (fun b hb => by cases hb), ?_, hall4⟩
          · rw [hk4 b hb, wput_off (hwr b hb)]; exact hw1 b hb
          · exact V.keepS I.fzO hs' Y' Y4 l (l.trans (g2.le.trans l4)) fun b hb => by
              obtain ⟨o, ho⟩ := hw1 b hb
              exact ⟨o, ho, by rw [hk4 b hb, wput_off (hwr b hb)]; exact ho⟩
      refine wpAny_bind (wpAny_runOwn (h := none) ?_)
      show codeAny (model prog w) X.A _ _ _
      have L3 := codeAny_compStart1 L2 (V2.self 0 _ _ _ hst2 L2)
      refine codeAny_mono L3 fun r s4 hr => ?_
      obtain ⟨rfl, hT⟩ := hr
      exact wpAny_pure ⟨rfl, hT⟩
    · refine V.done X m ψ ω s _ _ Y l hs hw fun s' Y' => ?_
      exact wpAny_pure ⟨rfl, _, Y', by rw [wput_off I.ne]; exact ha, fun b hb => by cases hb⟩
  exact codeAny_compStart_list (L _ rfl) (V.self 0 _ _ _ I.st (L _ rfl))
end
end Mine
namespace Mine
section
variable {prog : Program} {w : World} {X : Fix} {Γ : List (Str × VP)} {ψ ω φ : PM} {s s' : Shared} {k : Nat} {n b : Bool} {m : Str → Option Value} {μ : Md} {A : Around} {env : Env} {sc scope : Scope}

noncomputable def OfT (P : VP) (T : String) : Prop := ∀ ψ v (s : Shared), Sub ψ s.heap → P.p ψ v → s.TypeIs v T
theorem ofT_seq {c : String} {ps : List VP} : OfT (vSeq c ps) c := by
  rintro ψ v s hs ⟨a, vs, n, rfl, ho, _⟩
  exact ⟨_, hs _ _ ho, rfl⟩
theorem lookup_list_getitem : typeLookup (.type "list") "__getitem__" = pure (some (.builtin "list.__getitem__")) := slot_list_getitem.lookup
theorem lookup_tuple_getitem : typeLookup (.type "tuple") "__getitem__" = pure (some (.builtin "tuple.__getitem__")) := PySem.F.slot_tuple_getitem.lookup
theorem ev_sub {value slice : Expr} {pos : Pos} {P I R : VP} {T id : String} (hT : OfT P T) (hl : typeLookup (.type T) "__getitem__" = pure (some (.builtin id))) (hv : Ev prog w μ sc Γ φ value P) (hi : Ev prog w μ sc Γ φ slice I)
    (ho : Op2 prog w μ φ getItem P I R) (hsl : (∀ o i, subscripted slice false o i = operate [o, i] (getItem o i)) ∨ (∀ o i, subscripted slice false o i = operate [i, o] (getItem o i))) : Ev prog w μ sc Γ φ (.Subscript value slice pos) R := by
  intro A env m ψ s he c le f t
  rw [arm_eval_Subscript]
  refine Good.bind (hv A env m ψ s he c le f t) fun o ψ1 s1 g1 p1 => ?_
  have c1 := c.grow g1
  refine wpAny_bind (wpAny_holding ((hi A env m ψ1 s1 he c1 (le.trans g1.le) (f.ext g1.ext) (t.le g1.le)).use fun i ψ2 s2 g2 p2 => ?_))
  have p1' := P.mono g2.le p1
  have hT2 := hT ψ2 o s2 g2.sub p1'
  refine wpAny_bind (wpAny_standAt (wpAny_bind ?_))
  rw [getitemInPython_of_ne hT2.not_modules]
  refine wpAny_bind (wpAny_specialOf hT2 hl ?_)
  have fin : ∀ l, wpAny (model prog w) A (operate l (getItem o i)) (fun r s3 => wpAny (model prog w) A (letTemporaryGo value o r >>= fun _ => pure r) (fun v s' => ∃ ψ', Grow (frs A) ψ1 s1 ψ' s' ∧ R.p ψ' v) (fun _ _ => False) s3) (fun _ _ => False) s2 := fun l =>
    wpAny_operate ((ho A ψ2 s2 o i (c1.grow g2) (le.trans (g1.le.trans g2.le)) p1' p2).use fun v ψ3 s3 g3 p3 => wpAny_bind (wpAny_letTemporaryGo (wpAny_pure ⟨ψ3, g2.trans g3, p3⟩)))
  rcases hsl with h | h
  · refine wpAny_pure (wpAny_bind ?_)
    rw [h]; exact fin _
  · refine wpAny_pure (wpAny_bind ?_)
    rw [h]; exact fin _

theorem get_list {ps : List VP} {i : Int} {P : VP} (h0 : 0 ≤ i) (hi : i < 2 ^ 63) (he : ps[i.toNat]? = some P) : Op2 prog w μ φ getItem (vList ps) (vInt i) P := by
  rintro A ψ s _ _ c l ⟨a, vs, j, rfl, ho, hall⟩ ⟨t, rfl⟩
  obtain ⟨v, hv, hp⟩ := hall.get he
  exact wpAny_getItem_list (items := vs.toArray) ⟨_, c.sub _ _ ho, rfl, j, rfl⟩ h0 hi (by simpa using hv) ⟨ψ, Grow.refl c.sub, hp⟩
theorem get_tup {ps : List VP} {i : Nat} {P : VP} (hi : (i : Int) < 2 ^ 63) (he : ps[i]? = some P) : Op2 prog w μ φ getItem (vTup ps) (vInt i) P := by
  rintro A ψ s _ _ c l ⟨a, vs, j, rfl, ho, hall⟩ ⟨t, rfl⟩
  obtain ⟨v, hv, hp⟩ := hall.get he
  have hlt : i < vs.length := by
    have := List.getElem?_eq_some_iff.mp hv
    exact this.1
  refine getItem_tuple (items := vs.toArray) (j := i) ⟨_, c.sub _ _ ho, rfl, j, rfl⟩ (by omega) hi ?_ (by simpa using hv) ⟨ψ, Grow.refl c.sub, hp⟩
  unfold seqIndex?
  have h1 : ¬ ((i : Int) < 0) := by omega
  have h2 : (0 ≤ (i : Int) && (i : Int) < ((vs.toArray.size : Nat) : Int)) = true := by simp; exact hlt
  simp only [h1, if_false]
  rw [if_pos h2]; simp

noncomputable def vPart : Option Int → VP
  | none => vNone
  | some i => vInt i
noncomputable def vSlice (lo hi st : Option Int) : VP := ⟨fun φ v => ∃ a vl vu vs, v = .ref a ∧ φ a = some { cls := .type "slice", data := .fields #[vl, vu, vs] } ∧ IsPart vl lo ∧ IsPart vu hi ∧ IsPart vs st, fun le ⟨a, vl, vu, vs, e, h, r⟩ => ⟨a, vl, vu, vs, e, le _ _ h, r⟩⟩
theorem vPart_is {o : Option Int} {v : Value} (h : (vPart o).p ψ v) : IsPart v o := by
  cases o with
  | none => cases h; exact .none
  | some i => obtain ⟨t, rfl⟩ := h; exact .int i t
noncomputable def EvP (prog : Program) (w : World) (μ : Md) (sc : Scope) (Γ : List (Str × VP)) (φ : PM) : Option Expr → Option Int → Prop
  | none, o => o = none
  | some e, o => ∃ i, o = some i ∧ Ev prog w μ sc Γ φ e (vInt i)
theorem evPart_ok {x : Option Expr} {o : Option Int} (h : EvP prog w μ sc Γ φ x o) {A : Around} {env : Env} {m : Str → Option Value} {s : Shared} (he : env.scope = sc) (c : Cx μ A ψ s) (le : Le φ ψ) (f : Fram env m s.heap) (t : Typ Γ ψ m) : Good prog w A ψ s (evalPart x env) (vPart o) := by
  cases x with
  | none => cases h; exact Good.pure c.sub rfl
  | some e => obtain ⟨i, rfl, h⟩ := h; exact h A env m ψ s he c le f t
theorem ev_slice {lower upper step : Option Expr} {p : Pos} {lo hi st : Option Int} (h1 : EvP prog w μ sc Γ φ lower lo) (h2 : EvP prog w μ sc Γ φ upper hi) (h3 : EvP prog w μ sc Γ φ step st) : Ev prog w μ sc Γ φ (.Slice lower upper step p) (vSlice lo hi st) := by
  intro A env m ψ s he c le f t
  refine wpAny_Slice ((evPart_ok h1 he c le f t).use fun v1 ψ1 s1 g1 p1 => ?_)
  have c1 := c.grow g1
  refine (evPart_ok h2 he c1 (le.trans g1.le) (f.ext g1.ext) (t.le g1.le)).use fun v2 ψ2 s2 g2 p2 => ?_
  have g12 := g1.trans g2
  refine (evPart_ok h3 he (c1.grow g2) (le.trans g12.le) (f.ext g12.ext) (t.le g12.le)).use fun v3 ψ3 s3 g3 p3 => ?_
  exact ⟨_, (g12.trans g3).trans (Grow.push g3.sub _ rfl s3.toks), _, _, _, _, rfl, put_self _ _ _, vPart_is p1, vPart_is p2, vPart_is p3⟩
noncomputable def pickL {α : Type} (items : List α) (lo hi st : Option Int) : List α :=
  (sliceRange (sliceBounds lo hi st items.length).1 (sliceBounds lo hi st items.length).2.1 (sliceBounds lo hi st items.length).2.2).filterMap (items[·]?)
theorem All2.filterMap {α β : Type} {R : α → β → Prop} {as : List α} {bs : List β} (h : All2 R as bs) : ∀ (l : List Nat), All2 R (l.filterMap (as[·]?)) (l.filterMap (bs[·]?))
  | [] => .nil
  | i :: r => by
    have ih := All2.filterMap h r
    cases q : as[i]? with
    | none =>
      have : bs[i]? = none := by
        rw [List.getElem?_eq_none_iff] at q ⊢
        rw [← h.length]; exact q
      rw [List.filterMap_cons_none q, List.filterMap_cons_none this]; exact ih
    | some a =>
      obtain ⟨b, hb, r'⟩ := h.get q
      rw [List.filterMap_cons_some q, List.filterMap_cons_some hb]
      exact .cons r' ih
theorem get_slice {ps : List VP} {lo hi st : Option Int} (h0 : st ≠ some 0) (hsz : ps.length ≤ sizeLine) : Op2 prog w μ φ getItem (vList ps) (vSlice lo hi st) (vList (pickL ps lo hi st)) := by
  rintro A ψ s _ _ c l ⟨a, vs, j, rfl, ho, hall⟩ ⟨sa, vl, vu, vst, rfl, hs, p1, p2, p3⟩
  have hlen := hall.length
  refine wpAny_getItem_list_slice (items := vs.toArray) ⟨_, c.sub _ _ ho, rfl, j, rfl⟩ ⟨_, c.sub _ _ hs, rfl, rfl⟩ p1 p2 p3 h0 ?_ (by rw [List.size_toArray, ← hlen]; exact hsz)
  refine ⟨_, Grow.push c.sub _ rfl s.toks, _, pickL vs lo hi st, 0, rfl, ?_, ?_⟩
  · rw [put_self]
    unfold slicePick pickL
    simp
  · unfold pickL
    rw [hlen]
    exact (hall.filterMap _).imp fun P v x => P.mono (le_put (none_of_sub c.sub (get_size _))) x

theorem add_lists {ps qs : List VP} (hsz : ps.length + qs.length ≤ sizeLine) : Op2 prog w μ φ (binaryOp .Add) (vList ps) (vList qs) (vList (ps ++ qs)) := by
  rintro A ψ s _ _ c l ⟨a, vs, j, rfl, ho, hall⟩ ⟨a', vs', j', rfl, ho', hall'⟩
  refine PySem.P.add_list (items := vs.toArray) (items2 := vs'.toArray) (c.sub _ _ ho) (c.sub _ _ ho') ?_ (by simp only [List.size_toArray]; rw [← hall.length, ← hall'.length]; exact hsz)
  refine ⟨_, Grow.push c.sub _ rfl s.toks, _, vs ++ vs', 0, rfl, ?_, ?_⟩
  · rw [put_self]; simp
  · exact (hall.append hall').imp fun P v x => P.mono (le_put (none_of_sub c.sub (get_size _))) x
theorem one_arg {P : VP} {vs : List Value} (h : All2 (fun (P : VP) v => P.p ψ v) [P] vs) : ∃ v, vs = [v] ∧ P.p ψ v := by cases h with | cons h1 h => cases h; exact ⟨_, rfl, h1⟩
theorem two_args {P Q : VP} {vs : List Value} (h : All2 (fun (P : VP) v => P.p ψ v) [P, Q] vs) : ∃ v u, vs = [v, u] ∧ P.p ψ v ∧ Q.p ψ u := by cases h with | cons h1 h => cases h with | cons h2 h => cases h; exact ⟨_, _, rfl, h1, h2⟩
theorem three_args {P Q R : VP} {vs : List Value} (h : All2 (fun (P : VP) v => P.p ψ v) [P, Q, R] vs) : ∃ v u z, vs = [v, u, z] ∧ P.p ψ v ∧ Q.p ψ u ∧ R.p ψ z := by cases h with | cons h1 h => cases h with | cons h2 h => cases h with | cons h3 h => cases h; exact ⟨_, _, _, rfl, h1, h2, h3⟩
theorem call_len {ps : List VP} (hsz : (ps.length : Int) < 2 ^ 63) : Spec prog w μ φ (.builtin "len") [vList ps] (vInt ps.length) := by
  intro A ψ s vs c l h
  obtain ⟨v, rfl, a, us, j, rfl, ho, hall⟩ := one_arg h
  refine call_len_list (items := us.toArray) ⟨_, c.sub _ _ ho, rfl, j, rfl⟩ (by rw [List.size_toArray, ← hall.length]; exact hsz) ⟨ψ, grow_tok c.sub, s.toks + 1, by rw [List.size_toArray, ← hall.length]⟩
theorem call_len_t {ps : List VP} (hsz : (ps.length : Int) < 2 ^ 63) : Spec prog w μ φ (.builtin "len") [vTup ps] (vInt ps.length) := by
  intro A ψ s vs c l h
  obtain ⟨v, rfl, a, us, j, rfl, ho, hall⟩ := one_arg h
  refine len_tuple (items := us.toArray) ⟨_, c.sub _ _ ho, rfl, j, rfl⟩ (by rw [List.size_toArray, ← hall.length]; exact hsz) ⟨ψ, grow_tok c.sub, s.toks + 1, by rw [List.size_toArray, ← hall.length]⟩
theorem call_list {c' : String} {ps : List VP} (hc : c' = "list" ∨ c' = "tuple") (hsz : ps.length ≤ sizeLine) : Spec prog w μ φ (.type "list") [vSeq c' ps] (vList ps) := by
  intro A ψ s vs c l h
  obtain ⟨v, rfl, a, us, j, rfl, ho, hall⟩ := one_arg h
  refine call_list_seq (items := us.toArray) a hc (c.sub _ _ ho) rfl rfl (fun h' cap hk hn => ?_) (by rw [List.size_toArray, ← hall.length]; exact hsz)
  have hno := none_of_sub c.sub (get_size s.heap)
  refine ⟨put ψ s.heap.objs.size { cls := .type "list", data := .seq us.toArray cap }, ⟨Ext.of_keeps (tk := s.toks) hk, le_put hno, Sub.put (fun b o e => hk b o (c.sub b o e)) hn, fun b o e => ?_⟩, _, us, cap, rfl, put_self _ _ _, hall.imp fun P v x => P.mono (le_put hno) x⟩
  by_cases q : b = s.heap.objs.size
  · subst q; exact .inr (get_size _)
  · rw [put_ne q] at e; exact .inl e
theorem call_tuple {ps : List VP} (hsz : ps.length ≤ sizeLine) : Spec prog w μ φ (.type "tuple") [vList ps] (vTup ps) := by
  intro A ψ s vs c l h
  obtain ⟨v, rfl, a, us, j, rfl, ho, hall⟩ := one_arg h
  refine call_tuple_list (items := us.toArray) ⟨_, c.sub _ _ ho, rfl, j, rfl⟩ (fun h' hk => ?_) (by rw [List.size_toArray, ← hall.length]; exact hsz)
  have e1 : Ext (frs A) s { s with heap := h' } := Ext.of_keeps (tk := s.toks) hk
  have g1 : Grow (frs A) ψ s ψ { s with heap := h' } := ⟨e1, Le.refl _, fun b o e => hk b o (c.sub b o e), fun _ _ e => .inl e⟩
  have g2 := Grow.push (F := frs A) g1.sub { cls := .type "tuple", data := .seq us.toArray } rfl s.toks
  exact ⟨_, g1.trans g2, _, us, 0, rfl, put_self _ _ _, hall.imp fun P v x => P.mono g2.le x⟩
end
end Mine
namespace Mine
section
variable {prog : Program} {w : World} {X : Fix} {Γ : List (Str × VP)} {ψ ω φ : PM} {s s' : Shared} {k : Nat} {n b : Bool} {m : Str → Option Value} {μ : Md} {A : Around} {env : Env} {sc scope : Scope}

noncomputable def Rd (P : VP) (d : PyData) : Prop := ∀ ψ (h : Heap) v, Sub ψ h → P.p ψ v → ∃ as, Reads h v d as
theorem rd_str (x : Str) : Rd (vStr x) (.str x) := by rintro ψ h v hs ⟨t, rfl⟩; exact ⟨_, .str x t⟩
theorem rd_all {ps : List VP} {ds : List PyData} (h : All2 Rd ps ds) {ψ : PM} {hp : Heap} (hs : Sub ψ hp) : ∀ {vs : List Value}, All2 (fun (P : VP) v => P.p ψ v) ps vs → ∃ as, ReadsAll hp vs ds as := by
  induction h with
  | nil => intro vs h; cases h; exact ⟨_, .nil⟩
  | cons h0 _ ih =>
    intro vs h
    cases h with
    | cons h1 h2 =>
      obtain ⟨as, r⟩ := h0 ψ hp _ hs h1
      obtain ⟨bs, rs⟩ := ih h2
      exact ⟨_, .cons r rs⟩
theorem rd_list {ps : List VP} {ds : List PyData} (h : All2 Rd ps ds) : Rd (vList ps) (.list ds) := by
  rintro ψ hp v hs ⟨a, vs, n, rfl, ho, hall⟩
  obtain ⟨as, r⟩ := rd_all h hs hall
  exact ⟨_, .list (hs _ _ ho) rfl rfl (by simpa using r)⟩
theorem rd_tup {ps : List VP} {ds : List PyData} (h : All2 Rd ps ds) : Rd (vTup ps) (.tuple ds) := by
  rintro ψ hp v hs ⟨a, vs, n, rfl, ho, hall⟩
  obtain ⟨as, r⟩ := rd_all h hs hall
  exact ⟨_, .tuple (hs _ _ ho) rfl rfl (by simpa using r)⟩
theorem rd_map {α : Type} {f : α → VP} {g : α → PyData} (h : ∀ a, Rd (f a) (g a)) : ∀ (l : List α), All2 Rd (l.map f) (l.map g)
  | [] => .nil
  | a :: r => .cons (h a) (rd_map h r)
theorem op_eq_data {P Q : VP} {da db : PyData} (hk : 7 ≤ μ.k) (hp : Rd P da) (hq : Rd Q db) (ha : PySem.SeqAt.shaped da = true) (hb : PySem.SeqAt.shaped db = true) : Op2 prog w μ φ (compareOp .Eq) P Q (vBool (PyData.eqv da db)) := by
  intro A ψ s a b c l pa pb
  obtain ⟨as, ra⟩ := hp ψ _ a c.sub pa
  obtain ⟨bs, rb⟩ := hq ψ _ b c.sub pb
  exact eq_dataH ra rb ha hb (by have := c.units; show _ < 9900; omega) ⟨ψ, Grow.refl c.sub, rfl⟩
theorem op_ne_data {P Q : VP} {da db : PyData} (hk : 7 ≤ μ.k) (hp : Rd P da) (hq : Rd Q db) (ha : PySem.SeqAt.shaped da = true) (hb : PySem.SeqAt.shaped db = true) : Op2 prog w μ φ (compareOp .NotEq) P Q (vBool (!PyData.eqv da db)) := by
  intro A ψ s a b c l pa pb
  obtain ⟨as, ra⟩ := hp ψ _ a c.sub pa
  obtain ⟨bs, rb⟩ := hq ψ _ b c.sub pb
  exact ne_dataH ra rb ha hb (by have := c.units; show _ < 9900; omega) ⟨ψ, Grow.refl c.sub, rfl⟩

theorem op_lt_str {x y : Str} : Op2 prog w μ φ (compareOp .Lt) (vStr x) (vStr y) (vBool (x.cps.toList < y.cps.toList)) := by
  rintro A ψ s _ _ c l ⟨t, rfl⟩ ⟨u, rfl⟩
  exact PySem.P.lt_str ⟨ψ, Grow.refl c.sub, rfl⟩
theorem op_gt_str {x y : Str} : Op2 prog w μ φ (compareOp .Gt) (vStr x) (vStr y) (vBool (y.cps.toList < x.cps.toList)) := by
  rintro A ψ s _ _ c l ⟨t, rfl⟩ ⟨u, rfl⟩
  exact PySem.P.gt_str ⟨ψ, Grow.refl c.sub, rfl⟩
theorem op_eq_str {x y : Str} : Op2 prog w μ φ (compareOp .Eq) (vStr x) (vStr y) (vBool (x == y)) := by
  rintro A ψ s _ _ c l ⟨t, rfl⟩ ⟨u, rfl⟩
  exact PyProof.Rows.eq_str ⟨ψ, Grow.refl c.sub, rfl⟩

theorem op_isNot_bool {x y : Bool} : Op2 prog w μ φ (compareOp .IsNot) (vBool x) (vBool y) (vBool (x != y)) := by
  rintro A ψ s _ _ c l rfl rfl
  exact wpAny_isNot_plain (by cases x <;> cases y <;> rfl) ⟨ψ, Grow.refl c.sub, by cases x <;> cases y <;> rfl⟩

theorem tru_int {i : Int} : Tru prog w μ φ (vInt i) (i != 0) := by
  rintro A ψ s v c le ⟨t, rfl⟩
  exact PyProof.Rows.truthy_int ⟨rfl, ψ, Grow.refl c.sub⟩
theorem tru_list {ps : List VP} (hsz : ps.length ≤ sizeLine) : Tru prog w μ φ (vList ps) (!ps.isEmpty) := by
  rintro A ψ s v c le ⟨a, vs, j, rfl, ho, hall⟩
  have hl := hall.length
  refine wpAny_truthy_list (items := vs.toArray) ⟨_, c.sub _ _ ho, rfl, j, rfl⟩ ?_ ⟨?_, ψ, grow_tok c.sub⟩
  · rw [List.size_toArray, ← hl]
    have : sizeLine < 2 ^ 63 := by decide
    omega
  · cases hall <;> rfl

theorem preSum_is (ns : List Int) : ∀ k, k ≤ ns.length → preSum (fun i => ns.getD i 0) k = (ns.take k).sum
  | 0, _ => rfl
  | k + 1, h => by
    show preSum _ k + _ = _
    rw [preSum_is ns k (by omega), List.take_add_one, List.sum_append]
    have : ns[k]? = some (ns.getD k 0) := by rw [List.getElem?_eq_getElem (by omega), List.getD_eq_getElem?_getD, List.getElem?_eq_getElem (by omega)]; rfl
    rw [this]; simp
theorem call_sum {P : VP} {ns : List Int} (h : Itr prog w ⟨k, n⟩ φ P (ns.map vInt)) : Spec prog w ⟨k + 1, n⟩ φ (.builtin "sum") [P] (vInt ns.sum) := by
  intro A ψ s vs c l hv
  obtain ⟨v, rfl, p⟩ := one_arg hv
  refine call_sum_walkG ?_
  refine wpAny_mono (h A.in1 ψ s v c.in1 l p) (fun it s2 h2 => ?_) fun _ _ e => e.elim
  obtain ⟨I, wr, fz, Pv, St, rfl, V, hst, hnew, hfz, hitem, hext⟩ := h2
  obtain ⟨⟨fp, W, hfp⟩, hlive⟩ := V
  have W' := W.bound
  refine ⟨I, fp, wr, _, _, St, fun i => ns.getD i 0, rfl, W', hst, fun b hb => ?_, fun i v ⟨hi, hv⟩ => ?_, fun h' tk t' hk => ?_⟩
  · rcases hfp b hb with z | z
    · obtain ⟨o, ho⟩ := hlive _ _ hst b z; exact Heap.lt_size ho
    · obtain ⟨o, ho⟩ := hfz b z
      obtain ⟨o', e1⟩ := hext.there (c.sub _ _ ho)
      exact Heap.lt_size e1
  · obtain ⟨Q, hQ, hq⟩ := hitem i v hi hv
    rw [List.getElem?_map] at hQ
    cases q : ns[i]? with
    | none => rw [q] at hQ; cases hQ
    | some j =>
      rw [q] at hQ
      cases hQ
      obtain ⟨t, rfl⟩ := hq
      exact ⟨t, by show Value.int j t = Value.int (ns.getD i 0) t; rw [List.getD_eq_getElem?_getD, q]; rfl⟩
  · have e1 : Ext (frs A) s { s2 with heap := h', toks := tk } := hext.but (W := fun b => b ∈ wr) hnew ⟨h', tk, rfl⟩ fun b ob hb e => hk b ob hb e
    refine ⟨ψ, Grow.of_ext e1 c.sub c.off, t', ?_⟩
    rw [List.length_map, preSum_is ns _ (Nat.le_refl _), List.take_length]
end
end Mine
namespace Mine
section
variable {prog : Program} {w : World} {X : Fix} {Γ : List (Str × VP)} {ψ ω φ : PM} {s s' : Shared} {k : Nat} {n b : Bool} {m : Str → Option Value} {μ : Md} {A : Around} {env : Env} {sc scope : Scope}


structure Deep (X : Fix) : Prop where
  hx : X.hx = none
  dp : X.A = X.A₀.deeper X.env ∧ X.env.frame = some X.env.locals
noncomputable def BodyOk (prog : Program) (w : World) (k : Nat) (n : Bool) (φ : PM) (sc : Scope) (Γ : List (Str × VP)) (body : List Stmt) (R : VP) : Prop :=
  ∀ X ψ s (E : Value → Shared → Prop), X.env.scope = sc → CX ⟨k, n⟩ X → Le φ ψ → (∀ c ∈ X.env.cells.map (·.2), c ∈ X.ft) → Deep X → B X Γ ψ (fun _ => none) s →
    wpAny (model prog w) X.A (execs body X.env) (fun fl s2 => ∃ ψ', Grow X.F X.ψ₀ X.s₀ ψ' s2 ∧ R.p ψ' (outOf fl)) E s
theorem S.dp {m : Str → Option Value} {ψ ω : PM} {s : Shared} (x : S X m ψ ω s) (h : X.A = X.A₀.deeper X.env) (hx : X.hx = none) : X.A = X.A₀.deeper X.env ∧ X.env.frame = some X.env.locals := by
  obtain ⟨A₀, A, ψ₀, s₀, ft, env, hx', tb⟩ := X
  have l := x.link
  dsimp only at *
  subst h; subst hx
  refine ⟨rfl, ?_⟩
  generalize hA : A₀.deeper env = A at l
  cases l with
  | deep h => exact h
  | same => have := congrArg Around.depth hA; simp [Around.deeper] at this
theorem spec_def {a : Addr} {fd : FuncData} {body : List Stmt} {names : List Str} {Ps : List VP} {R : VP} (K : FnK φ a fd) (hb : fd.body = .stmts body) (hcl : fd.closure = []) (hlen : names.length = Ps.length)
    (hbind : ∀ vs : List Value, vs.length = names.length → bindArgs fd ⟨vs, []⟩ = pure (names.zip vs)) (hnd : decide (names.Nodup) = true)
    (hkind : (names.all fun y => fd.scope.names.lookup y == some .local || fd.scope.names.lookup y == some .cell) = true) (hfree : (fd.scope.names.all fun x => x.2 != .free) = true) (hnd' : decide (((cellsFrom 0 fd.scope.names []).map (·.1)).Nodup) = true)
    (h : BodyOk prog w k n φ fd.scope (names.zip Ps) body R) : Spec prog w ⟨k + 1, n⟩ φ (.ref a) Ps R := by
  intro A ψ s vs c l hv
  have hl : vs.length = names.length := by rw [hlen, hv.length]
  refine enter_cells (tb := []) (fun p hp => by cases hp) c (K.le l) hb hcl (BindsTo.of_eq (hbind vs hl)) ?_ hfree hnd' fun env s' he hcd x' => ?_
  · rw [List.all_eq_true] at hkind ⊢
    intro y hy
    exact hkind y.1 (List.of_mem_zip hy).1
  · refine h ⟨A, A.deeper env, ψ, s, env.locals :: env.cells.map (·.2), env, none, []⟩ ψ s' _ he (CX.of c rfl) l (fun c hc => List.mem_cons_of_mem _ hc) ⟨rfl, x'.dp rfl rfl⟩ ⟨_, x', ?_⟩
    refine typ_binds ?_ ?_
    · refine All2.of_get (by simp [hl, hlen]) fun i a b ha hb => ?_
      rw [List.getElem?_zip_eq_some] at ha hb
      refine ⟨by have := ha.1.symm.trans hb.1; exact Option.some.inj this, ?_⟩
      obtain ⟨v, hv', hp⟩ := hv.get ha.2
      rw [hb.2] at hv'; cases hv'
      exact hp
    · have : (names.zip Ps).map (·.1) = names := by rw [List.map_fst_zip (by omega)]
      rw [this]; exact hnd
theorem list_len1 {α : Type} {vs : List α} (h : vs.length = 1) : ∃ a, vs = [a] := by
  match vs, h with | [a], _ => exact ⟨a, rfl⟩
theorem list_len2 {α : Type} {vs : List α} (h : vs.length = 2) : ∃ a b, vs = [a, b] := by
  match vs, h with | [a, b], _ => exact ⟨a, b, rfl⟩
theorem ret_ok {e : Expr} {pos : Pos} {rest : List Stmt} {P : VP} {E : Value → Shared → Prop} (b : B X Γ ψ ω s) (h : EvIn prog w X Γ ψ ω e P) :
    wpAny (model prog w) X.A (execs (.Return (some e) pos :: rest) X.env) (fun fl s2 => ∃ ψ', Grow X.F X.ψ₀ X.s₀ ψ' s2 ∧ P.p ψ' (outOf fl)) E s :=
  st_return b h fun v ψ' s' l p b' => ⟨ψ', b'.toGrow, p⟩
theorem ret_own {x : Str} {px pos : Pos} {rest : List Stmt} {a : Addr} {vs : List Value} {j : Nat} {ps : List VP} {E : Value → Shared → Prop} (b : B X Γ ψ ω s) (c : CX ⟨k, n⟩ X) (hx : Γ.lookup x = some (vVal (.ref a))) (ha : ω a = some (lst vs j))
    (hall : All2 (fun (P : VP) v => P.p ψ v) ps vs) (hk : isVar (X.env.scope.names.lookup x) = true) (hd : (x == ("__debug__" : Str) || x == ("__classdict__" : Str)) = false) :
    wpAny (model prog w) X.A (execs (.Return (some (.Name x px)) pos :: rest) X.env) (fun fl s2 => ∃ ψ', Grow X.F X.ψ₀ X.s₀ ψ' s2 ∧ (vList ps).p ψ' (outOf fl)) E s := by
  have hno := b.ownNone ha
  have b' := b.freeze ha
  refine st_return b' (EvIn.pure c (ev_var hx hk hd)) fun v ψ' s' l p b'' => ⟨ψ', b''.toGrow, ?_⟩
  cases p
  exact (vList ps).mono l ⟨a, vs, j, rfl, put_self _ _ _, hall.imp fun P v q => P.mono (le_put hno) q⟩

theorem notIn_ints {ns : List Int} {x : Int} : Op2 prog w μ φ (compareOp .NotIn) (vInt x) (vList (ns.map vInt)) (vBool (!ns.contains x)) := by
  rintro A ψ s _ _ c l ⟨t, rfl⟩ ⟨a, vs, j, rfl, ho, hall⟩
  refine PySem.SeqAt.notIn_listAt (fun y => match y with | .int i _ => i == x | _ => false) (items := vs.toArray) ⟨_, c.sub _ _ ho, rfl, j, rfl⟩ (fun y hy => ?_) ⟨ψ, Grow.refl c.sub, ?_⟩
  · obtain ⟨i, hi⟩ := List.mem_iff_getElem?.mp (by simpa using hy : y ∈ vs)
    obtain ⟨P, hP, hp⟩ := hall.get' hi
    rw [List.getElem?_map] at hP
    cases q : ns[i]? with
    | none => rw [q] at hP; cases hP
    | some z => rw [q] at hP; cases hP; obtain ⟨u, rfl⟩ := hp; exact PySem.SeqAt.EqAt.int_int z u x t
  · show Value.bool _ = Value.bool _
    congr 2
    have : ∀ {ns : List Int} {vs : List Value}, All2 (fun (P : VP) v => P.p ψ v) (ns.map vInt) vs → vs.any (fun y => match y with | .int i _ => i == x | _ => false) = ns.contains x := by
      intro ns
      induction ns with
      | nil => intro vs h; cases h; rfl
      | cons n r ih =>
        intro vs h
        cases h with
        | cons h1 h2 =>
          obtain ⟨u, rfl⟩ := h1
          rw [List.any_cons, List.contains_cons, ih h2]
          congr 1
          exact Bool.beq_comm
    rw [List.any_toArray]
    exact this hall

theorem Src.congr {tgt : Expr} {P : VP} {nn nn' : Nat} {Tg Tg' : Nat → List (Str × VP)} (h : Src prog w μ φ tgt P nn Tg) (e : nn = nn') (ht : ∀ i < nn, Tg i = Tg' i) : Src prog w μ φ tgt P nn' Tg' := by
  subst e
  intro A ψ s v c l p
  refine wpAny_mono (h A ψ s v c l p) (fun it s' ⟨wr, fz, St, V, r⟩ => ⟨wr, fz, St, ⟨V.frame, V.live, V.self, fun i X m ψ' ω s Q E hi x le' hst hw hk q => V.step i X m ψ' ω s Q E hi x le' hst hw (by rw [ht i hi]; exact hk) (by rw [ht i hi]; exact q), V.done⟩, r⟩) fun _ _ e => e
theorem src_range {x : Str} {px : Pos} {a b : Int} {nn : Nat} (hn : μ.n = true) (e : (b - a).toNat = nn) (hs : Builtin.Range.small a b 1 = true) : Src prog w μ φ (.Name x px) (vRange a b) nn (fun i => [(x, vInt (a + (i : Nat)))]) := by
  refine (src_name (itr_range hn hs)).congr (by simp [upTo, e]) fun i hi => ?_
  have hi' : i < (b - a).toNat := by simpa [upTo] using hi
  unfold tgName upTo
  simp [List.getElem?_map, List.getElem?_range hi']
theorem src_ints {x : Str} {px : Pos} {P : VP} {ns : List Int} (h : Itr prog w μ φ P (ns.map vInt)) : Src prog w μ φ (.Name x px) P ns.length (fun i => [(x, vInt (ns.getD i 0))]) := by
  refine (src_name h).congr (by simp) fun i hi => ?_
  have hi' : i < ns.length := by simpa using hi
  unfold tgName
  rw [List.getElem?_map, List.getElem?_eq_getElem hi', List.getD_eq_getElem?_getD, List.getElem?_eq_getElem hi']
  rfl
theorem src_map {α : Type} {f : α → VP} {d : α} {x : Str} {px : Pos} {P : VP} {ns : List α} (h : Itr prog w μ φ P (ns.map f)) : Src prog w μ φ (.Name x px) P ns.length (fun i => [(x, f (ns.getD i d))]) := by
  refine (src_name h).congr (by simp) fun i hi => ?_
  have hi' : i < ns.length := by simpa using hi
  unfold tgName
  rw [List.getElem?_map, List.getElem?_eq_getElem hi', List.getD_eq_getElem?_getD, List.getElem?_eq_getElem hi']
  rfl
end
end Mine
namespace Mine
section
variable {prog : Program} {w : World} {X : Fix} {Γ : List (Str × VP)} {ψ ω φ : PM} {s s' : Shared} {k : Nat} {n b : Bool} {m : Str → Option Value} {μ : Md} {A : Around} {env : Env} {sc scope : Scope}
variable {rest : List Stmt} {Q : Flow → Shared → Prop} {E : Value → Shared → Prop}

theorem ev_v {x : Str} {pos : Pos} {P : VP} (h : Γ.lookup x = some P := by rfl) (hk : isVar (sc.names.lookup x) = true := by rfl) (hd : (x == ("__debug__" : Str) || x == ("__classdict__" : Str)) = false := by rfl) : Ev prog w μ sc Γ φ (.Name x pos) P := ev_var h hk hd
theorem ev_b {x : Str} {pos : Pos} {v : Value} (hg : BN φ x v) (hk : sc.names.lookup x = some .globalImplicit := by rfl) (hd : (x == ("__debug__" : Str)) = false := by rfl) : Ev prog w μ sc Γ φ (.Name x pos) (vVal v) := ev_builtin hg hk hd
theorem a1 {e : Expr} {P : VP} (h : Ev prog w μ sc Γ φ e P) (hn : notStar e = true := by rfl) : EvA prog w μ sc Γ φ [e] [P] := EvA.cons h EvA.nil hn
theorem a2 {e f : Expr} {P Q : VP} (h : Ev prog w μ sc Γ φ e P) (h' : Ev prog w μ sc Γ φ f Q) (hn : notStar e = true := by rfl) (hn' : notStar f = true := by rfl) : EvA prog w μ sc Γ φ [e, f] [P, Q] := EvA.cons h (EvA.cons h' EvA.nil hn') hn
theorem ev_cb {x : Str} {px pos : Pos} {args : List Expr} {id : String} {Ps : List VP} {R : VP} (hg : BN φ x (.builtin id)) (ha : EvA prog w μ sc Γ φ args Ps) (hs : Spec prog w μ φ (.builtin id) Ps R)
    (hk : sc.names.lookup x = some .globalImplicit := by rfl) (hd : (x == ("__debug__" : Str)) = false := by rfl) : Ev prog w μ sc Γ φ (.Call (.Name x px) args [] pos) R := ev_call (ev_builtin hg hk hd) ha keep_builtin hs
theorem ev_ct {x : Str} {px pos : Pos} {args : List Expr} {id : String} {Ps : List VP} {R : VP} (hg : BN φ x (.type id)) (ha : EvA prog w μ sc Γ φ args Ps) (hs : Spec prog w μ φ (.type id) Ps R)
    (hk : sc.names.lookup x = some .globalImplicit := by rfl) (hd : (x == ("__debug__" : Str)) = false := by rfl) : Ev prog w μ sc Γ φ (.Call (.Name x px) args [] pos) R := ev_call (ev_builtin hg hk hd) ha keep_type hs
theorem ev_cg {x : Str} {px pos : Pos} {args : List Expr} {a : Addr} {fd : FuncData} {Ps : List VP} {R : VP} (hg : GN φ x (.ref a)) (K : FnK φ a fd) (ha : EvA prog w μ sc Γ φ args Ps) (hs : Spec prog w μ φ (.ref a) Ps R)
    (hk : sc.names.lookup x = some .globalImplicit := by rfl) (hd : (x == ("__debug__" : Str)) = false := by rfl) : Ev prog w μ sc Γ φ (.Call (.Name x px) args [] pos) R := ev_call (ev_glob hg hk hd) ha K.keepOk hs
theorem ev_subL {value slice : Expr} {pos : Pos} {ps : List VP} {I R : VP} (hv : Ev prog w μ sc Γ φ value (vList ps)) (hi : Ev prog w μ sc Γ φ slice I) (ho : Op2 prog w μ φ getItem (vList ps) I R)
    (hsl : (∀ o i, subscripted slice false o i = operate [o, i] (getItem o i)) ∨ (∀ o i, subscripted slice false o i = operate [i, o] (getItem o i)) := by first | exact .inl fun _ _ => rfl | exact .inr fun _ _ => rfl) : Ev prog w μ sc Γ φ (.Subscript value slice pos) R :=
  ev_sub ofT_seq lookup_list_getitem hv hi ho hsl
theorem ev_subT {value slice : Expr} {pos : Pos} {ps : List VP} {I R : VP} (hv : Ev prog w μ sc Γ φ value (vTup ps)) (hi : Ev prog w μ sc Γ φ slice I) (ho : Op2 prog w μ φ getItem (vTup ps) I R)
    (hsl : (∀ o i, subscripted slice false o i = operate [o, i] (getItem o i)) ∨ (∀ o i, subscripted slice false o i = operate [i, o] (getItem o i)) := by first | exact .inl fun _ _ => rfl | exact .inr fun _ _ => rfl) : Ev prog w μ sc Γ φ (.Subscript value slice pos) R :=
  ev_sub ofT_seq lookup_tuple_getitem hv hi ho hsl
theorem evb_v {e : Expr} {P : VP} {b : Bool} (h : Ev prog w μ sc Γ φ e P) (k : Tru prog w μ φ P b) (he : ∀ env whole, isTrue e env whole = (do let v ← whole; standAt e.pos; holding [v] (truthy v)) := by intro _ _; rfl) : EvB prog w μ sc Γ φ e b := evb_val h k he
theorem evb_c {l r : Expr} {op : CmpOp} {pos : Pos} {P Q : VP} {b : Bool} (hl : Ev prog w μ sc Γ φ l P) (hr : Ev prog w μ sc Γ φ r Q) (ho : Op2 prog w μ φ (compareOp op) P Q (vBool b)) (hm : behindInMarks op r = false := by rfl) : EvB prog w μ sc Γ φ (.Compare l [op] [r] pos) b := evb_cmp hl hr ho hm

theorem EvIn.of {e : Expr} {P : VP} (c : CX ⟨k, n⟩ X) (hsc : X.env.scope = sc) (h : Ev prog w ⟨k, n⟩ sc Γ ψ e P) : EvIn prog w X Γ ψ ω e P := EvIn.pure c (hsc ▸ h)
theorem TsIn.of {e : Expr} {r : Bool} (c : CX ⟨k, n⟩ X) (hsc : X.env.scope = sc) (h : EvB prog w ⟨k, n⟩ sc Γ ψ e r) : TsIn prog w X Γ ψ ω e r := TsIn.pure c (hsc ▸ h)
theorem EvIn.ofO {e : Expr} {P : VP} {Γ' : List (Str × VP)} (c : CX ⟨k, n⟩ X) (hsc : X.env.scope = sc) (hΓ : ∀ m, Typ Γ (both ψ ω) m → Typ Γ' (both ψ ω) m) (h : Ev prog w ⟨k, n⟩ sc Γ' (both ψ ω) e P) (hP : Flat P) : EvIn prog w X Γ ψ ω e P := EvIn.own c hΓ (hsc ▸ h) hP
theorem TsIn.ofO {e : Expr} {r : Bool} {Γ' : List (Str × VP)} (c : CX ⟨k, n⟩ X) (hsc : X.env.scope = sc) (hΓ : ∀ m, Typ Γ (both ψ ω) m → Typ Γ' (both ψ ω) m) (h : EvB prog w ⟨k, n⟩ sc Γ' (both ψ ω) e r) : TsIn prog w X Γ ψ ω e r := TsIn.own c hΓ (hsc ▸ h)
theorem sto {x : Str} (he : X.env.scope = sc) (h : sc.names.lookup x = some .local := by rfl) : stores X x := stores_local he h
theorem stoT {x : Str} {v : VP} (he : X.env.scope = sc) (h : sc.names.lookup x = some .local := by rfl) : ∀ p ∈ [(x, v)], stores X p.1 := fun p hp => by rw [List.mem_singleton.mp hp]; exact stores_local he h
theorem src_range0 {x : Str} {px : Pos} {b : Int} {nn : Nat} (hn : μ.n = true) (e : b.toNat = nn) (hs : Builtin.Range.small 0 b 1 = true) : Src prog w μ φ (.Name x px) (vRange 0 b) nn (fun i => [(x, vInt (i : Nat))]) :=
  (src_range (x := x) (px := px) (a := 0) (b := b) hn (by simpa using e) hs).congr rfl fun i _ => by simp
theorem get_ints {ns : List Int} {i : Nat} (hi : i < ns.length) (hs : (ns.length : Int) < 2 ^ 63) : Op2 prog w μ φ getItem (vList (ns.map vInt)) (vInt (i : Nat)) (vInt (ns.getD i 0)) :=
  get_list (by omega) (by omega) (by rw [List.getElem?_map]; simp [List.getElem?_eq_getElem hi])
theorem get_map {α : Type} {f : α → VP} {d : α} {ns : List α} {i : Nat} (hi : i < ns.length) (hs : (ns.length : Int) < 2 ^ 63) : Op2 prog w μ φ getItem (vList (ns.map f)) (vInt (i : Nat)) (f (ns.getD i d)) :=
  get_list (by omega) (by omega) (by rw [List.getElem?_map]; simp [List.getElem?_eq_getElem hi])
theorem iop_or_int {a b : Int} : Op2 prog w μ φ (inplaceOp .BitOr) (vInt a) (vInt b) (vInt (Builtin.bitOr a b)) := by
  rintro A ψ s _ _ c l ⟨t, rfl⟩ ⟨u, rfl⟩
  exact PyProof.Rows.ior_int ⟨ψ, grow_tok c.sub, _, rfl⟩
theorem iop_add_int {a b : Int} : Op2 prog w μ φ (inplaceOp .Add) (vInt a) (vInt b) (vInt (a + b)) := by
  rintro A ψ s _ _ c l ⟨t, rfl⟩ ⟨u, rfl⟩
  exact wpAny_iadd_int ⟨ψ, grow_tok c.sub, _, rfl⟩
theorem pk {Γ' : List (Str × VP)} {x : Str} {P : VP} (t : Typ Γ ψ m) (t' : Typ Γ' ψ m) (h : Γ.lookup x = some P := by rfl) : Typ ((x, P) :: Γ') ψ m := by
  intro y P' hy
  rw [List.lookup_cons] at hy
  by_cases q : y = x
  · subst q
    simp only [beq_self_eq_true] at hy
    cases hy
    exact t y P h
  · have : (y == x) = false := by simpa using q
    rw [this] at hy
    exact t' y P' hy
theorem st_app {x : Str} {px ap cpos pos : Pos} {e : Expr} {P : VP} {a : Addr} {vs : List Value} {j : Nat} (hsc : X.env.scope = sc) (b : B X Γ ψ ω s) (ha : ω a = some (lst vs j)) (h : EvIn prog w X Γ ψ ω e P) (hsz : vs.length ≤ sizeLine)
    (q : ∀ v ψ' s' j', Le ψ ψ' → P.p ψ' v → B X Γ ψ' (put ω a (lst (vs ++ [v]) j')) s' → wpAny (model prog w) X.A (execs rest X.env) Q E s')
    (hx : Γ.lookup x = some (vVal (.ref a)) := by rfl) (hv : isVar (sc.names.lookup x) = true := by rfl) (hd : (x == ("__debug__" : Str) || x == ("__classdict__" : Str)) = false := by rfl) (hn : notStar e = true := by rfl) (hl : (ap.endLine == cpos.line) = true := by rfl) :
    wpAny (model prog w) X.A (execs (.Expr (.Call (.Attribute (.Name x px) "append" ap) [e] [] cpos) pos :: rest) X.env) Q E s := by
  refine st_append b hx ha h hsz q (hsc ▸ hv) hd hn hl ?_
  obtain ⟨m, Y, _⟩ := b
  have := Y.fram.fn
  unfold interactive
  rw [this]; rfl
theorem stoC {x : Str} (he : X.env.scope = sc) (hf : ∀ c ∈ X.env.cells.map (·.2), c ∈ X.ft) (h : sc.names.lookup x = some .cell := by rfl) : stores X x := stores_cell he h hf
theorem stoCT {x : Str} {v : VP} (he : X.env.scope = sc) (hf : ∀ c ∈ X.env.cells.map (·.2), c ∈ X.ft) (h : sc.names.lookup x = some .cell := by rfl) : ∀ p ∈ [(x, v)], stores X p.1 := fun p hp => by rw [List.mem_singleton.mp hp]; exact stores_cell he h hf
theorem ownT {x : Str} {v : VP} (h : own scope x = true := by rfl) : ∀ p ∈ [(x, v)], own scope p.1 = true := fun p hp => by rw [List.mem_singleton.mp hp]; exact h
theorem st_listS {x : Str} {px pos lp : Pos} {es : List Expr} {Ps : List VP} (hsc : X.env.scope = sc) (b : B X Γ ψ ω s) (c : CX ⟨k, n⟩ X) (h : EvA prog w ⟨k, n⟩ sc Γ ψ es Ps) (hsz : Ps.length ≤ sizeLine) (hk : stores X x)
    (q : ∀ a vs ψ' s', ω a = none → ψ' a = none → Le ψ ψ' → All2 (fun (P : VP) v => P.p ψ' v) Ps vs → B X ((x, vVal (.ref a)) :: Γ) ψ' (put ω a (lst vs 0)) s' → wpAny (model prog w) X.A (execs rest X.env) Q E s') :
    wpAny (model prog w) X.A (execs (.Assign [.Name x px] (.List es lp) pos :: rest) X.env) Q E s := st_listD b c (hsc ▸ h) hsz hk q
theorem st_forS {tgt : Expr} {pos : Pos} {iter : Expr} {body : List Stmt} {P : VP} {nn : Nat} {Tg : Nat → List (Str × VP)}
    (hsc : X.env.scope = sc) (b : B X Γ ψ ω s) (c : CX ⟨k, n⟩ X) (hi : Ev prog w ⟨k, n⟩ sc Γ ψ iter P) (hI : Src prog w ⟨k, n⟩ ψ tgt P nn Tg) (J : Nat → List (Str × VP) → PM → PM → Prop) (hk : ∀ i < nn, ∀ p ∈ Tg i, stores X p.1)
    (Jst : ∀ i Γ' ψ' ω₁ ω₂, J i Γ' ψ' ω₁ → (∀ a o, ω a = some o → ω₂ a = ω₁ a) → J i Γ' ψ' ω₂) (h0 : ∀ ψ', Le ψ ψ' → J 0 Γ ψ' ω)
    (turn : ∀ i Γi ψi ωi si, i < nn → J i Γi ψi ωi → Le ψ ψi → B X (Tg i ++ Γi) ψi ωi si →
      wpAny (model prog w) X.A (execs body X.env) (forQ prog w X J i ω ψi ωi rest Q E) (forE prog w X E) si)
    (done : ∀ Γ' ψ' ω' s', J nn Γ' ψ' ω' → Le ψ ψ' → B X Γ' ψ' ω' s' → wpAny (model prog w) X.A (execs rest X.env) Q E s')
    (hs : ∀ x, foldedSetIterable iter X.env x = pure x := by intro _; rfl) : wpAny (model prog w) X.A (execs (.For tgt iter body [] pos :: rest) X.env) Q E s :=
  st_for J b c (hsc ▸ hi) hI hk Jst h0 turn done hs
theorem op_eq_nil {ps : List VP} (hk : 1 ≤ μ.k) : Op2 prog w μ φ (compareOp .Eq) (vList ps) (vList []) (vBool ps.isEmpty) := by
  rintro A ψ s _ _ c l ⟨a, vs, j, rfl, ho, hall⟩ ⟨a', vs', j', rfl, ho', hall'⟩
  cases hall'
  have hu : A.units < cLine := by have := c.units; show _ < 9900; omega
  cases hall with
  | nil => exact PySem.SeqAt.eq_listAt (items := #[]) (items2 := #[]) (e := fun _ => true) ⟨_, c.sub _ _ ho, rfl, j, rfl⟩ ⟨_, c.sub _ _ ho', rfl, j', rfl⟩ rfl hu (fun j h1 => absurd h1 (Nat.not_lt_zero _)) ⟨ψ, Grow.refl c.sub, rfl⟩
  | cons h1 h2 => exact PySem.SeqAt.eq_list_lengthsAt ⟨_, c.sub _ _ ho, rfl, j, rfl⟩ ⟨_, c.sub _ _ ho', rfl, j', rfl⟩ (by simp) hu ⟨ψ, Grow.refl c.sub, rfl⟩
theorem isEmpty_map {α β : Type} {f : α → β} {l : List α} : (l.map f).isEmpty = l.isEmpty := by cases l <;> rfl
theorem get_intsZ {ns : List Int} {i : Int} (h0 : 0 ≤ i) (hi : i.toNat < ns.length) (hs : (ns.length : Int) < 2 ^ 63) : Op2 prog w μ φ getItem (vList (ns.map vInt)) (vInt i) (vInt (ns.getD i.toNat 0)) :=
  get_list h0 (by omega) (by rw [List.getElem?_map]; simp [List.getElem?_eq_getElem hi])
theorem pickL_map {α β : Type} (f : α → β) (l : List α) (lo hi st : Option Int) : pickL (l.map f) lo hi st = (pickL l lo hi st).map f := by
  unfold pickL
  rw [List.length_map, List.map_filterMap]
  congr 1
  funext i
  rw [List.getElem?_map]
theorem get_sliceM {α : Type} {f : α → VP} {l : List α} {lo hi st : Option Int} (h0 : st ≠ some 0) (hsz : l.length ≤ sizeLine) : Op2 prog w μ φ getItem (vList (l.map f)) (vSlice lo hi st) (vList ((pickL l lo hi st).map f)) := by
  rw [← pickL_map]
  exact get_slice h0 (by rw [List.length_map]; exact hsz)
theorem evp0 : EvP prog w μ sc Γ φ none none := rfl
end
end Mine
namespace Mine
structure Ex (prog : Program) (w : World) (X : Fix) (stmts : List Stmt) (Q : Flow → Shared → Prop) (E : Value → Shared → Prop) (s : Shared) : Prop where
  go : wpAny (model prog w) X.A (execs stmts X.env) Q E s
noncomputable def seqX (prog : Program) (w : World) (X : Fix) (rest : List Stmt) (Q : Flow → Shared → Prop) (E : Value → Shared → Prop) : Flow → Shared → Prop
  | .next, s => Ex prog w X rest Q E s
  | .brk, s => Q .brk s
  | .cont, s => Q .cont s
  | .ret v, s => Q (.ret v) s
noncomputable def forX (prog : Program) (w : World) (X : Fix) (J : Nat → List (Str × VP) → PM → PM → Prop) (i : Nat) (ω ψi ωi : PM) (rest : List Stmt) (Q : Flow → Shared → Prop) (E : Value → Shared → Prop) : Flow → Shared → Prop
  | .ret v, s => Q (.ret v) s
  | .brk, s => Ex prog w X rest Q E s
  | _, s => ∃ Γ' ψ' ω', J (i + 1) Γ' ψ' ω' ∧ Le ψi ψ' ∧ B X Γ' ψ' ω' s ∧ ∀ a o, ωi a = some o → ω a = none → ω' a = some o
section
variable {prog : Program} {w : World} {X : Fix} {Γ : List (Str × VP)} {ψ ω φ : PM} {s s' : Shared} {k : Nat} {n b : Bool} {m : Str → Option Value} {μ : Md} {A : Around} {env : Env} {sc scope : Scope}
variable {rest : List Stmt} {Q : Flow → Shared → Prop} {E : Value → Shared → Prop}
theorem Ex.mono {stmts : List Stmt} {Q' : Flow → Shared → Prop} (h : Ex prog w X stmts Q E s) (q : ∀ f s', Q f s' → Q' f s') : Ex prog w X stmts Q' E s := ⟨wpAny_mono h.go q fun _ _ e => e⟩
theorem x_nil (h : Q .next s) : Ex prog w X [] Q E s := ⟨wpAny_execs_nil h⟩
theorem x_assign {x : Str} {px pos : Pos} {e : Expr} {P : VP} (b : B X Γ ψ ω s) (h : EvIn prog w X Γ ψ ω e P) (hk : stores X x) (q : ∀ v ψ' s', Le ψ ψ' → P.p ψ' v → B X ((x, P) :: Γ) ψ' ω s' → Ex prog w X rest Q E s')
    (hs : swapsWith e (some (.Name x px)) pos.line X.env = pure false := by rfl) : Ex prog w X (.Assign [.Name x px] e pos :: rest) Q E s := ⟨st_assign b h hk hs fun v ψ' s' l p b' => (q v ψ' s' l p b').go⟩
theorem x_return {pos : Pos} {e : Expr} {P : VP} (b : B X Γ ψ ω s) (h : EvIn prog w X Γ ψ ω e P) (q : ∀ v ψ' s', Le ψ ψ' → P.p ψ' v → B X Γ ψ' ω s' → Q (.ret v) s') : Ex prog w X (.Return (some e) pos :: rest) Q E s := ⟨st_return b h q⟩
theorem x_if {pos : Pos} {t : Expr} {body orelse : List Stmt} {r : Bool} (b : B X Γ ψ ω s) (h : TsIn prog w X Γ ψ ω t r)
    (q : ∀ ψ' s', Le ψ ψ' → B X Γ ψ' ω s' → Ex prog w X (if r then body else orelse) (seqX prog w X rest Q E) E s') : Ex prog w X (.If t body orelse pos :: rest) Q E s :=
  ⟨st_if b h fun ψ' s' l b' => ((q ψ' s' l b').mono fun f s' hf => by cases f <;> first | exact hf.go | exact hf).go⟩
theorem x_newList {x : Str} {px pos lp : Pos} (b : B X Γ ψ ω s) (hk : stores X x) (q : ∀ a s', ω a = none → ψ a = none → B X ((x, vVal (.ref a)) :: Γ) ψ (put ω a (lst [] 0)) s' → Ex prog w X rest Q E s') :
    Ex prog w X (.Assign [.Name x px] (.List [] lp) pos :: rest) Q E s := ⟨st_newList b hk fun a s' h1 h2 b' => (q a s' h1 h2 b').go⟩
theorem x_listS {x : Str} {px pos lp : Pos} {es : List Expr} {Ps : List VP} (hsc : X.env.scope = sc) (b : B X Γ ψ ω s) (c : CX ⟨k, n⟩ X) (h : EvA prog w ⟨k, n⟩ sc Γ ψ es Ps) (hsz : Ps.length ≤ sizeLine) (hk : stores X x)
    (q : ∀ a vs ψ' s', ω a = none → ψ' a = none → Le ψ ψ' → All2 (fun (P : VP) v => P.p ψ' v) Ps vs → B X ((x, vVal (.ref a)) :: Γ) ψ' (put ω a (lst vs 0)) s' → Ex prog w X rest Q E s') :
    Ex prog w X (.Assign [.Name x px] (.List es lp) pos :: rest) Q E s := ⟨st_listS hsc b c h hsz hk fun a vs ψ' s' h1 h2 l p b' => (q a vs ψ' s' h1 h2 l p b').go⟩
theorem x_app {x : Str} {px ap cpos pos : Pos} {e : Expr} {P : VP} {a : Addr} {vs : List Value} {j : Nat} (hsc : X.env.scope = sc) (b : B X Γ ψ ω s) (ha : ω a = some (lst vs j)) (h : EvIn prog w X Γ ψ ω e P) (hsz : vs.length ≤ sizeLine)
    (q : ∀ v ψ' s' j', Le ψ ψ' → P.p ψ' v → B X Γ ψ' (put ω a (lst (vs ++ [v]) j')) s' → Ex prog w X rest Q E s')
    (hx : Γ.lookup x = some (vVal (.ref a)) := by rfl) (hv : isVar (sc.names.lookup x) = true := by rfl) (hd : (x == ("__debug__" : Str) || x == ("__classdict__" : Str)) = false := by rfl) (hn : notStar e = true := by rfl) (hl : (ap.endLine == cpos.line) = true := by rfl) :
    Ex prog w X (.Expr (.Call (.Attribute (.Name x px) "append" ap) [e] [] cpos) pos :: rest) Q E s := ⟨st_app hsc b ha h hsz (fun v ψ' s' j' l p b' => (q v ψ' s' j' l p b').go) hx hv hd hn hl⟩
theorem x_aug {x : Str} {px pos : Pos} {op : Operator} {e : Expr} {P P₁ R : VP} (hsc : X.env.scope = sc) (b : B X Γ ψ ω s) (c : CX ⟨k, n⟩ X) (h : EvIn prog w X Γ ψ ω e P) (ho : Op2 prog w ⟨k, n⟩ ψ (inplaceOp op) P₁ P R) (hk : stores X x)
    (q : ∀ v ψ' s', Le ψ ψ' → R.p ψ' v → B X ((x, R) :: Γ) ψ' ω s' → Ex prog w X rest Q E s')
    (hx : Γ.lookup x = some P₁ := by rfl) (hv : isVar (sc.names.lookup x) = true := by rfl) (hd : (x == ("__classdict__" : Str)) = false := by rfl) : Ex prog w X (.AugAssign (.Name x px) op e pos :: rest) Q E s :=
  ⟨st_aug b c hx h ho hk (fun v ψ' s' l p b' => (q v ψ' s' l p b').go) (hsc ▸ hv) hd⟩
theorem x_assign2 {x y : Str} {px py pos : Pos} {e : Expr} {P : VP} (b : B X Γ ψ ω s) (h : EvIn prog w X Γ ψ ω e P) (hkx : stores X x) (hky : stores X y)
    (q : ∀ v ψ' s', Le ψ ψ' → P.p ψ' v → B X ((y, P) :: (x, P) :: Γ) ψ' ω s' → Ex prog w X rest Q E s') (hw : swappedStores [.Name x px, .Name y py] e X.env = pure none := by rfl) :
    Ex prog w X (.Assign [.Name x px, .Name y py] e pos :: rest) Q E s := ⟨st_assign2 b h hkx hky hw fun v ψ' s' l p b' => (q v ψ' s' l p b').go⟩
theorem x_for {tgt : Expr} {pos : Pos} {iter : Expr} {body : List Stmt} {P : VP} {nn : Nat} {Tg : Nat → List (Str × VP)}
    (hsc : X.env.scope = sc) (b : B X Γ ψ ω s) (c : CX ⟨k, n⟩ X) (hi : Ev prog w ⟨k, n⟩ sc Γ ψ iter P) (hI : Src prog w ⟨k, n⟩ ψ tgt P nn Tg) (J : Nat → List (Str × VP) → PM → PM → Prop) (hk : ∀ i < nn, ∀ p ∈ Tg i, stores X p.1)
    (Jst : ∀ i Γ' ψ' ω₁ ω₂, J i Γ' ψ' ω₁ → (∀ a o, ω a = some o → ω₂ a = ω₁ a) → J i Γ' ψ' ω₂) (h0 : ∀ ψ', Le ψ ψ' → J 0 Γ ψ' ω)
    (turn : ∀ i Γi ψi ωi si, i < nn → J i Γi ψi ωi → Le ψ ψi → B X (Tg i ++ Γi) ψi ωi si → Ex prog w X body (forX prog w X J i ω ψi ωi rest Q E) (forE prog w X E) si)
    (done : ∀ Γ' ψ' ω' s', J nn Γ' ψ' ω' → Le ψ ψ' → B X Γ' ψ' ω' s' → Ex prog w X rest Q E s')
    (hs : ∀ x, foldedSetIterable iter X.env x = pure x := by intro _; rfl) : Ex prog w X (.For tgt iter body [] pos :: rest) Q E s :=
  ⟨st_forS hsc b c hi hI J hk Jst h0 (fun i Γi ψi ωi si hi hJ l b' => ((turn i Γi ψi ωi si hi hJ l b').mono fun f s' hf => by cases f <;> first | exact hf.go | exact hf).go) (fun Γ' ψ' ω' s' hJ l b' => (done Γ' ψ' ω' s' hJ l b').go) hs⟩
theorem x_comp {x : Str} {px pos lp : Pos} {elt tgt iter : Expr} {ifs : List Expr} {P : VP} {nn : Nat} {Tg : Nat → List (Str × VP)} {keep : Nat → Bool} {R : Nat → VP} (hsc : X.env.scope = sc) (bb : B X Γ ψ ω s) (c : CX ⟨k + 1, n⟩ X) (hk : stores X x)
    (hi : Ev prog w ⟨k + 1, n⟩ sc Γ ψ iter P) (hI : Src prog w ⟨k + 1, n⟩ ψ tgt P nn Tg) (hok : compOk sc scope = true) (hT : ∀ i < nn, ∀ p ∈ Tg i, own scope p.1 = true)
    (ht : ∀ i < nn, EvT prog w ⟨k, n⟩ (relS scope sc) (Tg i ++ seen scope Γ) ψ ifs (keep i)) (hel : ∀ i < nn, keep i = true → Ev prog w ⟨k, n⟩ (relS scope sc) (Tg i ++ seen scope Γ) ψ elt (R i)) (hsz : nn ≤ sizeLine)
    (q : ∀ v ψ' s', Le ψ ψ' → (vList (((List.range nn).filter keep).map R)).p ψ' v → B X ((x, vList (((List.range nn).filter keep).map R)) :: Γ) ψ' ω s' → Ex prog w X rest Q E s')
    (hsw : swapsWith (.ListComp elt [⟨tgt, iter, ifs, 0⟩] scope lp) (some (.Name x px)) pos.line X.env = pure true)
    (hs : ∀ env x, foldedSetIterable iter env x = pure x := by intro _ _; rfl) :
    Ex prog w X (.Assign [.Name x px] (.ListComp elt [⟨tgt, iter, ifs, 0⟩] scope lp) pos :: rest) Q E s := by
  subst hsc
  exact ⟨st_assignComp bb c hsw hk hi hI hok hT ht hel hsz (fun v ψ' s' l p b' => (q v ψ' s' l p b').go) hs⟩
noncomputable def BodyX (prog : Program) (w : World) (k : Nat) (n : Bool) (φ : PM) (sc : Scope) (Γ : List (Str × VP)) (body : List Stmt) (R : VP) : Prop :=
  ∀ X ψ s (E : Value → Shared → Prop), X.env.scope = sc → CX ⟨k, n⟩ X → Le φ ψ → (∀ c ∈ X.env.cells.map (·.2), c ∈ X.ft) → Deep X → B X Γ ψ (fun _ => none) s →
    Ex prog w X body (fun fl s2 => ∃ ψ', Grow X.F X.ψ₀ X.s₀ ψ' s2 ∧ R.p ψ' (outOf fl)) E s
theorem BodyX.ok {body : List Stmt} {R : VP} (h : BodyX prog w k n φ sc Γ body R) : BodyOk prog w k n φ sc Γ body R := fun X ψ s E a b c d e f => (h X ψ s E a b c d e f).go
theorem x_ret {e : Expr} {pos : Pos} {P : VP} (b : B X Γ ψ ω s) (h : EvIn prog w X Γ ψ ω e P) : Ex prog w X (.Return (some e) pos :: rest) (fun fl s2 => ∃ ψ', Grow X.F X.ψ₀ X.s₀ ψ' s2 ∧ P.p ψ' (outOf fl)) E s := ⟨ret_ok b h⟩
theorem x_retOwn {x : Str} {px pos : Pos} {a : Addr} {vs : List Value} {j : Nat} {ps : List VP} (hsc : X.env.scope = sc) (b : B X Γ ψ ω s) (c : CX ⟨k, n⟩ X) (ha : ω a = some (lst vs j)) (hall : All2 (fun (P : VP) v => P.p ψ v) ps vs)
    (hx : Γ.lookup x = some (vVal (.ref a)) := by rfl) (hk : isVar (sc.names.lookup x) = true := by rfl) (hd : (x == ("__debug__" : Str) || x == ("__classdict__" : Str)) = false := by rfl) :
    Ex prog w X (.Return (some (.Name x px)) pos :: rest) (fun fl s2 => ∃ ψ', Grow X.F X.ψ₀ X.s₀ ψ' s2 ∧ (vList ps).p ψ' (outOf fl)) E s := ⟨ret_own b c hx ha hall (hsc ▸ hk) hd⟩
end
end Mine
namespace Mine
structure EV (prog : Program) (w : World) (μ : Md) (sc : Scope) (Γ : List (Str × VP)) (φ : PM) (e : Expr) (P : VP) : Prop where
  go : Ev prog w μ sc Γ φ e P
structure EB (prog : Program) (w : World) (μ : Md) (sc : Scope) (Γ : List (Str × VP)) (φ : PM) (e : Expr) (r : Bool) : Prop where
  go : EvB prog w μ sc Γ φ e r
structure ET (prog : Program) (w : World) (μ : Md) (sc : Scope) (Γ : List (Str × VP)) (φ : PM) (ifs : List Expr) (r : Bool) : Prop where
  go : EvT prog w μ sc Γ φ ifs r
structure EA (prog : Program) (w : World) (μ : Md) (sc : Scope) (Γ : List (Str × VP)) (φ : PM) (es : List Expr) (Ps : List VP) : Prop where
  go : EvA prog w μ sc Γ φ es Ps
structure EI (prog : Program) (w : World) (X : Fix) (Γ : List (Str × VP)) (ψ ω : PM) (e : Expr) (P : VP) : Prop where
  go : EvIn prog w X Γ ψ ω e P
structure TI (prog : Program) (w : World) (X : Fix) (Γ : List (Str × VP)) (ψ ω : PM) (e : Expr) (r : Bool) : Prop where
  go : TsIn prog w X Γ ψ ω e r
section
variable {prog : Program} {w : World} {X : Fix} {Γ : List (Str × VP)} {ψ ω φ : PM} {s s' : Shared} {k : Nat} {n b : Bool} {m : Str → Option Value} {μ : Md} {A : Around} {env : Env} {sc scope : Scope}
theorem v_int {i : Int} {k : Nat} {pos : Pos} : EV prog w μ sc Γ φ (.Constant (.int i) k pos) (vInt i) := ⟨ev_int⟩
theorem v_str {x : Str} {k : Nat} {pos : Pos} : EV prog w μ sc Γ φ (.Constant (.str x) k pos) (vStr x) := ⟨ev_str⟩
theorem v_bool {x : Bool} {k : Nat} {pos : Pos} : EV prog w μ sc Γ φ (.Constant (.bool x) k pos) (vBool x) := ⟨ev_bool⟩
theorem v_v {x : Str} {pos : Pos} {P : VP} (h : Γ.lookup x = some P := by rfl) (hk : isVar (sc.names.lookup x) = true := by rfl) (hd : (x == ("__debug__" : Str) || x == ("__classdict__" : Str)) = false := by rfl) : EV prog w μ sc Γ φ (.Name x pos) P := ⟨ev_var h hk hd⟩
theorem v_bin {l r : Expr} {op : Operator} {pos : Pos} {P Q R : VP} (hl : EV prog w μ sc Γ φ l P) (hr : EV prog w μ sc Γ φ r Q) (ho : Op2 prog w μ φ (binaryOp op) P Q R) : EV prog w μ sc Γ φ (.BinOp l op r pos) R := ⟨ev_bin hl.go hr.go ho⟩
theorem v_un {x : Expr} {op : UnaryOp} {pos : Pos} {P R : VP} (hl : EV prog w μ sc Γ φ x P) (ho : Op1 prog w μ φ (unaryOp op) P R) : EV prog w μ sc Γ φ (.UnaryOp op x pos) R := ⟨ev_un hl.go ho⟩
theorem v_cmp {l r : Expr} {op : CmpOp} {pos : Pos} {P Q R : VP} (hl : EV prog w μ sc Γ φ l P) (hr : EV prog w μ sc Γ φ r Q) (ho : Op2 prog w μ φ (compareOp op) P Q R) (hm : behindInMarks op r = false := by rfl) : EV prog w μ sc Γ φ (.Compare l [op] [r] pos) R := ⟨ev_cmp hl.go hr.go ho hm⟩
theorem b_cmp {l r : Expr} {op : CmpOp} {pos : Pos} {P Q : VP} {b : Bool} (hl : EV prog w μ sc Γ φ l P) (hr : EV prog w μ sc Γ φ r Q) (ho : Op2 prog w μ φ (compareOp op) P Q (vBool b)) (hm : behindInMarks op r = false := by rfl) : EB prog w μ sc Γ φ (.Compare l [op] [r] pos) b := ⟨evb_cmp hl.go hr.go ho hm⟩
theorem b_v {e : Expr} {P : VP} {b : Bool} (h : EV prog w μ sc Γ φ e P) (k : Tru prog w μ φ P b) (he : ∀ env whole, isTrue e env whole = (do let v ← whole; standAt e.pos; holding [v] (truthy v)) := by intro _ _; rfl) : EB prog w μ sc Γ φ e b := ⟨evb_val h.go k he⟩
theorem b_not {x : Expr} {pos : Pos} {b : Bool} (h : EB prog w μ sc Γ φ x b) : EB prog w μ sc Γ φ (.UnaryOp .Not x pos) (!b) := ⟨evb_not h.go⟩
theorem b_and {x : Expr} {rest : List Expr} {pos : Pos} {a b : Bool} (h : EB prog w μ sc Γ φ x a) (k : a = true → EB prog w μ sc Γ φ (.BoolOp .And rest pos) b) : EB prog w μ sc Γ φ (.BoolOp .And (x :: rest) pos) (a && b) := ⟨evb_and h.go fun e => (k e).go⟩
theorem b_or {x : Expr} {rest : List Expr} {pos : Pos} {a b : Bool} (h : EB prog w μ sc Γ φ x a) (k : a = false → EB prog w μ sc Γ φ (.BoolOp .Or rest pos) b) : EB prog w μ sc Γ φ (.BoolOp .Or (x :: rest) pos) (a || b) := ⟨evb_or h.go fun e => (k e).go⟩
theorem b_and0 {pos : Pos} : EB prog w μ sc Γ φ (.BoolOp .And [] pos) true := ⟨evb_and_nil⟩
theorem b_or0 {pos : Pos} : EB prog w μ sc Γ φ (.BoolOp .Or [] pos) false := ⟨evb_or_nil⟩
theorem t_nil : ET prog w μ sc Γ φ [] true := ⟨evt_nil⟩
theorem t_one {c : Expr} {r : Bool} (h : EB prog w μ sc Γ φ c r) : ET prog w μ sc Γ φ [c] r := ⟨evt_one h.go⟩
theorem e0 : EA prog w μ sc Γ φ [] [] := ⟨EvA.nil⟩
theorem ec {e : Expr} {es : List Expr} {P : VP} {Ps : List VP} (h : EV prog w μ sc Γ φ e P) (k : EA prog w μ sc Γ φ es Ps) (hn : notStar e = true := by rfl) : EA prog w μ sc Γ φ (e :: es) (P :: Ps) := ⟨EvA.cons h.go k.go hn⟩
theorem e1 {e : Expr} {P : VP} (h : EV prog w μ sc Γ φ e P) (hn : notStar e = true := by rfl) : EA prog w μ sc Γ φ [e] [P] := ec h e0 hn
theorem e2 {e f : Expr} {P Q : VP} (h : EV prog w μ sc Γ φ e P) (h' : EV prog w μ sc Γ φ f Q) (hn : notStar e = true := by rfl) (hn' : notStar f = true := by rfl) : EA prog w μ sc Γ φ [e, f] [P, Q] := ec h (ec h' e0 hn') hn
theorem e3 {e f g : Expr} {P Q R : VP} (h : EV prog w μ sc Γ φ e P) (h' : EV prog w μ sc Γ φ f Q) (h'' : EV prog w μ sc Γ φ g R) (hn : notStar e = true := by rfl) (hn' : notStar f = true := by rfl) (hn'' : notStar g = true := by rfl) : EA prog w μ sc Γ φ [e, f, g] [P, Q, R] := ec h (ec h' (ec h'' e0 hn'') hn') hn
theorem v_list {es : List Expr} {pos : Pos} {Ps : List VP} (h : EA prog w μ sc Γ φ es Ps) (hsz : Ps.length ≤ sizeLine) : EV prog w μ sc Γ φ (.List es pos) (vList Ps) := ⟨ev_listD h.go hsz⟩
theorem v_tup {es : List Expr} {k : Nat} {pos : Pos} {Ps : List VP} (h : EA prog w μ sc Γ φ es Ps) (hsz : Ps.length ≤ sizeLine) : EV prog w μ sc Γ φ (.Tuple es k pos) (vTup Ps) := ⟨ev_tupD h.go hsz⟩
theorem v_cb {x : Str} {px pos : Pos} {args : List Expr} {id : String} {Ps : List VP} {R : VP} (hg : BN φ x (.builtin id)) (ha : EA prog w μ sc Γ φ args Ps) (hs : Spec prog w μ φ (.builtin id) Ps R)
    (hk : sc.names.lookup x = some .globalImplicit := by rfl) (hd : (x == ("__debug__" : Str)) = false := by rfl) : EV prog w μ sc Γ φ (.Call (.Name x px) args [] pos) R := ⟨ev_cb hg ha.go hs hk hd⟩
theorem v_ct {x : Str} {px pos : Pos} {args : List Expr} {id : String} {Ps : List VP} {R : VP} (hg : BN φ x (.type id)) (ha : EA prog w μ sc Γ φ args Ps) (hs : Spec prog w μ φ (.type id) Ps R)
    (hk : sc.names.lookup x = some .globalImplicit := by rfl) (hd : (x == ("__debug__" : Str)) = false := by rfl) : EV prog w μ sc Γ φ (.Call (.Name x px) args [] pos) R := ⟨ev_ct hg ha.go hs hk hd⟩
theorem v_cg {x : Str} {px pos : Pos} {args : List Expr} {a : Addr} {fd : FuncData} {Ps : List VP} {R : VP} (hg : GN φ x (.ref a)) (K : FnK φ a fd) (ha : EA prog w μ sc Γ φ args Ps) (hs : Spec prog w μ φ (.ref a) Ps R)
    (hk : sc.names.lookup x = some .globalImplicit := by rfl) (hd : (x == ("__debug__" : Str)) = false := by rfl) : EV prog w μ sc Γ φ (.Call (.Name x px) args [] pos) R := ⟨ev_cg hg K ha.go hs hk hd⟩
theorem v_call {x : Str} {px pos : Pos} {args : List Expr} {fv : Value} {Ps : List VP} {R : VP} (hf : EV prog w μ sc Γ φ (.Name x px) (vVal fv)) (hk : KeepOk φ fv) (ha : EA prog w μ sc Γ φ args Ps) (hs : Spec prog w μ φ fv Ps R) : EV prog w μ sc Γ φ (.Call (.Name x px) args [] pos) R := ⟨ev_call hf.go ha.go hk hs⟩
theorem v_subL {value slice : Expr} {pos : Pos} {ps : List VP} {I R : VP} (hv : EV prog w μ sc Γ φ value (vList ps)) (hi : EV prog w μ sc Γ φ slice I) (ho : Op2 prog w μ φ getItem (vList ps) I R)
    (hsl : (∀ o i, subscripted slice false o i = operate [o, i] (getItem o i)) ∨ (∀ o i, subscripted slice false o i = operate [i, o] (getItem o i)) := by first | exact .inl fun _ _ => rfl | exact .inr fun _ _ => rfl) : EV prog w μ sc Γ φ (.Subscript value slice pos) R := ⟨ev_subL hv.go hi.go ho hsl⟩
theorem v_subT {value slice : Expr} {pos : Pos} {ps : List VP} {I R : VP} (hv : EV prog w μ sc Γ φ value (vTup ps)) (hi : EV prog w μ sc Γ φ slice I) (ho : Op2 prog w μ φ getItem (vTup ps) I R)
    (hsl : (∀ o i, subscripted slice false o i = operate [o, i] (getItem o i)) ∨ (∀ o i, subscripted slice false o i = operate [i, o] (getItem o i)) := by first | exact .inl fun _ _ => rfl | exact .inr fun _ _ => rfl) : EV prog w μ sc Γ φ (.Subscript value slice pos) R := ⟨ev_subT hv.go hi.go ho hsl⟩
theorem EI.of {e : Expr} {P : VP} (c : CX ⟨k, n⟩ X) (hsc : X.env.scope = sc) (h : EV prog w ⟨k, n⟩ sc Γ ψ e P) : EI prog w X Γ ψ ω e P := ⟨EvIn.of c hsc h.go⟩
theorem TI.of {e : Expr} {r : Bool} (c : CX ⟨k, n⟩ X) (hsc : X.env.scope = sc) (h : EB prog w ⟨k, n⟩ sc Γ ψ e r) : TI prog w X Γ ψ ω e r := ⟨TsIn.of c hsc h.go⟩
theorem EI.own {e : Expr} {P : VP} {Γ' : List (Str × VP)} (c : CX ⟨k, n⟩ X) (hsc : X.env.scope = sc) (hΓ : ∀ m, Typ Γ (both ψ ω) m → Typ Γ' (both ψ ω) m) (h : EV prog w ⟨k, n⟩ sc Γ' (both ψ ω) e P) (hP : Flat P) : EI prog w X Γ ψ ω e P := ⟨EvIn.ofO c hsc hΓ h.go hP⟩
theorem TI.own {e : Expr} {r : Bool} {Γ' : List (Str × VP)} (c : CX ⟨k, n⟩ X) (hsc : X.env.scope = sc) (hΓ : ∀ m, Typ Γ (both ψ ω) m → Typ Γ' (both ψ ω) m) (h : EB prog w ⟨k, n⟩ sc Γ' (both ψ ω) e r) : TI prog w X Γ ψ ω e r := ⟨TsIn.ofO c hsc hΓ h.go⟩
end
end Mine
namespace Mine
section
variable {prog : Program} {w : World} {X : Fix} {Γ : List (Str × VP)} {ψ ω φ : PM} {s s' : Shared} {k : Nat} {n b : Bool} {m : Str → Option Value} {μ : Md} {A : Around} {env : Env} {sc scope : Scope}
variable {rest : List Stmt} {Q : Flow → Shared → Prop} {E : Value → Shared → Prop}
theorem y_assign {x : Str} {px pos : Pos} {e : Expr} {P : VP} (b : B X Γ ψ ω s) (h : EI prog w X Γ ψ ω e P) (hk : stores X x) (q : ∀ v ψ' s', Le ψ ψ' → P.p ψ' v → B X ((x, P) :: Γ) ψ' ω s' → Ex prog w X rest Q E s')
    (hs : swapsWith e (some (.Name x px)) pos.line X.env = pure false := by rfl) : Ex prog w X (.Assign [.Name x px] e pos :: rest) Q E s := x_assign b h.go hk q hs
theorem y_return {pos : Pos} {e : Expr} {P : VP} (b : B X Γ ψ ω s) (h : EI prog w X Γ ψ ω e P) (q : ∀ v ψ' s', Le ψ ψ' → P.p ψ' v → B X Γ ψ' ω s' → Q (.ret v) s') : Ex prog w X (.Return (some e) pos :: rest) Q E s := x_return b h.go q
theorem y_if {pos : Pos} {t : Expr} {body orelse : List Stmt} {r : Bool} (b : B X Γ ψ ω s) (h : TI prog w X Γ ψ ω t r)
    (q : ∀ ψ' s', Le ψ ψ' → B X Γ ψ' ω s' → Ex prog w X (if r then body else orelse) (seqX prog w X rest Q E) E s') : Ex prog w X (.If t body orelse pos :: rest) Q E s :=
  x_if b h.go q
theorem y_newList {x : Str} {px pos lp : Pos} (b : B X Γ ψ ω s) (hk : stores X x) (q : ∀ a s', ω a = none → ψ a = none → B X ((x, vVal (.ref a)) :: Γ) ψ (put ω a (lst [] 0)) s' → Ex prog w X rest Q E s') :
    Ex prog w X (.Assign [.Name x px] (.List [] lp) pos :: rest) Q E s := x_newList b hk q
theorem y_listS {x : Str} {px pos lp : Pos} {es : List Expr} {Ps : List VP} (hsc : X.env.scope = sc) (b : B X Γ ψ ω s) (c : CX ⟨k, n⟩ X) (h : EA prog w ⟨k, n⟩ sc Γ ψ es Ps) (hsz : Ps.length ≤ sizeLine) (hk : stores X x)
    (q : ∀ a vs ψ' s', ω a = none → ψ' a = none → Le ψ ψ' → All2 (fun (P : VP) v => P.p ψ' v) Ps vs → B X ((x, vVal (.ref a)) :: Γ) ψ' (put ω a (lst vs 0)) s' → Ex prog w X rest Q E s') :
    Ex prog w X (.Assign [.Name x px] (.List es lp) pos :: rest) Q E s := x_listS hsc b c h.go hsz hk q
theorem y_app {x : Str} {px ap cpos pos : Pos} {e : Expr} {P : VP} {a : Addr} {vs : List Value} {j : Nat} (hsc : X.env.scope = sc) (b : B X Γ ψ ω s) (ha : ω a = some (lst vs j)) (h : EI prog w X Γ ψ ω e P) (hsz : vs.length ≤ sizeLine)
    (q : ∀ v ψ' s' j', Le ψ ψ' → P.p ψ' v → B X Γ ψ' (put ω a (lst (vs ++ [v]) j')) s' → Ex prog w X rest Q E s')
    (hx : Γ.lookup x = some (vVal (.ref a)) := by rfl) (hv : isVar (sc.names.lookup x) = true := by rfl) (hd : (x == ("__debug__" : Str) || x == ("__classdict__" : Str)) = false := by rfl) (hn : notStar e = true := by rfl) (hl : (ap.endLine == cpos.line) = true := by rfl) :
    Ex prog w X (.Expr (.Call (.Attribute (.Name x px) "append" ap) [e] [] cpos) pos :: rest) Q E s := x_app hsc b ha h.go hsz q hx hv hd hn hl
theorem y_aug {x : Str} {px pos : Pos} {op : Operator} {e : Expr} {P P₁ R : VP} (hsc : X.env.scope = sc) (b : B X Γ ψ ω s) (c : CX ⟨k, n⟩ X) (h : EI prog w X Γ ψ ω e P) (ho : Op2 prog w ⟨k, n⟩ ψ (inplaceOp op) P₁ P R) (hk : stores X x)
    (q : ∀ v ψ' s', Le ψ ψ' → R.p ψ' v → B X ((x, R) :: Γ) ψ' ω s' → Ex prog w X rest Q E s')
    (hx : Γ.lookup x = some P₁ := by rfl) (hv : isVar (sc.names.lookup x) = true := by rfl) (hd : (x == ("__classdict__" : Str)) = false := by rfl) : Ex prog w X (.AugAssign (.Name x px) op e pos :: rest) Q E s :=
  x_aug hsc b c h.go ho hk q hx hv hd
theorem y_assign2 {x y : Str} {px py pos : Pos} {e : Expr} {P : VP} (b : B X Γ ψ ω s) (h : EI prog w X Γ ψ ω e P) (hkx : stores X x) (hky : stores X y)
    (q : ∀ v ψ' s', Le ψ ψ' → P.p ψ' v → B X ((y, P) :: (x, P) :: Γ) ψ' ω s' → Ex prog w X rest Q E s') (hw : swappedStores [.Name x px, .Name y py] e X.env = pure none := by rfl) :
    Ex prog w X (.Assign [.Name x px, .Name y py] e pos :: rest) Q E s := x_assign2 b h.go hkx hky q hw
theorem y_for {tgt : Expr} {pos : Pos} {iter : Expr} {body : List Stmt} {P : VP} {nn : Nat} {Tg : Nat → List (Str × VP)}
    (hsc : X.env.scope = sc) (b : B X Γ ψ ω s) (c : CX ⟨k, n⟩ X) (hi : EV prog w ⟨k, n⟩ sc Γ ψ iter P) (hI : Src prog w ⟨k, n⟩ ψ tgt P nn Tg) (J : Nat → List (Str × VP) → PM → PM → Prop) (hk : ∀ i < nn, ∀ p ∈ Tg i, stores X p.1)
    (Jst : ∀ i Γ' ψ' ω₁ ω₂, J i Γ' ψ' ω₁ → (∀ a o, ω a = some o → ω₂ a = ω₁ a) → J i Γ' ψ' ω₂) (h0 : ∀ ψ', Le ψ ψ' → J 0 Γ ψ' ω)
    (turn : ∀ i Γi ψi ωi si, i < nn → J i Γi ψi ωi → Le ψ ψi → B X (Tg i ++ Γi) ψi ωi si → Ex prog w X body (forX prog w X J i ω ψi ωi rest Q E) (forE prog w X E) si)
    (done : ∀ Γ' ψ' ω' s', J nn Γ' ψ' ω' → Le ψ ψ' → B X Γ' ψ' ω' s' → Ex prog w X rest Q E s')
    (hs : ∀ x, foldedSetIterable iter X.env x = pure x := by intro _; rfl) : Ex prog w X (.For tgt iter body [] pos :: rest) Q E s :=
  x_for hsc b c hi.go hI J hk Jst h0 turn done hs
theorem y_comp {x : Str} {px pos lp : Pos} {elt tgt iter : Expr} {ifs : List Expr} {P : VP} {nn : Nat} {Tg : Nat → List (Str × VP)} {keep : Nat → Bool} {R : Nat → VP} (hsc : X.env.scope = sc) (bb : B X Γ ψ ω s) (c : CX ⟨k + 1, n⟩ X) (hk : stores X x)
    (hi : EV prog w ⟨k + 1, n⟩ sc Γ ψ iter P) (hI : Src prog w ⟨k + 1, n⟩ ψ tgt P nn Tg) (hok : compOk sc scope = true) (hT : ∀ i < nn, ∀ p ∈ Tg i, own scope p.1 = true)
    (ht : ∀ i < nn, ET prog w ⟨k, n⟩ (relS scope sc) (Tg i ++ seen scope Γ) ψ ifs (keep i)) (hel : ∀ i < nn, keep i = true → EV prog w ⟨k, n⟩ (relS scope sc) (Tg i ++ seen scope Γ) ψ elt (R i)) (hsz : nn ≤ sizeLine)
    (q : ∀ v ψ' s', Le ψ ψ' → (vList (((List.range nn).filter keep).map R)).p ψ' v → B X ((x, vList (((List.range nn).filter keep).map R)) :: Γ) ψ' ω s' → Ex prog w X rest Q E s')
    (hsw : swapsWith (.ListComp elt [⟨tgt, iter, ifs, 0⟩] scope lp) (some (.Name x px)) pos.line X.env = pure true)
    (hs : ∀ env x, foldedSetIterable iter env x = pure x := by intro _ _; rfl) :
    Ex prog w X (.Assign [.Name x px] (.ListComp elt [⟨tgt, iter, ifs, 0⟩] scope lp) pos :: rest) Q E s :=
  x_comp hsc bb c hk hi.go hI hok hT (fun i h => (ht i h).go) (fun i h k => (hel i h k).go) hsz q hsw hs
theorem y_ret {e : Expr} {pos : Pos} {P : VP} (b : B X Γ ψ ω s) (h : EI prog w X Γ ψ ω e P) : Ex prog w X (.Return (some e) pos :: rest) (fun fl s2 => ∃ ψ', Grow X.F X.ψ₀ X.s₀ ψ' s2 ∧ P.p ψ' (outOf fl)) E s := x_ret b h.go
theorem v_comp {elt tgt iter : Expr} {ifs : List Expr} {pos : Pos} {P : VP} {nn : Nat} {Tg : Nat → List (Str × VP)} {keep : Nat → Bool} {R : Nat → VP}
    (hi : EV prog w ⟨k + 1, n⟩ sc Γ φ iter P) (hI : Src prog w ⟨k + 1, n⟩ φ tgt P nn Tg) (hok : compOk sc scope = true) (hT : ∀ i < nn, ∀ p ∈ Tg i, own scope p.1 = true)
    (ht : ∀ i < nn, ET prog w ⟨k, n⟩ (relS scope sc) (Tg i ++ seen scope Γ) φ ifs (keep i)) (hel : ∀ i < nn, keep i = true → EV prog w ⟨k, n⟩ (relS scope sc) (Tg i ++ seen scope Γ) φ elt (R i)) (hsz : nn ≤ sizeLine)
    (hs : ∀ env x, foldedSetIterable iter env x = pure x := by intro _ _; rfl) : EV prog w ⟨k + 1, n⟩ sc Γ φ (.ListComp elt [⟨tgt, iter, ifs, 0⟩] scope pos) (vList (((List.range nn).filter keep).map R)) :=
  ⟨ev_comp hi.go hI hok hT (fun i h => (ht i h).go) (fun i h k => (hel i h k).go) hsz hs⟩
theorem v_slice {lower upper step : Option Expr} {p : Pos} {lo hi st : Option Int} (h1 : EvP prog w μ sc Γ φ lower lo) (h2 : EvP prog w μ sc Γ φ upper hi) (h3 : EvP prog w μ sc Γ φ step st) : EV prog w μ sc Γ φ (.Slice lower upper step p) (vSlice lo hi st) := ⟨ev_slice h1 h2 h3⟩
theorem p_some {e : Expr} {i : Int} (h : EV prog w μ sc Γ φ e (vInt i)) : EvP prog w μ sc Γ φ (some e) (some i) := ⟨i, rfl, h.go⟩
theorem v_g {x : Str} {pos : Pos} {v : Value} (hg : GN φ x v) (hk : sc.names.lookup x = some .globalImplicit := by rfl) (hd : (x == ("__debug__" : Str)) = false := by rfl) : EV prog w μ sc Γ φ (.Name x pos) (vVal v) := ⟨ev_glob hg hk hd⟩
structure ES (prog : Program) (w : World) (μ : Md) (sc : Scope) (Γ : List (Str × VP)) (φ : PM) (iter tgt : Expr) (n : Nat) (Tg : Nat → List (Str × VP)) : Prop where
  go : SrcE prog w μ sc Γ φ iter tgt n Tg
structure BS (prog : Program) (w : World) (X : Fix) (Γ : List (Str × VP)) (ψ ω : PM) (s : Shared) (iter tgt : Expr) (n : Nat) (Tg : Nat → List (Str × VP)) : Prop where
  go : SrcB prog w X Γ ψ ω s iter tgt n Tg
theorem BS.of {iter tgt : Expr} {nn : Nat} {Tg : Nat → List (Str × VP)} (c : CX ⟨k, n⟩ X) (hsc : X.env.scope = sc) (h : ES prog w ⟨k, n⟩ sc Γ ψ iter tgt nn Tg) (b : B X Γ ψ ω s) : BS prog w X Γ ψ ω s iter tgt nn Tg := by
  subst hsc; exact ⟨SrcB.of c h.go b⟩
theorem y_forB {tgt : Expr} {pos : Pos} {iter : Expr} {body : List Stmt} {nn : Nat} {Tg : Nat → List (Str × VP)}
    (b : B X Γ ψ ω s) (c : CX ⟨k, n⟩ X) (hI : BS prog w X Γ ψ ω s iter tgt nn Tg) (J : Nat → List (Str × VP) → PM → PM → Prop) (hk : ∀ i < nn, ∀ p ∈ Tg i, stores X p.1)
    (Jst : ∀ i Γ' ψ' ω₁ ω₂, J i Γ' ψ' ω₁ → (∀ a o, ω a = some o → ω₂ a = ω₁ a) → J i Γ' ψ' ω₂) (h0 : ∀ ψ', Le ψ ψ' → J 0 Γ ψ' ω)
    (turn : ∀ i Γi ψi ωi si, i < nn → J i Γi ψi ωi → Le ψ ψi → B X (Tg i ++ Γi) ψi ωi si → Ex prog w X body (forX prog w X J i ω ψi ωi rest Q E) (forE prog w X E) si)
    (done : ∀ Γ' ψ' ω' s', J nn Γ' ψ' ω' → Le ψ ψ' → B X Γ' ψ' ω' s' → Ex prog w X rest Q E s')
    (hs : ∀ x, foldedSetIterable iter X.env x = pure x := by intro _; rfl) : Ex prog w X (.For tgt iter body [] pos :: rest) Q E s :=
  ⟨st_forB J b c hI.go hk Jst h0 (fun i Γi ψi ωi si hi hJ l b' => ((turn i Γi ψi ωi si hi hJ l b').mono fun f s' hf => by cases f <;> first | exact hf.go | exact hf).go) (fun Γ' ψ' ω' s' hJ l b' => (done Γ' ψ' ω' s' hJ l b').go) hs⟩
theorem v_compE {elt tgt iter : Expr} {ifs : List Expr} {pos : Pos} {nn : Nat} {Tg : Nat → List (Str × VP)} {keep : Nat → Bool} {R : Nat → VP}
    (hI : ES prog w ⟨k + 1, n⟩ sc Γ φ iter tgt nn Tg) (hok : compOk sc scope = true) (hT : ∀ i < nn, ∀ p ∈ Tg i, own scope p.1 = true)
    (ht : ∀ i < nn, ET prog w ⟨k, n⟩ (relS scope sc) (Tg i ++ seen scope Γ) φ ifs (keep i)) (hel : ∀ i < nn, keep i = true → EV prog w ⟨k, n⟩ (relS scope sc) (Tg i ++ seen scope Γ) φ elt (R i)) (hsz : nn ≤ sizeLine)
    (hs : ∀ env x, foldedSetIterable iter env x = pure x := by intro _ _; rfl) : EV prog w ⟨k + 1, n⟩ sc Γ φ (.ListComp elt [⟨tgt, iter, ifs, 0⟩] scope pos) (vList (((List.range nn).filter keep).map R)) :=
  ⟨ev_compE hI.go hok hT (fun i h => (ht i h).go) (fun i h k => (hel i h k).go) hsz hs⟩
end
end Mine
namespace Mine
noncomputable def exo (cls : String) (t : Addr) (tb ctx : Value) : Obj := { cls := .type cls, data := .fields #[.ref t, tb, ctx, .none, .bool false, .none] }
theorem entry_unchain : entryFor table "proto.unchain" = some Builtin.«proto.unchain» := entryFor_of_fast (by kernel_rfl)
noncomputable def ctxOf (A : Around) : Value := A.handled.getD .none
section
variable {prog : Program} {w : World} {X : Fix} {Γ : List (Str × VP)} {ψ ω φ : PM} {s s' : Shared} {k : Nat} {n b : Bool} {m : Str → Option Value} {μ : Md} {A : Around} {env : Env} {sc scope : Scope}
variable {E : Value → Shared → Prop}

theorem unchain_ok {e x : Addr} {Q : Value → Shared → Prop} (hs : Sub ψ s.heap) (hk : HK ψ x) (he : ψ e = none) (h : Q .none s) :
    wpAny (model prog w) A (runValue (.builtin "proto.unchain" ⟨[.ref e, .ref x, .ref x, .bool false], []⟩)) Q E s := by
  obtain ⟨o, vs, ho, hd, hc⟩ := hk
  refine wpAny_runValue (codeAny_builtin entry_unchain ?_)
  unfold Builtin.«proto.unchain»
  rcases hc with hc | ⟨y, oy, ys, hc, hoy, hdy, hcy⟩
  · refine wpAny_bind (wpAny_field (hs _ _ ho) hd hc ?_)
    exact wpAny_pure h
  · have hye : y ≠ e := fun q => by rw [q, he] at hoy; cases hoy
    refine wpAny_bind (wpAny_field (hs _ _ ho) hd hc ?_)
    dsimp only
    have h1 : (Value.ref y == Value.none) = false := by simp
    have h2 : (Value.ref y == Value.ref e) = false := by simp [hye]
    simp only [h1, h2, Bool.false_eq_true, if_false]
    by_cases hyx : y = x
    · subst hyx
      have h3 : (Value.ref y == Value.ref y) = true := by simp
      simp only [h3, if_true]
      exact wpAny_bind (wpAny_rule (wpAny_pure h))
    · have h3 : (Value.ref y == Value.ref x) = false := by simp [hyx]
      simp only [h3, Bool.false_eq_true, if_false]
      refine wpAny_bind (wpAny_pure ?_)
      refine wpAny_pure ⟨Code.quiet_builtin _ (by decide +kernel), codeAny_builtin entry_unchain ?_⟩
      unfold Builtin.«proto.unchain»
      refine wpAny_bind (wpAny_field (hs _ _ hoy) hdy hcy ?_)
      exact wpAny_pure h
theorem raiseNew_ok {α : Type} {cls : String} {e t : Addr} {Q : α → Shared → Prop} (hk : HOk A ψ) (hs : Sub ψ s.heap) (hn : ψ e = none) (he : s.heap.get? e = some (exo cls t .none .none))
    (h : ∀ h', (∀ b o, b ≠ e → s.heap.get? b = some o → h'.get? b = some o) → h'.get? e = some (exo cls t .none (ctxOf A)) → E (.ref e) { s with heap := h' }) : wpAny (model prog w) A (raiseNew (.ref e) : Sem α) Q E s := by
  unfold raiseNew
  refine wpAny_bind (wpAny_handled ?_)
  rcases hk with hk | ⟨x, hk, hx⟩
  · rw [hk]
    have hc : ctxOf A = .none := by unfold ctxOf; rw [hk]; rfl
    rw [hc] at h
    have hE := h s.heap (fun b o _ q => q) he
    first
      | exact wpAny_throw hE
      | exact wpAny_bind (wpAny_pure (wpAny_throw hE))
  · rw [hk]
    have hc : ctxOf A = .ref x := by unfold ctxOf; rw [hk]; rfl
    have hne : x ≠ e := fun q => by obtain ⟨o, _, ho, _⟩ := hx; rw [q, hn] at ho; cases ho
    dsimp only
    have h1 : (Value.ref x != Value.ref e) = true := by simp [hne]
    simp only [h1, if_true]
    refine wpAny_bind (wpAny_holding (unchain_ok hs hx hn ?_))
    unfold updateField
    refine wpAny_bind (wpAny_bind (wpAny_load he ?_))
    dsimp only [exo]
    have h2 : 2 < (#[.ref t, .none, .none, .none, .bool false, .none] : Array Value).size := by show 2 < 6; decide
    simp only [h2, if_true]
    refine wpAny_update he (wpAny_throw ?_)
    refine h _ (fun b o hb q => ?_) ?_
    · rw [Heap.get?_update_other _ _ (Ne.symm hb)]; exact q
    · rw [Heap.get?_update_self _ he rfl, hc]; rfl
theorem newExc_ok {cls : String} {args : List Value} {Q : Value → Shared → Prop} (hp : PlainExc cls)
    (h : ∀ h' e t, (∀ b o, s.heap.get? b = some o → h'.get? b = some o) → s.heap.get? e = none → h'.get? e = some (exo cls t .none .none) → Q (.ref e) { s with heap := h' }) (hargs : args.length ≤ sizeLine := by size_fits) :
    wpAny (model prog w) A (newExc (.type cls) args) Q E s :=
  wpAny_newExc_plain hp (fun h' e hm => let ⟨t, ht, _, _⟩ := hm.there; h h' e t hm.keeps hm.new ht) hargs
theorem raise_words {α : Type} {cls msg : String} {Q : α → Shared → Prop} (hp : PlainExc cls) (hk : HOk A ψ) (hs : Sub ψ s.heap)
    (h : ∀ h' tk e t, (∀ b o, s.heap.get? b = some o → h'.get? b = some o) → s.heap.get? e = none → h'.get? e = some (exo cls t .none (ctxOf A)) → E (.ref e) { s with heap := h', toks := tk }) :
    wpAny (model prog w) A (raiseErrorWords cls msg : Sem α) Q E s := by
  unfold raiseErrorWords
  refine wpAny_bind (wpAny_mkText (wpAny_bind ?_))
  refine newExc_ok hp fun h' e t hkp hnew hthere => ?_
  have hn : ψ e = none := none_of_sub hs hnew
  refine raiseNew_ok hk (fun a o q => hkp a o (hs a o q)) hn hthere fun h2 hk2 ht2 => ?_
  refine h h2 _ e t (fun b o q => hk2 b o (fun z => ?_) (hkp b o q)) hnew ht2
  rw [z, hnew] at q; cases q
end
end Mine
namespace Mine
structure Top (X : Fix) : Prop where
  fr : X.env.frame = some X.env.locals
  st : ∃ l, X.A₀.frames = some l ∧ X.A.frames = some (X.env :: l)
inductive Tb (ω : PM) (y : Addr) (fl : Value) : Prop
  | mk (o : _) (vs : _) (h1 : ω y = some o) (h2 : o.data = .fields vs) (h3 : vs[3]? = some fl) : Tb ω y fl
section
variable {prog : Program} {w : World} {X : Fix} {Γ : List (Str × VP)} {ψ ω φ : PM} {s s' : Shared} {k : Nat} {n b : Bool} {m : Str → Option Value} {μ : Md} {A : Around} {env : Env} {sc scope : Scope}
variable {E : Value → Shared → Prop}
theorem Top.of (c : CX μ X) (d : Deep X) : Top X := by
  obtain ⟨fr, e, _⟩ := c.stk
  refine ⟨d.dp.2, fr, e, ?_⟩
  rw [d.dp.1]
  exact Around.frames_deeper e
theorem funFrames {l : List Env} {h : Heap} (k : ∀ env ∈ l, env.scope.kind ≠ .module ∧ ∃ L o, env.frame = some L ∧ h.get? L = some o ∧ ∀ vs, o.data ≠ .fields vs) : h.FunFrames {} l := by
  induction l with
  | nil => trivial
  | cons env r ih =>
    obtain ⟨h1, L, o, h2, h3, h4⟩ := k env (List.mem_cons_self ..)
    exact ⟨h1, ⟨L, o, h2, rfl, h3, h4⟩, ih fun e he => k e (List.mem_cons_of_mem _ he)⟩
theorem ext_slots {F : List Addr} {h' : Heap} (hF : ∀ b ∈ F, ∀ o, s.heap.get? b = some o → ∀ vs, o.data ≠ .fields vs) (x : Heap.SlotsOnly F s.heap h') : Ext F s { s with heap := h' } :=
  ⟨⟨h', s.toks, rfl⟩, fun b o e => by
    by_cases hb : b ∈ F
    · obtain ⟨sl, e1⟩ := x.2.2 b o e
      exact .inl ⟨sl, e1, .inr ⟨hb, hF b hb o e⟩⟩
    · exact .same ((x.2.1 b hb).trans e)⟩
theorem S.entry {e : Addr} {oe : Obj} {vs : Array Value} {head : Value} {hadNext : Bool} {Q : Unit → Shared → Prop} (x : S X m ψ ω s) (cx : CX μ X) (T : Top X) (he : ω e = some oe) (hd : oe.data = .fields vs) (hsz : 1 < vs.size)
    (q : ∀ s' y o' vs', ω y = none → y ≠ e → o'.data = .fields vs' → vs'[3]? = some (rawInt X.env.locals) → S X m ψ (put (put ω y o') e (oe.mapFields (·.setIfInBounds 1 (.ref y)))) s' → Q () s') :
    wpAny (model prog w) X.A (do let a ← frameOf X.env; let pl ← entryPlaceOf X.env.locals hadNext; let b ← EntryCells.newEntry head a .none (rawInt X.env.locals) .none pl; setField (.ref e) 1 b) Q E s := by
  obtain ⟨l, h0, hA⟩ := T.st
  have hst : ∀ env ∈ X.env :: l, env.scope.kind ≠ .module ∧ ∃ L o, env.frame = some L ∧ s.heap.get? L = some o ∧ ∀ vs, o.data ≠ .fields vs := by
    intro env he
    rcases List.mem_cons.mp he with rfl | he
    · obtain ⟨ml, ⟨oL, es, ep, hL, hdL, _⟩, _⟩ := x.fram.loc
      exact ⟨by rw [x.fram.fn]; decide, _, _, T.fr, hL, fun vs q => by rw [hdL] at q; cases q⟩
    · obtain ⟨fr, e', k⟩ := cx.stk.ext x.ext
      rw [h0] at e'; cases e'
      exact k env he
  have hfr : frs X.A = (X.env :: l).filterMap (·.frame) := by unfold frs; rw [hA]; rfl
  refine wpAny_bind (wpAny_frameOf_fun (base := {}) hA (funFrames hst) T.fr fun h₁ hs₁ => ?_)
  rw [← hfr] at hs₁
  have x1 := x.back cx (ext_slots (fun b hb o ho vs q => by
    rw [hfr] at hb
    obtain ⟨_, o', ho', hnf⟩ := (funFrames hst).mem hb
    rw [ho] at ho'; cases ho'
    exact hnf vs q) hs₁)
  refine wpAny_bind (wpAny_entryPlaceOf fun pl hpl => ?_)
  unfold EntryCells.newEntry newFields
  refine wpAny_bind (wpAny_newObj_type ?_ (hpl.sizeOk5 _ _ _ _ _))
  have hny : ω h₁.objs.size = none := by
    cases z : ω h₁.objs.size with
    | none => rfl
    | some o =>
      have h2 : h₁.get? h₁.objs.size = some o := (x1.own _ _ z).1
      rw [get_size] at h2; cases h2
  have hye : h₁.objs.size ≠ e := fun z => by rw [z, he] at hny; cases hny
  have x2 := x1.lay { cls := .type "traceback", dict := none, data := .fields ([head, .ref X.env.locals, .none, rawInt X.env.locals, .none] ++ (if pl.isEmpty then List.replicate 6 Value.none else pl)).toArray } rfl s.toks
  have he2 : (put ω h₁.objs.size { cls := .type "traceback", dict := none, data := .fields ([head, .ref X.env.locals, .none, rawInt X.env.locals, .none] ++ (if pl.isEmpty then List.replicate 6 Value.none else pl)).toArray }) e = some oe := by rw [put_ne (Ne.symm hye)]; exact he
  have hge := (x2.own _ _ he2).1
  refine wpAny_setField hge hd hsz ?_
  refine q _ h₁.objs.size _ _ hny hye rfl ?_ (x2.sameBut he2 ⟨_, s.toks, rfl⟩ (fun b ob hb e => ?_) ?_)
  · rcases hpl with rfl | ⟨_, _, _, _, _, _, _, rfl⟩ <;> simp
  · rw [Heap.get?_update_other _ _ (Ne.symm hb)]; exact e
  · exact Heap.get?_update_self _ hge (Obj.isFreed_of_fields (Obj.data_mapFields hd _))
theorem put_swap {a b : Addr} {o o' : Obj} (h : a ≠ b) : put (put ω a o) b o' = put (put ω b o') a o := by
  funext c
  unfold put
  by_cases h1 : c = b
  · subst h1; simp [Ne.symm h]
  · by_cases h2 : c = a
    · subst h2; simp [h]
    · simp [h1, h2]
theorem put_put {a : Addr} {o o' : Obj} : put (put ω a o) a o' = put ω a o' := by
  funext c
  unfold put
  by_cases h1 : c = a <;> simp [h1]
theorem exo_set {cls : String} {t y : Addr} {tb ctx : Value} : (exo cls t tb ctx).mapFields (·.setIfInBounds 1 (.ref y)) = exo cls t (.ref y) ctx := rfl

inductive FlF (X : Fix) (Γ : List (Str × VP)) (ψ ω : PM) (cls : String) (ctx : Value) (x : Addr) (s : Shared) : Prop
  | mk (t : _) (h1 : ω x = none) (h2 : B X Γ ψ (put ω x (exo cls t .none ctx)) s) : FlF X Γ ψ ω cls ctx x s
inductive FlT (X : Fix) (Γ : List (Str × VP)) (ψ ω : PM) (cls : String) (ctx : Value) (x : Addr) (fl : Value) (s : Shared) : Prop
  | mk (ω' : _) (t : _) (y : _) (h1 : Le ω ω') (h2 : ω x = none) (h3 : ω y = none) (h4 : x ≠ y) (h5 : both ψ ω' x = some (exo cls t (.ref y) ctx)) (h6 : Tb ω' y fl) (h7 : B X Γ ψ ω' s) : FlT X Γ ψ ω cls ctx x fl s
inductive FlO (X : Fix) (Γ : List (Str × VP)) (ψ ω : PM) (cls : String) (ctx : Value) (x : Addr) (s : Shared) : Prop
  | mk (ω' : _) (t : _) (y : _) (h1 : Le ω ω') (h2 : ω x = none) (h3 : ω y = none) (h4 : x ≠ y) (h5 : ω' x = some (exo cls t (.ref y) ctx)) (h6 : Tb ω' y .none) (h7 : B X Γ ψ ω' s) : FlO X Γ ψ ω cls ctx x s
noncomputable def here (X : Fix) : Value := rawInt X.env.locals
variable {cls : String} {ctx : Value} {e : Addr}
theorem FlF.note {Q : Unit → Shared → Prop} (f : FlF X Γ ψ ω cls ctx e s) (cx : CX μ X) (T : Top X) (q : ∀ s', FlT X Γ ψ ω cls ctx e (here X) s' → Q () s') : wpAny (model prog w) X.A (noteFrame (.ref e) X.env) Q E s := by
  obtain ⟨t, hn, m, x, ty⟩ := f
  have hge := (x.own _ _ (put_self ω e _)).1
  unfold noteFrame
  simp only [T.fr]
  refine wpAny_bind (wpAny_field hge rfl (x := .none) (by rfl) ?_)
  rw [if_neg (by decide)]
  refine x.entry cx T (put_self ω e _) rfl (by show 1 < 6; decide) fun s' y o' vs' hy hye hd' h3 x' => q s' ⟨_, t, y, ?_, hn, ?_, Ne.symm hye, ?_, ⟨o', vs', ?_, hd', h3⟩, m, x', ty⟩
  · rw [put_ne hye] at hy
    intro a o ha
    rw [put_ne (fun z => by rw [z, hn] at ha; cases ha), put_ne (fun z => by rw [z, hy] at ha; cases ha), put_ne (fun z => by rw [z, hn] at ha; cases ha)]
    exact ha
  · rw [put_ne hye] at hy; exact hy
  · rw [exo_set]; exact both_own (put_self _ _ _)
  · rw [put_ne hye, put_self]
theorem FlT.again {Q : Unit → Shared → Prop} (f : FlT X Γ ψ ω cls ctx e (here X) s) (T : Top X) (q : Q () s) : wpAny (model prog w) X.A (noteFrame (.ref e) X.env) Q E s := by
  obtain ⟨ω', t, y, hl, hn, hny, hne, he, ⟨o, vs, hy, hd, h3⟩, m, x, ty⟩ := f
  have hge := x.all.sub _ _ he
  have hgy := (x.own _ _ hy).1
  unfold noteFrame
  simp only [T.fr]
  refine wpAny_bind (wpAny_field hge rfl (x := .ref y) (by rfl) ?_)
  rw [if_pos (show (Value.ref y != Value.none) = true from by simp)]
  refine wpAny_bind (wpAny_field hgy hd h3 ?_)
  rw [if_pos (show (here X == rawInt X.env.locals) = true from by simp [here])]
  exact wpAny_pure q
theorem FlT.flight {fl : Value} {g : Option Addr} {Q : Unit → Shared → Prop} (f : FlT X Γ ψ ω cls ctx e fl s) (q : ∀ s', FlT X Γ ψ ω cls ctx e (g.elim Value.none fun f => rawInt f) s' → Q () s') : wpAny (model prog w) A (setFlight (.ref e) g) Q E s := by
  obtain ⟨ω', t, y, hl, hn, hny, hne, he, ⟨o, vs, hy, hd, h3⟩, m, x, ty⟩ := f
  have hge := x.all.sub _ _ he
  have hgy := (x.own _ _ hy).1
  have hsz : 3 < vs.size := (Array.getElem?_eq_some_iff.mp h3).1
  unfold setFlight
  refine wpAny_bind (wpAny_field hge rfl (x := .ref y) (by rfl) ?_)
  rw [if_pos (show (Value.ref y != Value.none) = true from by simp)]
  refine wpAny_setField hgy hd hsz (q _ ⟨put ω' y (o.mapFields (·.setIfInBounds 3 (g.elim Value.none fun f => rawInt f))), t, y, ?_, hn, hny, hne, ?_, ⟨_, _, put_self _ _ _, Obj.data_mapFields hd _, by simp [hsz]⟩, m, x.sameBut hy ⟨_, s.toks, rfl⟩ (fun b ob hb e => by rw [Heap.get?_update_other _ _ (Ne.symm hb)]; exact e) (Heap.get?_update_self _ hgy (Obj.isFreed_of_fields (Obj.data_mapFields hd _))), ty⟩)
  · intro a o' ha
    rw [put_ne (fun z => by rw [z, hny] at ha; cases ha)]
    exact hl a o' ha
  · unfold both at he ⊢
    rw [put_ne hne]; exact he
theorem FlO.note {Q : Unit → Shared → Prop} (f : FlO X Γ ψ ω cls ctx e s) (cx : CX μ X) (T : Top X) (q : ∀ s', FlT X Γ ψ ω cls ctx e (here X) s' → Q () s') : wpAny (model prog w) X.A (noteFrame (.ref e) X.env) Q E s := by
  obtain ⟨ω', t, y, hl, hn, hny, hne, he, ⟨o, vs, hy, hd, h3⟩, m, x, ty⟩ := f
  have hge := (x.own _ _ he).1
  have hgy := (x.own _ _ hy).1
  have hsz : 3 < vs.size := (Array.getElem?_eq_some_iff.mp h3).1
  unfold noteFrame
  simp only [T.fr]
  refine wpAny_bind (wpAny_field hge rfl (x := .ref y) (by rfl) ?_)
  rw [if_pos (show (Value.ref y != Value.none) = true from by simp)]
  refine wpAny_bind (wpAny_field hgy hd h3 ?_)
  rw [if_neg (show ¬ ((Value.none == rawInt X.env.locals) = true) from by simp [rawInt])]
  refine wpAny_bind (wpAny_setField hgy hd hsz ?_)
  have x2 := x.sameBut (s' := { s with heap := s.heap.update y (Obj.mapFields (·.setIfInBounds 3 .none)) }) hy ⟨_, s.toks, rfl⟩ (fun b ob hb e => by rw [Heap.get?_update_other _ _ (Ne.symm hb)]; exact e) (Heap.get?_update_self _ hgy (Obj.isFreed_of_fields (Obj.data_mapFields hd _)))
  have he2 : put ω' y (o.mapFields (·.setIfInBounds 3 .none)) e = some (exo cls t (.ref y) ctx) := by rw [put_ne hne]; exact he
  refine x2.entry cx T he2 rfl (by show 1 < 6; decide) fun s' z o' vs' hz hze hd' h3' x' => q s' ⟨_, t, z, ?_, hn, ?_, Ne.symm hze, ?_, ⟨o', vs', ?_, hd', h3'⟩, m, x', ty⟩
  · have hzy : z ≠ y := fun q => by rw [q, put_self] at hz; cases hz
    rw [put_ne hzy] at hz
    have hωz : ω z = none := by
      cases q : ω z with
      | none => rfl
      | some o => rw [hl z o q] at hz; cases hz
    intro a o ha
    rw [put_ne (fun q => by rw [q, hn] at ha; cases ha), put_ne (fun q => by rw [q, hωz] at ha; cases ha), put_ne (fun q => by rw [q, hny] at ha; cases ha)]
    exact hl a o ha
  · have hzy : z ≠ y := fun q => by rw [q, put_self] at hz; cases hz
    rw [put_ne hzy] at hz
    cases q : ω z with
    | none => rfl
    | some o => rw [hl z o q] at hz; cases hz
  · rw [exo_set]; exact both_own (put_self _ _ _)
  · rw [put_ne hze, put_self]
noncomputable def Fl (X : Fix) (Γ : List (Str × VP)) (ψ ω : PM) (cls : String) (ctx : Value) (x : Addr) (s : Shared) : Prop := FlF X Γ ψ ω cls ctx x s ∨ FlO X Γ ψ ω cls ctx x s ∨ FlT X Γ ψ ω cls ctx x (here X) s
theorem Fl.note {Q : Unit → Shared → Prop} (f : Fl X Γ ψ ω cls ctx e s) (cx : CX μ X) (T : Top X) (q : ∀ s', FlT X Γ ψ ω cls ctx e (here X) s' → Q () s') : wpAny (model prog w) X.A (noteFrame (.ref e) X.env) Q E s := by
  rcases f with f | f | f
  · exact f.note cx T q
  · exact f.note cx T q
  · exact f.again T (q s f)
theorem FlT.back (f : FlT X Γ ψ ω cls ctx e (here X) s) (T : Top X) (q : ∀ s', FlT X Γ ψ ω cls ctx e (here X) s' → E (.ref e) s') : cameBackBy (model prog w) A X.env E (.ref e) s := by
  unfold cameBackBy
  have f0 := f
  obtain ⟨ω', t, y, hl, hn, hny, hne, he, _, m, x, ty⟩ := f0
  refine wpAny_bind (wpAny_field (x.all.sub _ _ he) rfl (x := .ref y) (by rfl) ?_)
  have h1 : (Value.ref y == Value.none) = false := by simp
  simp only [h1, Bool.false_eq_true, if_false]
  rw [T.fr]
  exact f.flight fun s' f' => q s' f'
theorem Fl.noted (f : Fl X Γ ψ ω cls ctx e s) (cx : CX μ X) (T : Top X) (q : ∀ s', FlT X Γ ψ ω cls ctx e (here X) s' → E (.ref e) s') : notedBy (model prog w) X.A X.env E (.ref e) s := by
  unfold notedBy
  exact f.note cx T q
theorem Fl.forE (f : Fl X Γ ψ ω cls ctx e s) (cx : CX μ X) (T : Top X) (q : ∀ s', FlT X Γ ψ ω cls ctx e (here X) s' → E (.ref e) s') : Mine.forE prog w X E (.ref e) s := by
  unfold Mine.forE
  exact f.noted cx T fun s' f' => f'.back T q
end
end Mine
namespace Mine
section
variable {prog : Program} {w : World} {X : Fix} {Γ : List (Str × VP)} {ψ ω φ : PM} {s s' : Shared} {k : Nat} {n b : Bool} {m : Str → Option Value} {μ : Md} {A : Around} {env : Env} {sc scope : Scope}
variable {rest : List Stmt} {Q : Flow → Shared → Prop} {E : Value → Shared → Prop} {cls : String} {ctx : Value}

noncomputable def Raises (prog : Program) (w : World) {α : Type} (A : Around) (ψ : PM) (s : Shared) (t : Sem α) (cls : String) : Prop :=
  ∀ (Q : α → Shared → Prop) (E : Value → Shared → Prop), (∀ x t ψ' s1 s2, Grow (frs A) ψ s ψ' s1 → Ext (frs A) s1 s2 → s1.heap.get? x = none → s2.heap.get? x = some (exo cls t .none (ctxOf A)) → E (.ref x) s2) → wpAny (model prog w) A t Q E s
theorem getItem_out {l : Addr} {items : Array Value} {i : Int} {t : Tok} {Q : Value → Shared → Prop} (hk : HOk A ψ) (hs : Sub ψ s.heap) (hl : s.heap.IsList l items)
    (hout : (items.size : Int) ≤ i) (hhi : i < 2 ^ 63)
    (hE : ∀ h' tk e t, (∀ b o, s.heap.get? b = some o → h'.get? b = some o) → s.heap.get? e = none → h'.get? e = some (exo "IndexError" t .none (ctxOf A)) → E (.ref e) { s with heap := h', toks := tk }) :
    wpAny (model prog w) A (getItem (.ref l) (.int i t)) Q E s := by
  obtain ⟨o, ho, hc, ne, hd⟩ := id hl
  unfold getItem
  try with_reducible refine wpAny_holding ?_
  first | refine wpAny_bind (wpAny_pure ?_) | skip
  refine wpAny_bind (wpAny_sequenceKey hl.typeIs (by decide) ?_)
  refine wpAny_bind (wpAny_callSpecial?_slot (name := Str.ofString "__getitem__") hl.typeIs slot_list_getitem
    (wpAny_call_entry slot_list_getitem hl.typeIs entry_list_getitem ?_ (args_list_getitem _ _)))
  show wpAny _ _ (Builtin.List.listSubscript? (.int i t) >>= _) _ _ s
  refine wpAny_bind (wpAny_listSubscript_int (fitsIndex_both (by omega) hhi) ?_)
  clear hhi
  obtain ⟨j, rfl⟩ := Int.eq_ofNat_of_zero_le (show 0 ≤ i by omega)
  have hx : items[j]? = none := Array.getElem?_eq_none (by omega)
  show wpAny _ _ ((seqItemAt l j >>= fun r => pure (r.map (j, ·))) >>= _) _ _ s
  refine wpAny_bind (wpAny_bind (wpAny_seqItemAt ho hd (wpAny_pure ?_)))
  rw [hx]
  first
    | exact wpAny_bind (wpAny_rule (raise_words plainExc_IndexError hk hs hE))
    | exact wpAny_bind (wpAny_rule (wpAny_bind (raise_words plainExc_IndexError hk hs hE)))
    | exact wpAny_bind (wpAny_bind (wpAny_rule (raise_words plainExc_IndexError hk hs hE)))
    | exact wpAny_rule (raise_words plainExc_IndexError hk hs hE)
noncomputable def Out2 (prog : Program) (w : World) (μ : Md) (φ : PM) (t : Value → Value → Sem Value) (P Q : VP) (cls : String) : Prop :=
  ∀ A ψ s a b, Cx μ A ψ s → Le φ ψ → P.p ψ a → Q.p ψ b → Raises prog w A ψ s (t a b) cls
theorem get_out {ps : List VP} {i : Int} (h : (ps.length : Int) ≤ i) (hi : i < 2 ^ 63) : Out2 prog w μ φ getItem (vList ps) (vInt i) "IndexError" := by
  rintro A ψ s _ _ c l ⟨a, vs, j, rfl, ho, hall⟩ ⟨t, rfl⟩ Q E hE
  refine getItem_out c.hand c.sub (items := vs.toArray) ⟨_, c.sub _ _ ho, rfl, j, rfl⟩ (by simpa [hall.length] using h) hi fun h' tk e t hk hn ht => ?_
  exact hE e t ψ s _ (Grow.refl c.sub) (Ext.of_keeps hk) hn ht

structure EVR (prog : Program) (w : World) (μ : Md) (sc : Scope) (Γ : List (Str × VP)) (φ : PM) (e : Expr) (cls : String) : Prop where
  go : ∀ A env m ψ s, env.scope = sc → Cx μ A ψ s → Le φ ψ → Fram env m s.heap → Typ Γ ψ m → Raises prog w A ψ s (eval e env) cls
structure EBR (prog : Program) (w : World) (μ : Md) (sc : Scope) (Γ : List (Str × VP)) (φ : PM) (e : Expr) (cls : String) : Prop where
  go : ∀ A env m ψ s, env.scope = sc → Cx μ A ψ s → Le φ ψ → Fram env m s.heap → Typ Γ ψ m → Raises prog w A ψ s (isTrue e env (eval e env)) cls
theorem r_sub {value slice : Expr} {pos : Pos} {P I : VP} {T id : String} (hT : OfT P T) (hl : typeLookup (.type T) "__getitem__" = pure (some (.builtin id))) (hv : EV prog w μ sc Γ φ value P) (hi : EV prog w μ sc Γ φ slice I)
    (ho : Out2 prog w μ φ getItem P I cls) (hsl : (∀ o i, subscripted slice false o i = operate [o, i] (getItem o i)) ∨ (∀ o i, subscripted slice false o i = operate [i, o] (getItem o i))) : EVR prog w μ sc Γ φ (.Subscript value slice pos) cls := by
  refine ⟨?_⟩
  intro A env m ψ s he c le f t Q E hE
  rw [arm_eval_Subscript]
  refine wpAny_bind ((hv.go A env m ψ s he c le f t).use fun o ψ1 s1 g1 p1 => ?_)
  have c1 := c.grow g1
  refine wpAny_bind (wpAny_holding ((hi.go A env m ψ1 s1 he c1 (le.trans g1.le) (f.ext g1.ext) (t.le g1.le)).use fun i ψ2 s2 g2 p2 => ?_))
  have p1' := P.mono g2.le p1
  have hT2 := hT ψ2 o s2 g2.sub p1'
  refine wpAny_bind (wpAny_standAt (wpAny_bind ?_))
  rw [getitemInPython_of_ne hT2.not_modules]
  refine wpAny_bind (wpAny_specialOf hT2 hl ?_)
  have fin : ∀ l, wpAny (model prog w) A (operate l (getItem o i)) (fun r s3 => wpAny (model prog w) A (letTemporaryGo value o r >>= fun _ => pure r) Q E s3) E s2 := fun l => by
    unfold operate
    refine wpAny_bind (wpAny_holding ?_)
    exact ho A ψ2 s2 o i (c1.grow g2) (le.trans (g1.le.trans g2.le)) p1' p2 _ _ fun x t ψ' s3 s4 g e hn hx => hE x t ψ' s3 s4 (g1.trans (g2.trans g)) e hn hx
  rcases hsl with h | h
  · refine wpAny_pure (wpAny_bind ?_)
    rw [h]; exact fin _
  · refine wpAny_pure (wpAny_bind ?_)
    rw [h]; exact fin _
theorem r_subL {value slice : Expr} {pos : Pos} {ps : List VP} {i : Int} (hv : EV prog w μ sc Γ φ value (vList ps)) (hi : EV prog w μ sc Γ φ slice (vInt i)) (h : (ps.length : Int) ≤ i) (hi' : i < 2 ^ 63)
    (hsl : (∀ o i, subscripted slice false o i = operate [o, i] (getItem o i)) ∨ (∀ o i, subscripted slice false o i = operate [i, o] (getItem o i)) := by first | exact .inl fun _ _ => rfl | exact .inr fun _ _ => rfl) : EVR prog w μ sc Γ φ (.Subscript value slice pos) "IndexError" :=
  r_sub ofT_seq lookup_list_getitem hv hi (get_out h hi') hsl
theorem rb_cmpL {l r : Expr} {op : CmpOp} {pos : Pos} (hl : EVR prog w μ sc Γ φ l cls) (hm : behindInMarks op r = false := by rfl) : EBR prog w μ sc Γ φ (.Compare l [op] [r] pos) cls := by
  refine ⟨?_⟩
  intro A env m ψ s he c le f t Q E hE
  refine wpAny_isTrue_Compare1 ?_ hm
  exact hl.go A env m ψ s he c le f t _ _ hE

theorem FlF.of {ψ' : PM} {s1 s2 : Shared} {x t : Addr} (c : CX ⟨k, n⟩ X) (b : B X Γ ψ ω s) (g : Grow (frs X.A) ψ s ψ' s1) (e : Ext (frs X.A) s1 s2) (hn : s1.heap.get? x = none) (hx : s2.heap.get? x = some (exo cls t .none ctx)) : FlF X Γ ψ' ω cls ctx x s2 := by
  obtain ⟨m, Y, ty⟩ := b
  have Y1 := Y.grow c g
  have hω : ω x = none := by
    cases q : ω x with
    | none => rfl
    | some o => have := (Y1.own x o q).1; rw [hn] at this; cases this
  refine ⟨t, hω, m, ?_, ty.le g.le⟩
  have Y2 := Y1.wnew c e (wr := [x]) fun b hb => by rw [List.mem_singleton.mp hb]; exact hn
  have : wput ω [x] s2.heap = put ω x (exo cls t .none ctx) := by
    funext a
    unfold wput put
    by_cases q : a = x
    · subst q; simp [hx]
    · simp [q]
  rw [this] at Y2
  exact Y2
theorem y_assignR {x : Str} {px pos : Pos} {e : Expr} (hsc : X.env.scope = sc) (b : B X Γ ψ ω s) (c : CX ⟨k, n⟩ X) (h : EVR prog w ⟨k, n⟩ sc Γ ψ e cls)
    (q : ∀ x ψ' s', Le ψ ψ' → FlF X Γ ψ' ω cls (ctxOf X.A) x s' → E (.ref x) s') (hs : swapsWith e (some (.Name x px)) pos.line X.env = pure false := by rfl) : Ex prog w X (.Assign [.Name x px] e pos :: rest) Q E s := by
  refine ⟨wpAny_execs_cons (wpAny_Assign_Name ?_ hs)⟩
  have b0 := b
  obtain ⟨m, Y, ty⟩ := b0
  exact h.go X.A X.env m ψ s hsc (Y.cx c) (Le.refl _) Y.fram ty _ _ fun x t ψ' s1 s2 g e hn hx => q x ψ' s2 g.le (FlF.of c b g e hn hx)
theorem test_R {t : Expr} {Qb : Bool → Shared → Prop} (hsc : X.env.scope = sc) (b : B X Γ ψ ω s) (c : CX ⟨k, n⟩ X) (h : EBR prog w ⟨k, n⟩ sc Γ ψ t cls)
    (q : ∀ x ψ' s', Le ψ ψ' → FlF X Γ ψ' ω cls (ctxOf X.A) x s' → E (.ref x) s') : wpAny (model prog w) X.A (isTrue t X.env (eval t X.env)) Qb E s := by
  have b0 := b
  obtain ⟨m, Y, ty⟩ := b0
  exact h.go X.A X.env m ψ s hsc (Y.cx c) (Le.refl _) Y.fram ty _ _ fun x t ψ' s1 s2 g e hn hx => q x ψ' s2 g.le (FlF.of c b g e hn hx)
theorem test_I {t : Expr} {r : Bool} {Qb : Bool → Shared → Prop} (b : B X Γ ψ ω s) (h : TI prog w X Γ ψ ω t r) (q : ∀ ψ' s', Le ψ ψ' → B X Γ ψ' ω s' → Qb r s') : wpAny (model prog w) X.A (isTrue t X.env (eval t X.env)) Qb E s := h.go s _ _ b q

noncomputable def wQ (prog : Program) (w : World) (X : Fix) (I : Nat → Shared → Prop) (n : Nat) (rest : List Stmt) (Q : Flow → Shared → Prop) (E : Value → Shared → Prop) : Flow → Shared → Prop
  | .next, s | .cont, s => ∃ m, m < n ∧ I m s
  | .brk, s => Ex prog w X rest Q E s
  | .ret v, s => Q (.ret v) s
theorem y_while {test : Expr} {body : List Stmt} {pos : Pos} (I : Nat → Shared → Prop)
    (turn : ∀ n s, I n s → wpAny (model prog w) X.A (isTrue test X.env (eval test X.env)) (fun b s2 => if b then Ex prog w X body (wQ prog w X I n rest Q E) (forE prog w X E) s2 else Ex prog w X rest Q E s2) (forE prog w X E) s)
    (n : Nat) (h : I n s) : Ex prog w X (.While test body [] pos :: rest) Q E s := by
  refine ⟨ex_cons (wpAny_While (codeAny_whileLoop I (fun n s hI => ?_) n h))⟩
  refine wpAny_mono (turn n s hI) (fun b s2 hb => ?_) fun _ _ e => e
  cases b with
  | true =>
    simp only [if_true] at hb ⊢
    refine wpAny_mono hb.go (fun f s3 hf => ?_) fun _ _ e => e
    cases f with
    | next => exact hf
    | cont => exact hf
    | brk => exact hf.go
    | ret v => exact hf
  | false =>
    simp only [Bool.false_eq_true, if_false] at hb ⊢
    exact wpAny_execs_nil hb.go

noncomputable def Fix.mk' (X : Fix) (x : Addr) : Fix := { X with A := X.A.mark (some (.ref x)), hx := some x }
noncomputable def CtxOk (ψ : PM) (ctx : Value) : Prop := ctx = .none ∨ ∃ z oz zs, ctx = .ref z ∧ ψ z = some oz ∧ oz.data = .fields zs ∧ zs[2]? = some .none
theorem CtxOk.le {ψ' : PM} (h : CtxOk ψ ctx) (l : Le ψ ψ') : CtxOk ψ' ctx := h.imp id fun ⟨z, oz, zs, a, b, c⟩ => ⟨z, oz, zs, a, l _ _ b, c⟩
theorem HK.of {x t : Addr} {tb : Value} (h : ψ x = some (exo cls t tb ctx)) (c : CtxOk ψ ctx) : HK ψ x := by
  refine ⟨_, _, h, rfl, ?_⟩
  rcases c with rfl | ⟨z, oz, zs, rfl, h1, h2, h3⟩
  · exact .inl rfl
  · exact .inr ⟨z, oz, zs, rfl, h1, h2, h3⟩
theorem CX.mk2 {x : Addr} (c : CX ⟨k, n⟩ X) : CX ⟨k, false⟩ (X.mk' x) := let ⟨n0, h, _⟩ := c.base; ⟨n0, h, fun e => by cases e⟩
theorem S.mark {x : Addr} (y : S X m ψ ω s) (d : Deep X) (h : HK ψ x) : S (X.mk' x) m ψ ω s := by
  refine ⟨y.ext, y.le, y.new, y.sub, y.fram, ?_, fun e he => ?_, y.loc, y.there, y.off, y.fre, y.own, y.tab⟩
  · show Lnk X.A₀ X.env (some x) (X.A.mark (some (.ref x)))
    rw [d.dp.1]
    exact .mark x d.dp.2
  · cases he; exact h
theorem S.unmark {x : Addr} (y : S (X.mk' x) m ψ ω s) (d : Deep X) : S X m ψ ω s := by
  refine ⟨y.ext, y.le, y.new, y.sub, y.fram, ?_, fun e he => ?_, y.loc, y.there, y.off, y.fre, y.own, y.tab⟩
  · rw [d.hx, d.dp.1]
    exact .deep d.dp.2
  · rw [d.hx] at he; cases he
theorem B.unmark {x : Addr} (b : B (X.mk' x) Γ ψ ω s) (d : Deep X) : B X Γ ψ ω s := let ⟨m, y, t⟩ := b; ⟨m, y.unmark d, t⟩
theorem FlT.unmark {x e : Addr} {fl : Value} (b : FlT (X.mk' x) Γ ψ ω cls ctx e fl s) (d : Deep X) : FlT X Γ ψ ω cls ctx e fl s :=
  let ⟨ω', t, y, a1, a2, a3, a4, a5, a6, b⟩ := b; ⟨ω', t, y, a1, a2, a3, a4, a5, a6, b.unmark d⟩
theorem Top.mk' {x : Addr} (T : Top X) : Top (X.mk' x) := let ⟨a, l, b, c⟩ := T; ⟨a, l, b, c⟩
inductive HS (X : Fix) (Γ : List (Str × VP)) (ψ ω : PM) (cls : String) (ctx : Value) (x : Addr) (s : Shared) : Prop
  | mk (ω' : _) (t : _) (y : _) (h1 : Le ω ω') (h2 : ω x = none) (h3 : ω y = none) (h4 : x ≠ y) (h5 : ω' x = none) (h6 : ψ x = some (exo cls t (.ref y) ctx)) (h7 : Tb ω' y .none) (h8 : B (X.mk' x) Γ ψ ω' s) : HS X Γ ψ ω cls ctx x s
theorem HS.plain {x : Addr} (h : HS X Γ ψ ω cls ctx x s) : B (X.mk' x) Γ ψ ω s := by
  obtain ⟨ω', t, y, hl, _, _, _, _, _, _, b⟩ := h
  exact b.forget hl
theorem FlT.hold {x : Addr} (f : FlT X Γ ψ ω cls ctx x .none s) (d : Deep X) (hc : CtxOk ψ ctx) : ∃ ψ', Le ψ ψ' ∧ HS X Γ ψ' ω cls ctx x s := by
  obtain ⟨ω', t, y, hl, hn, hny, hne, he, ht, b⟩ := f
  cases q : ω' x with
  | none =>
    have he' : ψ x = some (exo cls t (.ref y) ctx) := by unfold both at he; rw [q] at he; simpa using he
    obtain ⟨m, Y, ty⟩ := b
    exact ⟨ψ, Le.refl _, ω', t, y, hl, hn, hny, hne, q, he', ht, m, Y.mark d (HK.of he' hc), ty⟩
  | some o =>
    have ho : o = exo cls t (.ref y) ctx := by unfold both at he; rw [q] at he; exact Option.some.inj he
    subst ho
    have hψ := b.ownNone q
    have b2 := b.freeze q
    obtain ⟨m, Y, ty⟩ := b2
    refine ⟨_, le_put hψ, _, t, y, ?_, hn, hny, hne, by simp, put_self _ _ _, ?_, m, Y.mark d (HK.of (put_self _ _ _) (hc.le (le_put hψ))), ty⟩
    · intro a o ha
      have : a ≠ x := fun z => by rw [z, hn] at ha; cases ha
      simp [this]; exact hl a o ha
    · obtain ⟨o, vs, h1, h2, h3⟩ := ht
      exact ⟨o, vs, by simp [Ne.symm hne]; exact h1, h2, h3⟩
theorem HS.up {x : Addr} (h : HS X Γ ψ ω cls ctx x s) (d : Deep X) : FlT X Γ ψ ω cls ctx x .none s := by
  obtain ⟨ω', t, y, hl, hn, hny, hne, hq, he, ht, b⟩ := h
  exact ⟨ω', t, y, hl, hn, hny, hne, by unfold both; rw [hq]; simpa using he, ht, b.unmark d⟩

noncomputable def forH (prog : Program) (w : World) (X : Fix) (x : Addr) (E : Value → Shared → Prop) : Value → Shared → Prop := notedBy (model prog w) (X.mk' x).A X.env (cameBackBy (model prog w) X.A X.env E)
theorem Fl.forH {x e : Addr} (f : Fl (X.mk' x) Γ ψ ω cls ctx e s) (d : Deep X) (c : CX ⟨k, n⟩ X) (q : ∀ s', FlT X Γ ψ ω cls ctx e (here X) s' → E (.ref e) s') : Mine.forH prog w X x E (.ref e) s := by
  have T := Top.of c d
  unfold Mine.forH
  refine Fl.noted (X := X.mk' x) f c.mk2 T.mk' fun s' f' => ?_
  have f2 : FlT X Γ ψ ω cls ctx e (here X) s' := FlT.unmark f' d
  exact f2.back T q
theorem y_tryE {T : String} {body hb : List Stmt} {b₀ : Stmt} {tx : Str} {tp hpos pos : Pos} {Eb : Value → Shared → Prop} (d : Deep X) (c : CX ⟨k, n⟩ X) (hsc : X.env.scope = sc)
    (hT : BN φ tx (.type T)) (hkd : sc.names.lookup tx = some .globalImplicit) (hdb : (tx == ("__debug__" : Str)) = false)
    (hexc : isSubtype (.type T) (.type "BaseException") = pure true) (hnt : isSubtype (.type ((Manifest.find? T).elim "type" fun x => x.metatype)) (.type "tuple") = pure false)
    (hbody : Ex prog w X body (seqX prog w X rest Q E) Eb s)
    (hx : ∀ e s1, Eb e s1 → ∃ x Γ' ψ' ω' cls ctx, e = .ref x ∧ Le φ ψ' ∧ isSubtype (.type cls) (.type T) = pure true ∧ CtxOk ψ' ctx ∧ Fl X Γ' ψ' ω' cls ctx x s1 ∧
      ∀ s2 ψ2, Le ψ' ψ2 → HS X Γ' ψ2 ω' cls ctx x s2 → Ex prog w (X.mk' x) (b₀ :: hb) (seqX prog w X rest Q E) (forH prog w X x E) s2) :
    Ex prog w X (.Try body [.ExceptHandler (some (.Name tx tp)) none (b₀ :: hb) hpos] [] [] pos :: rest) Q E s := by
  have T0 := Top.of c d
  refine ⟨ex_cons (wpAny_Try_except (wpAny_mono hbody.go (fun f s1 hf => ?_) fun e s1 he => ?_))⟩
  · cases f with
    | next => exact wpAny_execs_nil hf.go
    | brk => exact hf
    | cont => exact hf
    | ret v => exact hf
  · obtain ⟨x, Γ', ψ', ω', cls, ctx, rfl, hφ, hsub, hctx, hfl, hh⟩ := hx e s1 he
    refine hfl.note c T0 fun s2 f2 => f2.flight (g := none) fun s3 f3 => ?_
    obtain ⟨ψ2, l2, hs2⟩ := f3.hold d hctx
    obtain ⟨ω2, t, y, hl, hn, hny, hne, hq, hex, ht, m, Y, ty⟩ := id hs2
    refine wpAny_handleBy_builtin (X := cls) (T := T) (b := true) hexc hnt hsub ?_
    obtain ⟨mg, n1, hm⟩ := (NsKnows.le hT.1 (hφ.trans l2)).ns Y.sub
    obtain ⟨mb, n2, hm2⟩ := (NsKnows.le hT.2 (hφ.trans l2)).ns Y.sub
    have Yf := Y.fram
    refine Name_function_global Yf.fn (by show X.env.scope.names.lookup tx = _; rw [hsc]; exact hkd) (loadGlobal_builtin (Yf.gl ▸ n1) hm (Yf.bi ▸ n2) hm2 ⟨rfl, ⟨_, Y.sub _ _ hex, rfl⟩, ?_⟩) hdb
    simp only [if_true]
    refine FlT.flight (g := none) (hs2.up d) fun s4 f4 => ?_
    obtain ⟨ψ3, l3, hs3⟩ := f4.hold d (hctx.le l2)
    refine wpAny_mono (hh s4 ψ3 (l2.trans l3) hs3).go (fun f s5 hf => ?_) fun _ _ e => e
    cases f with
    | next => exact hf.go
    | brk => exact hf
    | cont => exact hf
    | ret v => exact hf
end
end Mine
namespace Mine
section
variable {prog : Program} {w : World} {X : Fix} {Γ : List (Str × VP)} {ψ ω φ : PM} {s s' : Shared} {k : Nat} {n b : Bool} {m : Str → Option Value} {μ : Md} {A : Around} {env : Env} {sc scope : Scope}
variable {rest : List Stmt} {Q : Flow → Shared → Prop} {E : Value → Shared → Prop} {cls : String} {ctx : Value}
theorem Fl.pass {x : Addr} {fl : Value} (f : FlT X Γ ψ ω cls ctx x fl s) {Q : Flow → Shared → Prop} {what : String} (T : Top X) (q : ∀ s', FlT X Γ ψ ω cls ctx x (here X) s' → E (.ref x) s') : wpAny (model prog w) A (PySem.passOn what (.ref x) X.env : Sem Flow) Q E s := by
  unfold PySem.passOn
  have f0 := f
  obtain ⟨ω', t, y, hl, hn, hny, hne, he, _, m, Y, ty⟩ := f0
  refine wpAny_bind (wpAny_field (Y.all.sub _ _ he) rfl (x := .ref y) (by rfl) ?_)
  have h1 : (Value.ref y == Value.none) = false := by simp
  simp only [h1, Bool.false_eq_true, if_false]
  rw [T.fr]
  exact wpAny_bind (f.flight fun s' f' => wpAny_throw (q s' f'))
theorem y_final {body fs : List Stmt} {f₀ : Stmt} {pos : Pos} {Eb : Value → Shared → Prop} (d : Deep X) (c : CX ⟨k, n⟩ X)
    (hbody : Ex prog w X body (fun f s1 => f = .next ∧ Ex prog w X (f₀ :: fs) (seqX prog w X rest Q E) (forE prog w X E) s1) Eb s)
    (hx : ∀ e s1, Eb e s1 → ∃ x Γ' ψ' ω' cls ctx, e = .ref x ∧ CtxOk ψ' ctx ∧ Fl X Γ' ψ' ω' cls ctx x s1 ∧
      ∀ s2 ψ2, Le ψ' ψ2 → HS X Γ' ψ2 ω' cls ctx x s2 → Ex prog w (X.mk' x) (f₀ :: fs) (fun g s3 => g = .next ∧ ∃ Γ3 ψ3 ω3, HS X Γ3 ψ3 ω3 cls ctx x s3 ∧ ∀ s4, FlT X Γ3 ψ3 ω3 cls ctx x (here X) s4 → E (.ref x) s4) (forH prog w X x E) s2) :
    Ex prog w X (.Try body [] [] (f₀ :: fs) pos :: rest) Q E s := by
  have T0 := Top.of c d
  refine ⟨ex_cons (wpAny_Try_finally (wpAny_mono hbody.go (fun f s1 hf => ?_) fun e s1 he => ?_))⟩
  · obtain ⟨rfl, hf⟩ := hf
    refine wpAny_execs_nil ?_
    refine wpAny_mono hf.go (fun g s2 hg => ?_) fun _ _ e => e
    cases g with
    | next => exact hg.go
    | brk => exact hg
    | cont => exact hg
    | ret v => exact hg
  · obtain ⟨x, Γ', ψ', ω', cls, ctx, rfl, hctx, hfl, hh⟩ := hx e s1 he
    refine hfl.note c T0 fun s2 f2 => ⟨ref_ne_byPass x, f2.again T0 (f2.flight (g := none) fun s3 f3 => ?_)⟩
    obtain ⟨ψ2, l2, hs2⟩ := f3.hold d hctx
    refine wpAny_mono (hh s3 ψ2 l2 hs2).go (fun g s4 hg => ?_) fun _ _ e => e
    obtain ⟨rfl, Γ3, ψ3, ω3, hs3, hE⟩ := hg
    exact Fl.pass (hs3.up d) T0 hE
theorem B.extend {A : Around} {a : Addr} {vs : List Value} {j : Nat} {ps : List VP} {v : Value} {Q : Value → Shared → Prop} {E : Value → Shared → Prop} (b : B X Γ ψ ω s) (ha : ω a = some (lst vs j)) (hv : (vList ps).p ψ v) (hsz : vs.length + ps.length ≤ 1000000)
    (h : ∀ s' us j', All2 (fun (P : VP) v => P.p ψ v) ps us → B X Γ ψ (put ω a (lst (vs ++ us) j')) s' → Q .none s') : wpAny (model prog w) A (call (.builtin "list.extend") [.ref a, v]) Q E s := by
  obtain ⟨m, x, t⟩ := b
  obtain ⟨c, us, i, rfl, hc, hall⟩ := hv
  have hl := (x.own _ _ ha).1
  have hlen := hall.length
  have hline : sizeLine = 16777216 := rfl
  refine call_meets F.slot_list_extend ⟨_, hl, rfl⟩ F.entry_list_extend (F.args_list_extend_2 _ _) (AutoSeq1.list_extend_list_list_0 a vs.toArray j c us.toArray i ?_ ?_ ?_) ⟨hl, x.sub _ _ hc, ?_⟩
  · simp only [List.size_toArray]
    have : Builtin.List.listTooLong (vs.length + us.length) = false := by
      unfold Builtin.List.listTooLong
      simp
      omega
    rw [this]; simp
  · simp only [List.size_toArray]; omega
  · simp only [List.size_toArray]; omega
  · have hup := Heap.get?_update_self (Obj.mapSeq fun y => y ++ us.toArray) hl (by rfl)
    obtain ⟨j', hj⟩ : ∃ j', (Obj.mapSeq (fun y => y ++ us.toArray) (lst vs j)) = lst (vs ++ us) j' := by
      unfold lst Obj.mapSeq
      simp
    rw [hj] at hup
    exact h _ us j' hall ⟨m, x.sameBut ha ⟨_, s.toks, rfl⟩ (fun b ob hb e => by rw [Heap.get?_update_other _ _ (Ne.symm hb)]; exact e) hup, t⟩
end
end Mine
namespace Mine
section
variable {prog : Program} {w : World} {X : Fix} {Γ : List (Str × VP)} {ψ ω φ : PM} {s s' : Shared} {k : Nat} {n b : Bool} {m : Str → Option Value} {μ : Md} {A : Around} {env : Env} {sc scope : Scope}
variable {rest : List Stmt} {Q : Flow → Shared → Prop} {E : Value → Shared → Prop} {cls : String} {ctx : Value}
theorem FlF.retype {Γ' : List (Str × VP)} {x : Addr} (f : FlF X Γ ψ ω cls ctx x s) (h : ∀ m, Typ Γ ψ m → Typ Γ' ψ m) : FlF X Γ' ψ ω cls ctx x s := let ⟨t, a, b⟩ := f; ⟨t, a, b.retype h⟩
theorem FlT.retype {Γ' : List (Str × VP)} {x : Addr} {fl : Value} (f : FlT X Γ ψ ω cls ctx x fl s) (h : ∀ m, Typ Γ ψ m → Typ Γ' ψ m) : FlT X Γ' ψ ω cls ctx x fl s :=
  let ⟨ω', t, y, a1, a2, a3, a4, a5, a6, b⟩ := f; ⟨ω', t, y, a1, a2, a3, a4, a5, a6, b.retype h⟩
theorem typ_over {x : Str} {P P' : VP} {ψ : PM} {m : Str → Option Value} (t : Typ ((x, P) :: (x, P') :: Γ) ψ m) : Typ ((x, P) :: Γ) ψ m := by
  intro y R hy
  apply t y R
  rw [List.lookup_cons] at hy ⊢
  cases q : y == x with
  | true => rw [q] at hy; exact hy
  | false => rw [q] at hy; simp only [List.lookup_cons, q]; exact hy
theorem Cx.any {A : Around} (c : Cx ⟨k, n⟩ A ψ s) : Cx ⟨k, false⟩ A ψ s := ⟨c.depth, c.units, fun e => (by cases e), c.hand, c.stk, c.off, c.sub⟩
theorem Op2.any {t : Value → Value → Sem Value} {P Q R : VP} (h : Op2 prog w ⟨k, false⟩ φ t P Q R) : Op2 prog w ⟨k, n⟩ φ t P Q R := fun A ψ s a b c => h A ψ s a b c.any
theorem Op2.le {μ : Md} {t : Value → Value → Sem Value} {P Q R : VP} {φ' : PM} (h : Op2 prog w μ φ t P Q R) (l : Le φ φ') : Op2 prog w μ φ' t P Q R := fun A ψ s a b c l' => h A ψ s a b c (l.trans l')
theorem y_ext {x : Str} {px ap cpos pos : Pos} {e : Expr} {ps : List VP} {a : Addr} {vs : List Value} {j : Nat} (hsc : X.env.scope = sc) (b : B X Γ ψ ω s) (ha : ω a = some (lst vs j)) (h : EI prog w X Γ ψ ω e (vList ps)) (hsz : vs.length + ps.length ≤ 1000000)
    (q : ∀ us ψ' s' j', Le ψ ψ' → All2 (fun (P : VP) v => P.p ψ' v) ps us → B X Γ ψ' (put ω a (lst (vs ++ us) j')) s' → Ex prog w X rest Q E s')
    (hx : Γ.lookup x = some (vVal (.ref a)) := by rfl) (hv : isVar (sc.names.lookup x) = true := by rfl) (hd : (x == ("__debug__" : Str) || x == ("__classdict__" : Str)) = false := by rfl) (hn : notStar e = true := by rfl) (hl : (ap.endLine == cpos.line) = true := by rfl) :
    Ex prog w X (.Expr (.Call (.Attribute (.Name x px) "extend" ap) [e] [] cpos) pos :: rest) Q E s := by
  refine ⟨ex_cons (wpAny_Expr_any (own_mcall b hx (hsc ▸ hv) hd F.slot_list_extend (by rfl) ha h.go hn hl fun v ψ' s' l p b' => b'.extend ha p hsz fun s'' us j' p' b'' => (q us ψ' s'' j' l p' b'').go) ?_ (by rfl))⟩
  obtain ⟨m, Y, _⟩ := b
  have := Y.fram.fn
  unfold interactive
  rw [this]; rfl
end

section
variable {prog : Program} {w : World} {X : Fix} {Γ : List (Str × VP)} {ψ ω φ : PM} {s s' : Shared} {k : Nat} {n b : Bool} {sc : Scope}
variable {rest : List Stmt} {Q : Flow → Shared → Prop} {E : Value → Shared → Prop}
theorem skip_loop {α : Type} {P : α → VP} {eq : α → α → Bool} {nm iv ev : Str} {p1 p2 p3 p4 p5 p6 p7 p8 pos : Pos} {kk : Nat} {xs : List α} {x : α} {i0 : Nat} (hsc : X.env.scope = sc) (c : CX ⟨k, n⟩ X) (T : Top X)
    (heq : ∀ x y, Op2 prog w ⟨k, false⟩ φ (compareOp .Eq) (P x) (P y) (vBool (eq x y))) (hφ : Le φ ψ)
    (hnm : Γ.lookup nm = some (vList (xs.map P))) (hev : Γ.lookup ev = some (P x)) (hne1 : (nm == iv) = false) (hne2 : (ev == iv) = false)
    (hk1 : isVar (sc.names.lookup nm) = true) (hk2 : isVar (sc.names.lookup iv) = true) (hk3 : isVar (sc.names.lookup ev) = true) (hst : stores X iv)
    (hd1 : (nm == ("__debug__" : Str) || nm == ("__classdict__" : Str)) = false) (hd2 : (iv == ("__debug__" : Str) || iv == ("__classdict__" : Str)) = false) (hd3 : (ev == ("__debug__" : Str) || ev == ("__classdict__" : Str)) = false)
    (hlen : xs.length ≤ 1000000) (hi : i0 ≤ xs.length) (b : B X ((iv, vInt i0) :: Γ) ψ ω s)
    (hq : ∀ i1 ψ' s', i1 < xs.length → i0 ≤ i1 → (xs.drop i0).dropWhile (fun z => eq z x) = xs.drop i1 → Le ψ ψ' → B X ((iv, vInt (i1 : Nat)) :: Γ) ψ' ω s' → Ex prog w X rest Q E s')
    (hE : ∀ z ψ' s', (xs.drop i0).dropWhile (fun z => eq z x) = [] → Le ψ ψ' → FlT X ((iv, vInt (xs.length : Nat)) :: Γ) ψ' ω "IndexError" (ctxOf X.A) z (here X) s' → E (.ref z) s') :
    Ex prog w X (.While (.Compare (.Subscript (.Name nm p1) (.Name iv p2) p3) [.Eq] [.Name ev p4] p5) [.AugAssign (.Name iv p6) .Add (.Constant (.int 1) kk p7) p8] [] pos :: rest) Q E s := by
  refine y_while (fun nn s => ∃ (i : Nat) (ψ' : PM), nn = xs.length - i ∧ i0 ≤ i ∧ i ≤ xs.length ∧ (xs.drop i0).dropWhile (fun z => eq z x) = (xs.drop i).dropWhile (fun z => eq z x) ∧ Le ψ ψ' ∧ B X ((iv, vInt i) :: Γ) ψ' ω s) ?_ (xs.length - i0) ⟨i0, ψ, rfl, Nat.le_refl _, hi, rfl, Le.refl _, b⟩
  rintro nn s1 ⟨i, ψ1, rfl, hi0, hile, hdw, l1, b1⟩
  have gnm : ((iv, vInt (i : Nat)) :: Γ).lookup nm = some (vList (xs.map P)) := by rw [List.lookup_cons, hne1]; exact hnm
  have gev : ((iv, vInt (i : Nat)) :: Γ).lookup ev = some (P x) := by rw [List.lookup_cons, hne2]; exact hev
  have giv : ((iv, vInt (i : Nat)) :: Γ).lookup iv = some (vInt (i : Nat)) := by rw [List.lookup_cons]; simp
  by_cases hlt : i < xs.length
  · have hdrop : xs.drop i = xs[i] :: xs.drop (i + 1) := List.drop_eq_getElem_cons hlt
    refine test_I b1 (r := eq xs[i] x) (TI.of c hsc (b_cmp (v_subL (v_v gnm hk1 hd1) (v_v giv hk2 hd2) (get_list (P := P xs[i]) (by omega) (by omega) (by simp [hlt]))) (v_v gev hk3 hd3) ((heq _ _).any.le (hφ.trans l1)))) fun ψ2 s2 l2 b2 => ?_
    cases hb : eq xs[i] x with
    | true =>
      simp only [if_true]
      refine y_aug (P₁ := vInt (i : Nat)) (R := vInt ((i + 1 : Nat) : Int)) hsc b2 c (EI.of c hsc v_int) iop_add_int hst (fun v ψ3 s3 l3 p3 b3 => ?_) giv hk2 (by simp only [Bool.or_eq_false_iff] at hd2; exact hd2.2)
      refine x_nil ⟨xs.length - (i + 1), by omega, i + 1, ψ3, rfl, by omega, hlt, ?_, l1.trans (l2.trans l3), b3.retype fun m t => typ_over t⟩
      rw [hdw, hdrop, List.dropWhile_cons, hb]; simp
    | false =>
      simp only [Bool.false_eq_true, if_false]
      refine hq i ψ2 s2 hlt hi0 ?_ (l1.trans l2) b2
      rw [hdw, hdrop, List.dropWhile_cons, hb]; simp
  · have hie : i = xs.length := by omega
    subst hie
    refine test_R (cls := "IndexError") hsc b1 c (rb_cmpL (r_subL (v_v gnm hk1 hd1) (v_v giv hk2 hd2) (by simp) (by omega))) fun z ψ2 s2 l2 f2 => ?_
    refine Fl.forE (.inl f2) c T fun s3 f3 => hE z ψ2 s3 ?_ (l1.trans l2) f3
    rw [hdw]; simp
end
end Mine
namespace Mine
noncomputable def sldF {α : Type} (lt gt eq : α → α → Bool) : Nat → List α → List α → List α × List α
  | 0, xs, ys => (xs, ys)
  | f + 1, x :: xs, y :: ys =>
    if lt x y then let r := sldF lt gt eq f (xs.dropWhile fun z => eq z x) (y :: ys); (x :: r.1, r.2)
    else if gt x y then let r := sldF lt gt eq f (x :: xs) (ys.dropWhile fun z => eq z y); (r.1, y :: r.2)
    else sldF lt gt eq f (xs.dropWhile fun z => eq z x) (ys.dropWhile fun z => eq z y)
  | _ + 1, xs, ys => (xs, ys)
section
variable {α : Type} {lt gt eq : α → α → Bool}
theorem length_dropWhile_le {p : α → Bool} : ∀ (l : List α), (l.dropWhile p).length ≤ l.length
  | [] => Nat.le_refl _
  | a :: l => by
    rw [List.dropWhile_cons]
    split
    · exact Nat.le_succ_of_le (length_dropWhile_le l)
    · exact Nat.le_refl _
theorem sldF_nil {f : Nat} {ys : List α} : sldF lt gt eq f [] ys = ([], ys) := by cases f <;> rfl
theorem sldF_nil' {f : Nat} {xs : List α} : sldF lt gt eq f xs [] = (xs, []) := by cases f <;> cases xs <;> rfl
theorem sldF_more : ∀ (f : Nat) (xs ys : List α), xs.length + ys.length ≤ f → sldF lt gt eq (f + 1) xs ys = sldF lt gt eq f xs ys
  | 0, xs, ys, h => by
    have h1 : xs = [] := List.length_eq_zero_iff.mp (by omega)
    have h2 : ys = [] := List.length_eq_zero_iff.mp (by omega)
    subst h1; subst h2; rfl
  | f + 1, [], ys, h => by rw [sldF_nil, sldF_nil]
  | f + 1, x :: xs, [], h => by rw [sldF_nil', sldF_nil']
  | f + 1, x :: xs, y :: ys, h => by
    have hx := length_dropWhile_le (p := fun z => eq z x) xs
    have hy := length_dropWhile_le (p := fun z => eq z y) ys
    simp only [List.length_cons] at h
    have e1 := sldF_more f (xs.dropWhile fun z => eq z x) (y :: ys) (by simp only [List.length_cons]; omega)
    have e2 := sldF_more f (x :: xs) (ys.dropWhile fun z => eq z y) (by simp only [List.length_cons]; omega)
    have e3 := sldF_more f (xs.dropWhile fun z => eq z x) (ys.dropWhile fun z => eq z y) (by omega)
    rw [show sldF lt gt eq (f + 1 + 1) (x :: xs) (y :: ys) = (if lt x y then let r := sldF lt gt eq (f + 1) (xs.dropWhile fun z => eq z x) (y :: ys); (x :: r.1, r.2)
      else if gt x y then let r := sldF lt gt eq (f + 1) (x :: xs) (ys.dropWhile fun z => eq z y); (r.1, y :: r.2)
      else sldF lt gt eq (f + 1) (xs.dropWhile fun z => eq z x) (ys.dropWhile fun z => eq z y)) from rfl, e1, e2, e3]
    rfl
theorem sldF_any {f g : Nat} {xs ys : List α} (h : xs.length + ys.length ≤ f) (hg : f ≤ g) : sldF lt gt eq g xs ys = sldF lt gt eq f xs ys := by
  induction hg with
  | refl => rfl
  | @step g hg ih => exact (sldF_more g xs ys (Nat.le_trans h hg)).trans ih
noncomputable def sld (lt gt eq : α → α → Bool) (xs ys : List α) : List α × List α := sldF lt gt eq (xs.length + ys.length) xs ys
theorem sld_nil {ys : List α} : sld lt gt eq [] ys = ([], ys) := sldF_nil
theorem sld_nil' {xs : List α} : sld lt gt eq xs [] = (xs, []) := sldF_nil'
theorem sld_cons {x y : α} {xs ys : List α} : sld lt gt eq (x :: xs) (y :: ys) =
    if lt x y then (x :: (sld lt gt eq (xs.dropWhile fun z => eq z x) (y :: ys)).1, (sld lt gt eq (xs.dropWhile fun z => eq z x) (y :: ys)).2)
    else if gt x y then ((sld lt gt eq (x :: xs) (ys.dropWhile fun z => eq z y)).1, y :: (sld lt gt eq (x :: xs) (ys.dropWhile fun z => eq z y)).2)
    else sld lt gt eq (xs.dropWhile fun z => eq z x) (ys.dropWhile fun z => eq z y) := by
  have hx := length_dropWhile_le (p := fun z => eq z x) xs
  have hy := length_dropWhile_le (p := fun z => eq z y) ys
  have e : (x :: xs).length + (y :: ys).length = (xs.length + ys.length + 1) + 1 := by simp only [List.length_cons]; omega
  unfold sld
  rw [e]
  rw [show sldF lt gt eq (xs.length + ys.length + 1 + 1) (x :: xs) (y :: ys) = (if lt x y then let r := sldF lt gt eq (xs.length + ys.length + 1) (xs.dropWhile fun z => eq z x) (y :: ys); (x :: r.1, r.2)
      else if gt x y then let r := sldF lt gt eq (xs.length + ys.length + 1) (x :: xs) (ys.dropWhile fun z => eq z y); (r.1, y :: r.2)
      else sldF lt gt eq (xs.length + ys.length + 1) (xs.dropWhile fun z => eq z x) (ys.dropWhile fun z => eq z y)) from rfl]
  rw [sldF_any (f := (xs.dropWhile fun z => eq z x).length + (y :: ys).length) (Nat.le_refl _) (by simp only [List.length_cons]; omega),
    sldF_any (f := (x :: xs).length + (ys.dropWhile fun z => eq z y).length) (Nat.le_refl _) (by simp only [List.length_cons]; omega),
    sldF_any (f := (xs.dropWhile fun z => eq z x).length + (ys.dropWhile fun z => eq z y).length) (Nat.le_refl _) (by omega)]
end
end Mine
namespace Mine
theorem filterMap_range_get {α : Type} : ∀ (xs : List α), (List.range xs.length).filterMap (xs[·]?) = xs
  | [] => rfl
  | x :: xs => by
    rw [List.length_cons, List.range_succ_eq_map, List.filterMap_cons, List.filterMap_map]
    simp only [List.getElem?_cons_zero]
    congr 1
    have := filterMap_range_get xs
    simpa [Function.comp_def] using this
theorem pickL_from {α : Type} {xs : List α} {i : Nat} : pickL xs (some (i : Int)) none none = xs.drop i := by
  unfold pickL
  have h : sliceBounds (some (i : Int)) none none xs.length = (((min i xs.length : Nat) : Int), ((xs.length : Nat) : Int), 1) := by
    unfold sliceBounds
    have h1 : ¬ ((i : Int) < 0) := by omega
    simp [h1]
    omega
  rw [h]
  simp only
  rw [sliceRange_one, List.filterMap_map]
  have e1 : xs.length - min i xs.length = (xs.drop i).length := by simp; omega
  rw [e1]
  have := filterMap_range_get (xs.drop i)
  refine Eq.trans ?_ this
  by_cases hi : i ≤ xs.length
  · congr 1
    funext k
    simp [Function.comp_def, Nat.min_eq_left hi]
  · have : xs.drop i = [] := List.drop_eq_nil_of_le (by omega)
    simp [this]
section
variable {prog : Program} {w : World} {X : Fix} {Γ : List (Str × VP)} {ψ ω φ : PM} {s s' : Shared} {k : Nat} {n b : Bool} {sc : Scope}
variable {rest : List Stmt} {Q : Flow → Shared → Prop} {E : Value → Shared → Prop}
theorem x_break {pos : Pos} (h : Q .brk s) : Ex prog w X (.Break pos :: rest) Q E s := ⟨ex_cons (wpAny_Break h)⟩
inductive Own2 (ψ ω : PM) (a1 a2 : Addr) (ps qs : List VP) : Prop
  | mk (v1 : _) (j1 : _) (v2 : _) (j2 : _) (h1 : ω a1 = some (lst v1 j1)) (h2 : All2 (fun (P : VP) v => P.p ψ v) ps v1) (h3 : ω a2 = some (lst v2 j2)) (h4 : All2 (fun (P : VP) v => P.p ψ v) qs v2) : Own2 ψ ω a1 a2 ps qs
theorem Own2.le {ψ' ω' : PM} {a1 a2 : Addr} {ps qs : List VP} (h : Own2 ψ ω a1 a2 ps qs) (l : Le ψ ψ') (l' : Le ω ω') : Own2 ψ' ω' a1 a2 ps qs := by
  obtain ⟨v1, j1, v2, j2, h1, h2, h3, h4⟩ := h
  exact ⟨v1, j1, v2, j2, l' _ _ h1, h2.imp fun P v x => P.mono l x, l' _ _ h3, h4.imp fun P v x => P.mono l x⟩
end
end Mine
namespace Mine
section
variable {α : Type} {lt gt eq : α → α → Bool} {xs ys xs' ys' : List α} {x y : α} {i j : Nat}
theorem sld_lt (h : xs.drop i = x :: xs.drop (i + 1)) (h2 : ys.drop j = y :: ys.drop (j + 1)) (hl : lt x y = true) (hd : ((xs.drop (i + 1)).dropWhile fun z => eq z x) = xs') :
    sld lt gt eq (xs.drop i) (ys.drop j) = (x :: (sld lt gt eq xs' (ys.drop j)).1, (sld lt gt eq xs' (ys.drop j)).2) := by
  rw [h, h2, sld_cons, if_pos hl, hd]
theorem sld_gt (h : xs.drop i = x :: xs.drop (i + 1)) (h2 : ys.drop j = y :: ys.drop (j + 1)) (hl : lt x y = false) (hg : gt x y = true) (hd : ((ys.drop (j + 1)).dropWhile fun z => eq z y) = ys') :
    sld lt gt eq (xs.drop i) (ys.drop j) = ((sld lt gt eq (xs.drop i) ys').1, y :: (sld lt gt eq (xs.drop i) ys').2) := by
  rw [h, h2, sld_cons, if_neg (by rw [hl]; decide), if_pos hg, hd]
theorem sld_eq (h : xs.drop i = x :: xs.drop (i + 1)) (h2 : ys.drop j = y :: ys.drop (j + 1)) (hl : lt x y = false) (hg : gt x y = false) (hd : ((xs.drop (i + 1)).dropWhile fun z => eq z x) = xs') (hd2 : ((ys.drop (j + 1)).dropWhile fun z => eq z y) = ys') :
    sld lt gt eq (xs.drop i) (ys.drop j) = sld lt gt eq xs' ys' := by
  rw [h, h2, sld_cons, if_neg (by rw [hl]; decide), if_neg (by rw [hg]; decide), hd, hd2]
noncomputable abbrev G0 (P : α → VP) (xs ys : List α) (a1 a2 : Addr) (i j : Nat) : List (Str × VP) := [("j", vInt j), ("i", vInt i), ("unexpected", vVal (.ref a2)), ("missing", vVal (.ref a1)), ("expected", vList (xs.map P)), ("actual", vList (ys.map P))]
inductive sldI (X : Fix) (φ : PM) (P : α → VP) (lt gt eq : α → α → Bool) (xs ys : List α) (a1 a2 : Addr) (nn : Nat) (s : Shared) : Prop
  | mk (i j : Nat) (ms us : List α) (ψ' ω' : PM) (h1 : nn = (xs.length - i) + (ys.length - j)) (h2 : i ≤ xs.length) (h3 : j ≤ ys.length) (h4 : ms.length ≤ i) (h5 : us.length ≤ j) (h6 : sld lt gt eq xs ys = (ms ++ (sld lt gt eq (xs.drop i) (ys.drop j)).1, us ++ (sld lt gt eq (xs.drop i) (ys.drop j)).2)) (h7 : Le φ ψ') (h8 : Own2 ψ' ω' a1 a2 (ms.map P) (us.map P)) (h9 : B X (G0 P xs ys a1 a2 i j) ψ' ω' s) : sldI X φ P lt gt eq xs ys a1 a2 nn s
inductive sldE (X : Fix) (φ : PM) (P : α → VP) (lt gt eq : α → α → Bool) (xs ys : List α) (a1 a2 : Addr) (e : Value) (s : Shared) : Prop
  | mk (x : Addr) (i j : Nat) (ms us : List α) (ψ' ω' : PM) (ctx : Value) (h1 : e = .ref x) (h2 : i ≤ xs.length) (h3 : j ≤ ys.length) (h4 : ms.length ≤ i) (h5 : us.length ≤ j) (h6 : sld lt gt eq xs ys = (ms ++ xs.drop i, us ++ ys.drop j)) (h7 : Le φ ψ') (h8 : CtxOk ψ' ctx) (h9 : Own2 ψ' ω' a1 a2 (ms.map P) (us.map P)) (h10 : Fl X (G0 P xs ys a1 a2 i j) ψ' ω' "IndexError" ctx x s) : sldE X φ P lt gt eq xs ys a1 a2 e s
end
end Mine
namespace Mine
theorem get_from {prog : Program} {w : World} {μ : Md} {φ : PM} {α : Type} {f : α → VP} {l : List α} {i : Nat} (hsz : l.length ≤ 1000000) : Op2 prog w μ φ getItem (vList (l.map f)) (vSlice (some (i : Int)) none none) (vList ((l.drop i).map f)) := by
  have h := get_sliceM (prog := prog) (w := w) (μ := μ) (φ := φ) (f := f) (l := l) (lo := some (i : Int)) (hi := none) (st := none) (by decide) (by have : sizeLine = 16777216 := rfl; omega)
  rw [pickL_from] at h
  exact h
end Mine
namespace Mine
noncomputable def bndO (id T : String) : Obj := { cls := .type "builtin_function_or_method", data := .fields #[.builtin id, .type T] }
theorem if_not {α : Type} {M : Model} {A : Around} {E : Value → Shared → Prop} {s : Shared} {c : Bool} {a b : Sem α} {Q : α → Shared → Prop} (hc : c = false) (h : wpAny M A b Q E s) : wpAny M A (if c = true then a else b) Q E s := by
  subst hc
  exact h
theorem if_so {α : Type} {M : Model} {A : Around} {E : Value → Shared → Prop} {s : Shared} {c : Bool} {a b : Sem α} {Q : α → Shared → Prop} (hc : c = true) (h : wpAny M A a Q E s) : wpAny M A (if c = true then a else b) Q E s := by
  subst hc
  exact h
theorem slot_cmget : Slot "classmethod_descriptor" "__get__" "classmethod_descriptor.__get__" :=
  .of (owner := "classmethod_descriptor") (n := "__get__") (by rw [typeLookup_type, builtinLookup_eq_fast]; kernel_rfl) (by decide +kernel) (by decide +kernel) (by decide +kernel)
    (by first | exact .inl (by decide +kernel) | exact .inr (by decide +kernel)) (by rw [isSubtype_type]; kernel_rfl)
theorem entry_cmget : entryFor table "classmethod_descriptor.__get__" = some Builtin.«classmethod_descriptor.__get__» := entryFor_of_tree (by kernel_rfl)
theorem args_cmget (a b c : Value) : argsOk "classmethod_descriptor.__get__" ⟨[a, b, c], []⟩ := by unfold argsOk; kernel_rfl
theorem type_fk : typeOf (.builtin "dict.fromkeys") = pure (.type "classmethod_descriptor") := by show builtinType _ = _; rw [builtinType_eq_fast]; kernel_rfl
theorem type_prep : typeOf (.builtin "type.__prepare__") = pure (.type "classmethod_descriptor") := by show builtinType _ = _; rw [builtinType_eq_fast]; kernel_rfl
theorem isType_type (T : String) : isType (.type T) = pure true := rfl
section
variable {prog : Program} {w : World} {M : Model} {A : Around} {E : Value → Shared → Prop} {s : Shared}
theorem run_cmget_fk {P : Fin → Shared → Prop} (h : P (.done (.ret (.ref s.heap.objs.size))) { s with heap := s.heap.push (bndO "dict.fromkeys" "dict") }) :
    wpAny M A (Builtin.«classmethod_descriptor.__get__» ⟨[.builtin "dict.fromkeys", .none, .type "dict"], []⟩) P E s := by
  unfold Builtin.«classmethod_descriptor.__get__»
  refine wpAny_bind (wpAny_of_eq (a := (.builtin "dict.fromkeys", none, some (.type "dict"))) (by first | rfl | kernel_rfl) ?_)
  dsimp only
  refine wpAny_bind (wpAny_of_eq (a := .type "dict") rfl ?_)
  refine wpAny_bind (wpAny_of_eq (a := true) (isType_type _) ?_)
  refine if_not rfl ?_
  refine wpAny_bind (wpAny_of_eq (a := true) (by rw [isSubtype_type]; kernel_rfl) ?_)
  refine if_not rfl ?_
  exact wpAny_bind (wpAny_newObj_type (wpAny_pure h))
theorem run_cmget_prep {P : Fin → Shared → Prop} (h : P (.done (.ret (.ref s.heap.objs.size))) { s with heap := s.heap.push (bndO "type.__prepare__" "type") }) :
    wpAny M A (Builtin.«classmethod_descriptor.__get__» ⟨[.builtin "type.__prepare__", .none, .type "type"], []⟩) P E s := by
  unfold Builtin.«classmethod_descriptor.__get__»
  refine wpAny_bind (wpAny_of_eq (a := (.builtin "type.__prepare__", none, some (.type "type"))) (by first | rfl | kernel_rfl) ?_)
  dsimp only
  refine wpAny_bind (wpAny_of_eq (a := .type "type") rfl ?_)
  refine wpAny_bind (wpAny_of_eq (a := true) (isType_type _) ?_)
  refine if_not rfl ?_
  refine wpAny_bind (wpAny_of_eq (a := true) (by rw [isSubtype_type]; kernel_rfl) ?_)
  refine if_not rfl ?_
  exact wpAny_bind (wpAny_newObj_type (wpAny_pure h))
theorem getAttrQ_cls {K : Frag} {c mc : Value} {name : Str} {r : CFound} {Q : Option Value → Shared → Prop} {hook : Option Value} (X : K.In s.heap) (ho : Looks (model prog w) s.heap (opaqueClassAbove c) none) (ht : Looks (model prog w) s.heap (typeOf c) mc)
    (hga : findIn K mc "__getattribute__" = some (some (.builtin "type.__getattribute__"))) (hb : Looks (model prog w) s.heap (hookBefore mc) hook) (hi : subIn K mc (.type "type") = some true) (e : findCls K c mc name = some r)
    (h : wpAny (model prog w) A.in1 r.run (fun fin s' => match fin with | .done (.ret v) => handedIn v = true ∧ Q (some v) s' | _ => False) (fun _ _ => False) { s with toks := s.toks + 1 }) :
    wpAny (model prog w) A (getAttr? c name) Q E s := by
  unfold getAttr? getAttrBy?
  refine wpAny_bind (wpAny_mkText (wpAny_bind (wpAny_attempt ?_)))
  unfold getAttrBy
  refine wpAny_holding (wpAny_bind (ht _ _ _ _ (fun _ _ e => e) (wpAny_bind (looks_findIn X hga _ _ _ _ (fun _ _ e => e) ?_))))
  dsimp only
  rw [show (onTheHeap mc && Value.builtin "type.__getattribute__" == Value.builtin "object.__getattribute__") = false from by rw [show (Value.builtin "type.__getattribute__" == Value.builtin "object.__getattribute__") = false from by decide +kernel, Bool.and_false], if_neg (by decide)]
  unfold getAttrByItsOwn
  refine wpAny_bind (hb _ _ _ _ (fun _ _ e => e) (wpAny_bind (wpAny_attempt (wpAny_holding ?_))))
  unfold callGetattribute
  rw [show (false && onTheHeap (Value.builtin "type.__getattribute__")) = false from rfl, if_neg (by decide)]
  unfold boundAndCalled
  rw [KF.slot_tga.bind]
  refine wpAny_bind (wpAny_pure ?_)
  show wpAny _ _ (call (.builtin "type.__getattribute__") [c, .str name s.toks]) _ _ _
  refine wpAny_call ?_
  refine codeAny_call_builtin KF.slot_tga.plain KF.entry_tga ?_
  refine @check_slot (model prog w) _ _ { s with toks := s.toks + 1 } "type.__getattribute__" "type" "__getattribute__" c [.str name s.toks] [] _ (by decide +kernel) (by decide +kernel) (ht.andThen (looks_subIn X hi)) (KF.args_tga c (.str name s.toks)) ?_
  refine tga_run (s := { s with toks := s.toks + 1 }) X ho ht e (wpAny_mono h (fun fin s' z => ?_) fun _ _ z => z.elim)
  rcases fin with (_ | _ | _ | _) | _ <;> first | (show wpAny _ _ (handedOut _) _ _ _; rw [handedOut_of z.1]; exact wpAny_pure (wpAny_pure z.2)) | exact z.elim
theorem tga_get : findIn [] (.type "type") "__getattribute__" = some (some (.builtin "type.__getattribute__")) := type_tga
theorem nil_in (h : Heap) : Frag.In [] h := fun a o e => by cases e
theorem getAttrQ_prep {Q : Option Value → Shared → Prop} (h : ∀ a h' tk, h'.get? a = some (bndO "type.__prepare__" "type") → s.heap.get? a = none → (∀ b o, s.heap.get? b = some o → h'.get? b = some o) → Q (some (.ref a)) { s with heap := h', toks := tk }) :
    wpAny (model prog w) A (getAttr? (.type "type") "__prepare__") Q E s := by
  have hstub : opaqueClassAbove (.type "type") = pure none := by unfold opaqueClassAbove; dsimp only; rw [show Manifest.isStub "type" = false by decide +kernel]; rfl
  have ht : typeOf (.type "type") = pure (.type "type") := by first | rfl | kernel_rfl
  refine getAttrQ_cls (K := []) (mc := .type "type") (r := .get (.builtin "classmethod_descriptor.__get__") (.builtin "type.__prepare__") .none (.type "type")) (nil_in _) (Looks.of_pure hstub) (Looks.of_pure ht) tga_get (looks_hook (nil_in _) (r := none) (by rfl)) (by show subIn [] _ _ = _; rfl) (by kernel_rfl) ?_
  show wpAny _ _ (holding [.builtin "type.__prepare__"] (call (.builtin "classmethod_descriptor.__get__") [.builtin "type.__prepare__", .none, .type "type"]) >>= fun v => ret v) _ _ _
  refine wpAny_bind (wpAny_holding (wpAny_call_entry slot_cmget type_prep entry_cmget (run_cmget_prep ⟨_, rfl, wpAny_pure ⟨rfl, ?_⟩⟩) (args_cmget _ _ _)))
  exact h _ _ _ (Heap.get?_push_size _ rfl) (get_size _) fun b o e => Heap.get?_push_of_some _ e
theorem getMethod_fk {pl : Sem Bool} {Q : Value × List Value → Shared → Prop} (h : ∀ a h' tk, h'.get? a = some (bndO "dict.fromkeys" "dict") → s.heap.get? a = none → (∀ b o, s.heap.get? b = some o → h'.get? b = some o) → Q (.ref a, []) { s with heap := h', toks := tk }) :
    wpAny (model prog w) A (getMethod (.type "dict") "fromkeys" pl) Q E s := by
  have hstub : opaqueClassAbove (.type "dict") = pure none := by unfold opaqueClassAbove; dsimp only; rw [show Manifest.isStub "dict" = false by decide +kernel]; rfl
  have ht : typeOf (.type "dict") = pure (.type "type") := by first | rfl | kernel_rfl
  have L0 : Looks (model prog w) s.heap (typeOf (.type "dict")) (.type "type") := Looks.of_pure ht
  unfold getMethod specialOf
  refine wpAny_bind (wpAny_bind (L0.here ((looks_findIn (nil_in _) tga_get).here ?_)))
  dsimp only
  rw [if_pos canon_tga]
  refine wpAny_bind (wpAny_mono (Q := fun v => Q (v, [])) (E := E) ?_ (fun _ _ z => wpAny_pure z) fun _ _ z => z)
  refine cls_open (K := []) (mc := .type "type") (r := .get (.builtin "classmethod_descriptor.__get__") (.builtin "dict.fromkeys") .none (.type "dict")) (nil_in _) (Looks.of_pure hstub) L0 tga_get (looks_hook (nil_in _) (r := none) (by rfl)) (by show subIn [] _ _ = _; rfl) (by kernel_rfl) ?_
  show wpAny _ _ (holding [.builtin "dict.fromkeys"] (call (.builtin "classmethod_descriptor.__get__") [.builtin "dict.fromkeys", .none, .type "dict"]) >>= fun v => ret v) _ _ _
  refine wpAny_bind (wpAny_holding (wpAny_call_entry slot_cmget type_fk entry_cmget (run_cmget_fk ⟨_, rfl, wpAny_pure (wpAny_pure ?_)⟩) (args_cmget _ _ _)))
  exact h _ _ _ (Heap.get?_push_size _ rfl) (get_size _) fun b o e => Heap.get?_push_of_some _ e
theorem call_bnd {id T : String} {x : Addr} {vs : List Value} {Q : Value → Shared → Prop} {b : Builtin} (ho : s.heap.get? x = some (bndO id T)) (hck : checkBoundCall id ⟨.type T :: vs, []⟩ = pure ()) (hent : entryFor table id = some b) (hq : id.startsWith "lifetime." = false)
    (hcan : (id == "lifetime.sure#open") = false := by decide)
    (h : wpAny (model prog w) (A.under (.builtin id ⟨.type T :: vs, []⟩)) (b ⟨.type T :: vs, []⟩)
      (fun fin s' => match fin with | .done f => (match f with | .ret v => Q v s' | _ => False) | .again c' => c'.quiet = true ∧ codeAny (model prog w) A c' (fun r s' => match r with | .ok (.ret v) => Q v s' | .ok _ => False | .error e => E e s') s') E s) : wpAny (model prog w) A (call (.ref x) vs) Q E s := by
  refine wpAny_call (codeAny_of_tree ?_)
  show wpAny _ A.in1 (callAny (.ref x) ⟨vs, []⟩) _ _ s
  simp only [callAny]
  refine wpAny_bind (wpAny_load ho ?_)
  simp only [bndO, show (Value.type "builtin_function_or_method" == Value.type "method" || Value.type "builtin_function_or_method" == Value.type "builtin_function_or_method" || Value.type "builtin_function_or_method" == Value.type "method-wrapper") = true by decide, if_true]
  refine if_so (by decide) ?_
  refine wpAny_bind (wpAny_of_eq (a := ()) hck ?_)
  refine wpAny_bind (wpAny_pure (wpAny_pure ?_))
  refine ⟨Code.quiet_builtin _ hq, codeAny_builtin hent (wpAny_mono h (fun fin s' z => ?_) fun _ _ z => z)⟩
  cases fin with
  | done f => cases f <;> first | exact z | exact z.elim
  | again c' => exact z
end
end Mine
namespace Mine
section
variable {prog : Program} {w : World} {X : Fix} {Γ : List (Str × VP)} {ψ ω φ : PM} {s s' : Shared} {k : Nat} {n b : Bool} {m : Str → Option Value} {μ : Md} {A : Around} {env : Env} {sc scope : Scope}
variable {E : Value → Shared → Prop} {M : Model}
theorem forIn1 {α β : Type} {x : α} {init : β} {f : α → β → Sem (ForInStep β)} {Q : β → Shared → Prop} (h : wpAny M A (f x init) (fun r s' => ∃ b', r = .yield b' ∧ Q b' s') E s) : wpAny M A (forIn [x] init f) Q E s := by
  rw [List.forIn_cons]
  refine wpAny_bind (wpAny_mono h (fun r s' z => ?_) fun _ _ e => e)
  obtain ⟨b', rfl, q⟩ := z
  dsimp only
  rw [List.forIn_nil]
  exact wpAny_pure q
structure FreshA (X : Fix) (ψ ω : PM) (s : Shared) (a : Addr) : Prop where
  o : ω a = none
  p : ψ a = none
  h : s.heap.get? a = none
  s0 : X.s₀.heap.get? a = none
  ft : a ∉ X.ft
  tb : ∀ p ∈ X.tb, p.1 ≠ a
theorem S.freshA {a : Addr} (Y : S X m ψ ω s) (h : s.heap.get? a = none) : FreshA X ψ ω s a := by
  refine ⟨?_, none_of_sub Y.sub h, h, Y.ext.none h, fun hf => ?_, fun p hp q => ?_⟩
  · cases q : ω a with
    | none => rfl
    | some o => rw [(Y.own a o q).1] at h; cases h
  · obtain ⟨o, ho⟩ := Y.there a hf; rw [ho] at h; cases h
  · have := (Y.tab p hp).1; rw [q, h] at this; cases this
theorem S.take {a : Addr} {o : Obj} (Y : S X m ψ ω s) (ho : s.heap.get? a = some o) (F : FreshA X ψ ω s' a) : S X m ψ (put ω a o) s := by
  refine ⟨Y.ext, Y.le, Y.new, Y.sub, Y.fram, Y.link, Y.hnd, Y.loc, Y.there, Y.off, Y.fre, fun b ob e => ?_, fun p hp => ?_⟩
  · by_cases q : b = a
    · subst q; rw [put_self] at e; cases e; exact ⟨ho, F.p, F.s0, F.ft⟩
    · rw [put_ne q] at e; exact Y.own b ob e
  · obtain ⟨k1, k2, k3, k4, k5⟩ := Y.tab p hp
    exact ⟨k1, k2, k3, by rw [put_ne (F.tb p hp)]; exact k4, k5⟩
theorem S.newObj {c : String} {d : Data} {Q : Value → Shared → Prop} (Y : S X m ψ ω s) (hf : ({ cls := .type c, data := d } : Obj).isFreed = false) (hsz : sizeOk d)
    (q : ∀ a s', FreshA X ψ ω s a → S X m ψ (put ω a { cls := .type c, data := d }) s' → Q (.ref a) s') : wpAny M A (newObj (.type c) d) Q E s :=
  wpAny_newObj_type (q _ _ (Y.freshA (get_size _)) (Y.lay _ hf s.toks)) hsz
theorem S.alloc {o : Obj} {Q : Addr → Shared → Prop} (Y : S X m ψ ω s) (hf : o.isFreed = false) (q : ∀ a s', FreshA X ψ ω s a → S X m ψ (put ω a o) s' → Q a s') : wpAny M A (alloc o) Q E s :=
  wpAny_alloc (q _ _ (Y.freshA (get_size _)) (Y.lay _ hf s.toks))
theorem S.tok {tk : Nat} (Y : S X m ψ ω s) : S X m ψ ω { s with toks := tk } := by
  refine ⟨?_, Y.le, Y.new, Y.sub, Y.fram, Y.link, Y.hnd, Y.loc, Y.there, Y.off, Y.fre, Y.own, Y.tab⟩
  exact Y.ext.trans ⟨⟨s.heap, tk, rfl⟩, fun _ o e => .same e⟩
theorem S.kept {h' : Heap} {tk : Nat} (Y : S X m ψ ω s) (k : ∀ b o, s.heap.get? b = some o → h'.get? b = some o) : S X m ψ ω { s with heap := h', toks := tk } :=
  Y.turn (W := fun _ => False) (fun _ h => h.elim) ⟨h', tk, rfl⟩ (fun b ob _ e => k b ob e) fun a o e => .inr ⟨fun h => h, e⟩
theorem S.upd {a : Addr} {o : Obj} {f : Obj → Obj} (Y : S X m ψ ω s) (h : ω a = some o) (hf : (f o).isFreed = false) : S X m ψ (put ω a (f o)) { s with heap := s.heap.update a f } :=
  Y.sameBut h ⟨_, s.toks, rfl⟩ (fun b ob hb e => by rw [Heap.get?_update_other _ _ (Ne.symm hb)]; exact e) (Heap.get?_update_self _ (Y.own _ _ h).1 hf)
theorem S.nsGet {a : Addr} {o : Obj} {x : Str} {r : Option Value} {Q : Option Value → Shared → Prop} (Y : S X m ψ ω s) (h : ω a = some o) (hl : nsLook x o = pure r) (q : Q r s) : wpAny M A (nsGet a x) Q E s := by
  unfold PySem.nsGet
  refine wpAny_bind (wpAny_loadPart (Y.own _ _ h).1 ?_)
  rw [hl]
  exact wpAny_pure q
theorem S.nsSet {a : Addr} {o : Obj} {x : Str} {v : Value} {Q : Unit → Shared → Prop} (Y : S X m ψ ω s) (h : ω a = some o) (hd : ∃ es ep, o.data = .dict es ep ∧ aRefKeyMayBeTheName x es = false) (hf : ∀ hs tk, (Obj.putName x hs (.str x tk) v o).isFreed = false)
    (q : ∀ s' hs tk, S X m ψ (put ω a (Obj.putName x hs (.str x tk) v o)) s' → Q () s') : wpAny M A (PySem.nsSet a x v) Q E s := by
  obtain ⟨es, ep, hd, hr⟩ := hd
  unfold PySem.nsSet strHash
  refine wpAny_bind (wpAny_bind (wpAny_askSetting (wpAny_pure ?_)))
  refine wpAny_bind (wpAny_mkText ?_)
  have Y1 := Y.tok (tk := s.toks + 1)
  refine wpAny_bind (wpAny_loadPart (Y1.own _ _ h).1 ?_)
  rw [hd]
  dsimp only
  rw [hr]
  simp only [Bool.false_eq_true, if_false]
  exact wpAny_updatePart (Y1.own _ _ h).1 (q _ _ _ (Y1.upd h (hf _ _)))
noncomputable def Fix.setTb (X : Fix) (P : Addr) (o : Obj) : Fix := { X with tb := X.tb.map fun p => if p.1 = P then (P, o) else p }
theorem setTb_F {P : Addr} {o : Obj} : (X.setTb P o).F = X.F := by
  unfold Fix.F Fix.setTb
  simp only [List.map_map]
  congr 1
  refine List.map_congr_left fun p _ => ?_
  simp only [Function.comp]
  split
  · rename_i h; exact h.symm
  · rfl
theorem S.table {P : Addr} {ps more : Array Value} {h' : Heap} {tk : Nat} (Y : S X m ψ ω s) (hm : (P, tabObj ps) ∈ X.tb) (hx : Heap.ExtBut P s.heap h') (hP : h'.get? P = some (tabObj (ps ++ more))) :
    S (X.setTb P (tabObj (ps ++ more))) m ψ ω { s with heap := h', toks := tk } := by
  have hPt := Y.tab _ hm
  have ne : ∀ b o, ω b = some o → b ≠ P := fun b o e q => by rw [q, hPt.2.2.2.1] at e; cases e
  have neψ : ∀ b o, ψ b = some o → b ≠ P := fun b o e q => by rw [q, hPt.2.1] at e; cases e
  have hsP : s.heap.get? P = some (tabObj ps) := hPt.1
  refine ⟨?_, Y.le, Y.new, fun b o e => hx b o (neψ b o e) (Y.sub b o e), ?_, Y.link, Y.hnd, Y.loc, fun c hc => ?_, Y.off, Y.fre, fun b o e => ?_, fun p hp => ?_⟩
  · rw [setTb_F]
    refine ⟨?_, fun b o e => (Y.ext.kept b o e).trans fun o1 e1 => ?_⟩
    · obtain ⟨h1, t1, hr⟩ := Y.ext.rest
      exact ⟨h', tk, by rw [hr]; rfl⟩
    · by_cases q : b = P
      · subst q
        rw [hsP] at e1; cases e1
        exact .inr ⟨List.mem_append_left _ (List.mem_map.mpr ⟨_, hm, rfl⟩), rfl, ps, more, rfl, hP⟩
      · exact .same (hx b o1 q e1)
  · obtain ⟨fn, gl, bi, ⟨ml, ⟨oL, es, ep, hL, hd⟩, hml⟩, cel, inj, nl⟩ := Y.fram
    refine ⟨fn, gl, bi, ⟨ml, ⟨oL, es, ep, hx _ _ (fun q => hPt.2.2.1 (q ▸ Y.loc)) hL, hd⟩, hml⟩, fun y hy => ?_, inj, nl⟩
    obtain ⟨c, hc, oc, hoc, hdc⟩ := cel y hy
    refine ⟨c, hc, oc, hx _ _ (fun q => ?_) hoc, hdc⟩
    rw [q, hsP] at hoc; cases hoc; cases hdc
  · obtain ⟨o, ho⟩ := Y.there c hc
    exact ⟨o, hx c o (fun q => hPt.2.2.1 (q ▸ hc)) ho⟩
  · obtain ⟨k1, k2⟩ := Y.own b o e
    exact ⟨hx b o (ne b o e) k1, k2⟩
  · obtain ⟨p0, hp0, rfl⟩ := List.mem_map.mp hp
    obtain ⟨k1, k2⟩ := Y.tab p0 hp0
    by_cases q : p0.1 = P
    · rw [if_pos q]
      rw [q] at k2
      exact ⟨hP, k2⟩
    · rw [if_neg q]
      exact ⟨hx _ _ q k1, k2⟩
theorem codeAt_new {env : Env} {c P : Addr} {ps : Array Value} {pos : Pos} {qual : Str} {make : CodeContext → Sem Value} {Q : Value → Shared → Prop} (hc : env.code = .ref c) (C : CodeHd s.heap c P) (hP : s.heap.get? P = some (tabObj ps)) (ht : TriplesOk ps.toList)
    (hnf : codeAmong pos ps.toList = none)
    (hmake : ∀ ctx (Q' : Value → Shared → Prop), (∀ c' P' h' tk, (∀ b o, s.heap.get? b = some o → h'.get? b = some o) → s.heap.objs.size ≤ c' → s.heap.objs.size ≤ P' → h'.IsCode c' P' #[] → h'.TableAt c' P' #[] → h'.CodeRec (.ref c') qual → Q' (.ref c') { s with heap := h', toks := tk }) → wpAny M A (make ctx) Q' E s)
    (hQ : ∀ c' P' h' tk, Heap.ExtBut P s.heap h' → s.heap.get? c' = none → s.heap.get? P' = none → CodeHd h' c' P' → h'.get? P' = some (tabObj #[]) → h'.CodeRec (.ref c') qual → h'.get? P = some (tabObj (ps ++ #[rawInt pos.line, rawInt pos.col, .ref c'])) → Q (.ref c') { s with heap := h', toks := tk }) :
    wpAny M A (codeAt env pos make) Q E s := by
  obtain ⟨o, vs, file, tf, flags, tg, inF, text, tt, op, ho, hd, h11, h2, h7, h9, h10, hop, hpd, htr, hne⟩ := C.code hP ht
  have e1 : op = tabObj ps := Option.some.inj (hop.symm.trans hP)
  unfold codeAt
  rw [hc, if_neg (show ¬ ((Value.ref c == Value.none) = true) from Bool.false_ne_true)]
  refine wpAny_bind (wpAny_fieldsOf ho hd ?_)
  rw [h11]
  refine wpAny_bind (wpAny_fieldsOf hop hpd ?_)
  rw [hnf, h2, h7, h9, h10]
  refine wpAny_bind (hmake _ _ fun c' P' h' tk hk hc' hP' hcode' htab' hrec' => ?_)
  have hop' := hk _ _ hop
  refine wpAny_bind (wpAny_updateFieldsOfTheText hop' hpd ?_)
  have hnew : (Obj.mapFields (fun vs => if (codeAmong pos vs.toList).isSome = true then vs else vs ++ #[rawInt pos.line, rawInt pos.col, .ref c']) op).data =
      .fields (ps ++ #[rawInt pos.line, rawInt pos.col, .ref c']) := by
    rw [Obj.data_mapFields hpd, hnf]; rfl
  have hget := Heap.get?_update_self (h := h') (fun o => Obj.mapFields (fun vs => if (codeAmong pos vs.toList).isSome = true then vs else
    vs ++ #[rawInt pos.line, rawInt pos.col, .ref c']) o) hop' (Obj.isFreed_of_fields hnew)
  refine wpAny_bind (wpAny_fieldsOf hget hnew ?_)
  have hl : (ps ++ #[rawInt pos.line, rawInt pos.col, Value.ref c']).toList = ps.toList ++ [rawInt pos.line, rawInt pos.col, .ref c'] := by simp
  rw [hl, codeAmong_snoc _ htr hnf]
  have hcP : c' ≠ P := Nat.ne_of_gt (Nat.lt_of_lt_of_le (Heap.lt_size hop) hc')
  have hP'P : P' ≠ P := Nat.ne_of_gt (Nat.lt_of_lt_of_le (Heap.lt_size hop) hP')
  have hb : Heap.ExtBut P h' (h'.update P fun o => Obj.mapFields (fun vs => if (codeAmong pos vs.toList).isSome = true then vs else vs ++ #[rawInt pos.line, rawInt pos.col, .ref c']) o) := (Heap.SameBut.update ..).extBut
  refine wpAny_pure (hQ c' P' _ _ (fun b o' hb' e => hb b o' hb' (hk b o' e)) (Heap.get?_none_of_le hc') (Heap.get?_none_of_le hP') ?_ ?_ ?_ ?_)
  · exact CodeHd.of (hcode'.extBut hb hcP hP'P) (htab'.extBut hb hcP hP'P)
  · exact hb _ _ hP'P htab'.2
  · obtain ⟨c₂, o₂, vs₂, t₂, e₂, g₂, r₂⟩ := hrec'
    cases e₂
    exact ⟨_, o₂, vs₂, t₂, rfl, hb _ _ hcP g₂, r₂⟩
  · rw [hget, e1]
    simp only [Obj.mapFields, tabObj, hnf]
    rfl
end
section
variable {M : Model} {β γ : Type} {f : β → Sem γ} {Q : γ → Shared → Prop}
theorem bEq {x : Sem β} (a : β) (e : x = pure a) (q : wpAny M A (f a) Q E s) : wpAny M A (x >>= f) Q E s := wpAny_bind (wpAny_of_eq e q)
theorem bPure {a : β} (q : wpAny M A (f a) Q E s) : wpAny M A (pure a >>= f) Q E s := wpAny_bind (wpAny_pure q)
theorem S.bAlloc {o : Obj} {f : Addr → Sem γ} (Y : S X m ψ ω s) (hf : o.isFreed = false) (q : ∀ a s', FreshA X ψ ω s a → S X m ψ (put ω a o) s' → wpAny M A (f a) Q E s') : wpAny M A (PySem.alloc o >>= f) Q E s := wpAny_bind (Y.alloc hf q)
theorem S.bNewObj {c : String} {d : Data} {f : Value → Sem γ} (Y : S X m ψ ω s) (hf : ({ cls := .type c, data := d } : Obj).isFreed = false) (hsz : sizeOk d)
    (q : ∀ a s', FreshA X ψ ω s a → S X m ψ (put ω a { cls := .type c, data := d }) s' → wpAny M A (f (.ref a)) Q E s') : wpAny M A (PySem.newObj (.type c) d >>= f) Q E s := wpAny_bind (Y.newObj hf hsz q)
end
section
variable {γ : Type} {Q : γ → Shared → Prop}
theorem bIs {s : Shared} {v : Value} {T U : String} {b : Bool} {f : Bool → Sem γ} (hT : s.TypeIs v T) (h : isSubtype (.type T) (.type U) = pure b) (q : wpAny (model prog w) A (f b) Q E s) : wpAny (model prog w) A (isInstance v (.type U) >>= f) Q E s := wpAny_bind (wpAny_isInstance hT h q)
theorem bSeq {a : Addr} {o : Obj} {items : Array Value} {n : Nat} {f : Option (Array Value) → Sem γ} (ho : s.heap.get? a = some o) (hd : o.data = .seq items n) (q : wpAny (model prog w) A (f (some items)) Q E s) : wpAny (model prog w) A (seqItems? (.ref a) >>= f) Q E s := wpAny_bind (wpAny_seqItems ho hd q)
theorem bSpec {s : Shared} {v : Value} {T : String} {name : Str} {r : Option Value} {f : Option Value → Sem γ} (hT : s.TypeIs v T) (h : typeLookup (.type T) name = pure r) (q : wpAny (model prog w) A (f r) Q E s) : wpAny (model prog w) A (specialOf v name >>= f) Q E s := wpAny_bind (wpAny_specialOf hT h q)
end
end Mine
namespace Mine
noncomputable def fnD (name qual : Str) (params : Arguments) (body : FuncBody) (scope : Scope) (cl : List (Str × Addr)) (pm cd ct : Value) : FuncData :=
  { name, qualname := qual, params, body, scope, globals := mainGlobals, closure := cl, defaults := .none, kwdefaults := .none, doc := .none, pyModule := pm, annotations := none, code := cd, closureTuple := ct, builtins := builtinsNs }
noncomputable def noDoc : FuncBody → Prop
  | .stmts b => docOf b = none
  | .expr _ => True
structure TopMk (φ : PM) : Prop where
  name : ∃ v, NsKnows φ mainGlobals "__name__" (some v)
  bi : ∃ bm ob, NsKnows φ mainGlobals "__builtins__" (some (.ref bm)) ∧ bm ≠ builtinsNs ∧ φ bm = some ob ∧ ob.cls = .type "module" ∧ ob.dict = some builtinsNs ∧ ob.data = .plain
theorem TopMk.le {φ ψ : PM} (t : TopMk φ) (l : Le φ ψ) : TopMk ψ := ⟨let ⟨v, h⟩ := t.name; ⟨v, h.le l⟩, let ⟨bm, ob, a, b, c, d⟩ := t.bi; ⟨bm, ob, a.le l, b, l _ _ c, d⟩⟩
section
variable {prog : Program} {w : World} {X : Fix} {Γ : List (Str × VP)} {ψ ω φ : PM} {s s' : Shared} {k : Nat} {n b : Bool} {m : Str → Option Value} {μ : Md} {A : Around} {env : Env} {sc scope : Scope}
variable {E : Value → Shared → Prop} {M : Model}
theorem mkFun {name qual : Str} {params : Arguments} {body : FuncBody} {c P : Addr} {ps : Array Value} {pos : Pos} {firstLine : Nat} {clos : List (Str × Addr)} {Q : Value → Shared → Prop} (hT : TopMk ψ) (hs : Sub ψ s.heap)
    (hcl : closureFor scope env = pure clos) (hge : env.globals = mainGlobals) (hcode : env.code = .ref c) (C : CodeHd s.heap c P) (hP : s.heap.get? P = some (tabObj ps)) (hPψ : ψ P = none) (ht : TriplesOk ps.toList) (hnf : codeAmong pos ps.toList = none)
    (hdoc : noDoc body)
    (h : ∀ f c' h' tk ct pm, Heap.ExtBut P s.heap h' → s.heap.get? c' = none → s.heap.get? f = none → c' ≠ f → h'.CodeRec (.ref c') qual → h'.get? P = some (tabObj (ps ++ #[rawInt pos.line, rawInt pos.col, .ref c'])) →
      h'.get? f = some { cls := .type "function", data := .func (fnD name qual params body scope clos pm (.ref c') ct) } → Q (.ref f) { s with heap := h', toks := tk }) :
    wpAny M A (makeFunction name qual params body scope env [] [] [] pos firstLine) Q E s := by
  rw [makeFunction_eq]
  simp only [List.zip_nil_right, List.filterMap_nil, List.isEmpty_nil, if_true, pure_bind]
  obtain ⟨bm, ob, hbm, hne0, hob, hcls, hdict, hdata⟩ := hT.bi
  obtain ⟨nv, hnv⟩ := hT.name
  unfold makeTail
  rw [hcl, hge]
  refine wpAny_bind (wpAny_pure ?_)
  have fin : ∀ (ct : Value) (h1 : Heap), (∀ b o, s.heap.get? b = some o → h1.get? b = some o) →
      wpAny M A (functionCode env pos firstLine name qual params scope body >>= fun cd => builtinsFor mainGlobals env.builtins >>= fun bi => PySem.nsGet mainGlobals "__name__" >>= fun nm =>
        (let jp : Value → Sem Value := fun d => PySem.newObj (.type "function") (.func (FuncData.mk name qual params body scope mainGlobals clos .none .none d (nm.getD .none) none cd ct bi))
         match body with
         | .stmts b => (match docOf b with | some s => mkText s | none => pure .none) >>= jp
         | .expr _ => pure .none >>= jp)) Q E { s with heap := h1 } := by
    intro ct h1 hk
    have hs1 : Sub ψ h1 := fun a o e => hk a o (hs a o e)
    refine wpAny_bind ?_
    unfold functionCode
    refine codeAt_new (s := { s with heap := h1 }) (qual := qual) hcode (C.keeps hk) (hk _ _ hP) ht hnf (fun ctx Q' hq => wpAny_newCodeX hq) fun c' P' h' tk hx hn1 hn2 _ _ hrec htb => ?_
    have hneP : ∀ a o, ψ a = some o → a ≠ P := fun a o e q => by rw [q, hPψ] at e; cases e
    have hs2 : Sub ψ h' := fun a o e => hx a o (hneP a o e) (hs1 a o e)
    obtain ⟨mg, ng, hmg⟩ := hbm.ns hs2
    refine wpAny_bind (wpAny_builtinsFor ng hmg hne0 (hs2 _ _ hob) hcls hdict hdata ?_)
    obtain ⟨mg2, ng2, hmg2⟩ := hnv.ns hs2
    refine wpAny_bind (wpAny_nsGet ng2 ?_)
    have hx' : Heap.ExtBut P s.heap h' := fun b o hb e => hx b o hb (hk b o e)
    have hc' : s.heap.get? c' = none := by
      cases q : s.heap.get? c' with
      | none => rfl
      | some o => have := hk _ _ q; rw [hn1] at this; cases this
    have last : wpAny M A (PySem.newObj (.type "function") (.func (fnD name qual params body scope clos ((mg2 "__name__").getD .none) (.ref c') ct))) Q E { s with heap := h', toks := tk } := by
      refine wpAny_newObj_type (h h'.objs.size c' _ tk ct _ (fun b o hb e => Heap.get?_push_of_some _ (hx' b o hb e)) hc' ?_ ?_ ?_ (Heap.get?_push_of_some _ htb) (Heap.get?_push_size _ rfl)) (by size_fits)
      · cases q : s.heap.get? h'.objs.size with
        | none => rfl
        | some o =>
          by_cases z : h'.objs.size = P
          · rw [← z, get_size] at htb; cases htb
          · have := hx' _ _ z q; rw [get_size] at this; cases this
      · intro z
        obtain ⟨c₂, o₂, vs₂, t₂, e₂, g₂, r₂⟩ := hrec
        cases e₂
        rw [z, get_size] at g₂; cases g₂
      · obtain ⟨c₂, o₂, vs₂, t₂, e₂, g₂, r₂⟩ := hrec
        exact ⟨c₂, o₂, vs₂, t₂, e₂, Heap.get?_push_of_some _ g₂, r₂⟩
    cases body with
    | expr e => exact wpAny_bind (wpAny_pure last)
    | stmts bs =>
      have hd : docOf bs = none := hdoc
      dsimp only
      rw [hd]
      exact wpAny_bind (wpAny_pure last)
  cases clos with
  | nil =>
    simp only [List.isEmpty_nil, if_true]
    exact wpAny_bind (wpAny_pure (fin .none s.heap fun _ _ e => e))
  | cons q r =>
    simp only [List.isEmpty_cons, Bool.false_eq_true, if_false]
    exact wpAny_bind (wpAny_newTextTuple (fin _ _ fun b o e => Heap.get?_push_of_some _ e))
theorem S.adopt {a : Addr} {o : Obj} (Y : S X m ψ ω s) (ho : s.heap.get? a = some o) (F : FreshA X ψ ω s' a) : S X m (put ψ a o) ω s := by
  refine ((Y.take ho F).freeze (put_self _ _ _)).forget fun b ob e => ?_
  have hb : b ≠ a := fun q => by rw [q, F.o] at e; cases e
  simp only [if_neg hb]
  rw [put_ne hb]; exact e
theorem FreshA.put {a c : Addr} {o : Obj} (F : FreshA X ψ ω s a) (h : a ≠ c) : FreshA X (Mine.put ψ c o) ω s a := ⟨F.o, by rw [put_ne h]; exact F.p, F.h, F.s0, F.ft, F.tb⟩
theorem FreshA.putO {a c : Addr} {o : Obj} (F : FreshA X ψ ω s a) (h : a ≠ c) : FreshA X ψ (Mine.put ω c o) s a := ⟨by rw [put_ne h]; exact F.o, F.p, F.h, F.s0, F.ft, F.tb⟩
noncomputable def CodeHdP (ψ : PM) (c P : Addr) : Prop :=
  ∃ o vs file tf flags tg inF text tt, ψ c = some o ∧ o.cls = .type "code" ∧ o.data = .fields vs ∧ vs[11]? = some (.ref P) ∧ vs.getD 11 .none = .ref P ∧ vs.getD 18 .none = .str file tf ∧
    vs.getD 7 .none = .int flags tg ∧ vs.getD 9 .none = .bool inF ∧ vs.getD 10 .none = .int text tt ∧ c ≠ P
theorem CodeHdP.at {c P : Addr} (x : CodeHdP ψ c P) {h : Heap} (hs : Sub ψ h) : CodeHd h c P :=
  let ⟨o, vs, file, tf, flags, tg, inF, text, tt, e, r⟩ := x; ⟨o, vs, file, tf, flags, tg, inF, text, tt, hs _ _ e, r⟩
theorem CodeHdP.le {c P : Addr} (x : CodeHdP φ c P) (l : Le φ ψ) : CodeHdP ψ c P :=
  let ⟨o, vs, file, tf, flags, tg, inF, text, tt, e, r⟩ := x; ⟨o, vs, file, tf, flags, tg, inF, text, tt, l _ _ e, r⟩
noncomputable def CodeK (φ : PM) (cd : Value) (qual : Str) : Prop := ∃ c oc vs tq, cd = .ref c ∧ φ c = some oc ∧ oc.data = .fields vs ∧ vs[1]? = some (.str qual tq)
theorem CodeK.le {cd : Value} {qual : Str} (x : CodeK φ cd qual) (l : Le φ ψ) : CodeK ψ cd qual := let ⟨c, oc, vs, tq, a, b, d⟩ := x; ⟨c, oc, vs, tq, a, l _ _ b, d⟩
theorem S.mkFunO {name qual : Str} {params : Arguments} {body : FuncBody} {c P : Addr} {ps : Array Value} {pos : Pos} {firstLine : Nat} {clos : List (Str × Addr)} {Q : Value → Shared → Prop} (Y : S X m ψ ω s) (hT : TopMk ψ)
    (hcl : closureFor scope env = pure clos) (hge : env.globals = mainGlobals) (hcode : env.code = .ref c) (C : CodeHdP ψ c P) (hP : ω P = some (tabObj ps)) (ht : TriplesOk ps.toList) (hnf : codeAmong pos ps.toList = none) (hdoc : noDoc body)
    (h : ∀ f c' s' ct pm ψ', Le ψ ψ' → ψ' f = some { cls := .type "function", data := .func (fnD name qual params body scope clos pm (.ref c') ct) } → CodeK ψ' (.ref c') qual → (∀ b o, ω b = some o → b ≠ f) → s.heap.get? f = none →
      S X m ψ' (put ω P (tabObj (ps ++ #[rawInt pos.line, rawInt pos.col, .ref c']))) s' → Q (.ref f) s') :
    wpAny M A (makeFunction name qual params body scope env [] [] [] pos firstLine) Q E s := by
  refine mkFun hT Y.sub hcl hge hcode (C.at Y.sub) (Y.own _ _ hP).1 (Y.own _ _ hP).2.1 ht hnf hdoc fun f c' h' tk ct pm hx hn1 hn2 hne hrec htb hf => ?_
  have Y1 := Y.sameBut (s' := { s with heap := h', toks := tk }) hP ⟨h', tk, rfl⟩ (fun b ob hb e => hx b ob hb e) htb
  obtain ⟨c₂, oc, vs, tq, e₂, g₂, hd2, h12⟩ := hrec
  cases e₂
  have F1 := Y.freshA hn1
  have F2 := Y.freshA hn2
  have hP1 : c' ≠ P := fun q => by have := (Y.own _ _ hP).1; rw [← q, hn1] at this; cases this
  have hP2 : f ≠ P := fun q => by have := (Y.own _ _ hP).1; rw [← q, hn2] at this; cases this
  have Y2 := Y1.adopt g₂ (F1.putO hP1)
  have Y3 := Y2.adopt hf ((F2.putO hP2).put (Ne.symm hne))
  have l1 : Le ψ (put ψ c' oc) := le_put F1.p
  have l2 : Le (put ψ c' oc) (put (put ψ c' oc) f { cls := .type "function", data := .func (fnD name qual params body scope clos pm (.ref c') ct) }) := le_put (by rw [put_ne (Ne.symm hne)]; exact F2.p)
  exact h f c' _ ct pm _ (l1.trans l2) (put_self _ _ _) ⟨c', oc, vs, tq, rfl, l2 _ _ (put_self _ _ _), hd2, h12⟩ (fun b o e q => by rw [q, F2.o] at e; cases e) hn2 Y3
theorem S.mkFunT {name qual : Str} {params : Arguments} {body : FuncBody} {c P : Addr} {ps : Array Value} {pos : Pos} {firstLine : Nat} {clos : List (Str × Addr)} {Q : Value → Shared → Prop} (Y : S X m ψ ω s) (hT : TopMk ψ)
    (hcl : closureFor scope env = pure clos) (hge : env.globals = mainGlobals) (hcode : env.code = .ref c) (C : CodeHdP ψ c P) (hP : (P, tabObj ps) ∈ X.tb) (ht : TriplesOk ps.toList) (hnf : codeAmong pos ps.toList = none) (hdoc : noDoc body)
    (h : ∀ f c' s' ct pm ψ', Le ψ ψ' → ψ' f = some { cls := .type "function", data := .func (fnD name qual params body scope clos pm (.ref c') ct) } → CodeK ψ' (.ref c') qual →
      S (X.setTb P (tabObj (ps ++ #[rawInt pos.line, rawInt pos.col, .ref c']))) m ψ' ω s' → Q (.ref f) s') :
    wpAny M A (makeFunction name qual params body scope env [] [] [] pos firstLine) Q E s := by
  have hPt := Y.tab _ hP
  refine mkFun hT Y.sub hcl hge hcode (C.at Y.sub) hPt.1 hPt.2.1 ht hnf hdoc fun f c' h' tk ct pm hx hn1 hn2 hne hrec htb hf => ?_
  have Y1 := Y.table (tk := tk) hP hx htb
  obtain ⟨c₂, oc, vs, tq, e₂, g₂, hd2, h12⟩ := hrec
  cases e₂
  have F1 := Y.freshA hn1
  have F2 := Y.freshA hn2
  have fresh : ∀ {a ψ1}, FreshA X ψ1 ω s a → FreshA (X.setTb P (tabObj (ps ++ #[rawInt pos.line, rawInt pos.col, .ref c']))) ψ1 ω s a := fun F => ⟨F.o, F.p, F.h, F.s0, F.ft, fun p hp => by
    obtain ⟨p0, hp0, rfl⟩ := List.mem_map.mp hp
    split
    · rename_i q; have := F.tb p0 hp0; rw [q] at this; exact this
    · exact F.tb p0 hp0⟩
  have Y2 := Y1.adopt g₂ (fresh F1)
  have Y3 := Y2.adopt hf (fresh (F2.put (Ne.symm hne)))
  have l1 : Le ψ (put ψ c' oc) := le_put F1.p
  have l2 : Le (put ψ c' oc) (put (put ψ c' oc) f { cls := .type "function", data := .func (fnD name qual params body scope clos pm (.ref c') ct) }) := le_put (by rw [put_ne (Ne.symm hne)]; exact F2.p)
  exact h f c' _ ct pm _ (l1.trans l2) (put_self _ _ _) ⟨c', oc, vs, tq, rfl, l2 _ _ (put_self _ _ _), hd2, h12⟩ Y3
end
end Mine
namespace Mine
theorem ite_no {α : Type} {M : Model} {A : Around} {E : Value → Shared → Prop} {s : Shared} {c : Prop} [Decidable c] {a b : Sem α} {Q : α → Shared → Prop} (hc : ¬ c) (h : wpAny M A b Q E s) : wpAny M A (if c then a else b) Q E s := by rw [if_neg hc]; exact h
theorem ite_yes {α : Type} {M : Model} {A : Around} {E : Value → Shared → Prop} {s : Shared} {c : Prop} [Decidable c] {a b : Sem α} {Q : α → Shared → Prop} (hc : c) (h : wpAny M A a Q E s) : wpAny M A (if c then a else b) Q E s := by rw [if_pos hc]; exact h
theorem entry_prep : entryFor table "type.__prepare__" = some Builtin.«type.__prepare__» := entryFor_of_tree (by kernel_rfl)
theorem check_prep (a b : Value) : checkBoundCall "type.__prepare__" ⟨[.type "type", a, b], []⟩ = pure () := by first | kernel_rfl | rfl
noncomputable abbrev cEnv (scope : Scope) (ns : Addr) (cl : List (Str × Addr)) (qual : Str) (c1 fr : Addr) : Env := { scope, locals := ns, globals := mainGlobals, cells := cl, qual := qual ++ ".", code := .ref c1, frame := some fr, builtins := builtinsNs }
structure DI (o : Obj) (kvs : List (Str × Value)) : Prop where
  cls : o.cls = .type "dict"
  dat : ∃ es ep, o.data = .dict es ep ∧ All2 (fun (kv : Str × Value) (e : DictEntry) => (∃ tk, e.key = .str kv.1 tk) ∧ e.val = kv.2) kvs es.toList
theorem DI.free {o : Obj} {kvs : List (Str × Value)} (d : DI o kvs) : o.isFreed = false := by
  obtain ⟨hc, es, ep, hd, _⟩ := d
  exact Obj.isFreed_of_dict hd
theorem all2_find {x : Str} {kvs : List (Str × Value)} {es : List DictEntry} (h : All2 (fun (kv : Str × Value) (e : DictEntry) => (∃ tk, e.key = .str kv.1 tk) ∧ e.val = kv.2) kvs es) : (es.find? (·.key.isStr x)).map (·.val) = kvs.lookup x ∧ es.any (·.refKey) = false := by
  induction h with
  | nil => exact ⟨rfl, rfl⟩
  | @cons kv e kvs es h0 _ ih =>
    obtain ⟨⟨tk, hk⟩, hv⟩ := h0
    obtain ⟨kx, kvv⟩ := kv
    simp only at hk hv
    constructor
    · rw [List.find?_cons, List.lookup_cons, hk]
      show (match (kx == x) with | true => some e | false => _).map _ = _
      by_cases q : kx = x
      · subst q; simp [hv]
      · have q1 : (kx == x) = false := by simpa using q
        have q2 : (x == kx) = false := by simpa using Ne.symm q
        rw [q1, q2]; exact ih.1
    · rw [List.any_cons, ih.2]
      unfold DictEntry.refKey
      rw [hk]; rfl
theorem DI.look {o : Obj} {kvs : List (Str × Value)} (d : DI o kvs) (x : Str) : nsLook x o = pure (kvs.lookup x) := by
  obtain ⟨hc, es, ep, hd, h⟩ := d
  obtain ⟨h1, h2⟩ := all2_find (x := x) h
  rw [nsLook_eq]
  unfold nsLookByArray
  rw [hd]
  dsimp only
  rw [← Array.find?_toList, ← Array.any_toList, h2]
  cases q : es.toList.find? (·.key.isStr x) with
  | none => rw [q] at h1; rw [← h1]; rfl
  | some e => rw [q] at h1; rw [← h1]; rfl
theorem DI.noRef {o : Obj} {kvs : List (Str × Value)} (d : DI o kvs) (x : Str) : ∃ es ep, o.data = .dict es ep ∧ aRefKeyMayBeTheName x es = false := by
  obtain ⟨hc, es, ep, hd, h⟩ := d
  obtain ⟨h1, h2⟩ := all2_find (x := x) h
  have h3 : es.any (fun e => e.refKey) = false := by rw [← Array.any_toList]; exact h2
  exact ⟨es, ep, hd, by rw [aRefKeyMayBeTheName_at, h3]; simp⟩
noncomputable def putKV (x : Str) (v : Value) : List (Str × Value) → List (Str × Value)
  | [] => [(x, v)]
  | p :: r => if p.1 = x then (p.1, v) :: r else p :: putKV x v r
theorem all2_put {x : Str} {v : Value} {hh : Int} {tk : Tok} {kvs : List (Str × Value)} {es : List DictEntry} (h : All2 (fun (kv : Str × Value) (e : DictEntry) => (∃ tk, e.key = .str kv.1 tk) ∧ e.val = kv.2) kvs es) :
    All2 (fun (kv : Str × Value) (e : DictEntry) => (∃ tk, e.key = .str kv.1 tk) ∧ e.val = kv.2) (putKV x v kvs) (match es.findIdx? (·.key.isStr x) with | some i => es.modify i fun e => { e with val := v } | none => es ++ [⟨hh, .str x tk, v⟩]) := by
  induction h with
  | nil => exact .cons ⟨⟨tk, rfl⟩, rfl⟩ .nil
  | @cons kv e kvs es h0 hr ih =>
    obtain ⟨⟨tk', hk⟩, hv⟩ := h0
    obtain ⟨kx, kvv⟩ := kv
    simp only at hk hv
    unfold putKV
    rw [List.findIdx?_cons, hk]
    by_cases q : kx = x
    · subst q
      have q1 : Value.isStr (.str kx tk') kx = true := by unfold Value.isStr; simp
      rw [q1]
      simp only [if_true, List.modify_zero_cons]
      exact .cons ⟨⟨tk', hk⟩, rfl⟩ hr
    · have q1 : Value.isStr (.str kx tk') x = false := by unfold Value.isStr; simpa using q
      rw [q1]
      simp only [if_neg q, Bool.false_eq_true, if_false]
      cases z : es.findIdx? (·.key.isStr x) with
      | none =>
        rw [z] at ih
        exact .cons ⟨⟨tk', hk⟩, hv⟩ ih
      | some i =>
        rw [z] at ih
        simp only [Option.map_some, List.modify_succ_cons]
        exact .cons ⟨⟨tk', hk⟩, hv⟩ ih
theorem DI.put {o : Obj} {kvs : List (Str × Value)} (d : DI o kvs) (x : Str) (h : Int) (tk : Tok) (v : Value) : DI (Obj.putName x h (.str x tk) v o) (putKV x v kvs) := by
  obtain ⟨hc, es, ep, hd, hall⟩ := d
  rw [Obj.putName_eq]
  obtain ⟨c, dd, dt, sl⟩ := o
  cases hd
  have h2 := all2_put (x := x) (v := v) (hh := h) (tk := tk) hall
  unfold Obj.putNameByArray
  dsimp only
  obtain ⟨l⟩ := es
  simp only [List.findIdx?_toArray] at h2 ⊢
  cases z : l.findIdx? (·.key.isStr x) with
  | none =>
    rw [z] at h2
    exact ⟨hc, _, _, rfl, by simpa using h2⟩
  | some i =>
    rw [z] at h2
    exact ⟨hc, _, _, rfl, by simpa using h2⟩
theorem DI.has {o : Obj} {kvs : List (Str × Value)} (d : DI o kvs) (x : Str) : nsHas x o = pure (kvs.lookup x).isSome := by
  obtain ⟨hc, es, ep, hd, h⟩ := d
  obtain ⟨h1, h2⟩ := all2_find (x := x) h
  have h3 : es.any (fun e => e.refKey) = false := by rw [← Array.any_toList]; exact h2
  rw [nsHas_eq]
  unfold nsHasByArray
  rw [hd]
  dsimp only
  have h4 : es.any (·.key.isStr x) = (kvs.lookup x).isSome := by
    rw [← h1, Option.isSome_map, ← Array.any_toList]
    cases q : es.toList.any (·.key.isStr x) with
    | true =>
      obtain ⟨e, he, hp⟩ := List.any_eq_true.mp q
      exact (List.find?_isSome.mpr ⟨e, he, hp⟩).symm
    | false =>
      have : es.toList.find? (·.key.isStr x) = none := List.find?_eq_none.mpr fun e he hp => by
        have := List.any_eq_false.mp q e he
        exact this hp
      rw [this]; rfl
  rw [h4, h3]
  cases (kvs.lookup x).isSome <;> rfl
noncomputable def delKV (x : Str) : List (Str × Value) → List (Str × Value)
  | [] => []
  | p :: r => if p.1 = x then r else p :: delKV x r
theorem all2_del {x : Str} {kvs : List (Str × Value)} {es : List DictEntry} (h : All2 (fun (kv : Str × Value) (e : DictEntry) => (∃ tk, e.key = .str kv.1 tk) ∧ e.val = kv.2) kvs es) :
    All2 (fun (kv : Str × Value) (e : DictEntry) => (∃ tk, e.key = .str kv.1 tk) ∧ e.val = kv.2) (delKV x kvs) (match es.findIdx? (·.key.isStr x) with | some i => es.eraseIdx i | none => es) := by
  induction h with
  | nil => exact .nil
  | @cons kv e kvs es h0 hr ih =>
    obtain ⟨⟨tk', hk⟩, hv⟩ := h0
    obtain ⟨kx, kvv⟩ := kv
    simp only at hk hv
    unfold delKV
    rw [List.findIdx?_cons, hk]
    by_cases q : kx = x
    · subst q
      have q1 : Value.isStr (.str kx tk') kx = true := by unfold Value.isStr; simp
      rw [q1]
      simp only [if_true, List.eraseIdx_cons_zero]
      exact hr
    · have q1 : Value.isStr (.str kx tk') x = false := by unfold Value.isStr; simpa using q
      rw [q1]
      simp only [if_neg q, Bool.false_eq_true, if_false]
      cases z : es.findIdx? (·.key.isStr x) with
      | none =>
        rw [z] at ih
        exact .cons ⟨⟨tk', hk⟩, hv⟩ ih
      | some i =>
        rw [z] at ih
        simp only [Option.map_some, List.eraseIdx_cons_succ]
        exact .cons ⟨⟨tk', hk⟩, hv⟩ ih
theorem DI.drop {o : Obj} {kvs : List (Str × Value)} (d : DI o kvs) (x : Str) : DI (Obj.dropName x o) (delKV x kvs) := by
  obtain ⟨hc, es, ep, hd, hall⟩ := d
  rw [Obj.dropName_eq]
  obtain ⟨c, dd, dt, sl⟩ := o
  cases hd
  have h2 := all2_del (x := x) hall
  unfold Obj.dropNameByArray
  dsimp only
  obtain ⟨l⟩ := es
  simp only [List.findIdx?_toArray] at h2 ⊢
  cases z : l.findIdx? (·.key.isStr x) with
  | none =>
    rw [z] at h2
    exact ⟨hc, _, _, rfl, h2⟩
  | some i =>
    rw [z] at h2
    exact ⟨hc, _, _, rfl, by simpa using h2⟩
section
variable {prog : Program} {w : World} {X : Fix} {Γ : List (Str × VP)} {ψ ω φ : PM} {s s' : Shared} {k : Nat} {n b : Bool} {m : Str → Option Value} {μ : Md} {A : Around} {env : Env} {sc scope : Scope}
variable {E : Value → Shared → Prop} {M : Model}
theorem S.setD {a : Addr} {o : Obj} {kvs : List (Str × Value)} {x : Str} {v : Value} {Q : Unit → Shared → Prop} (Y : S X m ψ ω s) (h : ω a = some o) (hd : DI o kvs)
    (q : ∀ s' o', DI o' (putKV x v kvs) → S X m ψ (put ω a o') s' → Q () s') : wpAny M A (PySem.nsSet a x v) Q E s :=
  Y.nsSet h (hd.noRef x) (fun hs tk => (hd.put x hs tk v).free) fun s' hs tk Y' => q s' _ (hd.put x hs tk v) Y'
theorem S.getD {a : Addr} {o : Obj} {kvs : List (Str × Value)} {x : Str} {Q : Option Value → Shared → Prop} (Y : S X m ψ ω s) (h : ω a = some o) (hd : DI o kvs) (q : Q (kvs.lookup x) s) : wpAny M A (PySem.nsGet a x) Q E s :=
  Y.nsGet h (hd.look x) q
theorem S.storeC {kvs : List (Str × Value)} {ns c1 fr : Addr} {cl : List (Str × Addr)} {qual x : Str} {v : Value} {o : Obj} {Q : Unit → Shared → Prop} (Y : S X m ψ ω s) (hk : scope.kind = .class) (hx : scope.names.lookup x = some .local ∨ (scope.names.lookup x = none ∧ compilersOwnNames.contains x = true))
    (h : ω ns = some o) (hd : DI o kvs)
    (q : ∀ s' o', DI o' (putKV x v kvs) → S X m ψ (put ω ns o') s' → Q () s') : wpAny M A (storeName (cEnv scope ns cl qual c1 fr) x v) Q E s := by
  have hkind : (cEnv scope ns cl qual c1 fr).scope.kind = .class := hk
  have hbk : (cEnv scope ns cl qual c1 fr).blockKind = .class := by unfold Env.blockKind; show (if scope.kind.isAnnotationScope = true then _ else scope.kind) = _; rw [hk]; rfl
  have fin : wpAny M A (localSet (cEnv scope ns cl qual c1 fr) x v) Q E s := by
    unfold localSet
    refine wpAny_bind (wpAny_load (Y.own _ _ h).1 ?_)
    refine ite_yes (by rw [hd.cls]; rfl) ?_
    exact Y.setD h hd q
  have hko : (cEnv scope ns cl qual c1 fr).kindOf x = scope.names.lookup x := rfl
  unfold storeName
  rw [hko, hbk]
  rcases hx with hx | ⟨hx, hc⟩
  · rw [hx]
    refine (show wpAny M A (if ((cEnv scope ns cl qual c1 fr).scope.kind == .class || _) = true then localSet (cEnv scope ns cl qual c1 fr) x v else _) Q E s from ?_)
    refine ite_yes (by rw [hkind]; rfl) fin
  · rw [hx]
    rw [hc]
    simp only [Bool.not_true, Bool.and_false, Bool.or_false, Bool.false_eq_true, if_false, ite_self, hkind]
    refine ite_no (by decide) ?_
    refine ite_yes (by rw [hk]; rfl) fin
theorem S.delD {a : Addr} {o : Obj} {kvs : List (Str × Value)} {x : Str} {Q : Bool → Shared → Prop} (Y : S X m ψ ω s) (h : ω a = some o) (hd : DI o kvs) (q : ∀ s' o', DI o' (if (kvs.lookup x).isSome then delKV x kvs else kvs) → S X m ψ (put ω a o') s' → Q (kvs.lookup x).isSome s') : wpAny M A (PySem.nsDel a x) Q E s := by
  unfold PySem.nsDel
  have hg := (Y.own _ _ h).1
  refine wpAny_bind (wpAny_loadPart hg ?_)
  rw [hd.has x]
  refine wpAny_bind (wpAny_pure ?_)
  cases z : (kvs.lookup x).isSome with
  | true =>
    rw [z] at q
    refine ite_yes rfl (wpAny_bind (wpAny_updatePart hg (wpAny_pure (q _ _ (hd.drop x) (Y.upd h (hd.drop x).free)))))
  | false =>
    rw [z] at q
    refine ite_no (by decide) (wpAny_pure (q s o hd ?_))
    have : put ω a o = ω := by funext b; unfold put; by_cases qb : b = a <;> simp [qb, h]
    rw [this]; exact Y
theorem FreshA.tbl {a P : Addr} {o : Obj} (F : FreshA X ψ ω s a) : FreshA (X.setTb P o) ψ ω s a := ⟨F.o, F.p, F.h, F.s0, F.ft, fun p hp => by
    obtain ⟨p0, hp0, rfl⟩ := List.mem_map.mp hp
    split
    · rename_i q; have := F.tb p0 hp0; rw [q] at this; exact this
    · exact F.tb p0 hp0⟩
theorem S.loadNameC {ns c1 fr : Addr} {cl : List (Str × Addr)} {kvs : List (Str × Value)} {qual x : Str} {v : Value} {o : Obj} {Q : Value → Shared → Prop} (Y : S X m ψ ω s) (hk : scope.kind = .class) (hx : scope.names.lookup x = none) (hc : compilersOwnNames.contains x = true)
    (h : ω ns = some o) (hd : DI o kvs) (hn : kvs.lookup x = none) (hg : NsKnows ψ mainGlobals x (some v)) (q : Q v s) : wpAny M A (loadName (cEnv scope ns cl qual c1 fr) x) Q E s := by
  have hbk : (cEnv scope ns cl qual c1 fr).blockKind = .class := by unfold Env.blockKind; show (if scope.kind.isAnnotationScope = true then _ else scope.kind) = _; rw [hk]; rfl
  have hko : (cEnv scope ns cl qual c1 fr).kindOf x = none := hx
  have hann : (cEnv scope ns cl qual c1 fr).scope.kind.isAnnotationScope = false := by show scope.kind.isAnnotationScope = false; rw [hk]; rfl
  obtain ⟨mg, ng, hmg⟩ := hg.ns Y.sub
  unfold loadName
  rw [hko, hbk, hann]
  refine ite_no (by simp) ?_
  dsimp only
  rw [hc]
  refine ite_no (by decide) ?_
  unfold localGet
  refine wpAny_bind (wpAny_bind (wpAny_load (Y.own _ _ h).1 ?_))
  refine ite_yes (by rw [hd.cls]; rfl) ?_
  refine Y.getD h hd ?_
  rw [hn]
  unfold loadGlobal
  refine wpAny_bind (wpAny_nsGet ng ?_)
  rw [hmg]
  exact wpAny_pure q
theorem codeAny_bodyC {stmts : List Stmt} {env : Env} {R : Result → Shared → Prop} (h0 : hasAnns stmts = false) (h1 : docOf stmts = none)
    (h : wpAny (model prog w) (A.under (.body stmts env)) (execs stmts env) (fun f s' => R (.ok f) s') (fun _ _ => False) s) : codeAny (model prog w) A (.body stmts env) R s := by
  refine codeAny_of_tree ?_
  show wpAny _ (A.under (.body stmts env)) (do blockStart stmts env; return Fin.done (← (execs stmts env).onRaise (leaving env))) _ _ s
  refine wpAny_bind ?_
  unfold blockStart
  rw [h0, h1]
  refine ite_no (by decide) ?_
  have last : wpAny (model prog w) (A.under (.body stmts env)) (do return Fin.done (← (execs stmts env).onRaise (leaving env))) (fun fin s' => match fin with | .done f => R (.ok f) s' | .again c' => c'.quiet = true ∧ codeAny (model prog w) A c' R s') (fun e s' => R (.error e) s') s :=
    wpAny_bind (wpAny_onRaise (wpAny_mono h (fun f s' hf => wpAny_pure hf) fun _ _ e => e.elim))
  by_cases hi : interactive env = true
  · exact ite_yes hi (wpAny_pure last)
  · exact ite_no hi (wpAny_pure last)
theorem FreshA.ne {a b : Addr} {o : Obj} (F : FreshA X ψ ω s a) (h : ω b = some o) : b ≠ a := fun q => by rw [q, F.o] at h; cases h
end
end Mine
namespace Mine
section
variable {prog : Program} {w : World} {X : Fix} {Γ : List (Str × VP)} {ψ ω φ : PM} {s s' : Shared} {k : Nat} {n b : Bool} {m : Str → Option Value} {μ : Md} {A : Around} {env : Env} {sc scope : Scope}
variable {E : Value → Shared → Prop}
noncomputable def tupO (vs : List Value) : Obj := { cls := .type "tuple", data := .seq vs.toArray }
theorem put_in {a c : Addr} {o o' p : Obj} (h : a ≠ c) : put (put (put ω a o) c p) a o' = put (put ω a o') c p := by
  rw [put_swap (Ne.symm h), put_put]
theorem S.newFrozen {c : String} {d : Data} {Q : Value → Shared → Prop} {M : Model} (Y : S X m ψ ω s) (hf : ({ cls := .type c, data := d } : Obj).isFreed = false) (hsz : sizeOk d)
    (q : ∀ a s', FreshA X ψ ω s a → S X m (put ψ a { cls := .type c, data := d }) ω s' → Q (.ref a) s') : wpAny M A (PySem.newObj (.type c) d) Q E s :=
  Y.newObj hf hsz fun a s' F Y' => q a s' F ((Y'.freeze (put_self _ _ _)).forget fun b ob e => by
    have hb : b ≠ a := F.ne e
    simp only [if_neg hb]
    rw [put_ne hb]; exact e)
theorem bPrep {γ : Type} {f : Option Value → Sem γ} {Q : γ → Shared → Prop} (h : ∀ a h' tk, h'.get? a = some (bndO "type.__prepare__" "type") → (∀ b o, s.heap.get? b = some o → h'.get? b = some o) → wpAny (model prog w) A (f (some (.ref a))) Q E { s with heap := h', toks := tk }) :
    wpAny (model prog w) A (getAttr? (.type "type") "__prepare__" >>= f) Q E s := wpAny_bind (getAttrQ_prep fun a h' tk h1 _ h3 => h a h' tk h1 h3)
theorem bCallPrep {γ : Type} {f : Value → Sem γ} {Q : γ → Shared → Prop} {a : Addr} {u v : Value} (Y : S X m ψ ω s) (ha : s.heap.get? a = some (bndO "type.__prepare__" "type")) (q : ∀ ns s', FreshA X ψ ω s ns → S X m ψ (put ω ns { cls := .type "dict", data := .dict #[] }) s' → wpAny (model prog w) A (f (.ref ns)) Q E s') :
    wpAny (model prog w) A (call (.ref a) [u, v] >>= f) Q E s := by
  refine wpAny_bind (call_bnd ha (check_prep _ _) entry_prep (by decide +kernel) (by decide) ?_)
  unfold Builtin.«type.__prepare__» newDict
  exact wpAny_bind (Y.newObj (by rfl) (Nat.zero_le _) fun ns s4 Fn Y4 => wpAny_pure (q ns s4 Fn Y4))
theorem bNotMods {γ : Type} {f : Unit → Sem γ} {Q : γ → Shared → Prop} {a : Addr} {wh : String} (h : (a == sysModules) = false) (q : wpAny (model prog w) A (f ()) Q E s) : wpAny (model prog w) A (notTheModulesDict wh a >>= f) Q E s := by
  unfold notTheModulesDict
  rw [h]
  exact wpAny_bind (ite_no (by decide) (wpAny_pure q))
theorem bMkText {γ : Type} {f : Value → Sem γ} {Q : γ → Shared → Prop} {x : Str} (q : wpAny (model prog w) A (f (.str x s.toks)) Q E { s with toks := s.toks + 1 }) : wpAny (model prog w) A (mkText x >>= f) Q E s := wpAny_bind (wpAny_mkText q)
theorem bMkInt {γ : Type} {f : Value → Sem γ} {Q : γ → Shared → Prop} {x : Int} (q : wpAny (model prog w) A (f (.int x s.toks)) Q E { s with toks := s.toks + 1 }) : wpAny (model prog w) A (mkInt x >>= f) Q E s := wpAny_bind (wpAny_mkInt q)
theorem build_ok {name qual : Str} {body : List Stmt} {statics : List Str} {firstLine : Nat} {pos : Pos} {Q : Value → Shared → Prop} {cc P : Addr} {clos : List (Str × Addr)} (Bd : PM → List (Str × Value) → Prop) (hBd : ∀ ψ ψ' kvs, Le ψ ψ' → Bd ψ kvs → Bd ψ' kvs) (Y : S X m ψ ω s)
    (hmods : ∃ o, ψ sysModules = some o) (hcc : (scope.names.lookup ("__class__" : Str) == some NameKind.cell) = false) (hcd : (scope.names.lookup ("__classdict__" : Str) == some NameKind.cell) = false) (hsk : scope.kind = .class)
    (hcode : X.env.code = .ref cc) (C : CodeHdP ψ cc P) (hP : (P, tabObj #[]) ∈ X.tb) (hT : TopMk ψ) (hcl : closureFor scope X.env = pure clos) (hlim : NsKnows ψ cStatics "sys.recursionlimit" none) (hdep : A.depth + 20 < 1000)
    (hnm1 : scope.names.lookup ("__name__" : Str) = none) (hnm2 : scope.names.lookup ("__module__" : Str) = some NameKind.local) (hnm3 : scope.names.lookup ("__qualname__" : Str) = none) (hnm4 : scope.names.lookup ("__firstlineno__" : Str) = none) (hnm5 : scope.names.lookup ("__static_attributes__" : Str) = none)
    (hbody : ∀ (R : Result → Shared → Prop) ns c1 P1 fr ψ' oD s' pm t1 t2, Le ψ ψ' → ω ns = none → ω P1 = none → ns ≠ P1 → CodeHdP ψ' c1 P1 → DI oD [("__module__", pm), ("__qualname__", .str qual t1), ("__firstlineno__", .int firstLine t2)] →
      S (X.setTb P (tabObj #[rawInt pos.line, rawInt pos.col, .ref c1])) m ψ' (put (put ω ns oD) P1 (tabObj #[])) s' →
      (∀ ψ2 oD2 kvs2 ps2 s2, Le ψ' ψ2 → DI oD2 kvs2 → Bd ψ2 kvs2 → S (X.setTb P (tabObj #[rawInt pos.line, rawInt pos.col, .ref c1])) m ψ2 (put (put ω ns oD2) P1 (tabObj ps2)) s2 → R (.ok .next) s2) →
      codeAny (model prog w) (A.mark none) (.body body (cEnv scope ns clos qual c1 fr)) R s')
    (hnew : ∀ c1 g ns tn st sts oD kvs ψ' s', Le ψ ψ' → ψ' g = some (tupO [.type "object"]) → ω ns = none → DI oD (putKV "__static_attributes__" (.ref st) kvs) → Bd ψ' kvs → ψ' st = some (tupO sts) →
      S (X.setTb P (tabObj #[rawInt pos.line, rawInt pos.col, .ref c1])) m ψ' (put ω ns oD) s' →
      wpAny (model prog w) A (call (.type "type") [.str name tn, .ref g, .ref ns]) Q E s') :
    wpAny (model prog w) A (buildClass name qual [.type "object"] [] body scope statics firstLine X.env pos none) Q E s := by
  unfold buildClass newTuple
  refine wpAny_bind (Y.newFrozen (by rfl) (by show 1 ≤ sizeLine; decide) fun g s1 Fg Y1 => ?_)
  have lg : Le ψ (put ψ g (tupO [.type "object"])) := le_put Fg.p
  have hg1 : put ψ g (tupO [.type "object"]) g = some (tupO [.type "object"]) := put_self _ _ _
  have Y1 : S X m (put ψ g (tupO [.type "object"])) ω s1 := Y1
  generalize put ψ g (tupO [.type "object"]) = ψ1 at lg hg1 Y1
  refine wpAny_bind (forIn1 ?_)
  refine bPure ?_
  refine ite_yes rfl (ite_no (by decide) (wpAny_pure ⟨_, rfl, ?_⟩))
  refine bEq (.type "type") (by rfl) ?_
  refine bPure (ite_yes rfl ?_)
  refine wpAny_bind (forIn1 ?_)
  refine bEq (.type "type") (by rfl) ?_
  refine bEq true (by rw [isSubtype_type]; kernel_rfl) ?_
  refine ite_yes rfl (wpAny_pure ⟨_, rfl, ?_⟩)
  refine bMkText ?_
  refine ite_no (by decide) ?_
  refine bPure ?_
  refine wpAny_holding ?_
  refine bPrep fun a h3 tk3 ha hk3 => ?_
  refine bCallPrep ((Y1.tok (tk := s1.toks + 1)).kept (tk := tk3) hk3) ha fun ns s4 Fn Y4 => ?_
  have hnm : (ns == sysModules) = false := by
    rw [beq_eq_false_iff_ne]
    intro q
    obtain ⟨o, ho⟩ := hmods
    have := lg _ _ ho
    rw [← q, Fn.p] at this; cases this
  have hnsT : s4.TypeIs (.ref ns) "dict" := ⟨_, (Y4.own _ _ (put_self _ _ _)).1, rfl⟩
  have hPt := Y4.tab _ hP
  refine bNotMods hnm ?_
  refine bSpec hnsT PySem.F.slot_dict_getitem.lookup ?_
  refine ite_no (by decide) ?_
  refine wpAny_holding ?_
  refine ite_no (by rw [hcc]; decide) ?_
  refine bPure ?_
  refine ite_no (by rw [hcd]; decide) ?_
  refine bPure ?_
  unfold classCode
  refine wpAny_bind (codeAt_new (qual := qual) hcode ((C.le lg).at Y4.sub) hPt.1 trivial (by rfl) (fun ctx Q' hq => wpAny_newCodeX hq) fun c1 P1 h5 tk5 hx5 hn51 hn52 hC1 hP1 hrec1 htb1 => ?_)
  have Y5 := Y4.table (tk := tk5) hP hx5 htb1
  obtain ⟨c₂, oc1, vs1, tq1, e₂, gc1, hdc1, hc11⟩ := id hrec1
  cases e₂
  have F51 := (Y4.freshA hn51).tbl (P := P) (o := tabObj (#[] ++ #[rawInt pos.line, rawInt pos.col, .ref c1]))
  have F52 := (Y4.freshA hn52).tbl (P := P) (o := tabObj (#[] ++ #[rawInt pos.line, rawInt pos.col, .ref c1]))
  have hcP1 : c1 ≠ P1 := fun q => by rw [q, hP1] at gc1; cases gc1; cases hdc1; cases hc11
  have Y6 := (Y5.adopt gc1 F51).take hP1 (F52.put (Ne.symm hcP1))
  have C1 : CodeHdP (put ψ1 c1 oc1) c1 P1 := by
    obtain ⟨o, vs, file, tf, flags, tg, inF, text, tt, e, r⟩ := hC1
    rw [gc1] at e; cases e
    exact ⟨oc1, vs, file, tf, flags, tg, inF, text, tt, put_self _ _ _, r⟩
  have l6 : Le ψ1 (put ψ1 c1 oc1) := le_put F51.p
  have T6 := hT.le (lg.trans l6)
  have ll := lg.trans l6
  have hg6 := l6 _ _ hg1
  have hωn : ω ns = none := Fn.o
  have hωP : ω P1 = none := by have := F52.o; rw [put_ne (fun q => by have h := (Y4.own _ _ (put_self _ _ _)).1; rw [← q, hn52] at h; cases h)] at this; exact this
  have hnP : ns ≠ P1 := fun q => by have h := (Y4.own _ _ (put_self _ _ _)).1; rw [q, hn52] at h; cases h
  generalize put ψ1 c1 oc1 = ψ2 at *
  obtain ⟨bm, ob, hbm, hne0, hob, hcls, hdict, hdata⟩ := T6.bi
  obtain ⟨nv, hnv⟩ := T6.name
  have hgl : X.env.globals = mainGlobals := Y.fram.gl
  rw [hgl]
  obtain ⟨mg, ng, hmg⟩ := hbm.ns Y6.sub
  refine wpAny_bind (wpAny_builtinsFor ng hmg hne0 (Y6.sub _ _ hob) hcls hdict hdata ?_)
  unfold newBodyFrame
  obtain ⟨mg2, ng2, hmg2⟩ := hnv.ns Y6.sub
  refine wpAny_bind (wpAny_bind (wpAny_nsGet ng2 ?_))
  refine Y6.alloc (by rfl) fun fr s7 Ff Y7' => ?_
  have Y7 := Y7'.forget (le_put Ff.o)
  refine bEq clos hcl (wpAny_holding ?_)
  obtain ⟨ml, nl, hml⟩ := (hlim.le (lg.trans l6)).ns Y7.sub
  refine wpAny_bind (wpAny_enterFrame ⟨ml, nl, hml⟩ (by show A.depth < 1000; omega) ?_)
  refine wpAny_bind (wpAny_onRaise ?_)
  have Df : DI ({ cls := .type "dict", data := .dict #[] } : Obj) [] := ⟨rfl, _, _, rfl, .nil⟩
  have hget : ∀ {o p : Obj}, put (put ω ns o) P1 p ns = some o := fun {o p} => by rw [put_ne hnP]; exact put_self _ _ _
  refine wpAny_bind (Y7.loadNameC hsk hnm1 (by decide +kernel) hget Df (by rfl) hnv ?_)
  refine wpAny_bind (Y7.storeC hsk (.inl hnm2) hget Df fun s8 o8 D8 Y8 => ?_)
  rw [put_in hnP] at Y8
  refine bMkText ?_
  have Y8' := Y8.tok (tk := s8.toks + 1)
  refine wpAny_bind (Y8'.storeC (x := "__qualname__") hsk (.inr ⟨hnm3, by decide +kernel⟩) hget D8 fun s9 o9 D9 Y9 => ?_)
  rw [put_in hnP] at Y9
  refine bMkInt ?_
  have Y9' := Y9.tok (tk := s9.toks + 1)
  refine wpAny_bind (Y9'.storeC (x := "__firstlineno__") hsk (.inr ⟨hnm4, by decide +kernel⟩) hget D9 fun s10 o10 D10 Y10 => ?_)
  rw [put_in hnP] at Y10
  refine wpAny_pure ?_
  refine wpAny_bind (wpAny_run ?_)
  refine hbody _ ns c1 P1 fr ψ2 o10 s10 _ _ _ ll hωn hωP hnP C1 D10 (by simpa using Y10) fun ψ3 o11 kvs2 ps2 s11 l3 D11 hbd Y11 => ?_
  dsimp only
  refine wpAny_bind (wpAny_onRaise ?_)
  refine wpAny_bind (wpAny_mkStrs fun sts => ?_)
  have Y11' := Y11.tok (tk := s11.toks + statics.length)
  refine wpAny_bind (wpAny_newTextTuple ?_)
  have F12 := Y11'.freshA (get_size _)
  have Y12 := Y11'.lay (tupO sts) rfl (s11.toks + statics.length)
  have Y13 := (Y12.freeze (put_self _ _ _)).forget (ω' := put (put ω ns o11) P1 (tabObj ps2)) fun b ob e => by
    have hb := F12.ne e
    simp only [if_neg hb]
    rw [put_ne hb]; exact e
  refine wpAny_bind (Y13.storeC (x := "__static_attributes__") hsk (.inr ⟨hnm5, by decide +kernel⟩) hget D11 fun s14 o14 D14 Y14 => ?_)
  rw [put_in hnP] at Y14
  refine wpAny_pure ?_
  refine ite_no (by decide) ?_
  have l14 := le_put (o := tupO sts) F12.p
  refine wpAny_bind (wpAny_mono (hnew c1 g ns _ _ sts o14 kvs2 _ s14 (ll.trans (l3.trans l14)) (l14 _ _ (l3 _ _ hg6)) hωn D14 (hBd _ _ _ l14 hbd) (put_self _ _ _) (Y14.forget (le_put (by rw [put_ne (Ne.symm hnP)]; exact hωP)))) (fun a s' q => wpAny_pure q) fun _ _ e => e)
end
end Mine
namespace Mine
theorem tt_mro : mroOf (.type "type") = pure [.type "type", .type "object"] := by rw [mroOf_type]; kernel_rfl
theorem tt_can : ((Manifest.find? "type").bind (·.mro.findSome? fun t => (Manifest.find? t).bind fun b => if b.noNew then some true else if b.attrs.any (·.1 == "__new__") then some false else none)).getD false = false := by kernel_rfl
theorem tt_made : Bind.madeBy (.type "type") = pure (some "type.__new__") := by kernel_rfl
theorem tt_sub : isSubtype (.type "type") (.type "type") = pure true := by rw [isSubtype_type]; kernel_rfl
theorem tt_check (a b c : Value) : checkTypeCall "type" ⟨[a, b, c], []⟩ = pure () := by kernel_rfl
theorem slot_tinit : Slot "type" "__init__" "type.__init__" :=
  .of (owner := "type") (n := "__init__") (by rw [typeLookup_type, builtinLookup_eq_fast]; kernel_rfl) (by decide +kernel) (by decide +kernel) (by decide +kernel)
    (by first | exact .inl (by decide +kernel) | exact .inr (by decide +kernel)) (by rw [isSubtype_type]; kernel_rfl)
theorem entry_tinit : entryFor table "type.__init__" = some Builtin.«type.__init__» := entryFor_of_tree (by kernel_rfl)
theorem args_tinit (a b c d : Value) : argsOk "type.__init__" ⟨[a, b, c, d], []⟩ := by unfold argsOk; kernel_rfl
theorem plain_tnew : plainId "type.__new__" = true := by decide +kernel
theorem entry_tnew : entryFor table "type.__new__" = some Builtin.«type.__new__» := entryFor_of_tree (by kernel_rfl)
theorem check_tnew (a b c : Value) : checkBuiltinCall "type.__new__" ⟨[.type "type", a, b, c], []⟩ = pure () := by kernel_rfl
section
variable {prog : Program} {w : World} {A : Around} {E : Value → Shared → Prop} {s : Shared}
theorem call_type3 {a b c : Value} {Q : Value → Shared → Prop}
    (hnew : wpAny (model prog w) A.in1.in1 (Builtin.«type.__new__» ⟨[.type "type", a, b, c], []⟩) (fun fin s1 => ∃ K, fin = .done (.ret (.ref K)) ∧ s1.TypeIs (.ref K) "type" ∧ Q (.ref K) s1) (fun e s' => E e s') s) :
    wpAny (model prog w) A (call (.type "type") [a, b, c]) Q E s := by
  refine wpAny_call (codeAny_of_tree ?_)
  show wpAny _ _ (callAny (.type "type") _) _ _ _
  refine wpAny_pure ⟨Code.quiet_builtin _ (by decide +kernel), codeAny_builtin F.entry_type_call ?_⟩
  rw [Around.under_plain (weight_type_call_type "type" [a, b, c] []) rfl]
  unfold Builtin.«type.__call__»
  have h1 := tt_mro
  have h2 := tt_can
  have h3 := tt_made
  have h4 := tt_sub
  have h5 := tt_check a b c
  repeat (any_goals (first | assumption | wp_step))
  refine codeAny_call_builtin plain_tnew entry_tnew ?_
  refine wpAny_of_eq (check_tnew a b c) (wpAny_mono hnew (fun fin s1 hf => ?_) fun _ _ e => e)
  obtain ⟨K, rfl, hT, hq⟩ := hf
  refine wpAny_bind (wpAny_isInstance hT tt_sub ?_)
  refine ite_no (by decide) ?_
  refine wpAny_bind (wpAny_holding ?_)
  refine wpAny_callSpecial?_slot (name := Str.ofString "__init__") hT slot_tinit (wpAny_call_entry slot_tinit hT entry_tinit ?_ (args_tinit _ _ _ _))
  unfold Builtin.«type.__init__»
  refine if_not (by rfl) (if_not (by rfl) (wpAny_pure ⟨_, rfl, ?_⟩))
  dsimp only
  refine ite_no (by decide) (wpAny_pure hq)
end
end Mine
namespace Mine
variable {prog : Program} {w : World} {X : Fix} {Γ : List (Str × VP)} {ψ ω φ : PM} {s s' : Shared} {k : Nat} {n b : Bool} {m : Str → Option Value} {μ : Md} {A : Around} {env : Env} {sc scope : Scope}
variable {E : Value → Shared → Prop}
theorem best_ob : Builtin.Slots.bestBase [.type "object"] = pure (.type "object") := by kernel_rfl
theorem names_ob : Builtin.Slots.slotNamesOf (.type "object") = pure [] := by kernel_rfl
theorem gd_ob : Builtin.Slots.givesDict (.type "object") = pure false := by kernel_rfl
theorem gw_ob : Builtin.Slots.givesWeak (.type "object") = pure false := by kernel_rfl
theorem vs_ob : Builtin.Slots.varSize (.type "object") = pure false := by kernel_rfl
noncomputable abbrev KVs (kvs : List (Str × Value)) (es : Array DictEntry) : Prop := All2 (fun (kv : Str × Value) (e : DictEntry) => (∃ tk, e.key = .str kv.1 tk) ∧ e.val = kv.2) kvs es.toList
theorem KVs.find {kvs : List (Str × Value)} {es : Array DictEntry} (h : KVs kvs es) (x : Str) : (es.find? (·.key.isStr x)).map (·.val) = kvs.lookup x := by
  rw [← Array.find?_toList]; exact (all2_find h).1
theorem KVs.any {kvs : List (Str × Value)} {es : Array DictEntry} (h : KVs kvs es) (x : Str) : es.any (·.key.isStr x) = (kvs.lookup x).isSome := by
  rw [← h.find x, Option.isSome_map, ← Array.find?_toList, ← Array.any_toList]
  cases q : es.toList.any (·.key.isStr x) with
  | true =>
    obtain ⟨e, he, hp⟩ := List.any_eq_true.mp q
    exact (List.find?_isSome.mpr ⟨e, he, hp⟩).symm
  | false =>
    have : es.toList.find? (·.key.isStr x) = none := List.find?_eq_none.mpr fun e he hp => by
      have := List.any_eq_false.mp q e he
      exact this hp
    rw [this]; rfl
theorem forIn1A {α β : Type} {x : α} {l : Array α} {init : β} {f : α → β → Sem (ForInStep β)} {Q : β → Shared → Prop} {M : Model} (hl : l = #[x]) (h : wpAny M A (f x init) (fun r s' => ∃ b', r = .yield b' ∧ Q b' s') E s) : wpAny M A (forIn l init f) Q E s := by
  subst hl
  rw [← Array.forIn_toList]
  exact forIn1 h
theorem slots_read {kvs : List (Str × Value)} {es : Array DictEntry} {sl : Addr} {tk : Tok} {ln : Nat} {Q : Builtin.Slots.Plan → Shared → Prop} (h : KVs kvs es) (hs : kvs.lookup ("__slots__" : Str) = some (.ref sl)) (ho : kvs.lookup ("obj" : Str) = none)
    (hl : s.heap.get? sl = some (lst [.str "obj" tk] ln))
    (q : ∀ h', (∀ b o', s.heap.get? b = some o' → h'.get? b = some o') → Q ⟨["obj"], false, false, []⟩ { s with heap := h' }) : wpAny (model prog w) A (Builtin.Slots.read "K" [.type "object"] es) Q E s := by
  unfold Builtin.Slots.read
  refine wpAny_bind (wpAny_of_eq best_ob ?_)
  refine wpAny_bind (wpAny_of_eq names_ob ?_)
  refine wpAny_bind (wpAny_bind (wpAny_of_eq gd_ob (wpAny_pure ?_)))
  refine wpAny_bind (wpAny_of_eq gw_ob ?_)
  refine wpAny_bind (wpAny_of_eq vs_ob ?_)
  have hf := h.find "__slots__"
  have ha := h.any "obj"
  rw [hs] at hf
  rw [ho] at ha
  cases z : es.find? (·.key.isStr "__slots__") with
  | none => rw [z] at hf; cases hf
  | some e =>
  rw [z] at hf
  have he : e.val = .ref sl := Option.some.inj hf
  dsimp only
  rw [he]
  refine wpAny_bind (wpAny_rule ?_)
  refine wpAny_bind (wpAny_bind (wpAny_load hl (wpAny_pure ?_)))
  refine ite_no (by decide) ?_
  refine wpAny_bind (wpAny_collect_seq sl (.inl rfl) hl rfl rfl (fun h' hk => ?_) (by show 1 ≤ sizeLine; decide))
  refine ite_yes rfl ?_
  refine wpAny_bind (wpAny_of_eq vs_ob ?_)
  refine ite_no (by decide) ?_
  refine wpAny_bind (forIn1 ?_)
  refine wpAny_bind (wpAny_pure ?_)
  dsimp only
  refine wpAny_bind (wpAny_pure ?_)
  have hid : Builtin.Slots.isIdentifier (Str.ofString "obj") = some true := by decide +kernel
  rw [hid]
  refine wpAny_bind (wpAny_pure ?_)
  refine ite_no (by decide) ?_
  refine ite_no (by decide) ?_
  refine ite_no (by decide) ?_
  refine wpAny_pure ⟨_, rfl, ?_⟩
  dsimp only
  refine wpAny_bind ?_
  have hmg : Builtin.Slots.mangle (Str.ofString "K") (Str.ofString "obj") = "obj" := by decide +kernel
  refine forIn1A (x := Str.ofString "obj") (by rfl) ?_
  dsimp only
  rw [hmg]
  refine ite_no (by decide) ?_
  refine ite_no (by rw [ha]; decide) ?_
  refine ite_no (by decide) ?_
  refine wpAny_pure ⟨_, rfl, ?_⟩
  dsimp only
  refine wpAny_bind (forIn1 ?_)
  refine ite_no (by decide) (wpAny_pure ⟨_, rfl, ?_⟩)
  dsimp only
  refine wpAny_pure ?_
  exact q _ hk
end Mine
namespace Mine
variable {prog : Program} {w : World} {X : Fix} {Γ : List (Str × VP)} {ψ ω φ : PM} {s s' : Shared} {k : Nat} {n b : Bool} {m : Str → Option Value} {μ : Md} {A : Around} {env : Env} {sc scope : Scope}
variable {E : Value → Shared → Prop}
theorem S.setSlot {M : Model} {a : Addr} {o : Obj} {i : Nat} {v : Option Value} {Q : Unit → Shared → Prop} (Y : S X m ψ ω s) (h : ω a = some o) (hi : i < 6)
    (q : ∀ s', S X m ψ (put ω a { o with slots := (o.slots ++ Array.replicate (i + 1 - o.slots.size) none).setIfInBounds i v }) s' → Q () s') : wpAny M A (setSlotAt a i v) Q E s := by
  unfold setSlotAt
  refine ite_no (by rw [sizeLine_eq]; omega) ?_
  have hg := Y.own _ _ h
  have hf : o.isFreed = false := (Heap.get?_some_iff.mp hg.1).2
  exact wpAny_updatePart hg.1 (q _ (Y.upd (f := fun o => { o with slots := (o.slots ++ Array.replicate (i + 1 - o.slots.size) none).setIfInBounds i v }) h (by obtain ⟨c, d, dt, sl⟩ := o; cases dt <;> exact hf)))
theorem S.updCls {M : Model} {a : Addr} {o : Obj} {c : ClassData} {f : ClassData → ClassData} {Q : Unit → Shared → Prop} (Y : S X m ψ ω s) (h : ω a = some o) (hd : o.data = .cls c) (hp : (Data.cls (f c)).pastItsLine = none)
    (q : ∀ s', S X m ψ (put ω a { o with data := .cls (f c) }) s' → Q () s') : wpAny M A (PySem.updateCls a f) Q E s := by
  have hg := Y.own _ _ h
  have he : Obj.mapCls f o = { o with data := .cls (f c) } := by
    obtain ⟨c1, d1, dt, sl⟩ := o
    cases hd; rfl
  have hfr : ({ o with data := .cls (f c) } : Obj).isFreed = false := by unfold Obj.isFreed; rfl
  unfold PySem.updateCls
  refine wpAny_bind (wpAny_load hg.1 ?_)
  rw [hd]
  have Y1 := Y.upd (f := Obj.mapCls f) h (by rw [he]; exact hfr)
  rw [he] at Y1
  refine wpAny_bind (wpAny_update hg.1 ?_)
  exact wpAny_lookBehind (Y1.own _ _ (put_self _ _ _)).1 hp (q _ Y1)
theorem S.newFields {M : Model} {ty : String} {vs : List Value} {Q : Value → Shared → Prop} (Y : S X m ψ ω s) (hsz : vs.length ≤ 100) (q : ∀ a s', FreshA X ψ ω s a → S X m (put ψ a { cls := .type ty, data := .fields vs.toArray }) ω s' → Q (.ref a) s') : wpAny M A (newFields ty vs) Q E s := by
  unfold PySem.newFields
  exact Y.newFrozen (Obj.isFreed_of_fields rfl) (by show vs.toArray.size ≤ sizeLine + 2; rw [List.size_toArray, sizeLine_eq]; omega) q
theorem S.getV {M : Model} {a : Addr} {o : Obj} {kvs : List (Str × Value)} {x : Str} {r : Option Value} {Q : Option Value → Shared → Prop} (Y : S X m ψ ω s) (h : ω a = some o) (hd : DI o kvs) (hr : kvs.lookup x = r) (q : Q r s) : wpAny M A (PySem.nsGet a x) Q E s := by
  subst hr; exact Y.getD h hd q
theorem lookup_del {x y : Str} {kvs : List (Str × Value)} (h : y ≠ x) : (delKV x kvs).lookup y = kvs.lookup y := by
  induction kvs with
  | nil => rfl
  | cons p r ih =>
    obtain ⟨px, pv⟩ := p
    unfold delKV
    by_cases q : px = x
    · subst q
      simp only [if_true, List.lookup_cons]
      rw [show (y == px) = false by simpa using h]
    · simp only [if_neg q, List.lookup_cons]
      rw [ih]
theorem lookup_put {x y : Str} {v : Value} {kvs : List (Str × Value)} (h : y ≠ x) : (putKV x v kvs).lookup y = kvs.lookup y := by
  induction kvs with
  | nil => unfold putKV; simp only [List.lookup_cons]; rw [show (y == x) = false by simpa using h]
  | cons p r ih =>
    obtain ⟨px, pv⟩ := p
    unfold putKV
    by_cases q : px = x
    · subst q
      simp only [if_true, List.lookup_cons]
      rw [show (y == px) = false by simpa using h]
    · simp only [if_neg q, List.lookup_cons]
      rw [ih]
noncomputable def kO (g : Addr) (tn tq : Tok) (qu : Str) (ns : Addr) (mro : List Value) (hd : Bool) (sn : List Str) (sl : List (Option Value)) : Obj :=
  { cls := .type "type", data := .cls { name := "K", bases := [.type "object"], mro, ns, qualname := qu, hasDict := hd, slotNames := sn }, slots := (some (.ref g) :: none :: some (.str "K" tn) :: some (.str qu tq) :: sl).toArray }
theorem slot_extra {M : Model} {a : Addr} {o : Obj} {i : Nat} {r : Option Value} {Q : Option Value → Shared → Prop} (h : s.heap.get? a = some o) (hr : (o.slots[i]?).join = r) (q : Q r s) : wpAny M A (slotAt a i) Q E s := by
  subst hr
  unfold slotAt
  exact wpAny_bind (wpAny_loadPart h (wpAny_pure q))
theorem for2 {α β : Type} {M : Model} {x y : α} {init : β} {f : α → β → Sem (ForInStep β)} {Q : β → Shared → Prop} (h1 : wpAny M A (f x init) (fun r s' => r = .yield init ∧ s' = s) E s) (h2 : wpAny M A (f y init) (fun r s' => r = .yield init ∧ s' = s) E s) (q : Q init s) : wpAny M A (forIn [x, y] init f) Q E s := by
  rw [List.forIn_cons]
  refine wpAny_bind (wpAny_mono h1 (fun r s' z => ?_) fun _ _ e => e)
  obtain ⟨rfl, rfl⟩ := z
  dsimp only
  rw [List.forIn_cons]
  refine wpAny_bind (wpAny_mono h2 (fun r s' z => ?_) fun _ _ e => e)
  obtain ⟨rfl, rfl⟩ := z
  dsimp only
  rw [List.forIn_nil]
  exact wpAny_pure q
noncomputable abbrev qK : Str := "cmp_to_key.<locals>.K"
structure KAt (h : Heap) (K : Addr) (kvs : List (Str × Value)) : Prop where
  k : ∃ o cd d, h.get? K = some o ∧ o.cls = .type "type" ∧ o.data = .cls cd ∧ cd.mro = [.ref K, .type "object"] ∧ cd.bases = [.type "object"] ∧ (cd.hasDel = false ∧ cd.qualname = qK) ∧ h.get? cd.ns = some d ∧ DI d kvs
theorem KAt.look {M : Model} {K : Addr} {kvs : List (Str × Value)} {x : Str} {r : Option Value} {Q : Option Value → Shared → Prop} (T : KAt s.heap K kvs) (hr : kvs.lookup x = none → classOwn (.type "object") x = pure r) (hr2 : ∀ v, kvs.lookup x = some v → r = some v)
    (q : Q r s) : wpAny M A (typeLookup (.ref K) x) Q E s := by
  obtain ⟨o, cd, d, ho, hc, hd, hm, hb, hdl, hn, D⟩ := T.k
  have ex : forall {Q' : Option Value → Shared → Prop}, Q' (kvs.lookup x) s → wpAny M A (nsGet cd.ns x) Q' E s := fun {Q'} q' => by
    unfold PySem.nsGet
    refine wpAny_bind (wpAny_loadPart hn ?_)
    rw [D.look x]
    exact wpAny_pure q'
  unfold typeLookup
  refine wpAny_bind ?_
  show wpAny M A (do return (← classData K).mro) _ _ _
  unfold classData
  refine wpAny_bind (wpAny_bind (wpAny_load ho ?_))
  rw [hd]
  refine wpAny_pure (wpAny_pure ?_)
  dsimp only
  rw [hm]
  refine wpAny_bind ?_
  rw [List.forIn_cons]
  refine wpAny_bind ?_
  have own : forall {Q' : Option Value → Shared → Prop}, Q' (kvs.lookup x) s → wpAny M A (classOwn (.ref K) x) Q' E s := fun {Q'} q' => by
    unfold classOwn classData
    refine wpAny_bind (wpAny_bind (wpAny_load ho ?_))
    rw [hd]
    exact wpAny_pure (ex q')
  refine wpAny_bind (own ?_)
  cases z : kvs.lookup x with
  | some v =>
    rw [hr2 v z] at q
    exact wpAny_pure (wpAny_pure (wpAny_pure q))
  | none =>
    refine wpAny_pure ?_
    dsimp only
    rw [List.forIn_cons]
    refine wpAny_bind (wpAny_bind (wpAny_of_eq (hr z) ?_))
    cases r with
    | some v => exact wpAny_pure (wpAny_pure (wpAny_pure q))
    | none =>
      refine wpAny_pure ?_
      dsimp only
      rw [List.forIn_nil]
      exact wpAny_pure (wpAny_pure q)
theorem KAt.mro {M : Model} {K : Addr} {kvs : List (Str × Value)} {Q : List Value → Shared → Prop} (T : KAt s.heap K kvs) (q : Q [.ref K, .type "object"] s) : wpAny M A (mroOf (.ref K)) Q E s := by
  obtain ⟨o, cd, d, ho, hc, hd, hm, hb, hdl, hn, D⟩ := T.k
  show wpAny M A (do return (← classData K).mro) _ _ _
  unfold classData
  refine wpAny_bind (wpAny_bind (wpAny_load ho ?_))
  rw [hd]
  refine wpAny_pure (wpAny_pure ?_)
  rw [hm]; exact q
theorem KAt.sub {M : Model} {K : Addr} {kvs : List (Str × Value)} {Q : Bool → Shared → Prop} {c : Value} (T : KAt s.heap K kvs) (q : Q ([Value.ref K, .type "object"].contains c) s) : wpAny M A (isSubtype (.ref K) c) Q E s := by
  unfold isSubtype
  refine wpAny_bind (T.mro ?_)
  exact ite_no (by simp) (wpAny_pure q)
theorem KAt.isType {M : Model} {K : Addr} {kvs : List (Str × Value)} {Q : Bool → Shared → Prop} (T : KAt s.heap K kvs) (q : Q true s) : wpAny M A (isType (.ref K)) Q E s := by
  obtain ⟨o, cd, d, ho, hc, hd, hm, hb, hdl, hn, D⟩ := T.k
  unfold PySem.isType loadHead
  refine wpAny_bind (wpAny_loadPart ho ?_)
  rw [hd]
  exact wpAny_pure q
end Mine
namespace Mine
variable {prog : Program} {w : World} {X : Fix} {Γ : List (Str × VP)} {ψ ω φ : PM} {s s' : Shared} {k : Nat} {n b : Bool} {m : Str → Option Value} {μ : Md} {A : Around} {env : Env} {sc scope : Scope}
variable {E : Value → Shared → Prop}
theorem super_KK {K : Addr} {kvs : List (Str × Value)} {Q : Value → Shared → Prop} (T : KAt s.heap K kvs) 
    (hq : ∀ h', h'.get? s.heap.objs.size = some { cls := .type "super", dict := none, data := .fields #[.ref K, .ref K, .ref K], slots := #[] } → (∀ y o, s.heap.get? y = some o → h'.get? y = some o) → Q (.ref s.heap.objs.size) { s with heap := h' }) :
    wpAny (model prog w) A (call (.type "super") [.ref K, .ref K]) Q E s := by
  obtain ⟨o, cd, d, ho, hc, hd, hm, hb, hdl, hn, D⟩ := id T.k
  obtain ⟨h, g, dr, t, os⟩ := s
  refine ks_callType_codesW (Q₁ := fun obj s₁ => obj = .ref h.objs.size ∧ s₁ = ⟨h.push { cls := .type "super", data := .fields #[.none, .none, .none] }, g, dr, t, os⟩) F.ks_called_super (ks_wpAny_checkTypeCall_super ho hd) F.ks_entry_super_init
    (ks_code_super_new _ _ ⟨rfl, rfl⟩) fun obj s₁ h₁ => ?_
  obtain ⟨rfl, rfl⟩ := h₁
  have up : ∀ y o, h.get? y = some o → (h.push { cls := .type "super", data := .fields #[.none, .none, .none] }).get? y = some o := fun y o e => Heap.get?_push_of_some _ e
  have hso : (h.push { cls := .type "super", data := .fields #[.none, .none, .none] }).get? h.objs.size = some { cls := .type "super", dict := none, data := .fields #[.none, .none, .none], slots := #[] } := Heap.get?_push_at rfl rfl
  have ho' := up _ _ ho
  have hn' := up _ _ hn
  have T' : KAt (h.push { cls := .type "super", data := .fields #[.none, .none, .none] }) K kvs := ⟨⟨o, cd, d, ho', hc, hd, hm, hb, hdl, hn', D⟩⟩
  refine ⟨⟨_, hso, rfl⟩, F.ks_initArgs_super _ _ _, ?_⟩
  unfold Builtin.«super.__init__» noKeywords
  have hb2 : [Value.ref K, .type "object"].contains (Value.ref K) = true := by simp
  have hne : (Value.ref K == Value.none) = false := rfl
  repeat (first | (with_reducible refine KAt.isType (kvs := kvs) (s := ⟨_, _, _, _, _⟩) T' ?_) | (with_reducible refine KAt.sub (kvs := kvs) (s := ⟨_, _, _, _, _⟩) T' ?_; rw [hb2]) | (with_reducible refine ks_wpAny_super_set3 hso ?_) | wp_step)
  all_goals first
    | (intro h' e k; exact ⟨rfl, hq h' e fun y o ey => k y o (Nat.ne_of_lt (Heap.lt_size ey)) (up y o ey)⟩)
    | (refine ks_wpAny_super_set3 hso ?_; intro h' e k; exact ⟨rfl, hq h' e fun y o ey => k y o (Nat.ne_of_lt (Heap.lt_size ey)) (up y o ey)⟩)
noncomputable def bndV (id : String) (v : Value) : Obj := { cls := .type "builtin_function_or_method", data := .fields #[.builtin id, v] }
theorem type_isub : typeOf (.builtin "object.__init_subclass__") = pure (.type "classmethod_descriptor") := by show builtinType _ = _; rw [builtinType_eq_fast]; kernel_rfl
theorem own_isub : classOwn (.type "object") "__init_subclass__" = pure (some (.builtin "object.__init_subclass__")) := by show pure (builtinOwn _ _) = _; kernel_rfl
theorem run_cmget_isub {K : Addr} {kvs : List (Str × Value)} {P : Fin → Shared → Prop} {M : Model} (T : KAt s.heap K kvs) (h : P (.done (.ret (.ref s.heap.objs.size))) { s with heap := s.heap.push (bndV "object.__init_subclass__" (.ref K)) }) :
    wpAny M A (Builtin.«classmethod_descriptor.__get__» ⟨[.builtin "object.__init_subclass__", .none, .ref K], []⟩) P E s := by
  unfold Builtin.«classmethod_descriptor.__get__»
  refine wpAny_bind (wpAny_of_eq (a := (.builtin "object.__init_subclass__", none, some (.ref K))) (by first | rfl | kernel_rfl) ?_)
  dsimp only
  refine wpAny_bind (wpAny_of_eq (a := .ref K) rfl ?_)
  refine wpAny_bind (T.isType ?_)
  refine if_not rfl ?_
  refine wpAny_bind (T.sub ?_)
  refine if_not (by kernel_rfl) ?_
  exact wpAny_bind (wpAny_newObj_type (wpAny_pure h))
theorem ga_KK {so K : Addr} {kvs : List (Str × Value)} {tk : Tok} {Q : Fin → Shared → Prop} (hso : s.heap.get? so = some { cls := .type "super", dict := none, data := .fields #[.ref K, .ref K, .ref K], slots := #[] }) (T : KAt s.heap K kvs)
    (hno : Looks (model prog w) s.heap (opaqueClassAbove (.ref K)) none) (hkv : kvs.lookup ("__init_subclass__" : Str) = none)
    (hq : Q (.done (.ret (.ref s.heap.objs.size))) { s with heap := s.heap.push (bndV "object.__init_subclass__" (.ref K)) }) :
    wpAny (model prog w) A (Builtin.«super.__getattribute__» ⟨[.ref so, .str "__init_subclass__" tk], []⟩) Q E s := by
  obtain ⟨h, g, d, t, os⟩ := s
  have hdt : ({ cls := .type "super", dict := none, data := .fields #[.ref K, .ref K, .ref K], slots := #[] } : Obj).data = .fields #[.ref K, .ref K, .ref K] := rfl
  have f0 : (#[.ref K, .ref K, .ref K] : Array Value)[0]? = some (.ref K) := rfl
  have f1 : (#[.ref K, .ref K, .ref K] : Array Value)[1]? = some (.ref K) := rfl
  have f2 : (#[.ref K, .ref K, .ref K] : Array Value)[2]? = some (.ref K) := rfl
  have hl : (List.dropWhile (· != Value.ref K) [.ref K, .type "object"]).drop 1 = [.type "object"] := by simp
  have hlk := slot_cmget.lookup
  have hn : (Str.ofString "__init_subclass__" == ("__class__" : Str)) = false := by decide +kernel
  have hnn : (Value.ref K == Value.none) = false := rfl
  have hself : (Value.ref K == Value.ref K) = true := by simp
  have hTi : (⟨h, g, d, t, os⟩ : Shared).TypeIs (.builtin "object.__init_subclass__") "classmethod_descriptor" := type_isub
  unfold Builtin.«super.__getattribute__»
  repeat (first
    | (with_reducible refine wpAny_field hso hdt f0 ?_) | (with_reducible refine wpAny_field hso hdt f1 ?_) | (with_reducible refine wpAny_field hso hdt f2 ?_)
    | (with_reducible refine ks_wpAny_notOpaque hno ?_)
    | (with_reducible refine KAt.mro (kvs := kvs) (s := ⟨_, _, _, _, _⟩) T ?_; rw [hl])
    | (with_reducible refine wpAny_of_eq own_isub ?_)
    | (with_reducible refine wpAny_of_eq type_isub ?_)
    | (with_reducible refine wpAny_of_eq hlk ?_)
    | (with_reducible refine wpAny_call_entry slot_cmget hTi entry_cmget ?_ (args_cmget _ _ _); rw [if_pos hself]; refine run_cmget_isub (s := ⟨_, _, _, _, _⟩) T ?_)
    | (with_reducible refine ⟨_, rfl, ?_⟩)
    | wp_step
    | dsimp only)
  all_goals exact hq
theorem sub_tm : isSubtype (.type "type") (.type "module") = pure false := by rw [isSubtype_type]; kernel_rfl
theorem check_isubW {K : Addr} {kvs : List (Str × Value)} {Q : Unit → Shared → Prop} {M : Model} (T : KAt s.heap K kvs) (q : Q () s) : wpAny M A (checkBoundCall "object.__init_subclass__" ⟨[.ref K], []⟩) Q E s := by
  obtain ⟨o, cd, d, ho, hc, hd, hm, hb, hdl, hn, D⟩ := id T.k
  have hT : s.TypeIs (.ref K) "type" := ⟨_, ho, hc⟩
  have h1 := sub_tm
  have hs : Manifest.signature? "object.__init_subclass__" = some ⟨.noArgs, "object.__init_subclass__", "__init_subclass__", .cls, []⟩ := by kernel_rfl
  have hk : builtinKind "object.__init_subclass__" = some .classMethod := by kernel_rfl
  have hv : Manifest.varargsMethods.contains "object.__init_subclass__" = false := by decide +kernel
  have hq := hdl.2
  unfold checkBoundCall
  rw [hs, hk]
  dsimp only
  refine ite_no (by decide) ?_
  refine wpAny_bind (wpAny_isInstance hT h1 ?_)
  refine ite_no (by rw [hv]; decide) ?_
  refine wpAny_bind (T.isType ?_)
  refine ite_yes rfl ?_
  refine wpAny_bind (wpAny_pure ?_)
  dsimp only
  unfold classData
  refine wpAny_bind (wpAny_bind (wpAny_load ho ?_))
  rw [hd]
  refine wpAny_pure ?_
  refine wpAny_bind (wpAny_typeOf hT ?_)
  refine ite_yes (by decide) ?_
  rw [hq]
  refine wpAny_of_eq (a := ()) ?_ q
  kernel_rfl
theorem KAt.keeps {h h' : Heap} {K : Addr} {kvs : List (Str × Value)} (T : KAt h K kvs) (k : ∀ b o, h.get? b = some o → h'.get? b = some o) : KAt h' K kvs :=
  let ⟨o, cd, d, ho, hc, hd, hm, hb, hdl, hn, D⟩ := T.k; ⟨⟨o, cd, d, k _ _ ho, hc, hd, hm, hb, hdl, k _ _ hn, D⟩⟩
theorem entry_isub : entryFor table "object.__init_subclass__" = some Builtin.«object.__init_subclass__» := entryFor_of_tree (by kernel_rfl)
theorem call_bndV {id : String} {v : Value} {x : Addr} {vs : List Value} {Q : Value → Shared → Prop} {b : Builtin} (ho : s.heap.get? x = some (bndV id v)) (hck : ∀ {Q' : Unit → Shared → Prop}, Q' () s → wpAny (model prog w) A.in1 (checkBoundCall id ⟨v :: vs, []⟩) Q' (fun _ _ => False) s) (hent : entryFor table id = some b) (hq : id.startsWith "lifetime." = false)
    (hcan : (id == "lifetime.sure#open") = false := by decide)
    (h : wpAny (model prog w) (A.under (.builtin id ⟨v :: vs, []⟩)) (b ⟨v :: vs, []⟩)
      (fun fin s' => match fin with | .done f => (match f with | .ret v => Q v s' | _ => False) | .again c' => c'.quiet = true ∧ codeAny (model prog w) A c' (fun r s' => match r with | .ok (.ret v) => Q v s' | .ok _ => False | .error e => E e s') s') E s) : wpAny (model prog w) A (call (.ref x) vs) Q E s := by
  refine wpAny_call (codeAny_of_tree ?_)
  show wpAny _ A.in1 (callAny (.ref x) ⟨vs, []⟩) _ _ s
  simp only [callAny]
  refine wpAny_bind (wpAny_load ho ?_)
  simp only [bndV, show (Value.type "builtin_function_or_method" == Value.type "method" || Value.type "builtin_function_or_method" == Value.type "builtin_function_or_method" || Value.type "builtin_function_or_method" == Value.type "method-wrapper") = true by decide, if_true]
  refine if_so (by decide) ?_
  refine wpAny_bind (wpAny_mono (hck ?_) (fun _ _ z => z) fun _ _ z => z.elim)
  refine wpAny_bind (wpAny_pure (wpAny_pure ?_))
  refine ⟨Code.quiet_builtin _ hq, codeAny_builtin hent (wpAny_mono h (fun fin s' z => ?_) fun _ _ z => z)⟩
  cases fin with
  | done f => cases f <;> first | exact z | exact z.elim
  | again c' => exact z
theorem init_sub {K : Addr} {kvs : List (Str × Value)} {Q : Value → Shared → Prop} (T : KAt s.heap K kvs) (hno : ∀ h', (∀ b o, s.heap.get? b = some o → h'.get? b = some o) → Looks (model prog w) h' (opaqueClassAbove (.ref K)) none) (hkv : kvs.lookup ("__init_subclass__" : Str) = none)
    (hq : ∀ h' tk, (∀ b o, s.heap.get? b = some o → h'.get? b = some o) → Q .none { s with heap := h', toks := tk }) :
    wpAny (model prog w) A (call (.type "super") [.ref K, .ref K]) (fun sup s1 => wpAny (model prog w) A (holding [sup] (getAttr sup "__init_subclass__")) (fun f s2 => wpAny (model prog w) A (call f [] []) Q E s2) E s1) E s := by
  refine super_KK T fun h1 hso k1 => ?_
  have hlk := F.ks_slot_super_ga.lookup
  have hT : ∀ t', ({ s with heap := h1, toks := t' } : Shared).TypeIs (.ref s.heap.objs.size) "super" := fun _ => ⟨_, hso, rfl⟩
  generalize s.heap.objs.size = so at hso hT ⊢
  refine wpAny_holding ?_
  unfold getAttr getAttrBy
  refine wpAny_bind (wpAny_mkText (wpAny_holding (wpAny_bind (wpAny_typeOf (hT _) (wpAny_bind (wpAny_of_eq hlk ?_))))))
  show wpAny _ _ (getAttrByItsOwn (.ref so) (.str "__init_subclass__" s.toks) (.type "super") (.builtin "super.__getattribute__") true false) _ _ _
  unfold getAttrByItsOwn hookBefore callGetattribute boundAndCalled
  refine wpAny_bind (wpAny_of_eq (show (if onTheHeap (.type "super") then typeLookup (.type "super") "__getattr__" else pure none) = pure none from rfl) ?_)
  refine wpAny_bind (wpAny_attempt (wpAny_holding ?_))
  show wpAny _ _ (bindSpecial (.builtin "super.__getattribute__") (.ref so) >>= _) _ _ _
  refine wpAny_bind (wpAny_of_eq (F.ks_slot_super_ga.bind _) ?_)
  refine wpAny_mono (Q := fun v s' => v = .ref h1.objs.size ∧ s' = { s with heap := h1.push (bndV "object.__init_subclass__" (.ref K)), toks := s.toks + 1 }) (E := fun _ _ => False)
    (wpAny_call_entry F.ks_slot_super_ga (hT _) F.ks_entry_super_ga (ga_KK (s := { s with heap := h1, toks := s.toks + 1 }) hso (T.keeps k1) (hno _ k1) hkv ⟨_, rfl, rfl, rfl⟩) (F.ks_gaArgs_super _ _)) (fun v s' hv => ?_) fun _ _ z => z.elim
  obtain ⟨rfl, rfl⟩ := hv
  refine wpAny_pure ?_
  refine call_bndV (by exact Heap.get?_push_size _ rfl) (fun q => check_isubW (s := { s with heap := h1.push (bndV "object.__init_subclass__" (.ref K)), toks := s.toks + 1 }) (T.keeps fun b o e => Heap.get?_push_of_some _ (k1 b o e)) q) entry_isub (by decide +kernel) (by decide) ?_
  unfold Builtin.«object.__init_subclass__»
  refine ite_yes rfl (wpAny_bind (wpAny_pure (wpAny_pure ?_)))
  exact hq _ _ fun b o e => Heap.get?_push_of_some _ (k1 b o e)
end Mine
namespace Mine
variable {prog : Program} {w : World} {X : Fix} {Γ : List (Str × VP)} {ψ ω φ : PM} {s s' : Shared} {k : Nat} {n b : Bool} {m : Str → Option Value} {μ : Md} {A : Around} {env : Env} {sc scope : Scope}
variable {E : Value → Shared → Prop}
theorem S.asP {a : Addr} {o o' : Obj} (Y : S X m (put ψ a o) ω s) (e : o = o') : S X m (put ψ a o') ω s := e ▸ Y
noncomputable def mdO (K : Addr) (tk : Tok) : Obj := { cls := .type "member_descriptor", data := .fields #[.str "obj" tk, .ref K, .builtin "proto.slot", .builtin "proto.slot#set", rawInt 0] }
theorem DI.size {o : Obj} {kvs : List (Str × Value)} (d : DI o kvs) : ∃ es ep, o.data = .dict es ep ∧ es.size = kvs.length := by
  obtain ⟨hc, es, ep, hd, h⟩ := d
  exact ⟨es, ep, hd, by rw [← Array.length_toList]; exact h.length.symm⟩
theorem S.setDV {M : Model} {a : Addr} {o : Obj} {kvs : List (Str × Value)} {x : Str} {v : Value} {Q : Unit → Shared → Prop} (Y : S X m ψ ω s) (h : ω a = some o) (hd : DI o kvs) (hl : kvs.length < 100)
    (q : ∀ s' o', DI o' (putKV x v kvs) → S X m ψ (put ω a o') s' → Q () s') : wpAny M A (PySem.nsSetByValue a x v) Q E s := by
  obtain ⟨es, ep, hdat, hsz⟩ := hd.size
  unfold nsSetByValue
  refine wpAny_bind (wpAny_loadPart (Y.own _ _ h).1 ?_)
  rw [hdat]
  dsimp only
  refine ite_no (by rw [sizeLine_eq]; simp; omega) ?_
  exact Y.setD h hd q
theorem install_ok {M : Model} {g K n2 : Addr} {tn tq : Tok} {mro : List Value} {sl : List (Option Value)} {d : Obj} {kvs : List (Str × Value)} {Q : Unit → Shared → Prop} (Y : S X m ψ ω s) (gK : ω K = some (kO g tn tq qK n2 mro true [] sl)) (gn : ω n2 = some d) (D : DI d kvs)
    (ho : kvs.lookup ("obj" : Str) = none) (hsz : kvs.length < 100) (hne : n2 ≠ K)
    (q : ∀ s' md tk d' ψ', Le ψ ψ' → ψ' md = some (mdO K tk) → DI d' (putKV "obj" (.ref md) kvs) → S X m ψ' (put (put ω n2 d') K (kO g tn tq qK n2 mro false ["obj"] sl)) s' → Q () s') :
    wpAny M A (Builtin.Slots.install (.ref K) n2 [.type "object"] ⟨["obj"], false, false, []⟩) Q E s := by
  unfold Builtin.Slots.install
  dsimp only
  refine wpAny_bind ?_
  refine forIn1 ?_
  refine wpAny_bind (Y.getV gn D ho ?_)
  refine ite_yes rfl ?_
  refine wpAny_bind (wpAny_mkText ?_)
  have Y1 := Y.tok (tk := s.toks + 1)
  refine wpAny_bind (Y1.newFields (by simp) fun md s2 F2 Y2 => ?_)
  have l2 := le_put (o := mdO K s.toks) F2.p
  have Y2 := Y2.asP (o' := mdO K s.toks) (by kernel_rfl)
  refine wpAny_bind (Y2.setDV gn D hsz fun s3 d3 D3 Y3 => ?_)
  refine wpAny_pure ⟨_, rfl, ?_⟩
  refine wpAny_bind (forIn1 ?_)
  refine wpAny_bind (wpAny_of_eq gd_ob ?_)
  refine ite_no (by decide) (wpAny_pure ⟨_, rfl, ?_⟩)
  refine ite_no (by decide) ?_
  have gK3 : put ω n2 d3 K = some (kO g tn tq qK n2 mro true [] sl) := by rw [put_ne (Ne.symm hne)]; exact gK
  refine Y3.updCls gK3 rfl (by rfl) fun s4 Y4 => ?_
  exact q s4 md s.toks d3 _ l2 (put_self _ _ _) D3 Y4
theorem forIn_all {α β : Type} {M : Model} {l : Array α} {b : β} {f : α → β → Sem (ForInStep β)} {Q : β → Shared → Prop} (h : ∀ x ∈ l.toList, wpAny M A (f x b) (fun r s' => r = .yield b ∧ s' = s) E s) (q : Q b s) : wpAny M A (forIn l b f) Q E s := by
  rw [← Array.forIn_toList]
  generalize l.toList = xs at h
  induction xs with
  | nil => rw [List.forIn_nil]; exact wpAny_pure q
  | cons x r ih =>
    rw [List.forIn_cons]
    refine wpAny_bind (wpAny_mono (h x (by simp)) (fun r s' z => ?_) fun _ _ e => e)
    obtain ⟨rfl, rfl⟩ := z
    exact ih fun y hy => h y (by simp [hy])
theorem KVs.mem {kvs : List (Str × Value)} {es : Array DictEntry} (h : KVs kvs es) : ∀ e ∈ es.toList, ∃ kv ∈ kvs, (∃ tk, e.key = .str kv.1 tk) ∧ e.val = kv.2 := by
  unfold KVs at h
  generalize es.toList = l at h
  induction h with
  | nil => intro e he; cases he
  | @cons kv e kvs es h0 _ ih =>
    intro e' he
    cases he with
    | head => exact ⟨kv, by simp, h0⟩
    | tail _ he => obtain ⟨kv', hm, r⟩ := ih e' he; exact ⟨kv', by simp [hm], r⟩
noncomputable def NoSet (ψ : PM) (v : Value) : Prop := (∃ T, (∀ s : Shared, Sub ψ s.heap → s.TypeIs v T) ∧ typeLookup (.type T) "__set_name__" = pure none) ∧ ∀ k, Builtin.heldUnderItsOwnName k v = false
theorem NoSet.le {v : Value} (h : NoSet φ v) (l : Le φ ψ) : NoSet ψ v := let ⟨⟨T, a, b⟩, c⟩ := h; ⟨⟨T, fun s hs => a s fun x o e => hs x o (l x o e), b⟩, c⟩
theorem mem_del {x : Str} {kvs : List (Str × Value)} {kv : Str × Value} (h : kv ∈ delKV x kvs) : kv ∈ kvs := by
  induction kvs with
  | nil => exact h
  | cons p r ih =>
    unfold delKV at h
    split at h
    · simp [h]
    · rcases List.mem_cons.mp h with rfl | h
      · simp
      · simp [ih h]
theorem mem_put {x : Str} {v : Value} {kvs : List (Str × Value)} {kv : Str × Value} (h : kv ∈ putKV x v kvs) : kv ∈ kvs ∨ kv.2 = v := by
  induction kvs with
  | nil => unfold putKV at h; rw [List.mem_singleton] at h; subst h; exact .inr rfl
  | cons p r ih =>
    unfold putKV at h
    split at h
    · rcases List.mem_cons.mp h with rfl | h
      · exact .inr rfl
      · exact .inl (by simp [h])
    · rcases List.mem_cons.mp h with rfl | h
      · exact .inl (by simp)
      · rcases ih h with h | h
        · exact .inl (by simp [h])
        · exact .inr h
theorem len_del {x : Str} {kvs : List (Str × Value)} : (delKV x kvs).length ≤ kvs.length := by
  induction kvs with
  | nil => exact Nat.le_refl _
  | cons p r ih =>
    unfold delKV
    split <;> simp; omega
theorem noteOb (K : Addr) : Builtin.noteSubclassOfBuiltin "object" K = pure () := by kernel_rfl
theorem set_md : typeLookup (.type "member_descriptor") "__set_name__" = pure none := by rw [typeLookup_type, builtinLookup_eq_fast]; kernel_rfl
theorem set_none : typeLookup (.type "NoneType") "__set_name__" = pure none := by rw [typeLookup_type, builtinLookup_eq_fast]; kernel_rfl
theorem set_str : typeLookup (.type "str") "__set_name__" = pure none := by rw [typeLookup_type, builtinLookup_eq_fast]; kernel_rfl
theorem set_int : typeLookup (.type "int") "__set_name__" = pure none := by rw [typeLookup_type, builtinLookup_eq_fast]; kernel_rfl
theorem set_fn : typeLookup (.type "function") "__set_name__" = pure none := by rw [typeLookup_type, builtinLookup_eq_fast]; kernel_rfl
theorem set_list : typeLookup (.type "list") "__set_name__" = pure none := by rw [typeLookup_type, builtinLookup_eq_fast]; kernel_rfl
theorem set_tuple : typeLookup (.type "tuple") "__set_name__" = pure none := by rw [typeLookup_type, builtinLookup_eq_fast]; kernel_rfl
theorem NoSet.none : NoSet ψ .none := ⟨⟨"NoneType", fun s _ => rfl, set_none⟩, fun _ => rfl⟩
theorem NoSet.str {x : Str} {t : Tok} : NoSet ψ (.str x t) := ⟨⟨"str", fun s _ => rfl, set_str⟩, fun _ => rfl⟩
theorem NoSet.int {x : Int} {t : Tok} : NoSet ψ (.int x t) := ⟨⟨"int", fun s _ => rfl, set_int⟩, fun _ => rfl⟩
theorem NoSet.ref {a : Addr} {o : Obj} {T : String} (h : ψ a = some o) (hc : o.cls = .type T) (ht : typeLookup (.type T) "__set_name__" = pure Option.none) : NoSet ψ (.ref a) := ⟨⟨T, fun s hs => ⟨_, hs _ _ h, hc⟩, ht⟩, fun _ => rfl⟩
theorem new_ob : classOwn (.type "object") "__new__" = pure (some (.builtin "object.__new__")) := by show pure (builtinOwn _ _) = _; kernel_rfl
theorem ends_ob : "object.__new__".endsWith ".__new__" = true := by decide +kernel
theorem refresh_ok {M : Model} {K : Addr} {kvs : List (Str × Value)} {o : Obj} {Q : Unit → Shared → Prop} (T : KAt s.heap K kvs) (h : s.heap.get? K = some o) (h4 : (o.slots[4]?).join = some (.builtin "object.__new__")) (hn : kvs.lookup ("__new__" : Str) = none) (q : Q () s) : wpAny M A (Bind.refreshMaker K) Q E s := by
  unfold Bind.refreshMaker
  refine wpAny_bind (slot_extra h h4 ?_)
  refine ite_no (by decide) ?_
  refine wpAny_bind (T.look (fun _ => new_ob) (fun v e => by rw [hn] at e; cases e) ?_)
  dsimp only
  exact ite_no (by rw [ends_ob]; decide) (wpAny_pure q)
end Mine
namespace Mine
variable {prog : Program} {w : World} {X : Fix} {Γ : List (Str × VP)} {ψ ω φ : PM} {s s' : Shared} {k : Nat} {n b : Bool} {m : Str → Option Value} {μ : Md} {A : Around} {env : Env} {sc scope : Scope}
variable {E : Value → Shared → Prop}
theorem opaque_no {M : Model} {K : Addr} {h : Heap} (hs : Sub ψ h) (hno : NsKnows ψ cStatics "thirdparty.any" none) : Looks M h (opaqueClassAbove (.ref K)) none := fun A Q E s' k q => by
  have hs' : Sub ψ s'.heap := fun x o e => k x o (hs x o e)
  obtain ⟨mg, ng, hmg⟩ := hno.ns hs'
  unfold opaqueClassAbove anyOpaqueLoaded
  dsimp only
  refine wpAny_bind (wpAny_bind (wpAny_nsGet ng ?_))
  rw [hmg]
  exact wpAny_pure (ite_yes rfl (wpAny_pure q))
noncomputable abbrev kvF (md : Addr) (kvs : List (Str × Value)) : List (Str × Value) := putKV "__doc__" .none (putKV "obj" (.ref md) (delKV "__qualname__" kvs))
theorem turned_ob : Builtin.notOverATurnedClass [.type "object"] = pure () := by kernel_rfl
theorem ext_ob : Builtin.extendedBase [.type "object"] = pure (.type "object") := by kernel_rfl
theorem sub_tuple_self : isSubtype (.type "tuple") (.type "tuple") = pure true := by rw [isSubtype_type]; kernel_rfl
theorem sub_dict_self : isSubtype (.type "dict") (.type "dict") = pure true := by rw [isSubtype_type]; kernel_rfl
theorem mrohook_ty : Builtin.mroHook? (.type "type") = pure none := by kernel_rfl
theorem lin_ob : Builtin.linearize [.type "object"] mroOf = pure [.type "object"] := by kernel_rfl
theorem made_ob : Bind.madeBy (.type "object") = pure (some "object.__new__") := by kernel_rfl
section
variable {M : Model} {β γ : Type} {f : β → Sem γ} {Q : γ → Shared → Prop}
theorem S.bGetV {a : Addr} {o : Obj} {kvs : List (Str × Value)} {x : Str} {r : Option Value} {f : Option Value → Sem γ} (Y : S X m ψ ω s) (h : ω a = some o) (hd : DI o kvs) (hr : kvs.lookup x = r) (q : wpAny M A (f r) Q E s) : wpAny M A (PySem.nsGet a x >>= f) Q E s := wpAny_bind (Y.getV h hd hr q)
theorem S.bSetSlot {a : Addr} {o o' : Obj} {i : Nat} {v : Option Value} {f : Unit → Sem γ} (Y : S X m ψ (put ω a o) s) (hi : i < 6) (e : { o with slots := (o.slots ++ Array.replicate (i + 1 - o.slots.size) none).setIfInBounds i v } = o')
    (q : ∀ s', S X m ψ (put ω a o') s' → wpAny M A (f ()) Q E s') : wpAny M A (setSlotAt a i v >>= f) Q E s :=
  wpAny_bind (Y.setSlot (put_self _ _ _) hi fun s' Y' => q s' (by rw [put_put, e] at Y'; exact Y'))
theorem S.bUpdCls {a : Addr} {o o' : Obj} {c : ClassData} {g : ClassData → ClassData} {f : Unit → Sem γ} (Y : S X m ψ (put ω a o) s) (hd : o.data = .cls c) (hp : (Data.cls (g c)).pastItsLine = none) (e : ({ o with data := .cls (g c) } : Obj) = o')
    (q : ∀ s', S X m ψ (put ω a o') s' → wpAny M A (f ()) Q E s') : wpAny M A (PySem.updateCls a g >>= f) Q E s :=
  wpAny_bind (Y.updCls (put_self _ _ _) hd hp fun s' Y' => q s' (by rw [put_put, e] at Y'; exact Y'))
theorem S.bDelD {a b : Addr} {o p : Obj} {kvs kvs' : List (Str × Value)} {x : Str} {f : Bool → Sem γ} (Y : S X m ψ (put (put ω a o) b p) s) (hab : a ≠ b) (hd : DI o kvs) (e : (if (kvs.lookup x).isSome then delKV x kvs else kvs) = kvs') (q : ∀ s' o', DI o' kvs' → S X m ψ (put (put ω a o') b p) s' → wpAny M A (f (kvs.lookup x).isSome) Q E s') : wpAny M A (PySem.nsDel a x >>= f) Q E s :=
  wpAny_bind (Y.delD (by rw [put_ne hab]; exact put_self _ _ _) hd fun s' o' D' Y' => q s' o' (e ▸ D') (by rw [put_in hab] at Y'; exact Y'))
theorem S.bSetD {a b : Addr} {o p : Obj} {kvs : List (Str × Value)} {x : Str} {v : Value} {f : Unit → Sem γ} (Y : S X m ψ (put (put ω a o) b p) s) (hab : a ≠ b) (hd : DI o kvs) (q : ∀ s' o', DI o' (putKV x v kvs) → S X m ψ (put (put ω a o') b p) s' → wpAny M A (f ()) Q E s') : wpAny M A (PySem.nsSet a x v >>= f) Q E s :=
  wpAny_bind (Y.setD (by rw [put_ne hab]; exact put_self _ _ _) hd fun s' o' D' Y' => q s' o' D' (by rw [put_in hab] at Y'; exact Y'))
end
section
variable {γ : Type} {Q : γ → Shared → Prop}
end
theorem tnew_ok {g ns sl : Addr} {tn tk : Tok} {ln : Nat} {oD : Obj} {kvs : List (Str × Value)} {Q : Fin → Shared → Prop} (Y : S X m ψ ω s) (hg : ψ g = some (tupO [.type "object"])) (hn : ω ns = some oD) (D : DI oD kvs) (hmods : ∃ o, ψ sysModules = some o)
    (hmod : (kvs.lookup ("__module__" : Str)).isSome) (hs : kvs.lookup ("__slots__" : Str) = some (.ref sl)) (ho : kvs.lookup ("obj" : Str) = none) (hsl : ψ sl = some (lst [.str "obj" tk] ln)) (hq : ∃ tq, kvs.lookup ("__qualname__" : Str) = some (.str qK tq)) (hdoc : kvs.lookup ("__doc__" : Str) = none) (hlen : kvs.length < 100)
    (hnone : kvs.lookup ("__new__" : Str) = none ∧ kvs.lookup ("__init_subclass__" : Str) = none ∧ kvs.lookup ("__class_getitem__" : Str) = none ∧ kvs.lookup ("__classcell__" : Str) = none ∧ kvs.lookup ("__classdictcell__" : Str) = none ∧ kvs.lookup ("__del__" : Str) = none)
    (heq : (kvs.lookup ("__eq__" : Str)).isSome = true) (hhash : (kvs.lookup ("__hash__" : Str)).isSome = true) (hns : ∀ kv ∈ kvs, NoSet ψ kv.2) (hany : NsKnows ψ cStatics "thirdparty.any" none)
    (q : ∀ K n2 d md tk tq ψ' s', Le ψ ψ' → ψ' K = some (kO g tn tq qK n2 [.ref K, .type "object"] false ["obj"] [some (.builtin "object.__new__"), some (.bool false)]) → ψ' n2 = some d → DI d (kvF md kvs) → ψ' md = some (mdO K tk) → S X m ψ' ω s' → Q (.done (.ret (.ref K))) s') :
    wpAny (model prog w) A (Builtin.«type.__new__» ⟨[.type "type", .str "K" tn, .ref g, .ref ns], []⟩) Q E s := by
  obtain ⟨hc, es, ep, hd, hall⟩ := id D
  have Hg : s.heap.get? g = some (tupO [.type "object"]) := Y.sub _ _ hg
  have Hn : s.heap.get? ns = some oD := (Y.own _ _ hn).1
  have Tg : s.TypeIs (.ref g) "tuple" := ⟨_, Hg, rfl⟩
  have Tn : s.TypeIs (.ref ns) "dict" := ⟨_, Hn, hc⟩
  have h1 := sub_tuple_self
  have h2 := sub_dict_self
  have h3 := tt_sub
  have hnm : (ns == sysModules) = false := by
    rw [beq_eq_false_iff_ne]
    intro q
    obtain ⟨o, ho⟩ := hmods
    have := (Y.own _ _ hn).2.1
    rw [q, ho] at this; cases this
  have hlen2 : es.toList.length = kvs.length := hall.length.symm
  have D2 : DI ({ cls := .type "dict", data := .dict es } : Obj) kvs := ⟨rfl, _, _, rfl, hall⟩
  obtain ⟨tq, hq⟩ := hq
  have hmd := KVs.any hall "__module__"
  rw [hmod] at hmd
  have hdel := KVs.any hall "__del__"
  rw [hnone.2.2.2.2.2] at hdel
  have hsz : sizeOk (.dict es) := by show es.size ≤ sizeLine + 1; rw [sizeLine_eq, ← Array.length_toList]; omega
  have hqd : (if (kvs.lookup ("__qualname__" : Str)).isSome then delKV "__qualname__" kvs else kvs) = delKV "__qualname__" kvs := by rw [hq]; rfl
  have ldel : ∀ {x : Str} {r : Option Value}, x ≠ ("__qualname__" : Str) → kvs.lookup x = r → (delKV "__qualname__" kvs).lookup x = r := fun h e => (lookup_del h).trans e
  have hfil : ∀ K : Addr, List.filter (fun x => x != Value.ref K) [.ref K, .type "object"] = [.type "object"] := fun K => by simp
  unfold Builtin.«type.__new__»
  refine bEq (some "K") rfl ?_
  refine bIs Tg h1 (ite_no (by decide) ?_)
  refine bIs Tn h2 (ite_no (by decide) ?_)
  refine bSeq Hg rfl ?_
  refine ite_no (by decide) ?_
  refine wpAny_bind (forIn1 (wpAny_bind (wpAny_pure (ite_no (by decide) (wpAny_pure ⟨_, rfl, ?_⟩)))))
  refine wpAny_bind (forIn1 (wpAny_bind (wpAny_of_eq (a := .type "type") (by rfl) (wpAny_bind (wpAny_of_eq (a := true) h3 (ite_yes rfl (wpAny_pure ⟨_, rfl, ?_⟩)))))))
  refine ite_no (by decide) ?_
  refine bEq () turned_ob ?_
  refine bEq (.type "object") (by show Builtin.extendedBase [.type "object"] = _; exact ext_ob) ?_
  refine ite_no (by rw [hnm]; decide) ?_
  refine wpAny_bind (wpAny_dictEntries Hn hd (wpAny_bind (wpAny_specialOf Tn PySem.F.slot_dict_iter.lookup ?_)))
  refine ite_yes (by simp) (wpAny_bind (wpAny_pure ?_))
  refine wpAny_bind (wpAny_holding (slots_read hall hs ho (Y.sub _ _ hsl) fun h' hk => ?_))
  refine (Y.kept (tk := s.toks) hk).bNewObj (by rfl) hsz fun n2 s2 F2 Y2 => ?_
  refine ite_no (by show ¬ (!(es.any fun x => x.key.isStr ("__module__" : Str))) = true; rw [hmd]; decide) ?_
  refine wpAny_bind (ite_no (by decide +kernel) (wpAny_pure ?_))
  refine ite_no (by decide +kernel) ?_
  refine Y2.bGetV (put_self _ _ _) D2 hq ?_
  refine Y2.bGetV (put_self _ _ _) D2 hq ?_
  refine bEq (some qK) rfl ?_
  refine bPure ?_
  refine Y2.bGetV (put_self _ _ _) D2 hdoc ?_
  refine Y2.bAlloc (by rfl) fun K s3 F3 Y3 => ?_
  have hK2 : K ≠ n2 := fun q => by have := F3.o; rw [q, put_self] at this; cases this
  have gn : ∀ {d o : Obj}, put (put ω n2 d) K o n2 = some d := fun {d o} => by rw [put_ne (Ne.symm hK2)]; exact put_self _ _ _
  have gK : ∀ {d o : Obj}, put (put ω n2 d) K o K = some o := fun {d o} => put_self _ _ _
  refine ite_yes rfl ?_
  refine Y3.bSetSlot (by decide) rfl fun s4 Y4 => ?_
  refine Y4.bSetSlot (by decide) rfl fun s5 Y5 => ?_
  refine Y5.bSetSlot (o' := kO g tn tq qK n2 [] true [] []) (by decide) (by kernel_rfl) fun s6 Y6 => ?_
  refine Y6.bDelD (Ne.symm hK2) D2 hqd fun s7 d7 D7 Y7 => ?_
  refine Y7.bGetV gn D7 (ldel (by decide) hnone.1) ?_
  refine wpAny_bind ?_
  refine for2 ?_ ?_ ?_
  · exact Y7.bGetV gn D7 (ldel (by decide) hnone.2.1) (wpAny_pure ⟨rfl, rfl⟩)
  · exact Y7.bGetV gn D7 (ldel (by decide) hnone.2.2.1) (wpAny_pure ⟨rfl, rfl⟩)
  refine Y7.bGetV gn D7 (ldel (by decide) hnone.2.2.2.1) ?_
  refine Y7.bGetV gn D7 (ldel (by decide) hnone.2.2.2.2.1) ?_
  refine bEq none mrohook_ty ?_
  refine bEq [.type "object"] (by show Builtin.linearize [.type "object"] mroOf = _; exact lin_ob) ?_
  refine bPure ?_
  refine bEq false (by rw [hfil K]; kernel_rfl) ?_
  refine Y7.bUpdCls (o' := kO g tn tq qK n2 [.ref K, .type "object"] true [] []) rfl (by rfl) (by unfold kO; simp only [hdel]; rfl) fun s8 Y8 => ?_
  refine bEq (some "object.__new__") made_ob ?_
  refine Y8.bSetSlot (o' := kO g tn tq qK n2 [.ref K, .type "object"] true [] [some (.builtin "object.__new__")]) (by decide) (by kernel_rfl) fun s9 Y9 => ?_
  have T9 : KAt s9.heap K (delKV "__qualname__" kvs) := ⟨⟨_, _, d7, (Y9.own _ _ gK).1, rfl, rfl, rfl, rfl, ⟨rfl, rfl⟩, (Y9.own _ _ gn).1, D7⟩⟩
  refine wpAny_bind (refresh_ok T9 (Y9.own _ _ gK).1 (by rfl) ((lookup_del (by decide)).trans hnone.1) ?_)
  have hne2 : n2 ≠ K := Ne.symm hK2
  refine wpAny_bind (install_ok Y9 gK gn D7 ((lookup_del (by decide)).trans ho) (Nat.lt_of_le_of_lt len_del hlen) hne2 fun s10 md tk10 d10 ψ1 l1 hmd D10 Y10 => ?_)
  rw [put_in hne2, put_put] at Y10
  refine bEq false gw_ob ?_
  refine Y10.bSetSlot (o' := kO g tn tq qK n2 [.ref K, .type "object"] false ["obj"] [some (.builtin "object.__new__"), some (.bool false)]) (by decide) (by kernel_rfl) fun s11 Y11 => ?_
  refine ite_no (by decide) ?_
  refine ite_no (by decide) ?_
  refine Y11.bGetV gn D10 ((lookup_put (by decide)).trans (ldel (by decide) hdoc)) ?_
  refine ite_yes rfl ?_
  refine Y11.bSetD hne2 D10 fun s12 d12 D12 Y12 => ?_
  refine Y12.bGetV gn D12 (r := kvs.lookup ("__eq__" : Str)) (by rw [lookup_put (by decide), lookup_put (by decide), lookup_del (by decide)]) ?_
  refine ite_yes heq ?_
  refine Y12.bGetV gn D12 (r := kvs.lookup ("__hash__" : Str)) (by rw [lookup_put (by decide), lookup_put (by decide), lookup_del (by decide)]) ?_
  refine ite_no (by rw [Option.isNone_eq_false_iff.mpr hhash]; decide) ?_
  refine wpAny_bind (forIn1 ?_)
  refine bEq _ (noteOb K) (wpAny_pure ⟨_, rfl, ?_⟩)
  obtain ⟨hc12, es12, ep12, hd12, hall12⟩ := id D12
  have Hn12 := (Y12.own _ _ gn).1
  have T12 : KAt s12.heap K (kvF md kvs) := ⟨⟨_, _, d12, (Y12.own _ _ gK).1, rfl, rfl, rfl, rfl, ⟨rfl, rfl⟩, Hn12, D12⟩⟩
  have hN : ∀ kv ∈ kvF md kvs, NoSet ψ1 kv.2 := fun kv hkv => by
    rcases mem_put hkv with hkv | hkv
    · rcases mem_put hkv with hkv | hkv
      · exact (hns kv (mem_del hkv)).le l1
      · rw [hkv]; exact NoSet.ref hmd rfl set_md
    · rw [hkv]; exact NoSet.none
  have hKψ := (Y12.own _ _ gK).2.1
  have hnψ := (Y12.own _ _ gn).2.1
  refine wpAny_bind (wpAny_tryCatch (wpAny_holding ?_))
  refine wpAny_bind (wpAny_dictEntries Hn12 hd12 ?_)
  refine wpAny_bind (forIn_all (fun e he => ?_) ?_)
  · obtain ⟨kv, hkv, ⟨tk, hk⟩, hv⟩ := KVs.mem hall12 e he
    rw [hk]; exact wpAny_bind (wpAny_pure (ite_no (by simp) (wpAny_pure ⟨rfl, rfl⟩)))
  refine ite_no (by decide) ?_
  refine wpAny_bind (wpAny_dictEntries Hn12 hd12 ?_)
  refine wpAny_bind (forIn_all (fun e he => ?_) ?_)
  · obtain ⟨kv, hkv, ⟨tk, hk⟩, hv⟩ := KVs.mem hall12 e he
    have hN1 := hN kv hkv
    rw [hk, hv]
    refine ite_no (by show ¬ (Builtin.heldUnderItsOwnName kv.1 kv.2 = true); rw [hN1.2]; decide) ?_
    obtain ⟨⟨T, hT, hl⟩, _⟩ := hN1
    refine wpAny_bind (wpAny_specialOf (hT _ Y12.sub) hl ?_)
    exact wpAny_pure ⟨rfl, rfl⟩
  refine wpAny_bind ?_
  refine wpAny_mono (init_sub (Q := fun v s' => ∃ h' tk, (∀ b o, s12.heap.get? b = some o → h'.get? b = some o) ∧ s' = { s12 with heap := h', toks := tk }) T12 (fun h' k => opaque_no (fun x o e => k _ _ (Y12.sub x o e)) (hany.le l1)) ((lookup_put (by decide)).trans ((lookup_put (by decide)).trans ((lookup_del (by decide)).trans hnone.2.1))) fun h' tk k => ⟨h', tk, k, rfl⟩) (fun sup s13 z => ?_) fun _ _ e => e
  refine wpAny_bind (wpAny_mono z (fun f s14 z => ?_) fun _ _ e => e)
  refine wpAny_bind (wpAny_mono z (fun v s15 z => ?_) fun _ _ e => e)
  obtain ⟨h', tk15, hk15, rfl⟩ := z
  refine wpAny_pure ?_
  refine wpAny_pure ?_
  have Y15 := Y12.kept (tk := tk15) hk15
  have lK := le_put (o := kO g tn tq qK n2 [.ref K, .type "object"] false ["obj"] [some (.builtin "object.__new__"), some (.bool false)]) hKψ
  have Y16 := (Y15.freeze (put_self _ _ _)).forget (ω' := put ω n2 d12) fun b ob e => by
    have hb : b ≠ K := fun z => by
      rw [z, put_ne hK2] at e
      have := F3.o
      rw [put_ne hK2] at this; rw [this] at e; cases e
    simp only [if_neg hb]
    rw [put_ne hb]; exact e
  have hn2 : put ψ1 K (kO g tn tq qK n2 [.ref K, .type "object"] false ["obj"] [some (.builtin "object.__new__"), some (.bool false)]) n2 = none := by rw [put_ne hne2]; exact hnψ
  have Y17 := (Y16.freeze (put_self _ _ _)).forget (ω' := ω) fun b ob e => by
    have hb : b ≠ n2 := F2.ne e
    simp only [if_neg hb]
    rw [put_ne hb]; exact e
  have ln := le_put (o := d12) hn2
  exact q K n2 d12 md tk10 tq _ _ (l1.trans (lK.trans ln)) (ln _ _ (put_self _ _ _)) (put_self _ _ _) D12 ((lK.trans ln) _ _ hmd) Y17
end Mine
namespace Mine
variable {prog : Program} {w : World} {X : Fix} {Γ : List (Str × VP)} {ψ ω φ : PM} {s s' : Shared} {k : Nat} {n b : Bool} {m : Str → Option Value} {μ : Md} {A : Around} {env : Env} {sc scope : Scope}
variable {E : Value → Shared → Prop}
noncomputable def CB (X : Fix) (m : Str → Option Value) (ω : PM) (ns P1 : Addr) (kvs : List (Str × Value)) (ps : Array Value) (ψ : PM) (s : Shared) : Prop := ∃ oD, DI oD kvs ∧ S X m ψ (put (put ω ns oD) P1 (tabObj ps)) s
noncomputable abbrev plainA (as : List Arg) : Arguments := { posonlyargs := [], args := as, vararg := none, kwonlyargs := [], kw_defaults := [], kwarg := none, defaults := [] }
theorem c_storeN {ns P1 c1 fr : Addr} {kvs : List (Str × Value)} {ps : Array Value} {cl : List (Str × Addr)} {qual x : Str} {v : Value} {Q : Unit → Shared → Prop} (b : CB X m ω ns P1 kvs ps ψ s) (hnP : ns ≠ P1) (hk : scope.kind = .class) (hx : scope.names.lookup x = some .local)
    (q : ∀ s', CB X m ω ns P1 (putKV x v kvs) ps ψ s' → Q () s') : wpAny (model prog w) A (storeName (cEnv scope ns cl qual c1 fr) x v) Q E s := by
  obtain ⟨oD, D, Y⟩ := b
  refine Y.storeC hk (.inl hx) (by rw [put_ne hnP]; exact put_self _ _ _) D fun s' o' D' Y' => ?_
  rw [put_in hnP] at Y'
  exact q s' ⟨o', D', Y'⟩
theorem c_store {ns P1 c1 fr : Addr} {kvs : List (Str × Value)} {ps : Array Value} {cl : List (Str × Addr)} {qual x : Str} {v : Value} {Q : Unit → Shared → Prop} (b : CB X m ω ns P1 kvs ps ψ s) (hnP : ns ≠ P1) (hk : scope.kind = .class) (hx : scope.names.lookup x = some .local)
    (q : ∀ s', CB X m ω ns P1 (putKV x v kvs) ps ψ s' → Q () s') : wpAny (model prog w) A (bindName (cEnv scope ns cl qual c1 fr) x v) Q E s := wpAny_bindName (c_storeN b hnP hk hx q)
theorem c_def {ns P1 c1 fr : Addr} {kvs : List (Str × Value)} {ps : Array Value} {cl clos : List (Str × Addr)} {qual name bind : Str} {as : List Arg} {body : List Stmt} {pos : Pos} {Q : Flow → Shared → Prop} (b : CB X m ω ns P1 kvs ps ψ s) (hnP : ns ≠ P1) (hk : scope.kind = .class)
    (hT : TopMk ψ) (C : CodeHdP ψ c1 P1) (hx : scope.names.lookup bind = some .local) (hann : ∀ e, annotationsOf as e = []) (hcl : closureFor sc (cEnv scope ns cl qual c1 fr) = pure clos) (ht : TriplesOk ps.toList) (hnf : codeAmong pos ps.toList = none) (hdoc : docOf body = none)
    (q : ∀ f c' ct pm ψ' s', Le ψ ψ' → ψ' f = some { cls := .type "function", data := .func (fnD name (qual ++ "." ++ name) (plainA as) (.stmts body) sc clos pm (.ref c') ct) } → CodeK ψ' (.ref c') (qual ++ "." ++ name) →
      CB X m ω ns P1 (putKV bind (.ref f) kvs) (ps ++ #[rawInt pos.line, rawInt pos.col, .ref c']) ψ' s' → Q .next s') :
    wpAny (model prog w) A (exec (.FunctionDef name (plainA as) body [] none [] sc none bind pos) (cEnv scope ns cl qual c1 fr)) Q E s := by
  obtain ⟨oD, D, Y⟩ := b
  have e : exec (.FunctionDef name (plainA as) body [] none [] sc none bind pos) (cEnv scope ns cl qual c1 fr) =
    defStmt name bind (plainA as) body sc pos (cEnv scope ns cl qual c1 fr) [] none [] [] ([], []) (fun e => annotationsOf (as ++ [] ++ [] ++ [] ++ []) e ++ []) (.FunctionDef name (plainA as) body [] none [] sc none bind pos) := rfl
  rw [e]
  unfold defStmt
  refine ite_no (by simp) ?_
  refine wpAny_bind (wpAny_pure ?_)
  refine wpAny_bind (wpAny_standAt ?_)
  have hq : qualnameIn (cEnv scope ns cl qual c1 fr) name bind = qual ++ "." ++ name := by
    unfold qualnameIn
    show (if (scope.names.lookup bind == some .globalExplicit) = true then _ else _) = _
    rw [hx]; rfl
  have hke : (cEnv scope ns cl qual c1 fr).globals = mainGlobals := rfl
  refine wpAny_bind (wpAny_holding (wpAny_bind (wpAny_pure (wpAny_bind (wpAny_holding (wpAny_pure (wpAny_holding ?_)))))))
  dsimp only
  rw [show annotationsOf (as ++ [] ++ [] ++ [] ++ []) (cEnv scope ns cl qual c1 fr) = [] from by simp only [List.append_nil]; exact hann _]
  refine wpAny_bind (wpAny_pure ?_)
  rw [hq]
  refine Y.mkFunO (c := c1) hT hcl hke rfl C (put_self _ _ _) ht hnf hdoc fun f c' s' ct pm ψ' l' hf hck hnw hfr Y' => ?_
  rw [put_put] at Y'
  refine wpAny_bind (wpAny_pure ?_)
  refine wpAny_bind (wpAny_standAt ?_)
  refine wpAny_bind (c_store (s := s') ⟨oD, D, Y'⟩ hnP hk hx fun s2 b2 => wpAny_pure ?_)
  exact q f c' ct pm ψ' s2 l' hf hck b2
theorem c_str {ns P1 c1 fr : Addr} {kvs : List (Str × Value)} {ps : Array Value} {cl : List (Str × Addr)} {qual x y : Str} {px cp pos : Pos} {kd : Nat} {Q : Flow → Shared → Prop} (b : CB X m ω ns P1 kvs ps ψ s) (hnP : ns ≠ P1) (hk : scope.kind = .class) (hx : scope.names.lookup x = some .local)
    (q : ∀ tk s', CB X m ω ns P1 (putKV x (.str y tk) kvs) ps ψ s' → Q .next s') :
    wpAny (model prog w) A (exec (.Assign [.Name x px] (.Constant (.str y) kd cp) pos) (cEnv scope ns cl qual c1 fr)) Q E s := by
  refine wpAny_Assign_Name ?_ (by rfl)
  rw [arm_eval_Constant]
  obtain ⟨oD, D, Y⟩ := b
  refine wpAny_mkText ?_
  have Y1 := Y.tok (tk := s.toks + 1)
  exact c_storeN ⟨oD, D, Y1⟩ hnP hk hx fun s' b' => q _ s' b'
theorem c_none {ns P1 c1 fr : Addr} {kvs : List (Str × Value)} {ps : Array Value} {cl : List (Str × Addr)} {qual x : Str} {px cp pos : Pos} {kd : Nat} {Q : Flow → Shared → Prop} (b : CB X m ω ns P1 kvs ps ψ s) (hnP : ns ≠ P1) (hk : scope.kind = .class) (hx : scope.names.lookup x = some .local)
    (q : ∀ s', CB X m ω ns P1 (putKV x .none kvs) ps ψ s' → Q .next s') :
    wpAny (model prog w) A (exec (.Assign [.Name x px] (.Constant .none kd cp) pos) (cEnv scope ns cl qual c1 fr)) Q E s := by
  refine wpAny_Assign_Name ?_ (by rfl)
  rw [arm_eval_Constant]
  exact wpAny_pure (c_storeN b hnP hk hx fun s' b' => q s' b')
theorem c_list1 {ns P1 c1 fr : Addr} {kvs : List (Str × Value)} {ps : Array Value} {cl : List (Str × Addr)} {qual x y : Str} {px cp lp pos : Pos} {kd : Nat} {Q : Flow → Shared → Prop} (b : CB X m ω ns P1 kvs ps ψ s) (hnP : ns ≠ P1) (hk : scope.kind = .class) (hx : scope.names.lookup x = some .local)
    (q : ∀ a tk ψ' s', Le ψ ψ' → ψ' a = some (lst [.str y tk] 0) → CB X m ω ns P1 (putKV x (.ref a) kvs) ps ψ' s' → Q .next s') :
    wpAny (model prog w) A (exec (.Assign [.Name x px] (.List [.Constant (.str y) kd cp] lp) pos) (cEnv scope ns cl qual c1 fr)) Q E s := by
  refine wpAny_Assign_Name ?_ (by rfl)
  rw [arm_eval_List]
  obtain ⟨oD, D, Y⟩ := b
  refine wpAny_bind (wpAny_standAt ?_)
  refine wpAny_bind ?_
  rw [starEach_cons rfl]
  show wpAny _ _ (spliced ((false, if (false = true) then _ else eval (.Constant (.str y) kd cp) (cEnv scope ns cl qual c1 fr)) :: [])) _ _ _
  unfold spliced
  simp only [Bool.false_eq_true, if_false]
  rw [arm_eval_Constant]
  refine wpAny_bind (wpAny_mkText ?_)
  have Y1 := Y.tok (tk := s.toks + 1)
  refine wpAny_bind (wpAny_pure ?_)
  refine wpAny_bind (wpAny_holding (wpAny_pure (wpAny_pure ?_)))
  refine Y1.newFrozen (c := "list") (by rfl) (by show 1 ≤ sizeLine; decide) fun a s2 F2 Y2 => ?_
  exact c_storeN ⟨oD, D, Y2⟩ hnP hk hx fun s' b' => q a s.toks _ s' (le_put F2.p) (put_self _ _ _) b'
end Mine
namespace Mine
variable {prog : Program} {w : World} {X : Fix} {Γ : List (Str × VP)} {ψ ω φ : PM} {s s' : Shared} {k : Nat} {n b : Bool} {m : Str → Option Value} {μ : Md} {A : Around} {env : Env} {sc scope : Scope}
variable {E : Value → Shared → Prop}
noncomputable def dName : Stmt → Str | .FunctionDef n _ _ _ _ _ _ _ _ _ => n | _ => ""
noncomputable def dArgs : Stmt → List Arg | .FunctionDef _ a _ _ _ _ _ _ _ _ => a.args | _ => []
noncomputable def dBody : Stmt → List Stmt | .FunctionDef _ _ b _ _ _ _ _ _ _ => b | _ => []
noncomputable def dScope : Stmt → Scope | .FunctionDef _ _ _ _ _ _ sc _ _ _ => sc | _ => { kind := .function, names := [], isGenerator := false, isCoroutine := false }
inductive FK (ψ : PM) (clos : List (Str × Addr)) (d : Stmt) (f : Addr) : Prop
  | mk (pm : _) (cd : _) (ct : _) (h1 : ψ f = some { cls := .type "function", data := .func (fnD (dName d) (qK ++ "." ++ dName d) (plainA (dArgs d)) (.stmts (dBody d)) (dScope d) clos pm cd ct) }) (h2 : CodeK ψ cd (qK ++ "." ++ dName d)) : FK ψ clos d f
theorem FK.le {clos : List (Str × Addr)} {d : Stmt} {f : Addr} (h : FK φ clos d f) (l : Le φ ψ) : FK ψ clos d f := let ⟨pm, cd, ct, a, b⟩ := h; ⟨pm, cd, ct, l _ _ a, b.le l⟩
noncomputable abbrev kvB (pm t1 t2 : Tok) (fl : Int) (sl f0 f1 f2 f3 f4 f5 : Addr) : List (Str × Value) :=
  [("__module__", .str "cpy313.functools" pm), ("__qualname__", .str qK t1), ("__firstlineno__", .int fl t2), ("__slots__", .ref sl), ("__init__", .ref f0), ("__lt__", .ref f1), ("__gt__", .ref f2), ("__eq__", .ref f3), ("__le__", .ref f4), ("__ge__", .ref f5), ("__hash__", .none)]
inductive BdK (ds : Nat → Stmt) (c : Addr) (ψ : PM) (kvs : List (Str × Value)) : Prop
  | mk (pm : _) (t1 : _) (t2 : _) (fl : _) (sl : _) (f0 : _) (f1 : _) (f2 : _) (f3 : _) (f4 : _) (f5 : _) (tks : _) (h1 : kvs = kvB pm t1 t2 fl sl f0 f1 f2 f3 f4 f5) (h2 : ψ sl = some (lst [.str "obj" tks] 0)) (h3 : FK ψ [] (ds 0) f0) (h4 : FK ψ [("mycmp", c)] (ds 1) f1) (h5 : FK ψ [("mycmp", c)] (ds 2) f2) (h6 : FK ψ [("mycmp", c)] (ds 3) f3) (h7 : FK ψ [("mycmp", c)] (ds 4) f4) (h8 : FK ψ [("mycmp", c)] (ds 5) f5) : BdK ds c ψ kvs
theorem BdK.le {ds : Nat → Stmt} {c : Addr} {kvs : List (Str × Value)} (h : BdK ds c φ kvs) (l : Le φ ψ) : BdK ds c ψ kvs := by
  obtain ⟨pm, t1, t2, fl, sl, f0, f1, f2, f3, f4, f5, tks, h0, h1, a0, a1, a2, a3, a4, a5⟩ := h
  exact ⟨pm, t1, t2, fl, sl, f0, f1, f2, f3, f4, f5, tks, h0, l _ _ h1, a0.le l, a1.le l, a2.le l, a3.le l, a4.le l, a5.le l⟩
inductive KCls (ds : Nat → Stmt) (c : Addr) (ψ : PM) (K : Addr) : Prop
  | mk (g : _) (tn : _) (tq : _) (n2 : _) (d : _) (md : _) (tk : _) (st : _) (sts : _) (kvs : _) (h1 : ψ K = some (kO g tn tq qK n2 [.ref K, .type "object"] false ["obj"] [some (.builtin "object.__new__"), some (.bool false)])) (h2 : ψ n2 = some d) (h3 : DI d (kvF md (putKV "__static_attributes__" (.ref st) kvs))) (h4 : ψ md = some (mdO K tk)) (h5 : ψ st = some (tupO sts)) (h6 : BdK ds c ψ kvs) : KCls ds c ψ K
theorem KCls.le {ds : Nat → Stmt} {c K : Addr} (h : KCls ds c φ K) (l : Le φ ψ) : KCls ds c ψ K := by
  obtain ⟨g, tn, tq, n2, d, md, tk, st, sts, kvs, h1, h2, h3, h4, h5, h6⟩ := h
  exact ⟨g, tn, tq, n2, d, md, tk, st, sts, kvs, l _ _ h1, l _ _ h2, h3, l _ _ h4, l _ _ h5, h6.le l⟩
theorem newK {ds : Nat → Stmt} {c g ns st : Addr} {tn : Tok} {sts : List Value} {oD : Obj} {kvs : List (Str × Value)} {Q : Value → Shared → Prop} (Y : S X m ψ ω s) (hg : ψ g = some (tupO [.type "object"])) (hn : ω ns = some oD) (hmods : ∃ o, ψ sysModules = some o)
    (hany : NsKnows ψ cStatics "thirdparty.any" none) (D : DI oD (putKV "__static_attributes__" (.ref st) kvs)) (hb : BdK ds c ψ kvs) (hst : ψ st = some (tupO sts))
    (q : ∀ K ψ' s', Le ψ ψ' → KCls ds c ψ' K → S X m ψ' ω s' → Q (.ref K) s') : wpAny (model prog w) A (call (.type "type") [.str "K" tn, .ref g, .ref ns]) Q E s := by
  have hb0 := hb
  obtain ⟨pm, t1, t2, fl, sl, f0, f1, f2, f3, f4, f5, tks, rfl, h1, a0, a1, a2, a3, a4, a5⟩ := hb
  have fnS : ∀ {cl d f}, FK ψ cl d f → NoSet ψ (.ref f) := fun h => let ⟨_, _, _, a, _⟩ := h; NoSet.ref a rfl set_fn
  refine call_type3 (tnew_ok Y hg hn D hmods (by rfl) (by rfl) (by rfl) h1 ⟨t1, by rfl⟩ (by rfl) (by show (12 : Nat) < 100; decide) ⟨by rfl, by rfl, by rfl, by rfl, by rfl, by rfl⟩ (by rfl) (by rfl) ?_ hany ?_)
  · intro kv hkv
    rcases mem_put hkv with h | h
    · simp only [List.mem_cons, List.not_mem_nil, or_false] at h
      rcases h with rfl | rfl | rfl | rfl | rfl | rfl | rfl | rfl | rfl | rfl | rfl
      · exact NoSet.str
      · exact NoSet.str
      · exact NoSet.int
      · exact NoSet.ref h1 rfl set_list
      · exact fnS a0
      · exact fnS a1
      · exact fnS a2
      · exact fnS a3
      · exact fnS a4
      · exact fnS a5
      · exact NoSet.none
    · rw [h]; exact NoSet.ref hst rfl set_tuple
  · intro K n2 d md tk tq ψ' s' l k1 k2 k3 k4 Y'
    exact ⟨K, rfl, ⟨_, Y'.sub _ _ k1, rfl⟩, q K ψ' s' l ⟨_, _, _, _, _, _, _, _, _, _, k1, k2, k3, k4, l _ _ hst, hb0.le l⟩ Y'⟩
end Mine
namespace Mine
variable {prog : Program} {w : World} {X : Fix} {Γ : List (Str × VP)} {ψ ω φ : PM} {s s' : Shared} {k : Nat} {n b : Bool} {m : Str → Option Value} {μ : Md} {A : Around} {env : Env} {sc scope : Scope}
variable {E : Value → Shared → Prop}
theorem cls_ok {ds : Nat → Stmt} {c : Addr} {bd : List Stmt} {statics : List Str} {px pos : Pos} {cc P : Addr} {clos : List (Str × Addr)} {Q : Flow → Shared → Prop} (Y : S X m ψ ω s) (cx : CX ⟨k, n⟩ X)
    (hobj : BN ψ "object" (.type "object")) (hko : X.env.scope.names.lookup ("object" : Str) = some .globalImplicit) (hbc : NsKnows ψ builtinsNs "__build_class__" (some (.builtin "__build_class__"))) (hqual : qualnameIn X.env "K" "K" = qK)
    (hany : NsKnows ψ cStatics "thirdparty.any" none) (hmods : ∃ o, ψ sysModules = some o) (hcc : (scope.names.lookup ("__class__" : Str) == some NameKind.cell) = false) (hcd : (scope.names.lookup ("__classdict__" : Str) == some NameKind.cell) = false) (hsk : scope.kind = .class)
    (hcode : X.env.code = .ref cc) (C : CodeHdP ψ cc P) (hP : (P, tabObj #[]) ∈ X.tb) (hT : TopMk ψ) (hcl : closureFor scope X.env = pure clos) (hlim : NsKnows ψ cStatics "sys.recursionlimit" none) (hdep : X.A.depth + 20 < 1000)
    (hnm1 : scope.names.lookup ("__name__" : Str) = none) (hnm2 : scope.names.lookup ("__module__" : Str) = some NameKind.local) (hnm3 : scope.names.lookup ("__qualname__" : Str) = none) (hnm4 : scope.names.lookup ("__firstlineno__" : Str) = none) (hnm5 : scope.names.lookup ("__static_attributes__" : Str) = none)
    (hbody : ∀ (R : Result → Shared → Prop) ns c1 P1 fr ψ' s' pm t1 t2, Le ψ ψ' → ns ≠ P1 → CodeHdP ψ' c1 P1 →
      CB (X.setTb P (tabObj #[rawInt pos.line, rawInt pos.col, .ref c1])) m ω ns P1 [("__module__", pm), ("__qualname__", .str qK t1), ("__firstlineno__", .int pos.line t2)] #[] ψ' s' →
      (∀ ψ2 kvs2 ps2 s2, Le ψ' ψ2 → BdK ds c ψ2 kvs2 → CB (X.setTb P (tabObj #[rawInt pos.line, rawInt pos.col, .ref c1])) m ω ns P1 kvs2 ps2 ψ2 s2 → R (.ok .next) s2) →
      codeAny (model prog w) (X.A.mark none) (.body bd (cEnv scope ns clos qK c1 fr)) R s')
    (hst : stores X "K")
    (q : ∀ K c1 ψ' s', Le ψ ψ' → KCls ds c ψ' K → S (X.setTb P (tabObj #[rawInt pos.line, rawInt pos.col, .ref c1])) (fun y => if y = "K" then some (.ref K) else m y) ψ' ω s' → Q .next s') :
    wpAny (model prog w) X.A (exec (.ClassDef "K" [.Name "object" px] [] bd [] [] scope none "K" statics pos) X.env) Q E s := by
  have e : exec (.ClassDef "K" [.Name "object" px] [] bd [] [] scope none "K" statics pos) X.env = (do
      let decos ← evalAll (evalEach [] X.env)
      standAt pos
      buildClassGuard X.env
      let c ← holding decos do
        let a ← evalArgs (.builtin "__build_class__") false (backTo pos (starEach [.Name "object" px] X.env)) (backToKw pos (keywordEach [] X.env))
        standAt pos
        holding (a.pos ++ a.kw.map (·.2)) (buildClass "K" (qualnameIn X.env "K" "K") a.pos a.kw bd scope statics (firstLineOf [] pos) X.env pos none)
      let c ← decorate (decos.zip (([] : List Expr).map (·.pos))).reverse c
      standAt pos
      bindName X.env "K" c
      pure .next) := rfl
  rw [e]
  refine wpAny_bind (wpAny_pure ?_)
  refine wpAny_bind (wpAny_standAt ?_)
  unfold buildClassGuard
  obtain ⟨mb, nb, hmb⟩ := hbc.ns Y.sub
  rw [show X.env.builtins = builtinsNs from Y.fram.bi]
  refine wpAny_bind (wpAny_bind (wpAny_nsGet nb ?_))
  rw [hmb]
  refine wpAny_pure ?_
  refine wpAny_bind (wpAny_holding ?_)
  unfold evalArgs
  have hEv : EvA prog w ⟨k, n⟩ X.env.scope [] ψ [.Name "object" px] [vVal (.type "object")] := EvA.cons (ev_b hobj hko) EvA.nil rfl
  refine wpAny_bind ?_
  refine wpAny_bind ?_
  refine spliced_ok rfl hEv (Y.cx cx) (Le.refl _) Y.fram Typ.nil fun vs ψ1 s1 g1 p1 => ?_
  obtain ⟨v, rfl, hv⟩ : ∃ v, vs = [v] ∧ v = .type "object" := by
    cases p1 with
    | cons h t => cases t with | nil => exact ⟨_, rfl, h⟩
  subst hv
  have Y1 := Y.grow cx g1
  have l1 := g1.le
  refine wpAny_bind (wpAny_pure ?_)
  dsimp only
  refine wpAny_holding ?_
  refine ite_yes rfl ?_
  refine wpAny_bind (wpAny_pure ?_)
  refine wpAny_bind (wpAny_pure ?_)
  refine wpAny_pure ?_
  refine wpAny_bind (wpAny_standAt ?_)
  refine wpAny_holding ?_
  rw [hqual]
  show wpAny _ _ (buildClass "K" qK [.type "object"] [] bd scope statics pos.line X.env pos none) _ _ _
  have fin : ∀ K c1 ψ2 s2, Le ψ ψ2 → KCls ds c ψ2 K → S (X.setTb P (tabObj #[rawInt pos.line, rawInt pos.col, .ref c1])) m ψ2 ω s2 →
      wpAny (model prog w) X.A (do
        let c ← decorate (([] : List Value).zip (([] : List Expr).map (·.pos))).reverse (.ref K)
        standAt pos
        bindName X.env "K" c
        pure Flow.next) Q E s2 := fun K c1 ψ2 s2 l2 hK Y2 => by
    refine wpAny_bind (wpAny_pure ?_)
    refine wpAny_bind (wpAny_standAt ?_)
    refine wpAny_bind (wpAny_bindName ?_)
    exact Y2.store (X := X.setTb P (tabObj #[rawInt pos.line, rawInt pos.col, .ref c1])) hst fun s3 Y3 => wpAny_pure (q K c1 ψ2 s3 l2 hK Y3)
  refine build_ok (BdK ds c) (fun _ _ _ l h => h.le l) Y1 (let ⟨o, h⟩ := hmods; ⟨o, l1 _ _ h⟩) hcc hcd hsk hcode (C.le l1) hP (hT.le l1) hcl (hlim.le l1) hdep hnm1 hnm2 hnm3 hnm4 hnm5 ?_ ?_
  · intro R ns c1 P1 fr ψ' oD s' pm t1 t2 l' hn1 hn2 hne hC D Y' hR
    exact hbody R ns c1 P1 fr ψ' s' pm t1 t2 (l1.trans l') hne hC ⟨oD, D, Y'⟩ fun ψ2 kvs2 ps2 s2 l2 hb b2 => let ⟨oD2, D2, Y2⟩ := b2; hR ψ2 oD2 kvs2 ps2 s2 l2 D2 hb Y2
  · intro c1 g ns tn st sts oD kvs ψ' s' l' hg hn D hb hst' Y'
    refine newK Y' hg (put_self _ _ _) (let ⟨o, h⟩ := hmods; ⟨o, l' _ _ (l1 _ _ h)⟩) (hany.le (l1.trans l')) D hb hst' fun K ψ2 s2 l2 hK Y2 => ?_
    exact fin K c1 ψ2 s2 (l1.trans (l'.trans l2)) hK (Y2.forget (le_put hn))
end Mine
namespace Mine
variable {prog : Program} {w : World} {X : Fix} {Γ : List (Str × VP)} {ψ ω φ : PM} {s s' : Shared} {k : Nat} {n b : Bool} {m : Str → Option Value} {μ : Md} {A : Around} {env : Env} {sc scope : Scope}
variable {E : Value → Shared → Prop}
theorem cf_go {y : Str} {c : Addr} {env : Env} (hc : env.cells.lookup y = some c) : ∀ (names : List (Str × NameKind)) (acc : List (Str × Addr)), (names.all fun p => !(p.2 == .free) || p.1 == y) = true →
    (forIn names acc (fun p r => if (p.2 == NameKind.free) = true then (do let a ← cellOf env p.1; pure (ForInStep.yield ((p.1, a) :: r))) else pure (ForInStep.yield r)) : Sem (List (Str × Addr))) = pure (((names.filter (·.2 == .free)).map (fun p => (p.1, c))).reverse ++ acc)
  | [], acc, _ => rfl
  | (x, k) :: r, acc, h => by
    rw [List.all_cons, Bool.and_eq_true] at h
    have ih := fun acc => cf_go hc r acc h.2
    rw [List.forIn_cons]
    by_cases q : (k == NameKind.free) = true
    · have hx : x = y := by
        have := h.1; rw [q] at this; simpa using this
      subst hx
      have hcell : cellOf env x = pure c := by unfold cellOf; rw [hc]
      simp only [q, if_true, hcell, pure_bind, List.filter_cons, List.map_cons, List.reverse_cons, List.append_assoc, List.singleton_append]
      exact ih _
    · simp only [q, if_false, pure_bind, List.filter_cons]
      exact ih _
theorem closure_one {y : Str} {c : Addr} {env : Env} {scope : Scope} (hc : env.cells.lookup y = some c) (h : (scope.names.all fun p => !(p.2 == .free) || p.1 == y) = true) (hn : (scope.names.filter (·.2 == .free)).map (·.1) = [y]) : closureFor scope env = pure [(y, c)] := by
  have h1 := cf_go hc scope.names [] h
  have h2 : (scope.names.filter (·.2 == .free)).map (fun p => (p.1, c)) = [(y, c)] := by
    have := congrArg (List.map (fun x => (x, c))) hn
    simpa [List.map_map] using this
  rw [h2] at h1
  unfold closureFor
  show (forIn scope.names ([] : List (Str × Addr)) (fun p r => if (p.2 == NameKind.free) = true then (do let a ← cellOf env p.1; pure (ForInStep.yield ((p.1, a) :: r))) else pure (ForInStep.yield r)) >>= pure : Sem (List (Str × Addr))) = _
  rw [h1]; rfl
theorem closure_nil {env : Env} {scope : Scope} (h : (scope.names.all fun p => !(p.2 == .free)) = true) : closureFor scope env = pure [] := by
  unfold closureFor
  have go : ∀ (names : List (Str × NameKind)) (acc : List (Str × Addr)), (names.all fun p => !(p.2 == .free)) = true → (forIn names acc (fun p r => if (p.2 == NameKind.free) = true then (do let a ← cellOf env p.1; pure (ForInStep.yield ((p.1, a) :: r))) else pure (ForInStep.yield r)) : Sem (List (Str × Addr))) = pure acc := by
    intro names
    induction names with
    | nil => intro acc _; rfl
    | cons p r ih =>
      intro acc h
      rw [List.all_cons, Bool.and_eq_true] at h
      rw [List.forIn_cons]
      have q : (p.2 == NameKind.free) = false := by have := h.1; simpa using this
      simp only [q, Bool.false_eq_true, if_false, pure_bind]
      exact ih _ h.2
  show (forIn scope.names ([] : List (Str × Addr)) (fun p r => if (p.2 == NameKind.free) = true then (do let a ← cellOf env p.1; pure (ForInStep.yield ((p.1, a) :: r))) else pure (ForInStep.yield r)) >>= pure : Sem (List (Str × Addr))) = _
  rw [go _ _ h]; rfl
noncomputable def vCls (ds : Nat → Stmt) (PF : VP) : VP := ⟨fun ψ v => ∃ K c o fv, v = .ref K ∧ KCls ds c ψ K ∧ ψ c = some o ∧ o.data = .cell (some fv) ∧ PF.p ψ fv, fun l ⟨K, c, o, fv, a, b, d, e, f⟩ => ⟨K, c, o, fv, a, b.le l, l _ _ d, e, PF.mono l f⟩⟩
noncomputable def SpecT (prog : Program) (w : World) (μ : Md) (φ : PM) (f : Value) (P : Addr) (Ps : List VP) (R : VP) : Prop :=
  ∀ A ψ s vs (Q : Value → Shared → Prop) (E : Value → Shared → Prop), Cx μ A ψ s → Le φ ψ → All2 (fun (P : VP) v => P.p ψ v) Ps vs → s.heap.get? P = some (tabObj #[]) → ψ P = none → P ∉ frs A →
    (∀ v ψ' s' ps, Grow (P :: frs A) ψ s ψ' s' → s'.heap.get? P = some (tabObj ps) → ψ' P = none → R.p ψ' v → Q v s') → wpAny (model prog w) A (call f vs) Q E s
end Mine
namespace Mine
variable {prog : Program} {w : World} {X : Fix} {Γ : List (Str × VP)} {ψ ω φ : PM} {s s' : Shared} {k : Nat} {n b : Bool} {m : Str → Option Value} {μ : Md} {A : Around} {env : Env} {sc scope : Scope}
variable {E : Value → Shared → Prop}
theorem KCls.at {ds : Nat → Stmt} {c K : Addr} {h : Heap} (x : KCls ds c ψ K) (hs : Sub ψ h) : ∃ md st kvs, KAt h K (kvF md (putKV "__static_attributes__" (.ref st) kvs)) ∧ BdK ds c ψ kvs ∧ (∃ tk, ψ md = some (mdO K tk)) := by
  obtain ⟨g, tn, tq, n2, d, md, tk, st, sts, kvs, h1, h2, h3, h4, h5, h6⟩ := x
  exact ⟨md, st, kvs, ⟨⟨_, _, d, hs _ _ h1, rfl, rfl, rfl, rfl, ⟨rfl, rfl⟩, hs _ _ h2, h3⟩⟩, h6, tk, h4⟩
theorem KCls.makes {ds : Nat → Stmt} {c K : Addr} {h : Heap} (x : KCls ds c ψ K) (hs : Sub ψ h) : Makes (model prog w) h K := by
  obtain ⟨md, st, kvs, T, -, -⟩ := x.at hs
  obtain ⟨g, tn, tq, n2, d, md', tk, st', sts, kvs', h1, h2, h3, h4, h5, h6⟩ := x
  have hK := hs _ _ h1
  have hT : ∀ s : Shared, (∀ b o, h.get? b = some o → s.heap.get? b = some o) → s.TypeIs (.ref K) "type" := fun s k => ⟨_, k _ _ hK, rfl⟩
  have made : Looks (model prog w) h (Bind.madeBy (.ref K)) (some "object.__new__") := fun A Q E s k q => by
    unfold Bind.madeBy
    refine wpAny_bind ((T.keeps k).mro ?_)
    refine wpAny_bind ?_
    rw [List.forIn_cons]
    refine wpAny_bind ?_
    refine wpAny_bind (slot_extra (k _ _ hK) (r := some (.builtin "object.__new__")) (by rfl) ?_)
    exact wpAny_pure (wpAny_pure (wpAny_pure q))
  refine ⟨⟨_, _, _, _, hK, rfl, rfl, rfl⟩, made, fun A Q E s k q => ?_, fun A Q E s k q => ?_, fun A Q E s k q => ?_, fun A Q E s k q => ?_, fun A Q E s k q => ?_⟩
  · unfold Bind.staticBase
    refine wpAny_bind ((T.keeps k).mro ?_)
    refine wpAny_bind ?_
    rw [List.forIn_cons]
    refine wpAny_bind ?_
    refine wpAny_bind (made _ _ _ _ k ?_)
    exact wpAny_pure (wpAny_pure (wpAny_pure q))
  · exact (T.keeps k).sub (by simpa using q)
  · exact (T.keeps k).sub (by simpa using q)
  · exact wpAny_specialOf (hT s k) PySem.F.lookup_type_call q
  · exact wpAny_isInstance (hT s k) tt_sub q
theorem nsIn_of {F : Frag} {n2 : Addr} {d : Obj} {kvs : List (Str × Value)} {x : Str} (h : F.lookup n2 = some d) (D : DI d kvs) : nsIn F n2 x = some (kvs.lookup x) := by
  obtain ⟨hc, es, ep, hd, hall⟩ := D
  obtain ⟨c, dd, dt, sl⟩ := d
  dsimp only at hd
  subst hd
  obtain ⟨h1, h2⟩ := all2_find (x := x) hall
  unfold nsIn
  rw [h]
  dsimp only
  cases q : es.toList.find? (·.key.isStr x) with
  | some e => rw [q] at h1; rw [← h1]; rfl
  | none => rw [q] at h1; rw [← h1]; simp only [Option.map_none]; rw [if_neg (by rw [h2]; decide)]
structure KFg (F : Frag) (K : Addr) (md : Addr) (kvs : List (Str × Value)) : Prop where
  cls : ∃ cd oK, clsIn F K = some cd ∧ F.lookup K = some oK ∧ cd.mro = [.ref K, .type "object"] ∧ cd.slotNames = (["obj"] : List Str) ∧ cd.hasDict = false ∧ ∀ x, nsIn F cd.ns x = some (kvs.lookup x)
  rec_ : ∃ tk, recIn F md "member_descriptor" = some [.str "obj" tk, .ref K, .builtin "proto.slot", .builtin "proto.slot#set", rawInt 0]
  typ : typeIn F (.ref md) = some (.type "member_descriptor")
theorem KCls.frag {ds : Nat → Stmt} {c K : Addr} (x : KCls ds c ψ K) : ∃ F md st kvs, KFg F K md (kvF md (putKV "__static_attributes__" (.ref st) kvs)) ∧ BdK ds c ψ kvs ∧ ∀ h, Sub ψ h → Frag.In F h := by
  obtain ⟨g, tn, tq, n2, d, md, tk, st, sts, kvs, h1, h2, h3, h4, h5, h6⟩ := x
  have e1 : K ≠ n2 := fun q => by
    rw [q, h2] at h1
    have := h3.cls
    rw [Option.some.inj h1] at this
    exact absurd (show Value.type "type" = Value.type "dict" from this) (by decide)
  have e2 : K ≠ md := fun q => by rw [q, h4] at h1; exact absurd (show Value.type "member_descriptor" = Value.type "type" from congrArg Obj.cls (Option.some.inj h1)) (by decide)
  have e3 : n2 ≠ md := fun q => by
    rw [q, h4] at h2
    have := h3.cls
    rw [← Option.some.inj h2] at this
    exact absurd (show Value.type "member_descriptor" = Value.type "dict" from this) (by decide)
  have b1 : (n2 == K) = false := by simpa using Ne.symm e1
  have b2 : (md == K) = false := by simpa using Ne.symm e2
  have b3 : (md == n2) = false := by simpa using Ne.symm e3
  let kk := kO g tn tq qK n2 [.ref K, .type "object"] false ["obj"] [some (.builtin "object.__new__"), some (.bool false)]
  have lK : List.lookup K [(K, kk), (n2, d), (md, mdO K tk)] = some kk := by simp [List.lookup_cons]
  have ln : List.lookup n2 [(K, kk), (n2, d), (md, mdO K tk)] = some d := by simp [List.lookup_cons, b1]
  have lm : List.lookup md [(K, kk), (n2, d), (md, mdO K tk)] = some (mdO K tk) := by simp [List.lookup_cons, b2, b3]
  refine ⟨[(K, kk), (n2, d), (md, mdO K tk)], md, st, kvs, ⟨⟨_, kk, by unfold clsIn; rw [lK]; rfl, lK, rfl, rfl, rfl, fun x => nsIn_of ln h3⟩, ⟨tk, by unfold recIn; rw [lm]; rfl⟩, by show (List.lookup md [(K, kk), (n2, d), (md, mdO K tk)]).map (·.cls) = _; rw [lm]; rfl⟩, h6, fun h hs a o e => ?_⟩
  simp only [List.lookup_cons] at e
  split at e
  · rename_i q; cases e; rw [eq_of_beq q]; exact hs _ _ h1
  · split at e
    · rename_i q; cases e; rw [eq_of_beq q]; exact hs _ _ h2
    · split at e
      · rename_i q; cases e; rw [eq_of_beq q]; exact hs _ _ h4
      · cases e
theorem KFg.own {F : Frag} {K md : Addr} {kvs : List (Str × Value)} {x : Str} (f : KFg F K md kvs) : ownIn F x (.ref K) = some (kvs.lookup x) := by
  obtain ⟨cd, oK, h1, h2, h3, h4, h5, h6⟩ := f.cls
  unfold clsIn at h1
  show (match F.lookup K with | some ⟨_, _, .cls cd, _⟩ => nsIn F cd.ns x | _ => none) = _
  rw [h2] at h1 ⊢
  obtain ⟨c, dd, dt, sl⟩ := oK
  cases dt <;> first | (cases h1; exact h6 x) | cases h1
theorem KFg.find {F : Frag} {K md : Addr} {kvs : List (Str × Value)} {x : Str} {r : Option Value} (f : KFg F K md kvs) (h : kvs.lookup x = none → fastBuiltinOwn "object" x = r) (h' : ∀ v, kvs.lookup x = some v → r = some v) : findIn F (.ref K) x = some r := by
  have ho := f.own (x := x)
  obtain ⟨cd, oK, h1, h2, h3, h4, h5, h6⟩ := f.cls
  have e : findIn F (.ref K) x = alongIn F x cd.mro := by
    show (match F.lookup K with | some ⟨_, _, .cls cd, _⟩ => alongIn F x cd.mro | _ => none) = _
    unfold clsIn at h1
    rw [h2] at h1 ⊢
    obtain ⟨c, dd, dt, sl⟩ := oK
    cases dt <;> first | (cases h1; rfl) | cases h1
  rw [e, h3]
  unfold alongIn
  rw [ho]
  cases z : kvs.lookup x with
  | some v => rw [h' v z]
  | none =>
    show alongIn F x [.type "object"] = _
    have e2 : ownIn F x (.type "object") = some r := by show some (fastBuiltinOwn "object" x) = _; rw [h z]
    unfold alongIn
    rw [e2]
    cases r <;> rfl
theorem slots_ref {h : Heap} {F : Frag} {K md : Addr} {kvs : List (Str × Value)} (f : KFg F K md kvs) : slotIn F md K = some 0 := by
  obtain ⟨cd, oK, h1, h2, h3, h4, h5, h6⟩ := f.cls
  obtain ⟨tk, hr⟩ := f.rec_
  unfold slotIn
  rw [hr, h1]
  dsimp only [rawInt]
  rw [h3, h4]
  simp
open PySem.Builtin PySem.Builtin.ObjectAttr PySem.Builtin.Getset_descriptor in
theorem slot_put {ox : Obj} {od : Option Obj} {F : Frag} {x C p : Addr} {v : Value} {R : Result → Shared → Prop} (X : F.In s.heap) (I : InstAt s.heap x ox C od) (hp : slotIn F p C = some 0)
    (h : R (.ok (.ret .none)) { s with heap := s.heap.update x fun o => { o with slots := (o.slots ++ Array.replicate (0 + 1 - o.slots.size) none).setIfInBounds 0 (some v) } }) :
    codeAny (model prog w) A (.call (.builtin "member_descriptor.__set__") ⟨[.ref p, .ref x, v], []⟩) R s := by
  obtain ⟨n, tn, owner, behind, tb, d, sl, cd, ho, hc, hm, hb, hi⟩ := slot_of X hp
  obtain ⟨hh, g, dr, t, os⟩ := s
  have L0 := I.type (M := model prog w)
  have L1 := looks_mroIn (M := model prog w) X hm
  have L2 : Looks (model prog w) hh (Builtin.Slots.slotNamesOf (.ref C)) cd.slotNames := (looks_clsIn X hc).andThen .now
  have hx := I.at_
  dsimp only at ho hx L0 L1
  have f0 := looks_field (M := model prog w) ho 0 (v := .str n tn) rfl
  have f1 := looks_field (M := model prog w) ho 1 (v := owner) rfl
  have f3 := looks_field (M := model prog w) ho 3 (v := .builtin "proto.slot#set") rfl
  have f4 := looks_field (M := model prog w) ho 4 (v := .int behind tb) rfl
  refine codeAny_call_builtin KF.slot_mset.plain KF.entry_mset (KF.slot_mset.check _ _ _ _ _ _ _ _ ⟨_, ho, rfl⟩ (KF.args_mset _ _ _) ?_)
  unfold Builtin.«member_descriptor.__set__» descrSet descrStoreThrough descrCheckInstance descrNameAndClass isInstance
  have f5 : Looks (model prog w) hh (descrItself (.ref p)) [.ref p] := ((Looks.ld (part := none) ho).andThen .now).andThen (Looks.of_pure (by kernel_rfl))
  repeat lk
  refine ⟨Code.quiet_builtin _ (by decide +kernel), codeAny_builtin KF.entry_slotset ?_⟩
  unfold Builtin.«proto.slot#set» Builtin.Slots.target
  repeat lk
  rw [if_neg hb]
  refine wpAny_pure (wpAny_bind ?_)
  unfold setSlotAt
  dsimp only
  rw [if_neg (by rw [sizeLine_eq, ← hi]; omega), ← hi]
  exact wpAny_updatePart hx (wpAny_pure h)
end Mine
namespace Mine
variable {prog : Program} {w : World} {X : Fix} {Γ : List (Str × VP)} {ψ ω φ : PM} {s s' : Shared} {k : Nat} {n b : Bool} {m : Str → Option Value} {μ : Md} {A : Around} {env : Env} {sc scope : Scope}
variable {E : Value → Shared → Prop}
noncomputable def inO (K dx : Addr) (v : Value) : Obj := { cls := .ref K, dict := some dx, data := .plain, slots := #[some v] }
theorem KCls.setObj {ds : Nat → Stmt} {c K x dx : Addr} {v : Value} {Q : Unit → Shared → Prop} (hK : KCls ds c ψ K) (hs : Sub ψ s.heap) (hx : s.heap.get? x = some (instObj K dx)) (hd : s.heap.get? dx = some emptyDict)
    (q : ∀ tk, Q () { s with heap := s.heap.update x fun o => { o with slots := (o.slots ++ Array.replicate (0 + 1 - o.slots.size) none).setIfInBounds 0 (some v) }, toks := tk }) : wpAny (model prog w) A (setAttr (.ref x) "obj" v) Q E s := by
  obtain ⟨F, md, st, kvs, f, hb, hin⟩ := hK.frag
  obtain ⟨pm, t1, t2, fl, sl, f0, f1, f2, f3, f4, f5, tks, rfl, -⟩ := hb
  have X := hin _ hs
  have I : InstAt s.heap x (instObj K dx) K (some emptyDict) := ⟨hx, rfl, rfl, hd⟩
  have hset : findIn F (.ref K) "__setattr__" = some (some (.builtin "object.__setattr__")) := f.find (fun _ => by kernel_rfl) (fun v e => by cases e)
  refine set_plain X I hset ?_
  obtain ⟨cd, oK, h1, h2, h3, h4, h5, h6⟩ := f.cls
  have hpo : plainOver F K = true := by unfold plainOver; rw [h1]; show onlyObject cd.mro = true; rw [h3]; rfl
  have hobj : findIn F (.ref K) "obj" = some (some (.ref md)) := f.find (fun e => by cases e) (fun v e => by cases e; rfl)
  have htk : takesIn F (.ref md) = some true := by
    unfold takesIn specialIn
    rw [f.typ]
    kernel_rfl
  have htaker : takerIn F K "obj" = some (some (.ref md)) := by unfold takerIn; rw [hobj]; show (takesIn F (.ref md)).map _ = _; rw [htk]; rfl
  refine osa_descr (s := { s with toks := s.toks + 1 }) KF.slot_mset (by exact X) (by exact I) hpo htaker f.typ ?_
  exact slot_put (s := { s with toks := s.toks + 1 }) (by exact X) (by exact I) (slots_ref (h := s.heap) f) (q _)
theorem FK.fnK {cl : List (Str × Addr)} {d : Stmt} {f : Addr} (h : FK ψ cl d f) (hlim : NsKnows ψ cStatics "sys.recursionlimit" none) (hk : (dScope d).kind = .function) (hco : (dScope d).isCoroutine = false) (hg : (dScope d).isGenerator = false) :
    ∃ pm cd ct, FnK ψ f (fnD (dName d) (qK ++ "." ++ dName d) (plainA (dArgs d)) (.stmts (dBody d)) (dScope d) cl pm cd ct) := by
  obtain ⟨pm, cd, ct, ho, c, oc, vs, tq, rfl, h1, h2, h3⟩ := h
  exact ⟨pm, _, ct, ⟨_, ho, rfl⟩, rfl, rfl, hk, hco, hg, ⟨c, oc, vs, tq, rfl, h1, h2, h3⟩, hlim⟩
end Mine
namespace Mine
variable {prog : Program} {w : World} {X : Fix} {Γ : List (Str × VP)} {ψ ω φ : PM} {s s' : Shared} {k : Nat} {n b : Bool} {m : Str → Option Value} {μ : Md} {A : Around} {env : Env} {sc scope : Scope}
variable {E : Value → Shared → Prop}
theorem crea_frs {C : Addr} {vs : List Value} {kw : List (Str × Value)} : frs (A.under (.builtin "type.__call__" ⟨.ref C :: vs, kw⟩)) = frs A := by
  obtain ⟨hd, d, fr, gs, u⟩ := A
  cases fr <;> rfl
theorem Cx.crea {C : Addr} {vs : List Value} {kw : List (Str × Value)} (c : Cx ⟨k + 1, n⟩ A ψ s) : Cx ⟨k, n⟩ (A.under (.builtin "type.__call__" ⟨.ref C :: vs, kw⟩)) ψ s := by
  have hd := depth_under_kw A C vs kw
  refine ⟨?_, ?_, c.none, c.hand, ?_, ?_, c.sub⟩
  · have := c.depth; simp at *; omega
  · have := c.units
    have hu : (A.under (.builtin "type.__call__" ⟨.ref C :: vs, kw⟩)).units = A.units + 1 := by
      obtain ⟨hd, d, fr, gs, u⟩ := A
      first | rfl | (show u + _ = u + 1; kernel_rfl)
    rw [hu]; simp at *; omega
  · obtain ⟨fr, e, k⟩ := c.stk
    refine ⟨fr, ?_, k⟩
    obtain ⟨hd, d, fr', gs, u⟩ := A
    cases fr' with
    | none => cases e
    | some l => exact e
  · intro b hb; rw [crea_frs] at hb; exact c.off b hb
theorem Kept.less {F : List Addr} {x b : Addr} {o : Obj} {r : Option Obj} (h : Kept (x :: F) b o r) (hb : b ≠ x) : Kept F b o r := by
  rcases h with ⟨sl, e, h⟩ | ⟨hF, h⟩
  · refine .inl ⟨sl, e, h.imp id fun ⟨hF, h⟩ => ⟨?_, h⟩⟩
    rcases List.mem_cons.mp hF with q | q
    · exact absurd q hb
    · exact q
  · refine .inr ⟨?_, h⟩
    rcases List.mem_cons.mp hF with q | q
    · exact absurd q hb
    · exact q
noncomputable def vK (ds : Nat → Stmt) (PF P : VP) : VP := ⟨fun ψ v => ∃ x K dx u c o fv, v = .ref x ∧ ψ x = some (inO K dx u) ∧ ψ dx = some emptyDict ∧ P.p ψ u ∧ KCls ds c ψ K ∧ ψ c = some o ∧ o.data = .cell (some fv) ∧ PF.p ψ fv,
  fun l ⟨x, K, dx, u, c, o, fv, a, b, b2, d, e, f, g, h⟩ => ⟨x, K, dx, u, c, o, fv, a, l _ _ b, l _ _ b2, P.mono l d, e.le l, l _ _ f, g, PF.mono l h⟩⟩
noncomputable def vKat (K : Addr) (ds : Nat → Stmt) (PF P : VP) : VP := ⟨fun ψ v => (vK ds PF P).p ψ v ∧ ∃ x dx u, v = .ref x ∧ ψ x = some (inO K dx u), fun l ⟨h, x, dx, u, e, hx⟩ => ⟨(vK ds PF P).mono l h, x, dx, u, e, l _ _ hx⟩⟩
theorem spec_K {k : Nat} {ds : Nat → Stmt} {c K : Addr} {PF P : VP} {oc : Obj} {fv : Value} (hK : KCls ds c φ K) (hc : φ c = some oc) (hoc : oc.data = .cell (some fv)) (hfv : PF.p φ fv) (hlim : NsKnows φ cStatics "sys.recursionlimit" none)
    (hsk : (dScope (ds 0)).kind = .function) (hco : (dScope (ds 0)).isCoroutine = false) (hgn : (dScope (ds 0)).isGenerator = false) (hsc : (dScope (ds 0)).names = ([("self", NameKind.local), ("obj", NameKind.local)] : List (Str × NameKind)))
    (hb0 : ∃ p1 p2 p3 p4, dBody (ds 0) = [.Assign [.Attribute (.Name "self" p1) "obj" p2] (.Name "obj" p3) p4])
    (hbind : ∀ pm cd ct a b, bindArgs (fnD (dName (ds 0)) (qK ++ "." ++ dName (ds 0)) (plainA (dArgs (ds 0))) (.stmts (dBody (ds 0))) (dScope (ds 0)) [] pm cd ct) ⟨[a, b], []⟩ = pure ([("self", a), ("obj", b)] : List (Str × Value))) :
    Spec prog w ⟨k + 6, n⟩ φ (.ref K) [P] (vKat K ds PF P) := by
  intro A ψ s vs cx l hv
  obtain ⟨v, rfl, hv1⟩ : ∃ v, vs = [v] ∧ P.p ψ v := by
    cases hv with
    | cons h t => cases t with | nil => exact ⟨_, rfl, h⟩
  have hK1 := hK.le l
  obtain ⟨md, st, kvs, T, hb, -⟩ := hK1.at cx.sub
  obtain ⟨pm, t1, t2, fl, sl, f0, f1, f2, f3, f4, f5, tks, rfl, h1, a0, a1, a2, a3, a4, a5⟩ := id hb
  have Y := hK1.makes (prog := prog) (w := w) cx.sub
  obtain ⟨pm0, cd0, ct0, FN⟩ := a0.fnK (hlim.le l) hsk hco hgn
  obtain ⟨of0, hof0, hfd0⟩ := id FN.obj
  have hi : Looks (model prog w) s.heap (typeLookup (.ref K) "__init__") (some (.ref f0)) := fun A Q E s' k q => (T.keeps k).look (fun e => by cases e) (fun v e => by cases e; rfl) q
  have hbs : ∀ self, Looks (model prog w) s.heap (bindSpecial (.ref f0) self) (.ref f0, [self]) := fun self A Q E s' k q => by
    obtain ⟨_, _, _, hfo, _⟩ := a0
    unfold bindSpecial
    exact wpAny_bind (wpAny_typeOf ⟨_, k _ _ (cx.sub _ _ hfo), rfl⟩ (ite_yes (by decide) (wpAny_pure q)))
  obtain ⟨h, g, d, t, os⟩ := s
  refine wpAny_call (make_core (h := h) Y hi hbs (.inl rfl) ?_)
  have hdx : ((h.push emptyDict).push (instObj K h.objs.size)).get? h.objs.size = some emptyDict := by heap_get
  have hx : ((h.push emptyDict).push (instObj K h.objs.size)).get? (h.objs.size + 1) = some (instObj K h.objs.size) := by heap_get
  have kp : ∀ b o, h.get? b = some o → ((h.push emptyDict).push (instObj K h.objs.size)).get? b = some o := fun b o e => Heap.get?_push_of_some _ (Heap.get?_push_of_some _ e)
  have hn0 : h.get? h.objs.size = none := get_size _
  have hn1 : h.get? (h.objs.size + 1) = none := Heap.get?_none_of_le (Nat.le_succ _)
  have hψ0 : ψ h.objs.size = none := none_of_sub cx.sub hn0
  have hψ1 : ψ (h.objs.size + 1) = none := none_of_sub cx.sub hn1
  have hne : h.objs.size + 1 ≠ h.objs.size := Nat.succ_ne_self _
  generalize (h.push emptyDict).push (instObj K h.objs.size) = h2 at hdx hx kp ⊢
  generalize h.objs.size + 1 = x at hx hn1 hψ1 hne ⊢
  generalize h.objs.size = dx at hdx hx hn0 hψ0 hne ⊢
  have hfx : x ∉ frs A := fun hm => by obtain ⟨ob, hob⟩ := frs_mem cx.stk hm; have : h.get? x = some ob := hob; rw [hn1] at this; cases this
  have ld : Le ψ (put ψ dx emptyDict) := le_put hψ0
  have hsub2 : Sub (put ψ dx emptyDict) h2 := fun b ob e => by
    by_cases z : b = dx
    · subst z; rw [put_self] at e; cases e; exact hdx
    · rw [put_ne z] at e; exact kp b ob (cx.sub b ob e)
  have g2 : Grow (frs A) ψ ⟨h, g, d, t, os⟩ (put ψ dx emptyDict) ⟨h2, g, d, t, os⟩ := ⟨Ext.of_keeps kp, ld, hsub2, fun b ob e => by
    by_cases z : b = dx
    · subst z; exact .inr hn0
    · rw [put_ne z] at e; exact .inl e⟩
  have cx2 : Cx ⟨k + 5, n⟩ (A.under (.builtin "type.__call__" ⟨[.ref K, v], []⟩)) (put ψ dx emptyDict) ⟨h2, g, d, t, os⟩ := (cx.grow g2).crea
  obtain ⟨p1, p2, p3, p4, hbody⟩ := hb0
  have hψx : put ψ dx emptyDict x = none := by rw [put_ne hne]; exact hψ1
  refine codeAny_mono (enter_code (k := k + 4) (tb := [(x, instObj K dx)]) (binds := [("self", .ref x), ("obj", v)]) (E := fun _ _ => False)
    (Q := fun r s' => r = .none ∧ ∃ ψ', Grow (frs A) ψ ⟨h, g, d, t, os⟩ ψ' s' ∧ (vKat K ds PF P).p ψ' (.ref x)) (fun p hp => by rw [List.mem_singleton] at hp; subst hp; exact ⟨hx, hψx, by rw [crea_frs]; exact hfx⟩) cx2 (FN.le ld) rfl rfl (BindsTo.of_eq (hbind _ _ _ _ _)) (by show List.all _ _ = true; dsimp only [fnD]; rw [hsc]; rfl) (by dsimp only [fnD]; rw [hsc]; rfl) (decide_eq_true (by show (List.map _ (cellsFrom 0 (dScope (ds 0)).names [])).Nodup; rw [hsc]; decide)) fun env s' he hcd Y' => ?_) fun r s' z => ?_
  · rw [hbody]
    have hks : isVar (env.scope.names.lookup ("self" : Str)) = true := by rw [he]; show isVar ((dScope (ds 0)).names.lookup _) = true; rw [hsc]; rfl
    have hko : isVar (env.scope.names.lookup ("obj" : Str)) = true := by rw [he]; show isVar ((dScope (ds 0)).names.lookup _) = true; rw [hsc]; rfl
    refine wpAny_execs_cons ?_
    refine plainObj_wpAny_Assign_Attribute ?_ (by rfl)
    refine wpAny_Name (load_var Y'.fram hko (v := v) (by rfl) ?_ (by rfl)) (by rfl)
    refine wpAny_Name (load_var Y'.fram hks (v := .ref x) (by rfl) ?_ (by rfl)) (by rfl)
    have htb := Y'.tab (x, instObj K dx) (List.mem_singleton.mpr rfl)
    refine (hK1.le ld).setObj Y'.sub htb.1 (Y'.sub _ _ (put_self _ _ _)) fun tk => ?_
    refine wpAny_execs_nil ?_
    have hup := Heap.get?_update_self (h := s'.heap) (fun o => { o with slots := (o.slots ++ Array.replicate (0 + 1 - o.slots.size) none).setIfInBounds 0 (some v) }) htb.1 (by rfl)
    have hin : ({ (instObj K dx) with slots := ((instObj K dx).slots ++ Array.replicate (0 + 1 - (instObj K dx).slots.size) none).setIfInBounds 0 (some v) } : Obj) = inO K dx v := by kernel_rfl
    have hup2 := hup.trans (congrArg some hin)
    have hoth : ∀ b, b ≠ x → (s'.heap.update x fun o => { o with slots := (o.slots ++ Array.replicate (0 + 1 - o.slots.size) none).setIfInBounds 0 (some v) }).get? b = s'.heap.get? b := fun b hb => Heap.get?_update_other _ _ (Ne.symm hb)
    have lx := le_put (o := inO K dx v) hψx
    have lf := l.trans (ld.trans lx)
    refine ⟨rfl, put (put ψ dx emptyDict) x (inO K dx v), ⟨⟨?_, fun b o e => ?_⟩, ld.trans lx, fun b ob e => ?_, fun b ob e => ?_⟩, ⟨⟨x, K, dx, v, c, oc, fv, rfl, put_self _ _ _, lx _ _ (put_self _ _ _), P.mono (ld.trans lx) hv1, hK.le lf, lf _ _ hc, hoc, PF.mono lf hfv⟩, x, dx, v, rfl, put_self _ _ _⟩⟩
    · obtain ⟨h3, tk3, e3⟩ := Y'.ext.rest
      subst e3
      exact ⟨_, _, rfl⟩
    · have hb : b ≠ x := fun z => by subst z; have e' : h.get? b = some o := e; rw [hn1] at e'; cases e'
      have kb := Y'.ext.kept b o (kp b o e)
      have hF : (Fix.F ⟨A.under (.builtin "type.__call__" ⟨[.ref K, v], []⟩), (A.under (.builtin "type.__call__" ⟨[.ref K, v], []⟩)).deeper env, put ψ dx emptyDict, ⟨h2, g, d, t, os⟩, env.locals :: env.cells.map (·.2), env, none, [(x, instObj K dx)]⟩) = x :: frs A := by
        show x :: frs (A.under _) = _; rw [crea_frs]
      rw [hF] at kb
      show Kept (frs A) b o (Heap.get? _ b)
      rw [hoth b hb]
      exact kb.less hb
    · show Heap.get? _ b = some ob
      by_cases z : b = x
      · subst z; rw [put_self] at e; cases e; exact hup2
      · rw [put_ne z] at e; rw [hoth b z]; exact Y'.sub b ob e
    · by_cases z : b = x
      · subst z; exact .inr hn1
      · rw [put_ne z] at e; exact g2.new b ob e
  · rcases r with e | (_ | _ | _ | r) <;> first | exact z.elim | exact ⟨z.1, z.2⟩
end Mine
namespace Mine
variable {prog : Program} {w : World} {X : Fix} {Γ : List (Str × VP)} {ψ ω φ : PM} {s s' : Shared} {k : Nat} {n b : Bool} {m : Str → Option Value} {μ : Md} {A : Around} {env : Env} {sc scope : Scope}
variable {E : Value → Shared → Prop}
theorem vK_get {ds : Nat → Stmt} {K x dx c : Addr} {u : Value} {expr : Bool} {Q : Value → Shared → Prop} (hK : KCls ds c ψ K) (hs : Sub ψ s.heap) (hx : ψ x = some (inO K dx u)) (hd : ψ dx = some emptyDict) (hh : handedIn u = true)
    (q : Q u { s with toks := s.toks + 1 }) : wpAny (model prog w) A (getAttr (.ref x) "obj" expr) Q E s := by
  obtain ⟨F, md, st, kvs, f, hb, hin⟩ := hK.frag
  obtain ⟨pm, t1, t2, fl, sl, f0, f1, f2, f3, f4, f5, tks, rfl, -⟩ := hb
  have X := hin _ hs
  have I : InstAt s.heap x (inO K dx u) K (some emptyDict) := ⟨hs _ _ hx, rfl, rfl, hs _ _ hd⟩
  have hga : findIn F (.ref K) "__getattribute__" = some (some (.builtin "object.__getattribute__")) := f.find (fun _ => by kernel_rfl) (fun v e => by cases e)
  have hg2 : findIn F (.ref K) "__getattr__" = some none := f.find (fun _ => by kernel_rfl) (fun v e => by cases e)
  have hobj : findIn F (.ref K) "obj" = some (some (.ref md)) := f.find (fun e => by cases e) (fun v e => by cases e; rfl)
  have htk : takesIn F (.ref md) = some true := by
    unfold takesIn specialIn
    rw [f.typ]
    kernel_rfl
  have hsp : specialIn F (.ref md) "__get__" = some (some (.builtin "member_descriptor.__get__")) := by
    unfold specialIn
    rw [f.typ]
    kernel_rfl
  have hcl : (clsIn F K).isSome = true := by obtain ⟨cd, oK, h1, _⟩ := f.cls; rw [h1]; rfl
  exact get_bind X I hga (findObj_data hcl hobj hsp htk) hg2 (wpAny_call (slot_get (s := { s with toks := s.toks + 1 }) (by exact X) (by exact I) (slots_ref (h := s.heap) f) (by rfl) (handed_on hh q)))
theorem ev_obj {ds : Nat → Stmt} {PF P : VP} {x : Str} {px pos : Pos} (hx : Γ.lookup x = some (vK ds PF P)) (hv : isVar (sc.names.lookup x) = true) (hd : (x == ("__debug__" : Str) || x == ("__classdict__" : Str)) = false) (hH : ∀ ψ v, P.p ψ v → handedIn v = true) :
    Ev prog w μ sc Γ φ (.Attribute (.Name x px) "obj" pos) P := by
  intro A env m ψ s he c l f t
  obtain ⟨v, hm, hp⟩ := t x _ hx
  obtain ⟨xa, K, dx, u, cc, o, fv, rfl, h1, h2, h3, h4, h5, h6, h7⟩ := hp
  simp only [Bool.or_eq_false_iff] at hd
  unfold Good
  rw [arm_eval_Attribute, attributeBase_name]
  refine wpAny_bind (wpAny_Name (load_var f (by rw [he]; exact hv) hm ?_ hd.2) hd.1)
  refine wpAny_bind (wpAny_standAt ?_)
  refine wpAny_bind (wpAny_holding ?_)
  refine vK_get h4 c.sub h1 h2 (hH _ _ h3) ?_
  refine wpAny_bind (wpAny_pure ?_)
  exact wpAny_pure ⟨ψ, grow_tok c.sub, h3⟩
end Mine
namespace Mine
variable {prog : Program} {w : World} {X : Fix} {Γ : List (Str × VP)} {ψ ω φ : PM} {s s' : Shared} {k : Nat} {n b : Bool} {m : Str → Option Value} {μ : Md} {A : Around} {env : Env} {sc scope : Scope}
variable {E : Value → Shared → Prop}
theorem spec_clo {a cc : Addr} {fd : FuncData} {o : Obj} {fv : Value} {y : Str} {e : Expr} {rp : Pos} {names : List Str} {Ps : List VP} {PF R : VP} (K : FnK φ a fd) (hb : fd.body = .stmts [.Return (some e) rp]) (hcl : fd.closure = [(y, cc)]) (hcell : φ cc = some o) (ho : o.data = .cell (some fv)) (hfv : PF.p φ fv)
    (hlen : names.length = Ps.length) (hbind : ∀ vs : List Value, vs.length = names.length → bindArgs fd ⟨vs, []⟩ = pure (names.zip vs)) (hnd : decide (names.Nodup) = true)
    (hloc : (names.all fun x => fd.scope.names.lookup x == some .local) = true) (hnc : (fd.scope.names.all fun x => x.2 != .cell) = true) (hfree : ∀ x, fd.scope.names.lookup x = some .free → x = y) (hy : fd.scope.names.lookup y = some .free) (hyn : names.contains y = false)
    (h : Ev prog w ⟨k, n⟩ fd.scope ((y, PF) :: names.zip Ps) φ e R) : Spec prog w ⟨k + 1, n⟩ φ (.ref a) Ps R := by
  intro A ψ s vs c l hv
  have hl : vs.length = names.length := by rw [hlen, hv.length]
  refine enter_closure (tb := []) (mc := fun _ => some fv) (fun p hp => by cases hp) c (K.le l) hb (BindsTo.of_eq (hbind vs hl)) ?_ hnc (fun x hx => ?_) (fun x z c' h1 h2 => ?_) (fun x c' h1 => ?_) fun env s' he hcd x' => ?_
  · rw [List.all_eq_true] at hloc ⊢
    intro z hz
    exact hloc z.1 (List.of_mem_zip hz).1
  · have := hfree x hx; subst this
    exact ⟨cc, o, by rw [hcl]; simp [List.lookup_cons], l _ _ hcell, ho⟩
  · rw [hcl, List.lookup_cons] at h1 h2
    split at h1
    · rename_i q1
      split at h2
      · rename_i q2; rw [eq_of_beq q1, eq_of_beq q2]
      · cases h2
    · cases h1
  · rw [hcl, List.lookup_cons] at h1
    split at h1
    · cases h1; exact ⟨o, l _ _ hcell⟩
    · cases h1
  · have cX : CX ⟨k, n⟩ ⟨A, A.deeper env, ψ, s, [env.locals], env, none, []⟩ := CX.of c rfl
    have bX : B ⟨A, A.deeper env, ψ, s, [env.locals], env, none, []⟩ ((y, PF) :: names.zip Ps) ψ (fun _ => none) s' := by
      refine ⟨_, x', fun x R' hx => ?_⟩
      rw [List.lookup_cons] at hx
      split at hx
      · rename_i q
        cases hx
        have := eq_of_beq q; subst this
        exact ⟨fv, by rw [if_neg (by rw [hy]; decide)], PF.mono l hfv⟩
      · have hT : Typ (names.zip Ps) ψ (fun x => (names.zip vs).reverse.lookup x) := by
          refine typ_binds ?_ ?_
          · refine All2.of_get (by simp [hl, hlen]) fun i a b ha hb => ?_
            rw [List.getElem?_zip_eq_some] at ha hb
            refine ⟨by have := ha.1.symm.trans hb.1; exact Option.some.inj this, ?_⟩
            obtain ⟨v, hv', hp⟩ := hv.get ha.2
            rw [hb.2] at hv'; cases hv'
            exact hp
          · have : (names.zip Ps).map (·.1) = names := by rw [List.map_fst_zip (by omega)]
            rw [this]; exact hnd
        obtain ⟨v, h1, h2⟩ := hT x R' hx
        have hxn : x ∈ names := (List.of_mem_zip (mem_of_lookup hx)).1
        have hxl := List.all_eq_true.mp hloc x hxn
        exact ⟨v, by rw [if_pos (by simpa using hxl)]; exact h1, h2⟩
    refine st_return bX (EvIn.pure cX (by rw [show env.scope = fd.scope from he]; exact fun A env m ψ' s he c l' f t => h A env m ψ' s he c (l.trans l') f t)) fun v ψ3 s3 l3 p3 b3 => ⟨ψ3, b3.toGrow, p3⟩
end Mine
namespace Mine
variable {prog : Program} {w : World} {X : Fix} {Γ : List (Str × VP)} {ψ ω φ : PM} {s s' : Shared} {k : Nat} {n b : Bool} {m : Str → Option Value} {μ : Md} {A : Around} {env : Env} {sc scope : Scope}
variable {E : Value → Shared → Prop}
theorem EvA.le {es : List Expr} {Ps : List VP} (h : EvA prog w μ sc Γ φ es Ps) (l : Le φ ψ) : EvA prog w μ sc Γ ψ es Ps := h.imp fun e P z => ⟨z.1, fun A env m χ s he c l' f t => z.2 A env m χ s he c (l.trans l') f t⟩
theorem ev_callv {x : Str} {px pos : Pos} {args : List Expr} {PF : VP} {Ps : List VP} {R : VP} (hx : Γ.lookup x = some PF) (hv : isVar (sc.names.lookup x) = true) (hd : (x == ("__debug__" : Str) || x == ("__classdict__" : Str)) = false) (ha : EvA prog w μ sc Γ φ args Ps)
    (hP : ∀ ψ v, PF.p ψ v → KeepOk ψ v ∧ Spec prog w μ ψ v Ps R) : Ev prog w μ sc Γ φ (.Call (.Name x px) args [] pos) R := by
  intro A env m ψ s he c l f t
  rw [arm_eval_Call_Name']
  refine Good.bind ((ev_var hx hv hd : Ev prog w μ sc Γ φ (.Name x px) PF) A env m ψ s he c l f t) fun v ψ1 s1 g1 p1 => ?_
  obtain ⟨hk, hs⟩ := hP _ _ p1
  exact callWith_ok (Fs := []) he (ha.le (l.trans g1.le)) hk hs (c.grow g1) (Le.refl _) (f.ext g1.ext) (t.le g1.le) .nil
theorem KeepOk.le {f : Value} (h : KeepOk φ f) (l : Le φ ψ) : KeepOk ψ f := fun M hp hs => h M hp fun a o e => hs a o (l a o e)
noncomputable def vFn (prog : Program) (w : World) (μ : Md) {α : Type} (P : α → VP) (cmp : α → α → Int) : VP := ⟨fun ψ v => KeepOk ψ v ∧ ∀ a b, Spec prog w μ ψ v [P a, P b] (vInt (cmp a b)), fun l h => ⟨h.1.le l, fun a b => (h.2 a b).le l⟩⟩
theorem spec_meth {α : Type} {ds : Nat → Stmt} {d : Stmt} {f cc : Addr} {o : Obj} {fv : Value} {op : CmpOp} {Q : α → VP} {cmp : α → α → Int} {a b : α} {r : Bool} (hF : FK φ [("mycmp", cc)] d f) (hcell : φ cc = some o) (ho : o.data = .cell (some fv)) (hlim : NsKnows φ cStatics "sys.recursionlimit" none)
    (hfv : (vFn prog w ⟨k, n⟩ Q cmp).p φ fv) (hH : ∀ z ψ v, (Q z).p ψ v → handedIn v = true)
    (hsk : (dScope d).kind = .function) (hco : (dScope d).isCoroutine = false) (hgn : (dScope d).isGenerator = false) (hsc : (dScope d).names = ([("self", NameKind.local), ("other", NameKind.local), ("mycmp", NameKind.free)] : List (Str × NameKind)))
    (hbd : ∃ p1 p2 p3 p4 p5 p6 p7 p8 p9, dBody d = [.Return (some (.Compare (.Call (.Name "mycmp" p1) [.Attribute (.Name "self" p2) "obj" p3, .Attribute (.Name "other" p4) "obj" p5] [] p6) [op] [.Constant (.int 0) 0 p7] p8)) p9])
    (hbind : ∀ pm cd ct a b, bindArgs (fnD (dName d) (qK ++ "." ++ dName d) (plainA (dArgs d)) (.stmts (dBody d)) (dScope d) [("mycmp", cc)] pm cd ct) ⟨[a, b], []⟩ = pure ([("self", a), ("other", b)] : List (Str × Value)))
    (hop : Op2 prog w ⟨k, n⟩ φ (compareOp op) (vInt (cmp a b)) (vInt 0) (vBool r)) (hm : ∀ p, behindInMarks op (.Constant (.int 0) 0 p) = false) :
    Spec prog w ⟨k + 1, n⟩ φ (.ref f) [vK ds (vFn prog w ⟨k, n⟩ Q cmp) (Q a), vK ds (vFn prog w ⟨k, n⟩ Q cmp) (Q b)] (vBool r) := by
  obtain ⟨pm, cd, ct, FN⟩ := hF.fnK hlim hsk hco hgn
  obtain ⟨p1, p2, p3, p4, p5, p6, p7, p8, p9, hbd⟩ := hbd
  refine spec_clo (y := "mycmp") (cc := cc) (names := ["self", "other"]) (PF := vFn prog w ⟨k, n⟩ Q cmp) FN (by dsimp only [fnD]; rw [hbd]) rfl hcell ho hfv rfl (fun vs h => by obtain ⟨u, v, rfl⟩ := list_len2 h; exact hbind _ _ _ _ _) (by decide +kernel) (by dsimp only [fnD]; rw [hsc]; rfl) (by dsimp only [fnD]; rw [hsc]; rfl) (fun x hx => ?_) (by dsimp only [fnD]; rw [hsc]; rfl) (by decide +kernel) ?_
  · dsimp only [fnD] at hx
    rw [hsc] at hx
    simp only [List.lookup_cons] at hx
    split at hx
    · cases hx
    · split at hx
      · cases hx
      · split at hx
        · rename_i q; exact eq_of_beq q
        · cases hx
  · have hself : isVar ((dScope d).names.lookup ("self" : Str)) = true := by rw [hsc]; rfl
    have hoth : isVar ((dScope d).names.lookup ("other" : Str)) = true := by rw [hsc]; rfl
    have hmy : isVar ((dScope d).names.lookup ("mycmp" : Str)) = true := by rw [hsc]; rfl
    show Ev prog w ⟨k, n⟩ (dScope d) [("mycmp", vFn prog w ⟨k, n⟩ Q cmp), ("self", vK ds (vFn prog w ⟨k, n⟩ Q cmp) (Q a)), ("other", vK ds (vFn prog w ⟨k, n⟩ Q cmp) (Q b))] φ _ _
    refine ev_cmp (P := vInt (cmp a b)) (Q := vInt 0) (ev_callv (PF := vFn prog w ⟨k, n⟩ Q cmp) (Ps := [Q a, Q b]) (by rfl) hmy (by rfl) (a2 (ev_obj (by rfl) hself (by rfl) (hH a)) (ev_obj (by rfl) hoth (by rfl) (hH b))) (fun ψ v h => ⟨h.1, h.2 a b⟩)) ev_int hop (hm _)
end Mine
namespace Mine
variable {prog : Program} {w : World} {X : Fix} {Γ : List (Str × VP)} {ψ ω φ : PM} {s s' : Shared} {k : Nat} {n b : Bool} {m : Str → Option Value} {μ : Md} {A : Around} {env : Env} {sc scope : Scope}
variable {E : Value → Shared → Prop}
theorem K_special {K x f : Addr} {kvs : List (Str × Value)} {ox of : Obj} {name : Str} {args : List Value} {Q : Option Value → Shared → Prop} (T : KAt s.heap K kvs) (hx : s.heap.get? x = some ox) (hc : ox.cls = .ref K) (hl : kvs.lookup name = some (.ref f)) (hf : s.heap.get? f = some of) (hfc : of.cls = .type "function")
    (h : wpAny (model prog w) A (call (.ref f) (.ref x :: args)) (fun v => Q (some v)) E s) : wpAny (model prog w) A (callSpecialIfBound? (.ref x) name args) Q E s := by
  have ht : wpAny (model prog w) A (typeOf (.ref f)) (fun t s' => t = .type "function" ∧ s' = s) E s := wpAny_typeOf ⟨_, hf, hfc⟩ ⟨rfl, rfl⟩
  have hb : ∀ {Q' : Value × List Value → Shared → Prop} {E'}, Q' (.ref f, [.ref x]) s → wpAny (model prog w) A (bindSpecial (.ref f) (.ref x)) Q' E' s := fun {Q'} {E'} q => by
    unfold bindSpecial
    exact wpAny_bind (wpAny_typeOf ⟨_, hf, hfc⟩ (ite_yes (by decide) (wpAny_pure q)))
  simp only [callSpecialIfBound?, bindSpecialIfBound?]
  refine wpAny_holding (wpAny_bind (wpAny_bind ?_))
  have fin : wpAny (model prog w) A (call (.ref f) ([.ref x] ++ args) >>= fun v => pure (some v)) Q E s :=
    wpAny_bind (wpAny_mono h (fun v s' h' => wpAny_pure h') fun _ _ h' => h')
  unfold specialOf
  refine wpAny_bind ?_
  show wpAny _ _ (do return (← load x).cls) _ _ _
  refine wpAny_bind (wpAny_load hx (wpAny_pure ?_))
  rw [hc]
  refine T.look (r := some (.ref f)) (fun e => by rw [hl] at e; cases e) (fun v e => by rw [hl] at e; exact e) ?_
  dsimp only
  refine wpAny_bind (wpAny_askSetting (wpAny_ite ?_))
  split
  · exact wpAny_bind (hb (wpAny_pure fin))
  · exact wpAny_tryCatch (wpAny_bind (hb (wpAny_pure fin)))
end Mine
namespace Mine
variable {prog : Program} {w : World} {X : Fix} {Γ : List (Str × VP)} {ψ ω φ : PM} {s s' : Shared} {k : Nat} {n b : Bool} {m : Str → Option Value} {μ : Md} {A : Around} {env : Env} {sc scope : Scope}
variable {E : Value → Shared → Prop}
end Mine
namespace Mine
variable {prog : Program} {w : World} {X : Fix} {Γ : List (Str × VP)} {ψ ω φ : PM} {s s' : Shared} {k : Nat} {n b : Bool} {m : Str → Option Value} {μ : Md} {A : Around} {env : Env} {sc scope : Scope}
variable {E : Value → Shared → Prop}
theorem S.growT {P : Addr} {ps : Array Value} {ψ' : PM} (Y : S X m ψ ω s) (cx : CX μ X) (hP : (P, tabObj #[]) ∈ X.tb) (g : Grow (P :: frs X.A) ψ s ψ' s') (ht : s'.heap.get? P = some (tabObj ps)) (hψ : ψ' P = none) : S (X.setTb P (tabObj ps)) m ψ' ω s' := by
  have hPt := Y.tab _ hP
  have hn : ∀ c oc, s.heap.get? c = some oc → ψ c = none → ψ' c = none := fun c oc hoc hc => by
    cases q : ψ' c with
    | none => rfl
    | some o =>
      rcases g.new c o q with z | z
      · rw [hc] at z; cases z
      · rw [hoc] at z; cases z
  have hPF : P ∈ X.F := List.mem_append_left _ (List.mem_map.mpr ⟨_, hP, rfl⟩)
  refine ⟨?_, Y.le.trans g.le, fun b o e => ?_, g.sub, Y.fram.ext g.ext, Y.link, (fun e he => (Y.hnd e he).le g.le), Y.loc, fun c hc => ?_, fun c hc => ?_, Y.fre, fun a o e => ?_, fun p hp => ?_⟩
  · rw [setTb_F]
    exact Y.ext.trans_new g.ext fun b hb => by
      rcases List.mem_cons.mp hb with rfl | hb
      · exact .inl hPF
      · exact Y.frs_new cx b hb
  · rcases g.new b o e with z | z
    · exact Y.new b o z
    · exact .inr (Y.ext.none z)
  · obtain ⟨o, ho⟩ := Y.there c hc
    exact g.ext.there ho
  · obtain ⟨o, ho⟩ := Y.there c hc
    exact ⟨hn c o ho (Y.off c hc).1, (Y.off c hc).2⟩
  · obtain ⟨h1, h2, h3, h4⟩ := Y.own a o e
    refine ⟨g.ext.keep_off h1 fun hm => ?_, hn a o h1 h2, h3, h4⟩
    rcases List.mem_cons.mp hm with rfl | hm
    · rw [hPt.2.2.2.1] at e; cases e
    · obtain ⟨fr, ee, _⟩ := cx.stk
      rcases Y.link.frs ee hm with rfl | hm
      · exact h4 Y.loc
      · obtain ⟨ob, hob⟩ := frs_mem cx.stk hm
        rw [h3] at hob; cases hob
  · obtain ⟨p0, hp0, rfl⟩ := List.mem_map.mp hp
    obtain ⟨h1, h2, h3, h4, h5, h6⟩ := Y.tab p0 hp0
    by_cases q : p0.1 = P
    · rw [if_pos q]
      rw [q] at h2 h3 h4 h5 h6
      exact ⟨ht, hψ, h3, h4, h5, h6⟩
    · rw [if_neg q]
      refine ⟨g.ext.keep_off h1 fun hm => ?_, hn p0.1 p0.2 h1 h2, h3, h4, h5, h6⟩
      rcases List.mem_cons.mp hm with z | hm
      · exact q z
      · obtain ⟨fr, ee, _⟩ := cx.stk
        rcases Y.link.frs ee hm with z | hm
        · exact h3 (z ▸ Y.loc)
        · exact h5 hm
end Mine
namespace Mine
variable {prog : Program} {w : World} {X : Fix} {Γ : List (Str × VP)} {ψ ω φ : PM} {s s' : Shared} {k : Nat} {n b : Bool} {m : Str → Option Value} {μ : Md} {A : Around} {env : Env} {sc scope : Scope}
variable {E : Value → Shared → Prop}
theorem S.wext {s' : Shared} (x : S X m ψ ω s) (hr : ∃ h' tk, s' = { s with heap := h', toks := tk }) (hs : ∀ b o, s.heap.get? b = some o → s'.heap.get? b = some o) : S X m ψ ω s' := by
  have y := x.wmove (wr := []) (fun b hb => nomatch hb) hr fun b o _ e => hs b o e
  have e : wput ω [] s'.heap = ω := by funext b; unfold wput; simp
  rw [e] at y; exact y
theorem wput_same {wr : List Addr} {h h' : Heap} (k : ∀ b ∈ wr, h'.get? b = h.get? b) : wput ω wr h = wput ω wr h' := by
  funext b
  unfold wput
  by_cases q : b ∈ wr
  · simp [q, k b q]
  · simp [q]
theorem steps_pair {I : Addr} {fp wr fz : List Addr} {nn : Nat} {Pt : Nat → Array Value → Prop} {St : Nat → Heap → Prop} {Mid : Nat → Addr → Heap → Prop} {P1 P2 : Nat → VP} {x y : Str} {px py pt : Pos} {kk : Nat} (hh : A.handled = none)
    (W : WalksT prog w A I fp wr nn Pt St Mid) (hfp : ∀ b ∈ fp, b ∈ wr ∨ b ∈ fz) (hlive : ∀ i h, St i h → ∀ b ∈ wr, ∃ o, h.get? b = some o) (hfz : ∀ b ∈ fz, ∃ o, ψ b = some o)
    (hv : ∀ i vals, i < nn → Pt i vals → ∃ u v, vals = #[u, v] ∧ (P1 i).p ψ u ∧ (P2 i).p ψ v) : Steps prog w A ψ (.Tuple [.Name x px, .Name y py] kk pt) (.ref I) wr fz nn (fun i => [(y, P2 i), (x, P1 i)]) St := by
  refine ⟨fun i h h' hs hk => W.frame i h h' hs fun b hb o e => hk b (hfp b hb) o e, hlive, W.self, ?_, ?_⟩
  · intro i X m ψ' ω s Q E hi Y l hst hw hk q
    refine W.item i s _ _ hi hst fun T vals h1 tk hPt hT hIsT hMid hkeep => ⟨.ref T, rfl, W.go _ _ _ i T _ _ _ hMid fun h2 hst2 hkeep2 => ?_⟩
    have hTw := W.apart _ _ _ hMid
    obtain ⟨u, v, rfl, pu, pv⟩ := hv i vals hi hPt
    have Y1 := Y.wmove (s' := { s with heap := h2, toks := tk }) hw ⟨h2, tk, rfl⟩ fun b o hb e => hkeep2 b o hb (hkeep b o hb e)
    have hT2 : h2.IsTuple T #[u, v] := hIsT.at fun o e => hkeep2 T o hTw e
    refine wpAny_assign_Tuple hh hT2 rfl rfl fun h3 hx3 => ?_
    replace hx3 : Heap.ExtBut h2.objs.size h2 h3 := hx3
    have k23 : ∀ b o, h2.get? b = some o → h3.get? b = some o := fun b o e => hx3 b o (Nat.ne_of_lt (Heap.lt_size e)) e
    have Y2 := Y1.wext (s' := { s with heap := h3, toks := tk }) ⟨h3, tk, rfl⟩ k23
    show wpAny _ A (do holding [v] (assign (.Name x px) X.env u); do holding [] (assign (.Name y py) X.env v); pure ()) _ _ _
    refine wpAny_bind (wpAny_holding (wpAny_assign_Name (Y2.store (hk (x, P1 i) (.tail _ (.head _))) fun s4 Y4 => ?_)))
    refine wpAny_bind (wpAny_holding (wpAny_assign_Name (Y4.store (hk (y, P2 i) (.head _)) fun s5 Y5 => wpAny_pure ?_)))
    have key : ∀ b ∈ wr, s5.heap.get? b = h2.get? b := fun b hb => by
      obtain ⟨o, ho⟩ := hlive _ _ hst2 b hb
      rw [ho]
      exact (Y5.own b o (by rw [wput_on hb]; exact ho)).1
    rw [wput_same key] at Y5
    refine q _ s5 Y5 (fun Γ t => ?_) (W.frame _ _ _ hst2 fun b hb o ho => ?_)
    · exact (t.cons ((P1 i).mono l pu)).cons ((P2 i).mono l pv)
    · rcases hfp b hb with z | z
      · rw [key b z]; exact ho
      · obtain ⟨o', ho'⟩ := hfz b z
        have h1 : h2.get? b = some o' := Y1.sub b o' (l _ _ ho')
        rw [ho] at h1; cases h1
        exact Y5.sub b o (l _ _ ho')
  · intro X m ψ' ω s Q E Y l hst hw q
    exact W.done s _ _ hst fun h' tk hkeep => q _ (Y.wmove (s' := { s with heap := h', toks := tk }) hw ⟨h', tk, rfl⟩ hkeep)
theorem call_open {x : Str} {px pos : Pos} {args : List Expr} {fv : Value} {Ps : List VP} {Q : Value → Shared → Prop} (he : env.scope = sc) (hf : EV prog w μ sc Γ φ (.Name x px) (vVal fv)) (hk : KeepOk φ fv) (ha : EA prog w μ sc Γ φ args Ps) (c : Cx μ A ψ s) (l : Le φ ψ) (f : Fram env m s.heap) (t : Typ Γ ψ m)
    (q : ∀ vs ψ' s', Grow (frs A) ψ s ψ' s' → All2 (fun (P : VP) v => P.p ψ' v) Ps vs → wpAny (model prog w) A (call fv vs) Q E s') : wpAny (model prog w) A (eval (.Call (.Name x px) args [] pos) env) Q E s := by
  rw [arm_eval_Call_Name']
  refine wpAny_bind ((hf.go A env m ψ s he c l f t).use fun v ψ1 s1 g1 p1 => ?_)
  cases p1
  refine callWith_of (P := fun h => ∃ k, (k = Keeper.frame ∨ k = Keeper.machine ∨ k = Keeper.boundFrame) ∧ Looks (model prog w) h (keeperOf fv) k) (by rw [any_star ha.go]; rfl) (fun _ x => x) ?_
  refine evalArgs_ok he ha.go (c.grow g1) (l.trans g1.le) (f.ext g1.ext) (t.le g1.le) fun vs ψ' s' g p => ?_
  exact ⟨hk _ _ (fun a o e => g.sub a o (g.le _ _ (g1.le _ _ (l _ _ e)))), q vs ψ' s' (g1.trans g) p⟩
theorem src_enum {e : Expr} {x y : Str} {px py pt ep pos : Pos} {kk : Nat} {ps : List VP} (hn : μ.n = true) (hg : BN φ ("enumerate" : Str) (.type "enumerate")) (hkd : sc.names.lookup ("enumerate" : Str) = some NameKind.globalImplicit) (h : EV prog w μ sc Γ φ e (vList ps)) (hs : notStar e = true := by rfl) :
    ES prog w μ sc Γ φ (.Call (.Name "enumerate" ep) [e] [] pos) (.Tuple [.Name x px, .Name y py] kk pt) ps.length (fun i => [(y, ps.getD i vNone), (x, vInt (i : Nat))]) := by
  constructor
  intro A env m ψ s he c l f t
  refine call_open (Ps := [vList ps]) he ⟨ev_builtin hg hkd rfl⟩ keep_type (e1 h hs) c l f t fun vs ψ1 s1 g1 p1 => ?_
  obtain ⟨v, rfl, a, vs, j, rfl, ho, hall⟩ := one_arg p1
  have c1 := c.grow g1
  have hl : s1.heap.IsList a vs.toArray := ⟨_, c1.sub _ _ ho, rfl, j, rfl⟩
  have hlt : a < s1.heap.objs.size := Heap.lt_size (c1.sub _ _ ho)
  refine call_enumerate_list hl fun h' he' hit hz hk => wpAny_pyIter_enum he' ?_
  have e1 : s1.heap.objs.size + 1 ≠ s1.heap.objs.size := Nat.succ_ne_self _
  have W := WalksT.enumerate (prog := prog) (w := w) (c.none hn) (s1.heap.objs.size + 1) s1.heap.objs.size a e1 (Nat.ne_of_lt (Nat.lt_succ_of_lt hlt)) (Nat.ne_of_lt hlt) vs.toArray
  have en : vs.toArray.size = ps.length := by simp [hall.length]
  rw [en] at W
  refine ⟨ψ1, s1, [s1.heap.objs.size + 1, s1.heap.objs.size], [a], _, g1, steps_pair (P1 := fun i => vInt (i : Nat)) (P2 := fun i => ps.getD i vNone) (c.none hn) W (fun b hb => by simp at hb ⊢; rcases hb with h | h | h <;> simp [h]) (fun i h hst b hb => ?_) (fun b hb => by rw [List.mem_singleton.mp hb]; exact ⟨_, ho⟩) (fun i vals hi hPt => ?_), ⟨⟨_, he'⟩, hit, hl.at fun o e => hk _ o e⟩, fun b hb => ?_, fun b hb => by rw [List.mem_singleton.mp hb]; exact ⟨_, ho⟩, Ext.of_keeps (s := s1) (tk := s1.toks) hk⟩
  · obtain ⟨⟨old, h1⟩, h2, _⟩ := hst
    rcases List.mem_cons.mp hb with rfl | hb
    · exact ⟨_, h1⟩
    · rw [List.mem_singleton.mp hb]; obtain ⟨o, h3, _⟩ := h2; exact ⟨o, h3⟩
  · obtain ⟨t', u, hu, rfl⟩ := hPt
    obtain ⟨Q, hQ, pQ⟩ := hall.get' (by simpa using hu)
    exact ⟨_, _, rfl, ⟨t', rfl⟩, by rw [List.getD_eq_getElem?_getD, hQ]; exact pQ⟩
  · rcases List.mem_cons.mp hb with rfl | hb
    · exact Heap.get?_none_of_le (Nat.le_succ _)
    · rw [List.mem_singleton.mp hb]; exact get_size _
end Mine
namespace Mine
variable {prog : Program} {w : World} {X : Fix} {Γ : List (Str × VP)} {ψ ω φ : PM} {s s' : Shared} {k : Nat} {n b : Bool} {m : Str → Option Value} {μ : Md} {A : Around} {env : Env} {sc scope : Scope}
variable {E : Value → Shared → Prop}
structure Wk (F : List Addr) (ψ₀ : PM) (s₀ : Shared) (ψ ω : PM) (s : Shared) : Prop where
  g : Grow F ψ₀ s₀ ψ s
  own : ∀ a o, ω a = some o → s.heap.get? a = some o ∧ ψ a = none ∧ s₀.heap.get? a = none
section
variable {F : List Addr} {ψ₀ : PM} {s₀ : Shared}
theorem Wk.start (h : Sub ψ s.heap) : Wk F ψ s ψ (fun _ => none) s := ⟨Grow.refl h, fun _ _ e => nomatch e⟩
theorem Wk.keeps {tk : Nat} {h' : Heap} (x : Wk F ψ₀ s₀ ψ ω s) (hk : ∀ b o, s.heap.get? b = some o → h'.get? b = some o) : Wk F ψ₀ s₀ ψ ω { s with heap := h', toks := tk } :=
  ⟨⟨x.g.ext.trans (Ext.of_keeps hk), x.g.le, fun a o e => hk a o (x.g.sub a o e), x.g.new⟩, fun a o e => ⟨hk a o (x.own a o e).1, (x.own a o e).2⟩⟩
theorem Wk.push {o : Obj} (x : Wk F ψ₀ s₀ ψ ω s) (hf : o.isFreed = false) (tk : Nat) : Wk F ψ₀ s₀ ψ (put ω s.heap.objs.size o) { s with heap := s.heap.push o, toks := tk } := by
  have y := x.keeps (tk := tk) fun b z e => Heap.get?_push_of_some o e
  refine ⟨y.g, fun a z e => ?_⟩
  by_cases q : a = s.heap.objs.size
  · subst q
    rw [put_self] at e; cases e
    exact ⟨Heap.get?_push_size _ hf, none_of_sub x.g.sub (get_size _), x.g.ext.none (get_size _)⟩
  · rw [put_ne q] at e; exact y.own a z e
theorem Wk.lay {a : Addr} {o : Obj} (x : Wk F ψ₀ s₀ ψ ω s) (h1 : s.heap.get? a = some o) (h2 : s₀.heap.get? a = none) (h3 : ψ a = none) : Wk F ψ₀ s₀ ψ (put ω a o) s :=
  ⟨x.g, fun b z e => by
    by_cases q : b = a
    · subst q; rw [put_self] at e; cases e; exact ⟨h1, h3, h2⟩
    · rw [put_ne q] at e; exact x.own b z e⟩
theorem Wk.set {a : Addr} {o o' : Obj} {h' : Heap} {tk : Nat} (x : Wk F ψ₀ s₀ ψ ω s) (ha : ω a = some o) (he : h'.get? a = some o') (hk : ∀ b, b ≠ a → h'.get? b = s.heap.get? b) : Wk F ψ₀ s₀ ψ (put ω a o') { s with heap := h', toks := tk } := by
  obtain ⟨h1, h2, h3⟩ := x.own a o ha
  refine ⟨⟨?_, x.g.le, fun b z e => ?_, x.g.new⟩, fun b z e => ?_⟩
  · obtain ⟨g, t, rfl⟩ := x.g.ext.rest
    refine ⟨⟨h', tk, rfl⟩, fun b z e => ?_⟩
    have hb : b ≠ a := fun q => by rw [q, h3] at e; cases e
    have := x.g.ext.kept b z e
    show Kept F b z (h'.get? b)
    rw [hk b hb]; exact this
  · have hb : b ≠ a := fun q => by rw [q, h2] at e; cases e
    exact (hk b hb).trans (x.g.sub b z e)
  · by_cases q : b = a
    · subst q; rw [put_self] at e; cases e; exact ⟨he, h2, h3⟩
    · rw [put_ne q] at e
      obtain ⟨k1, k2⟩ := x.own b z e
      exact ⟨(hk b q).trans k1, k2⟩
theorem Wk.call {μ : Md} {ψ' : PM} (x : Wk (frs A) ψ₀ s₀ ψ ω s) (st : Stk A s₀.heap) (g : Grow (frs A) ψ s ψ' s') : Wk (frs A) ψ₀ s₀ ψ' ω s' := by
  refine ⟨x.g.trans g, fun a o e => ?_⟩
  obtain ⟨h1, h2, h3⟩ := x.own a o e
  refine ⟨g.ext.keep_off h1 fun hm => ?_, ?_, h3⟩
  · obtain ⟨o', ho'⟩ := frs_mem st hm
    rw [h3] at ho'; cases ho'
  · cases q : ψ' a with
    | none => rfl
    | some o' =>
      rcases g.new a o' q with z | z
      · rw [h2] at z; cases z
      · rw [h1] at z; cases z
theorem Wk.freeze {a : Addr} {o : Obj} (x : Wk F ψ₀ s₀ ψ ω s) (ha : ω a = some o) : Grow F ψ₀ s₀ (put ψ a o) s := by
  obtain ⟨h1, h2, h3⟩ := x.own a o ha
  refine ⟨x.g.ext, x.g.le.trans (le_put h2), x.g.sub.put h1, fun b z e => ?_⟩
  by_cases q : b = a
  · subst q; exact .inr h3
  · rw [put_ne q] at e; exact x.g.new b z e
end
noncomputable def runT {α : Type} (lt : Nat → Nat → Bool) : KasT α → α
  | .ret a => a
  | .ask i j k => runT lt (k (lt i j))
inductive SafeT (n : Nat) {α : Type} : KasT α → (α → Prop) → Prop
  | ret {a : α} {R : α → Prop} : R a → SafeT n (.ret a) R
  | ask {i j : Nat} {k : Bool → KasT α} {R : α → Prop} : i < n → j < n → (∀ b, SafeT n (k b) R) → SafeT n (.ask i j k) R
theorem SafeT.bind {n : Nat} {α β : Type} {t : KasT α} {f : α → KasT β} {R : α → Prop} {R' : β → Prop} (h : SafeT n t R) (k : ∀ a, R a → SafeT n (f a) R') : SafeT n (t.bind f) R' := by
  induction h with
  | ret h => exact k _ h
  | ask h1 h2 _ ih => exact .ask h1 h2 fun b => ih b k
theorem SafeT.run {n : Nat} {α : Type} {lt : Nat → Nat → Bool} {t : KasT α} {R : α → Prop} (h : SafeT n t R) : R (runT lt t) := by
  induction h with
  | ret h => exact h
  | ask _ _ _ ih => exact ih _
noncomputable def Sm (n : Nat) (p : Array Nat) : Prop := p.size = n ∧ ∀ x ∈ p, x < n
theorem Sm.get {n : Nat} {p : Array Nat} (h : Sm n p) (hn : 0 < n) (k : Nat) : p.getD k 0 < n := by
  unfold Array.getD
  split
  · exact h.2 _ (Array.getElem_mem _)
  · exact hn
theorem Sm.perm {n : Nat} {p q : Array Nat} (h : Sm n p) (e : q.Perm p) : Sm n q := ⟨e.size_eq.trans h.1, fun x hx => h.2 x (e.mem_iff.mp hx)⟩
theorem Sm.rev {n : Nat} {p : Array Nat} (h : Sm n p) (i j : Nat) : Sm n (kas_rev p i j) := h.perm (mirror_perm _ _ _ _)
theorem safe_asc {n : Nat} {p : Array Nat} (h : Sm n p) (hn : 0 < n) : ∀ f k, SafeT n (kas_asc p f k) fun _ => True
  | 0, _ => .ret trivial
  | f + 1, k => .ask (h.get hn _) (h.get hn _) fun b => by
    cases b
    · exact safe_asc h hn f (k + 1)
    · exact .ret trivial
theorem safe_desc {n : Nat} (hn : 0 < n) : ∀ f p k q, Sm n p → SafeT n (kas_desc f p k q) fun r => Sm n r.1
  | 0, _, _, _, h => .ret h
  | f + 1, p, k, q, h => .ask (h.get hn _) (h.get hn _) fun b => by
    cases b
    · refine .ask (h.get hn _) (h.get hn _) fun d => ?_
      cases d
      · exact safe_desc hn f p (k + 1) (q + 1) h
      · exact .ret h
    · show SafeT n (if q > 0 then _ else _) _
      split
      · exact safe_desc hn f _ (k + 1) 0 (h.rev _ _)
      · exact safe_desc hn f p (k + 1) 0 h
theorem safe_tail3 {n : Nat} {p : Array Nat} (h : Sm n p) (hn : 0 < n) (a b : Nat) : SafeT n (kas_tail3 a b p) fun r => Sm n r.2 :=
  SafeT.bind (safe_asc (h.rev _ _) hn _ _) fun _ _ => .ret (h.rev _ _)
theorem safe_descPart {n : Nat} {p : Array Nat} (h : Sm n p) (hn : 0 < n) (a b : Nat) : SafeT n (kas_descPart a b p) fun r => Sm n r.2 := by
  refine SafeT.bind (safe_desc hn _ _ _ _ h) fun r hr => ?_
  show SafeT n (if r.2.2 > 0 then _ else _) _
  split
  · exact safe_tail3 (hr.rev _ _) hn _ _
  · exact safe_tail3 hr hn _ _
theorem safe_count {n : Nat} {p : Array Nat} (h : Sm n p) (hn : 0 < n) (a : Nat) : SafeT n (kas_count a p) fun r => Sm n r.2 := by
  refine SafeT.bind (safe_asc h hn _ _) fun r _ => ?_
  show SafeT n (if (r == a) = true then _ else if r > 1 then _ else _) _
  split
  · exact .ret h
  · split
    · refine .ask (h.get hn _) (h.get hn _) fun b => ?_
      cases b
      · exact safe_descPart (h.rev _ _) hn _ _
      · exact .ret h
    · exact safe_descPart h hn _ _
theorem safe_place {n : Nat} {p : Array Nat} (h : Sm n p) (hn : 0 < n) (k : Nat) : ∀ f l r, SafeT n (kas_place p k f l r) fun _ => True
  | 0, _, _ => .ret trivial
  | f + 1, l, r => by
    show SafeT n (if l ≥ r then _ else _) _
    split
    · exact .ret trivial
    · refine .ask (h.get hn _) (h.get hn _) fun b => ?_
      cases b
      · exact safe_place h hn k f _ _
      · exact safe_place h hn k f _ _
theorem safe_bin {n : Nat} (hn : 0 < n) : ∀ f p k, Sm n p → SafeT n (kas_bin f p k) (Sm n)
  | 0, _, _, h => .ret h
  | f + 1, p, k, h => SafeT.bind (safe_place h hn k _ _ _) fun l _ => safe_bin hn f _ _ (h.perm (bubble_perm _ _ _))
theorem safe_sort {n : Nat} (hn : 0 < n) : SafeT n (kas_sort n) (Sm n) := by
  refine SafeT.bind (safe_count ⟨by simp, fun x hx => ?_⟩ hn _) fun r hr => ?_
  · simpa using hx
  · show SafeT n (if r.1 < n then _ else _) _
    split
    · exact safe_bin hn _ _ _ hr
    · exact .ret hr
theorem run_kas {n : Nat} {α : Type} {lt : Nat → Nat → Bool} {cmp : Nat → Nat → (Bool → Shared → Prop) → Shared → Prop} {I : Shared → Prop} (hc : ∀ i j s (C : Bool → Shared → Prop), i < n → j < n → I s → (∀ s', I s' → C (lt i j) s') → cmp i j C s)
    {t : KasT α} {R : α → Prop} (h : SafeT n t R) : ∀ {s : Shared} {Q : α → Shared → Prop}, I s → (∀ s', I s' → Q (runT lt t) s') → t.kasWp cmp Q s := by
  induction h with
  | ret _ => intro s Q i q; exact q s i
  | ask h1 h2 _ ih => intro s Q i q; exact hc _ _ s _ h1 h2 i fun s' i' => ih _ i' q
end Mine
namespace Mine
variable {prog : Program} {w : World} {X : Fix} {Γ : List (Str × VP)} {ψ ω φ : PM} {s s' : Shared} {k : Nat} {n b : Bool} {m : Str → Option Value} {μ : Md} {A : Around} {env : Env} {sc scope : Scope}
variable {E : Value → Shared → Prop}
noncomputable def OpLt (prog : Program) (w : World) (μ : Md) (φ : PM) (P Q : VP) (r : Bool) : Prop :=
  ∀ A ψ s u v, Cx μ A ψ s → Le φ ψ → P.p ψ u → Q.p ψ v → wpAny (model prog w) A (keyLt' oneType' u v) (fun b s' => b = r ∧ ∃ ψ', Grow (frs A) ψ s ψ' s') (fun _ _ => False) s
section
variable {ψ₀ : PM} {s₀ : Shared}
theorem sort_core {nn : Nat} {it : Array Keyed} {Pk : Nat → VP} {lt : Nat → Nat → Bool} (h2 : 2 ≤ nn) (h64 : nn < 64) (hit : it.size = nn) (c₀ : Cx μ A ψ₀ s₀) (lφ : Le φ ψ) (x : Wk (frs A) ψ₀ s₀ ψ ω s)
    (hk : ∀ i < nn, (Pk i).p ψ (kas_item it i).1) (hlt : ∀ i < nn, ∀ j < nn, OpLt prog w μ φ (Pk i) (Pk j) (lt i j)) :
    wpAny (model prog w) A (sortRuns'.run (SortSt.mk' oneType' it #[] 7 none)) (fun r s' => arrOf r.2 = (runT lt (kas_sort nn)).map (kas_item it) ∧ failedOf r.2 = none ∧ (runT lt (kas_sort nn)).size = nn ∧ Sm nn (runT lt (kas_sort nn)) ∧ ∃ ψ', Le ψ ψ' ∧ Wk (frs A) ψ₀ s₀ ψ' ω s') E s := by
  have hn : 0 < nn := by omega
  have est : SortSt.mk' oneType' it #[] 7 none = kas_st oneType' it (List.toArray (List.range nn)) := by
    have e := kas_range it
    rw [hit] at e
    show SortSt.mk' oneType' it #[] 7 none = SortSt.mk' oneType' ((List.toArray (List.range nn)).map (kas_item it)) #[] 7 none
    rw [e]
  rw [est]
  have hs := safe_sort hn
  refine kas_runs (E := E) (Q := fun _ st' s' => arrOf st' = (runT lt (kas_sort nn)).map (kas_item it) ∧ failedOf st' = none ∧ (runT lt (kas_sort nn)).size = nn ∧ Sm nn (runT lt (kas_sort nn)) ∧ ∃ ψ', Le ψ ψ' ∧ Wk (frs A) ψ₀ s₀ ψ' ω s')
    (G := fun p s' => p = runT lt (kas_sort nn) ∧ ∃ ψ', Le ψ ψ' ∧ Wk (frs A) ψ₀ s₀ ψ' ω s') h2 h64 (fun p' st' s' a1 a2 a3 a4 => ?_) ?_
  · obtain ⟨rfl, hx⟩ := a4
    exact ⟨a2, a3, a1, hs.run, hx⟩
  · refine run_kas (lt := lt) (I := fun s' => ∃ ψ', Le ψ ψ' ∧ Wk (frs A) ψ₀ s₀ ψ' ω s') (fun i j s1 C hi hj hI q => ?_) hs ⟨ψ, Le.refl _, x⟩ fun s' h => ⟨rfl, h⟩
    obtain ⟨ψ1, l1, x1⟩ := hI
    refine wpAny_mono (hlt i hi j hj A ψ1 s1 _ _ (c₀.grow x1.g) (lφ.trans l1) ((Pk i).mono l1 (hk i hi)) ((Pk j).mono l1 (hk j hj))) (fun b s2 h => ?_) fun _ _ e => e
    obtain ⟨rfl, ψ2, g⟩ := h
    exact q s2 ⟨ψ2, l1.trans g.le, x1.call (μ := μ) c₀.stk g⟩
end
noncomputable def sortL {α : Type} (lt : α → α → Bool) (d : α) (xs : List α) : List α :=
  if xs.length < 2 then xs else (runT (fun i j => lt (xs.getD i d) (xs.getD j d)) (kas_sort xs.length)).toList.map (xs.getD · d)
end Mine
namespace Mine
variable {prog : Program} {w : World} {X : Fix} {Γ : List (Str × VP)} {ψ ω φ : PM} {s s' : Shared} {k : Nat} {n b : Bool} {m : Str → Option Value} {μ : Md} {A : Around} {env : Env} {sc scope : Scope}
variable {E : Value → Shared → Prop}
theorem all2_getD {ps : List VP} {vs : List Value} (h : All2 (fun (P : VP) v => P.p ψ v) ps vs) {i : Nat} (hi : i < ps.length) {D : VP} : (ps.getD i D).p ψ (vs.getD i Value.none) := by
  have h1 : ps[i]? = some ps[i] := List.getElem?_eq_getElem hi
  obtain ⟨v, e, p⟩ := h.get h1
  rw [List.getD_eq_getElem?_getD, List.getD_eq_getElem?_getD, h1, e]
  exact p
theorem all2_pick {α : Type} {P : α → VP} {xs : List α} {d : α} {vs : List Value} (h : All2 (fun (P : VP) v => P.p ψ v) (xs.map P) vs) : ∀ (l : List Nat), (∀ i ∈ l, i < xs.length) → All2 (fun (P : VP) v => P.p ψ v) ((l.map (xs.getD · d)).map P) (l.map fun i => vs.getD i Value.none)
  | [], _ => .nil
  | i :: l, hl => by
    have hi : i < xs.length := hl i (.head _)
    refine .cons ?_ (all2_pick h l fun j hj => hl j (.tail _ hj))
    have := all2_getD h (i := i) (D := P d) (by simpa using hi)
    rw [List.getD_eq_getElem?_getD, List.getElem?_map] at this
    show (P (xs.getD i d)).p ψ _
    rw [List.getD_eq_getElem?_getD]
    have e : xs[i]? = some xs[i] := List.getElem?_eq_getElem hi
    rw [e] at this ⊢
    exact this
noncomputable def TyIs (prog : Program) (w : World) (φ : PM) (P : VP) (T : Value) : Prop := ∀ ψ v h, Le φ ψ → Sub ψ h → P.p ψ v → Looks (model prog w) h (typeOf v) T
section
variable {ψ₀ : PM} {s₀ : Shared}
theorem list_sort_ok {α : Type} {P : α → VP} {lt : α → α → Bool} {d : α} {xs : List α} {vs : List Value} {T : Value} {a : Addr} {j : Nat} {Q : PySem.Fin → Shared → Prop} (h64 : xs.length < 64) (c₀ : Cx μ A ψ₀ s₀) (lφ : Le φ ψ) (x : Wk (frs A) ψ₀ s₀ ψ ω s) (ha : ω a = some (lst vs j))
    (hall : All2 (fun (P : VP) v => P.p ψ v) (xs.map P) vs) (hT : ∀ x, TyIs prog w φ (P x) T) (hT1 : (T != Value.type "tuple") = true) (hT2 : (T == T) = true) (hlt : ∀ x y, OpLt prog w μ φ (P x) (P y) (lt x y))
    (q : ∀ ψ' s' us j', Le ψ ψ' → Wk (frs A) ψ₀ s₀ ψ' (put ω a (lst us j')) s' → All2 (fun (P : VP) v => P.p ψ' v) ((sortL lt d xs).map P) us → Q (.done (.ret .none)) s') :
    wpAny (model prog w) A (Builtin.«list.sort» ⟨[.ref a], []⟩) Q E s := by
  have hlen : vs.length = xs.length := by rw [← hall.length, List.length_map]
  obtain ⟨ho, hψa, h0a⟩ := x.own a _ ha
  replace ho : s.heap.get? a = some (seqObj "list" vs.toArray j) := ho
  have s1 := Heap.SameBut.update s.heap a (Obj.mapSeq fun _ => (#[] : Array Value))
  obtain ⟨e1, ho1⟩ : ∃ e1, (s.heap.update a (Obj.mapSeq fun _ => (#[] : Array Value))).get? a = some (seqObj "list" #[] e1) := ⟨_, get?_update_seq ho fun _ => #[]⟩
  have hline : sizeLine = 16777216 := rfl
  rw [list_sort_plain]
  refine wpAny_bind (listItems_at ho rfl ?_)
  refine wpAny_bind (listUpdate_at ho rfl ?_ (by rw [List.size_toArray]; omega) (Nat.zero_le _))
  refine wpAny_bind (seqEpoch_at ho1 rfl ?_)
  refine wpAny_bind (wpAny_newTuple ?_ (by show vs.length ≤ _; omega))
  refine wpAny_bind (wpAny_newList ?_ (Nat.zero_le _))
  refine wpAny_holding ?_
  have x1 : Wk (frs A) ψ₀ s₀ ψ (put ω a (lst [] e1)) { s with heap := s.heap.update a (Obj.mapSeq fun _ => (#[] : Array Value)), toks := s.toks } := x.set ha ho1 fun b hb => s1.2 b hb
  have x3 := x1.keeps (tk := s.toks) (h' := ((s.heap.update a (Obj.mapSeq fun _ => (#[] : Array Value))).push (seqObj "tuple" vs.toArray 0)).push (seqObj "list" #[] 0)) fun b o e => Heap.get?_push_of_some _ (Heap.get?_push_of_some _ e)
  show wpAny (model prog w) A _ Q E { s with heap := ((s.heap.update a (Obj.mapSeq fun _ => (#[] : Array Value))).push (seqObj "tuple" vs.toArray 0)).push (seqObj "list" #[] 0) }
  generalize hs3 : ({ s with heap := ((s.heap.update a (Obj.mapSeq fun _ => (#[] : Array Value))).push (seqObj "tuple" vs.toArray 0)).push (seqObj "list" #[] 0) } : Shared) = s3
  replace x3 : Wk (frs A) ψ₀ s₀ ψ (put ω a (lst [] e1)) s3 := by rw [← hs3]; exact x3
  clear hs3
  have put_put : ∀ us j', put (put ω a (lst [] e1)) a (lst us j') = put ω a (lst us j') := fun us j' => by funext b; unfold put; split <;> rfl
  have fin : ∀ ψ' s' (out : Array Value) (us : List Value), out = us.toArray → Le ψ ψ' → Wk (frs A) ψ₀ s₀ ψ' (put ω a (lst [] e1)) s' → us.length = xs.length → All2 (fun (P : VP) v => P.p ψ' v) ((sortL lt d xs).map P) us → wpAny (model prog w) A (do
      let t ← seqEpoch a
      Builtin.List.listUpdate (.ref a) fun _ => out
      if (t != e1) = true then do
        rule "list.sort.modified"
        raiseErrorWords "ValueError" "list modified during sort"
        ret .none
      else ret .none) Q E s' := fun ψ' s' out us hout l' x' hus hall' => by
    subst hout
    obtain ⟨hoa, _⟩ := x'.own a _ (put_self _ _ _)
    refine wpAny_bind (seqEpoch_at hoa rfl ?_)
    have s2 := Heap.SameBut.update s'.heap a (Obj.mapSeq fun _ => us.toArray)
    obtain ⟨c2, hc2⟩ : ∃ c2, (s'.heap.update a (Obj.mapSeq fun _ => us.toArray)).get? a = some (seqObj "list" us.toArray c2) := ⟨_, get?_update_seq (n := e1) hoa fun _ => us.toArray⟩
    refine wpAny_bind (listUpdate_at hoa rfl ?_ (Nat.zero_le _) (by rw [List.size_toArray]; omega))
    simp only [bne_self_eq_false, Bool.false_eq_true, if_false]
    have y := x'.set (tk := s'.toks) (put_self _ _ _) hc2 fun b hb => s2.2 b hb
    refine wpAny_pure (q ψ' _ us c2 l' ?_ hall')
    have := put_put us c2
    rw [← this]; exact y
  dsimp only
  by_cases h2 : vs.toArray.size < 2
  · rw [if_pos h2, if_pos h2]
    refine wpAny_bind (wpAny_pure ?_)
    rw [StateT.run_pure]
    refine wpAny_bind (wpAny_pure ?_)
    dsimp only
    refine fin ψ s3 _ vs ?_ (Le.refl _) x3 hlen ?_
    · apply Array.toList_inj.mp
      rw [Array.toList_map]
      show List.map (·.2) (vs.toArray.zip vs.toArray).toList = vs
      rw [Array.toList_zip, List.map_snd_zip (Nat.le_refl _)]
    · have : xs.length < 2 := by rw [List.size_toArray] at h2; omega
      unfold sortL
      rw [if_pos this]; exact hall
  · rw [if_neg h2, if_neg h2]
    rw [List.size_toArray] at h2
    refine wpAny_bind (kas_kind (by omega) (fun v hv => ?_) hT1 hT2 ?_)
    · obtain ⟨i, hi⟩ := List.getElem?_of_mem hv
      obtain ⟨Pv, hP, hp⟩ := hall.get' hi
      obtain ⟨z, _, rfl⟩ := List.mem_map.mp (List.mem_of_getElem? hP)
      exact hT z ψ v _ lφ x3.g.sub hp
    · refine wpAny_bind (wpAny_mono (sort_core (it := pairsOf vs) (nn := vs.length) (Pk := fun i => P (xs.getD i d)) (lt := fun i j => lt (xs.getD i d) (xs.getD j d)) (by omega) (by omega) (pairsOf_size vs) c₀ lφ x3 (fun i hi => ?_) (fun i _ j _ => hlt _ _)) (fun r s' hr => ?_) fun _ _ e => e)
      · rw [kas_item_eq]
        have h1 := all2_getD hall (i := i) (D := P d) (by rw [List.length_map]; omega)
        have h2 : xs[i]? = some xs[i] := List.getElem?_eq_getElem (by omega)
        rw [List.getD_eq_getElem?_getD, List.getElem?_map, h2] at h1
        show (P (xs.getD i d)).p ψ (vs.getD i Value.none)
        rw [List.getD_eq_getElem?_getD, h2]
        exact h1
      · obtain ⟨⟨⟩, st'⟩ := r
        obtain ⟨har, hf, hsz, hsm, ψ', l', x'⟩ := hr
        dsimp only at har hf ⊢
        rw [hf]
        refine fin ψ' s' _ ((runT (fun i j => lt (xs.getD i d) (xs.getD j d)) (kas_sort vs.length)).toList.map fun i => vs.getD i Value.none) ?_ l' x' ?_ ?_
        · apply Array.toList_inj.mp
          rw [har, Array.map_map, Array.toList_map]
          exact List.map_congr_left fun i _ => by show (kas_item (pairsOf vs) i).2 = _; rw [kas_item_eq]
        · rw [List.length_map, Array.length_toList, hsz, hlen]
        · have hne : ¬ xs.length < 2 := by omega
          unfold sortL
          rw [if_neg hne, ← hlen]
          exact all2_pick (hall.imp fun (P : VP) v y => P.mono l' y) _ fun i hi => by have := hsm.2 i (by simpa using hi); omega
end
theorem call_sorted {α : Type} {P : α → VP} {lt : α → α → Bool} {d : α} {xs : List α} {T : Value} (h64 : xs.length < 64) (hT : ∀ x, TyIs prog w φ (P x) T) (hT1 : (T != Value.type "tuple") = true) (hT2 : (T == T) = true) (hlt : ∀ x y, OpLt prog w ⟨k, n⟩ φ (P x) (P y) (lt x y)) :
    Spec prog w ⟨k + 2, n⟩ φ (.builtin "sorted") [vList (xs.map P)] (vList ((sortL lt d xs).map P)) := by
  intro A ψ s vs c l h
  obtain ⟨v, rfl, a, vs, j, rfl, ho, hall⟩ := one_arg h
  have hlen : vs.length = xs.length := by rw [← hall.length, List.length_map]
  have hl : s.heap.IsList a vs.toArray := ⟨_, c.sub _ _ ho, rfl, j, rfl⟩
  have hline : sizeLine = 16777216 := rfl
  refine Calls.call_function_entry kind_sorted plain_sorted entry_sorted (args_sorted1 _) ?_
  unfold Builtin.«sorted»
  refine wpAny_bind (m := checkCount "sorted" 1 1 _) (wpAny_pure ?_)
  refine wpAny_bind (collect_list hl ?_ (by omega))
  refine wpAny_bind (wpAny_newList ?_ (by omega))
  have hsz : ((s.heap.push (seqObj "list" #[] 0)).update s.heap.objs.size (Obj.mapSeq (· ++ vs.toArray))).objs.size = s.heap.objs.size + 1 := by
    rw [Heap.size_update, size_push']
  have hoL : (((s.heap.push (seqObj "list" #[] 0)).update s.heap.objs.size (Obj.mapSeq (· ++ vs.toArray))).push (seqObj "list" vs.toArray 0)).get? (s.heap.objs.size + 1) = some (seqObj "list" vs.toArray 0) := by
    rw [← hsz]; exact Heap.get?_push_size _ rfl
  have keep : ∀ b o, s.heap.get? b = some o → (((s.heap.push (seqObj "list" #[] 0)).update s.heap.objs.size (Obj.mapSeq (· ++ vs.toArray))).push (seqObj "list" vs.toArray 0)).get? b = some o := fun b o q => by
    have hlt : b < s.heap.objs.size := Heap.lt_size q
    rw [Heap.get?_push_ne _ _ _ (by rw [hsz]; exact Nat.ne_of_lt (Nat.lt_succ_of_lt hlt)), Heap.get?_update_ne _ _ _ _ (Nat.ne_of_lt hlt), Heap.get?_push_ne _ _ _ (Nat.ne_of_lt hlt)]
    exact q
  show wpAny _ _ _ _ _ { s with heap := ((s.heap.push (seqObj "list" #[] 0)).update s.heap.objs.size (Obj.mapSeq (· ++ vs.toArray))).push (seqObj "list" vs.toArray 0) }
  rw [hsz]
  have hn1 : s.heap.get? (s.heap.objs.size + 1) = none := Heap.get?_none_of_le (Nat.le_succ _)
  have x := ((Wk.start (F := frs A) c.sub).keeps (tk := s.toks) keep).lay hoL hn1 (none_of_sub c.sub hn1)
  refine wpAny_bind (wpAny_holding (wpAny_call_entry slot_list_sort ⟨_, hoL, rfl⟩ entry_list_sort ?_ (args_list_sort _)))
  refine list_sort_ok (d := d) (A := A.in1.in1) (vs := vs) (j := 0) h64 (c.in1.in1) l x (put_self _ _ _) hall hT hT1 hT2 hlt fun ψ' s' us j' l' x' hall' => ?_
  refine ⟨_, rfl, wpAny_pure ⟨_, rfl, put ψ' (s.heap.objs.size + 1) (lst us j'), x'.freeze (put_self _ _ _), _, us, j', rfl, put_self _ _ _, hall'.imp fun P v y => P.mono (le_put (x'.own _ _ (put_self _ _ _)).2.1) y⟩⟩

theorem sortL_length {α : Type} {lt : α → α → Bool} {d : α} (xs : List α) : (sortL lt d xs).length = xs.length := by
  unfold sortL
  split
  · rfl
  · rw [List.length_map, Array.length_toList]
    exact (safe_sort (n := xs.length) (by omega)).run.1
end Mine
namespace Mine
variable {prog : Program} {w : World} {X : Fix} {Γ : List (Str × VP)} {ψ ω φ : PM} {s s' : Shared} {k : Nat} {n b : Bool} {m : Str → Option Value} {μ : Md} {A : Around} {env : Env} {sc scope : Scope}
variable {E : Value → Shared → Prop}
noncomputable def OpEq (prog : Program) (w : World) (μ : Md) (φ : PM) (P Q : VP) (r : Bool) : Prop :=
  ∀ A ψ s u v, Cx μ A ψ s → Le φ ψ → P.p ψ u → Q.p ψ v → wpAny (model prog w) A (eqBool u v) (fun b s' => b = r ∧ ∃ ψ', Grow (frs A) ψ s ψ' s') (fun _ _ => False) s
noncomputable def isFl : Value → Bool
  | .float .. => true
  | _ => false
theorem opEq_of {P Q : VP} {r : Bool} (h : Op2 prog w μ φ (compareOp .Eq) P Q (vBool r)) (hs : ∀ ψ v, P.p ψ v → Q.p ψ v → r = true) (hf : ∀ ψ v, P.p ψ v → isFl v = false) : OpEq prog w μ φ P Q r := by
  intro A ψ s u v c l pu pv
  unfold eqBool
  refine wpAny_holding ?_
  by_cases e : (u == v) = true
  · rw [if_pos e]
    have e' : u = v := by simpa using e
    subst e'
    exact wpAny_bind (wpAny_rule (wpAny_pure ⟨(hs ψ u pu pv).symm, ψ, Grow.refl c.sub⟩))
  · rw [if_neg e]
    have hu := hf ψ u pu
    have key : wpAny (model prog w) A (do let x ← richCompare .Eq u v; truthOfDropped x) (fun b s' => b = r ∧ ∃ ψ', Grow (frs A) ψ s ψ' s') (fun _ _ => False) s := by
      refine wpAny_bind (wpAny_mono (h A ψ s u v c l pu pv) (fun x s' hx => ?_) fun _ _ e => e)
      obtain ⟨ψ', g, rfl⟩ := hx
      exact wpAny_truthy_bool ⟨rfl, ψ', g⟩
    cases u <;> first | exact key | (exfalso; revert hu; exact fun h => nomatch h)
noncomputable def again' (prog : Program) (w : World) (A : Around) (R : Result → Shared → Prop) : PySem.Fin → Shared → Prop := fun fin s' => match fin with | .done f => R (.ok f) s' | .again c' => c'.quiet = true ∧ codeAny (model prog w) A c' R s'
section
variable {α : Type} {P : α → VP} {Qx : VP} {eq : α → Bool} {vs : List Value} {l : Addr} {R : Result → Shared → Prop} {ys : List α} {x : Value}
theorem contains_loop (lφ : Le φ ψ) (hl : ∃ o n, ψ l = some o ∧ o.cls = .type "list" ∧ o.data = .seq vs.toArray n) (hall : All2 (fun (P : VP) v => P.p ψ v) (ys.map P) vs) (hx : Qx.p ψ x) (he : ∀ y, OpEq prog w ⟨k, n⟩ φ (P y) Qx (eq y)) :
    ∀ (m i : Nat), vs.length - i = m → ∀ A ψ1 s, Cx ⟨k + 1, n⟩ A ψ1 s → Le ψ ψ1 → (∀ ψ' s', Grow (frs A) ψ1 s ψ' s' → R (.ok (.ret (.bool ((ys.drop i).any eq)))) s') →
      wpAny (model prog w) A.in1 (Builtin.«list.__contains__.loop» ⟨[.ref l, x, rawInt i], []⟩) (again' prog w A R) (fun e s' => R (.error e) s') s := by
  have hlen : vs.length = ys.length := by rw [← hall.length, List.length_map]
  obtain ⟨⟨cls, dd, data, sl⟩, n0, hψ, hc, hd⟩ := hl
  simp only at hc hd
  subst hc hd
  intro m
  induction m with
  | zero =>
    intro i hk A ψ1 s c l1 q
    have hl := c.sub _ _ (l1 _ _ hψ)
    have q1 := q ψ1 s (Grow.refl c.sub)
    obtain ⟨hp, g, d, tk, os⟩ := s
    wp_walk using wpAny_loadPart' hl
    have hi : vs.toArray[((i : Nat) : Int).toNat]? = none := by simp; omega
    have hd : ys.drop i = [] := List.drop_eq_nil_of_le (by omega)
    rw [hd] at q1
    rw [hi]
    wp_walk
    exact q1
  | succ m ih =>
    intro i hk A ψ1 s c l1 q
    have hl := c.sub _ _ (l1 _ _ hψ)
    have hlt : i < vs.length := by omega
    have hlt' : i < ys.length := by omega
    have he0 : wpAny (model prog w) A.in1 (eqBool vs[i] x) (fun b s' => b = eq ys[i] ∧ ∃ ψ', Grow (frs A) ψ1 s ψ' s') (fun _ _ => False) s := by
      obtain ⟨P0, e0, p0⟩ := hall.get' (List.getElem?_eq_getElem hlt)
      rw [List.getElem?_map, List.getElem?_eq_getElem hlt'] at e0
      cases e0
      exact he _ A.in1 ψ1 s _ _ c.in1 (lφ.trans l1) ((P _).mono l1 p0) (Qx.mono l1 hx)
    obtain ⟨hp, g, d, tk, os⟩ := s
    wp_walk using wpAny_loadPart' hl
    have hi : vs.toArray[((i : Nat) : Int).toNat]? = some vs[i] := by simp [hlt]
    have hd : ys.drop i = ys[i] :: ys.drop (i + 1) := List.drop_eq_getElem_cons hlt'
    rw [hd, List.any_cons] at q
    rw [hi]
    refine wpAny_bind (wpAny_mono he0 (fun b s' hb => ?_) fun _ _ e => e.elim)
    obtain ⟨rfl, ψ2, g2⟩ := hb
    cases hb : eq ys[i] with
    | true =>
      rw [hb] at q
      wp_walk
      exact q ψ2 s' g2
    | false =>
      rw [hb] at q
      have hc : ((i : Int) + 1) = ((i + 1 : Nat) : Int) := by push_cast; rfl
      wp_walk
      rw [hc]
      refine ⟨plainId_quiet MeetsSeq.plain_contains_loop _, codeAny_builtin MeetsSeq.entry_contains_loop ?_⟩
      rw [Around.under_plainId MeetsSeq.plain_contains_loop _]
      exact ih (i + 1) (by omega) A ψ2 s' (c.grow g2) (l1.trans g2.le) fun ψ3 s3 g3 => q ψ3 s3 (g2.trans g3)
end
theorem call_wp {T : String} {name : Str} {id : String} {Bu : Builtin} {self : Value} {rest : List Value} {Q : Value → Shared → Prop} (slot : Slot T name id) (hT : s.TypeIs self T) (entry : entryFor table id = some Bu) (args : argsOk id ⟨self :: rest, []⟩)
    (h : wpAny (model prog w) A.in1 (Bu ⟨self :: rest, []⟩) (again' prog w A (wants Q E)) (fun e s' => wants Q E (.error e) s') s) : wpAny (model prog w) A (call (.builtin id) (self :: rest)) Q E s :=
  call_meetsIn (S := fun A R s => wpAny (model prog w) A.in1 (Bu ⟨self :: rest, []⟩) (again' prog w A R) (fun e s' => R (.error e) s') s) slot hT entry args (fun _ _ _ h => h) h
section
variable {α : Type} {P : α → VP} {Qx : VP} {eq : α → Bool} {ys : List α}
theorem call_contains {Q : Value → Shared → Prop} {l : Addr} {x : Value} (c : Cx ⟨k + 1, n⟩ A ψ s) (lφ : Le φ ψ) (hl : (vList (ys.map P)).p ψ (.ref l)) (hx : Qx.p ψ x) (he : ∀ y, OpEq prog w ⟨k, n⟩ φ (P y) Qx (eq y)) (q : ∀ ψ' s', Grow (frs A) ψ s ψ' s' → Q (.bool (ys.any eq)) s') :
    wpAny (model prog w) A (call (.builtin "list.__contains__") [.ref l, x]) Q E s := by
  obtain ⟨_, vs, j, hr, ho, hall⟩ := hl
  cases hr
  refine call_wp PySem.F.slot_list_contains ⟨_, c.sub _ _ ho, rfl⟩ PySem.F.entry_list_contains (PySem.F.args_list_contains_2 _ _) ?_
  have h := contains_loop (prog := prog) (w := w) (k := k) (n := n) (eq := eq) (R := wants Q E) lφ ⟨_, _, ho, rfl, rfl⟩ hall hx he _ 0 rfl A ψ s c (Le.refl _) fun ψ' s' g => by exact q ψ' s' g
  have hl := c.sub _ _ ho
  have hl0 := hl
  obtain ⟨hp, g, d, tk, os⟩ := s
  wp_walk using wpAny_loadPart' hl
  refine ⟨plainId_quiet MeetsSeq.plain_contains_loop _, codeAny_builtin MeetsSeq.entry_contains_loop ?_⟩
  rw [Around.under_plainId MeetsSeq.plain_contains_loop _]
  exact h
theorem op_notIn (he : ∀ y, OpEq prog w ⟨k, n⟩ φ (P y) Qx (eq y)) : Op2 prog w ⟨k + 1, n⟩ φ (compareOp .NotIn) Qx (vList (ys.map P)) (vBool (!ys.any eq)) := by
  intro A ψ s x lv c l hx hl
  have hl' := hl
  obtain ⟨a, vs, j, rfl, ho, hall⟩ := hl'
  show wpAny _ A (do return Value.bool (!(← contains (.ref a) x)) : Sem Value) _ _ s
  refine wpAny_bind (wpAny_contains_slot (T := "list") ⟨_, c.sub _ _ ho, rfl⟩ PySem.F.slot_list_contains (call_contains c l hl hx he fun ψ' s' g => ?_))
  exact wpAny_truthy_bool (wpAny_pure ⟨ψ', g, rfl⟩)
end
theorem opEq_str {x y : Str} : OpEq prog w μ φ (vStr x) (vStr y) (x == y) := opEq_of op_eq_str (fun ψ v h1 h2 => by obtain ⟨t, rfl⟩ := h1; obtain ⟨u, h⟩ := h2; cases h; simp) (fun ψ v h => by obtain ⟨t, rfl⟩ := h; rfl)
theorem opLt_str {x y : Str} : OpLt prog w μ φ (vStr x) (vStr y) (x.cps.toList < y.cps.toList) := by
  rintro A ψ s _ _ c l ⟨t, rfl⟩ ⟨u, rfl⟩
  exact kas_lt_str ⟨rfl, ψ, Grow.refl c.sub⟩
theorem tyIs_str {x : Str} : TyIs prog w φ (vStr x) (.type "str") := by
  rintro ψ v h l hs ⟨t, rfl⟩
  exact Looks.of_pure rfl
end Mine
namespace Mine
variable {prog : Program} {w : World} {X : Fix} {Γ : List (Str × VP)} {ψ ω φ : PM} {s s' : Shared} {k : Nat} {n b : Bool} {m : Str → Option Value} {μ : Md} {A : Around} {env : Env} {sc scope : Scope}
variable {E : Value → Shared → Prop}
noncomputable def DE (h : Heap) (d : Addr) (es : Array DictEntry) (ep : Nat) : Prop := ∃ o, h.get? d = some o ∧ o.ExactDict ∧ o.data = .dict es ep
theorem DE.typeIs {d : Addr} {es : Array DictEntry} {ep : Nat} (h : DE s.heap d es ep) : s.TypeIs (.ref d) "dict" := let ⟨o, ho, hc, _⟩ := h; ⟨o, ho, hc.1⟩
theorem DE.at {h h' : Heap} {d : Addr} {es : Array DictEntry} {ep : Nat} (x : DE h d es ep) (k : ∀ o, h.get? d = some o → h'.get? d = some o) : DE h' d es ep := let ⟨o, ho, r⟩ := x; ⟨o, k _ ho, r⟩
section
variable {d it : Addr} {es : Array DictEntry} {ep i : Nat}
theorem iter_dict {Q : Value → Shared → Prop} (hd : (d == sysModules) = false) (hm : DE s.heap d es ep) (hQ : Q (.ref s.heap.objs.size) { s with heap := s.heap.push { cls := .type "dict_keyiterator", data := .fields #[.ref d, .int 0 0, .int es.size 0, .int ep 0] } }) :
    wpAny (model prog w) A (pyIter (.ref d)) Q E s := by
  have hT := hm.typeIs
  obtain ⟨o, ho, hc, hdat⟩ := id hm
  refine wpAny_pyIter_slot hT PySem.F.slot_dict_iter (wpAny_call_entry PySem.F.slot_dict_iter hT PySem.F.entry_dict_iter ?_ (PySem.F.args_dict_iter_1 _))
  unfold Builtin.«dict.__iter__»
  refine wpAny_bind ?_
  unfold Builtin.Dict.dictSlotNone
  refine wpAny_bind (wpAny_notOrdered_dict hT ?_)
  show wpAny _ _ (pure (Value.ref d)) _ _ s
  refine wpAny_pure ?_
  show wpAny _ _ (Builtin.Dict.showsAll d >>= _) _ _ s
  unfold Builtin.Dict.showsAll
  rw [if_neg (by rw [hd]; exact Bool.false_ne_true)]
  refine wpAny_bind (wpAny_pure ?_)
  refine wpAny_bind (wpAny_dictEntries ho hdat ?_)
  refine wpAny_bind (wpAny_dictEpoch ho hdat ?_)
  refine wpAny_bind (wpAny_newObj_type (wpAny_pure ⟨_, rfl, "dict_keyiterator", _, ⟨_, Heap.get?_push_size _ rfl, rfl⟩, PySem.F.slot_dict_keyiterator_next.lookup, ?_⟩))
  simpa [rawInt] using hQ
theorem next_dict {Q : Option Value → Shared → Prop} (hit : s.heap.IsKeyIter it d i es.size ep) (hm : DE s.heap d es ep) (hlt : i < es.size)
    (hQ : ∀ h', h'.IsKeyIter it d (i + 1) es.size ep → Heap.SameBut it s.heap h' → Q (some es[i].key) { s with heap := h' }) : wpAny (model prog w) A (pyNext (.ref it)) Q E s := by
  obtain ⟨o, ho, hc, hd⟩ := id hit
  obtain ⟨od, hod, hcd, hdd⟩ := id hm
  unfold pyNext
  refine wpAny_bind (wpAny_attempt (wpAny_callSpecial?_slot (name := Str.ofString "__next__") hit.typeIs PySem.F.slot_dict_keyiterator_next
    (wpAny_call_entry PySem.F.slot_dict_keyiterator_next hit.typeIs PySem.F.entry_dict_keyiterator_next ?_ (PySem.F.args_dict_keyiterator_next_1 _))))
  refine wpAny_bind (wpAny_pure ?_)
  refine wpAny_bind ?_
  refine wpAny_bind ?_
  first | refine wpAny_bind (wpAny_typeNameOfWhole_keyiter hit.typeIs (wpAny_pure ?_)) | refine wpAny_bind (wpAny_typeNameOf_keyiter hit.typeIs (wpAny_pure ?_))
  refine wpAny_bind (wpAny_fieldsOf ho hd ?_)
  have hown : Builtin.Dict_items.ownsTuple "dict_keyiterator" = false := by decide
  simp only [hown, Bool.false_eq_true, if_false]
  show wpAny _ _ (if (Value.ref d == Value.none) = true then _ else _) _ _ s
  rw [if_neg (show ¬ ((Value.ref d == Value.none) = true) from Bool.false_ne_true)]
  refine wpAny_bind (wpAny_pure ?_)
  refine wpAny_bind (wpAny_dictEntries hod hdd ?_)
  rw [if_neg (by simp)]
  refine wpAny_bind (wpAny_pure ?_)
  refine wpAny_bind (wpAny_dictEpoch hod hdd ?_)
  rw [if_neg (by simp)]
  refine wpAny_pure ?_
  simp only [show ¬ ((i : Int) < 0) from by omega, if_false, Int.toNat_natCast, Array.getElem?_eq_getElem hlt]
  refine wpAny_bind ?_
  first | refine wpAny_bind (wpAny_typeNameOfWhole_keyiter hit.typeIs (wpAny_pure ?_)) | refine wpAny_bind (wpAny_typeNameOf_keyiter hit.typeIs (wpAny_pure ?_))
  refine wpAny_bind (wpAny_isOneOf_keyiter hit.typeIs ?_)
  show wpAny _ _ (setField (.ref it) 1 (rawInt ((i : Int) + 1)) >>= _) _ _ s
  refine wpAny_bind (wpAny_setField ho hd (by simp) ?_)
  have hit' : (s.heap.update it (Obj.mapFields (·.setIfInBounds 1 (rawInt ((i : Int) + 1))))).IsKeyIter it d (i + 1) es.size ep :=
    ⟨_, Heap.get?_update_self _ ho (Obj.isFreed_of_fields (Obj.data_mapFields hd _)), (Obj.cls_mapFields ..).trans hc, by rw [Obj.data_mapFields hd]; simp [rawInt]⟩
  refine wpAny_bind (wpAny_holding ?_)
  refine wpAny_bind (wpAny_isOneOf_keyiter (s := { s with heap := s.heap.update it (Obj.mapFields (·.setIfInBounds 1 (rawInt ((i : Int) + 1)))) }) hit'.typeIs ?_)
  show wpAny _ _ (pure es[i].key) _ _ _
  exact wpAny_pure (wpAny_pure ⟨_, rfl, wpAny_pure (hQ _ hit' (Heap.SameBut.update ..))⟩)
theorem end_dict {Q : Option Value → Shared → Prop} (hh : A.handled = none) (hit : s.heap.IsKeyIter it d i es.size ep) (hm : DE s.heap d es ep) (hge : es.size ≤ i)
    (hQ : ∀ h', Heap.ExtBut it s.heap h' → Q none { s with heap := h' }) : wpAny (model prog w) A (pyNext (.ref it)) Q E s := by
  obtain ⟨o, ho, hc, hd⟩ := id hit
  obtain ⟨od, hod, hcd, hdd⟩ := id hm
  unfold pyNext
  refine wpAny_bind (wpAny_attempt (wpAny_callSpecial?_slot (name := Str.ofString "__next__") hit.typeIs PySem.F.slot_dict_keyiterator_next
    (wpAny_call_entry PySem.F.slot_dict_keyiterator_next hit.typeIs PySem.F.entry_dict_keyiterator_next ?_ (PySem.F.args_dict_keyiterator_next_1 _))))
  refine wpAny_bind (wpAny_pure ?_)
  refine wpAny_bind ?_
  refine wpAny_bind ?_
  first | refine wpAny_bind (wpAny_typeNameOfWhole_keyiter hit.typeIs (wpAny_pure ?_)) | refine wpAny_bind (wpAny_typeNameOf_keyiter hit.typeIs (wpAny_pure ?_))
  refine wpAny_bind (wpAny_fieldsOf ho hd ?_)
  have hown : Builtin.Dict_items.ownsTuple "dict_keyiterator" = false := by decide
  simp only [hown, Bool.false_eq_true, if_false]
  show wpAny _ _ (if (Value.ref d == Value.none) = true then _ else _) _ _ s
  rw [if_neg (show ¬ ((Value.ref d == Value.none) = true) from Bool.false_ne_true)]
  refine wpAny_bind (wpAny_pure ?_)
  refine wpAny_bind (wpAny_dictEntries hod hdd ?_)
  rw [if_neg (by simp)]
  refine wpAny_bind (wpAny_pure ?_)
  refine wpAny_bind (wpAny_dictEpoch hod hdd ?_)
  rw [if_neg (by simp)]
  refine wpAny_pure ?_
  simp only [show ¬ ((i : Int) < 0) from by omega, if_false, Int.toNat_natCast, Array.getElem?_eq_none hge]
  refine wpAny_bind ?_
  first | refine wpAny_bind (wpAny_typeNameOfWhole_keyiter hit.typeIs (wpAny_pure ?_)) | refine wpAny_bind (wpAny_typeNameOf_keyiter hit.typeIs (wpAny_pure ?_))
  show wpAny _ _ (setField (.ref it) 0 .none >>= _) _ _ s
  refine wpAny_bind (wpAny_setField ho hd (by simp) ?_)
  show wpAny _ _ (newExc (.type "StopIteration") [] >>= _) _ _ _
  refine wpAny_bind ?_
  simp only [newExc, newTuple]
  refine wpAny_bind (wpAny_newObj_type ?_ (by size_fits))
  refine wpAny_bind (m := firstArgMember _ _) (wpAny_of_eq (a := Value.none) (by first | rfl | (simp only [firstArgMember]; rfl)) ?_)
  refine wpAny_newObj_type ?_ (by size_fits)
  simp only [raiseNew]
  refine wpAny_bind (wpAny_handled ?_)
  rw [show A.in1.handled = none from hh]
  refine wpAny_bind (wpAny_pure (wpAny_throw ?_))
  refine wpAny_bind (wpAny_isInstance (T := "StopIteration") (b := true) ⟨_, Heap.get?_push_size _ rfl, rfl⟩ isSubtype_stop ?_)
  exact wpAny_pure (hQ _ (((Heap.SameBut.update ..).extBut.push _).push _))
theorem walk_dict (hh : A.handled = none) (I d : Addr) (hne : d ≠ I) (es : Array DictEntry) (ep : Nat) :
    Walks prog w A I [I, d] [I] es.size (fun i v => (es[i]?).map (·.key) = some v) (fun i h => h.IsKeyIter I d i es.size ep ∧ DE h d es ep) where
  sub := fun b hb => by simp at hb; simp [hb]
  frame := fun _ _ _ st hk => ⟨st.1.at fun o e => hk I (by simp) o e, st.2.at fun o e => hk d (by simp) o e⟩
  item := fun i s Q E hi st hQ => next_dict st.1 st.2 hi fun h' hit' hs' => hQ _ h' s.toks (by simp [hi]) ⟨hit', st.2.at fun o e => hs'.extBut d o hne e⟩ fun b o hb e => hs'.extBut b o (fun h => hb (by simp [h])) e
  done := fun s Q E st hQ => end_dict hh st.1 st.2 (Nat.le_refl _) fun h' he' => hQ h' s.toks fun b o hb e => he' b o (fun h => hb (by simp [h])) e
  self := fun _ _ _ _ st hQ => wpAny_pyIter_keyiter st.1 hQ
theorem kdl_any (lo : (d == sysModules) = false) : KdlSrc prog w "dict" d d es.size (fun i v => (es[i]?).map (·.key) = some v) (fun h => DE h d es ep) where
  type := fun _ hm => hm.typeIs
  there := fun _ hm => by obtain ⟨o, ho, _⟩ := hm; exact ⟨Heap.lt_size ho, Heap.lt_size ho⟩
  keep := fun _ _ hm hk => hm.at fun o e => hk d (.inl rfl) o e
  notList := by decide
  notTuple := by decide
  hint := fun _ _ _ _ hm hq => kdl_hint_dict hm.typeIs hq
  iter := fun _ s hh hm => ⟨_, _, (fun _ _ hq => iter_dict lo hm hq), walk_dict hh _ d (by obtain ⟨o, ho, _⟩ := hm; exact Nat.ne_of_lt (Heap.lt_size ho)) es ep, ⟨⟨_, Heap.get?_push_size _ rfl, rfl, rfl⟩, hm.at fun o e => Heap.get?_push_of_some _ e⟩⟩
end
noncomputable def vKeys (ps : List VP) : VP := ⟨fun ψ v => ∃ d o es ep, v = .ref d ∧ (d == sysModules) = false ∧ ψ d = some o ∧ o.ExactDict ∧ o.data = .dict es ep ∧ All2 (fun (P : VP) v => P.p ψ v) ps (es.toList.map (·.key)),
  fun l ⟨d, o, es, ep, e, h1, h2, h3, h4, h5⟩ => ⟨d, o, es, ep, e, h1, l _ _ h2, h3, h4, h5.imp fun P v x => P.mono l x⟩⟩
theorem call_list_keys {ps : List VP} (hn : n = true) (hsz : ps.length ≤ sizeLine) : Spec prog w ⟨k, n⟩ φ (.type "list") [vKeys ps] (vList ps) := by
  intro A ψ s vs c l h
  obtain ⟨v, rfl, d, o, es, ep, rfl, hlo, ho, hx, hd, hall⟩ := one_arg h
  have hlen : es.size = ps.length := by have := hall.length; simp at this; omega
  refine kdl_call (kdl_any hlo (es := es) (ep := ep)) (c.none hn) ⟨o, c.sub _ _ ho, hx, hd⟩ (by omega) fun h' tk acc c' hk hD hacc => ?_
  have hno := none_of_sub c.sub (get_size s.heap)
  refine ⟨put ψ s.heap.objs.size (lst acc.toList c'), ⟨Ext.of_keeps hk, le_put hno, Sub.put (fun a o e => hk a o (c.sub a o e)) (by rw [hD]; simp [lst]), fun b x e => ?_⟩, _, acc.toList, c', rfl, put_self _ _ _, ?_⟩
  · by_cases q : b = s.heap.objs.size
    · subst q; exact .inr (get_size _)
    · rw [put_ne q] at e; exact .inl e
  · have e : acc.toList = es.toList.map (·.key) := by
      refine List.ext_getElem? fun i => ?_
      by_cases hi : i < acc.size
      · have h1 := hacc.2 i acc[i] (by simp [hi])
        rw [Array.getElem?_toList, Array.getElem?_eq_getElem hi, List.getElem?_map, Array.getElem?_toList]
        exact h1.symm
      · have h0 := hacc.1
        rw [List.getElem?_eq_none (by simp; omega), List.getElem?_eq_none (by simp; omega)]
    rw [e]
    exact hall.imp fun P v y => P.mono (le_put hno) y
end Mine
namespace Mine
variable {prog : Program} {w : World} {X : Fix} {Γ : List (Str × VP)} {ψ ω φ : PM} {s s' : Shared} {k : Nat} {n b : Bool} {m : Str → Option Value} {μ : Md} {A : Around} {env : Env} {sc scope : Scope}
variable {E : Value → Shared → Prop}
theorem entry_fk : entryFor table "dict.fromkeys" = some Builtin.«dict.fromkeys» := entryFor_of_tree (by kernel_rfl)
theorem entry_fkl : entryFor table "dict.fromkeys.loop" = some Builtin.«dict.fromkeys.loop» := entryFor_of_tree (by kernel_rfl)
theorem plain_fkl : plainId "dict.fromkeys.loop" = true := by decide +kernel
theorem plain_fk : plainId "dict.fromkeys" = true := by decide +kernel
theorem check_fk (a : Value) : checkBoundCall "dict.fromkeys" ⟨[.type "dict", a], []⟩ = pure () := by first | kernel_rfl | rfl
section
variable {K : Type} [DecidableEq K] {knd : HeapKind prog w K} {d I l : Addr} {items : Array Value} {R : Result → Shared → Prop}
noncomputable def foldK (rest : List (K × Addr)) (xs : List (K × Addr × Value)) : List (K × Addr × Value) := rest.foldl (fun xs p => storedH xs p.1 p.2 .none) xs
theorem stored_len (xs : List (K × Addr × Value)) (k : K) (a : Addr) (v : Value) : (storedH xs k a v).length ≤ xs.length + 1 := by
  unfold storedH
  split
  · rw [List.length_map]; omega
  · rw [List.length_append]; exact Nat.le_refl _
theorem DictOfH.move {h h' : Heap} {xs : List (K × Addr × Value)} (x : h.DictOfH knd d xs) (hk : ∀ o, h.get? d = some o → h'.get? d = some o) (hi : ∀ y ∈ xs, knd.is h' y.1 y.2.1) : h'.DictOfH knd d xs :=
  let ⟨o, es, ep, ho, hx, hd, he, _, hn⟩ := x; ⟨o, es, ep, hk _ ho, hx, hd, he, hi, hn⟩
theorem fk_loop (hr : knd.room A.in1) (hh : A.handled = none) (hne : l ≠ I) (hdI : d ≠ I) (hdl : d ≠ l) :
    ∀ (rest : List (K × Addr)) (i : Nat) (xs : List (K × Addr × Value)) (s : Shared), items.toList.drop i = rest.map (fun p => Value.ref p.2) → (∀ p ∈ rest, ∀ h, Sub ψ h → knd.is h p.1 p.2) → (∀ x ∈ xs, ∀ h, Sub ψ h → knd.is h x.1 x.2.1) → xs.length + rest.length ≤ 1000 →
      Sub ψ s.heap → ψ d = none → ψ I = none → s.heap.DictOfH knd d xs → s.heap.IsListIter I l i → s.heap.IsList l items →
      (∀ h' tk, h'.DictOfH knd d (foldK rest xs) → (∀ b o, b ≠ d → b ≠ I → s.heap.get? b = some o → h'.get? b = some o) → R (.ok (.ret (.ref d))) { s with heap := h', toks := tk }) →
      wpAny (model prog w) A.in1 (Builtin.«dict.fromkeys.loop» ⟨[.ref d, .ref I, .none], []⟩) (again' prog w A R) (fun e s' => R (.error e) s') s := by
  have hline : sizeLine = 16777216 := rfl
  intro rest
  induction rest with
  | nil =>
    intro i xs s hdrop _ hxs _ hs hψd hψI hD hit hl q
    unfold Builtin.«dict.fromkeys.loop»
    have hge : items.size ≤ i := by
      have := congrArg List.length hdrop
      simp at this; omega
    refine wpAny_bind (wpAny_pyNext_list_end (A := A.in1) hh hit hl (Array.getElem?_eq_none hge) fun h' he' => ?_)
    replace he' : Heap.ExtBut I s.heap h' := he'
    have hs' : Sub ψ h' := fun a o e => he' a o (fun q => by rw [q, hψI] at e; cases e) (hs a o e)
    exact wpAny_pure (q h' s.toks (DictOfH.move hD (fun o e => he' d o hdI e) fun y hy => hxs y hy h' hs') fun b o h1 h2 e => he' b o h2 e)
  | cons p rest ih =>
    intro i xs s hdrop hrest hxs hlen hs hψd hψI hD hit hl q
    have hi : items[i]? = some (.ref p.2) := by
      have := congrArg (·[0]?) hdrop
      simp only [List.getElem?_drop, List.map_cons, List.getElem?_cons_zero, Nat.add_zero, Array.getElem?_toList] at this
      exact this
    have hdrop' : items.toList.drop (i + 1) = rest.map (fun p => Value.ref p.2) := by
      have := congrArg (List.drop 1) hdrop
      rw [List.drop_drop] at this
      simpa using this
    unfold Builtin.«dict.fromkeys.loop»
    refine wpAny_bind (wpAny_pyNext_list_item (A := A.in1) hit hl hi fun h1 hit1 hs1 => ?_)
    replace hs1 : Heap.SameBut I s.heap h1 := hs1
    have k1 : ∀ b o, b ≠ I → s.heap.get? b = some o → h1.get? b = some o := fun b o hb e => (hs1.2 b hb).trans e
    have hS1 : Sub ψ h1 := fun a o e => k1 a o (fun q => by rw [q, hψI] at e; cases e) (hs a o e)
    have hD1 : h1.DictOfH knd d xs := DictOfH.move hD (fun o e => k1 d o hdI e) fun y hy => hxs y hy h1 hS1
    have hT : Shared.TypeIs { s with heap := h1 } (.ref d) "dict" := hD1.typeIs
    dsimp only
    refine wpAny_bind (wpAny_typeOf hT ?_)
    rw [if_pos (by decide)]
    refine wpAny_bind (m := Builtin.Dict.addrOf (.ref d)) (wpAny_pure ?_)
    refine wpAny_bind (wpAny_holding ?_)
    refine wpAny_dictSet_heap (s := { s with heap := h1 }) hr (hrest p (.head _) h1 hS1) hD1 (fun h2 hD2 hs2 => ?_) (by simp only [List.length_cons] at hlen; omega)
    replace hs2 : Heap.SameBut d h1 h2 := hs2
    have k2 : ∀ b o, b ≠ d → h1.get? b = some o → h2.get? b = some o := fun b o hb e => (hs2.2 b hb).trans e
    refine wpAny_pure ⟨plainId_quiet plain_fkl _, codeAny_builtin entry_fkl ?_⟩
    rw [Around.under_plainId plain_fkl _]
    refine ih (i + 1) (storedH xs p.1 p.2 .none) _ hdrop' (fun p' hp => hrest p' (.tail _ hp)) (fun x hx => ?_) ?_ (fun a o e => k2 a o (fun q => by rw [q, hψd] at e; cases e) (hS1 a o e)) hψd hψI hD2 (hit1.at fun o e => k2 I o (Ne.symm hdI) e) (hl.at fun o e => k2 l o (Ne.symm hdl) (k1 l o hne e)) fun h' tk hD' hk' => ?_
    · rcases mem_storedH hx with ⟨y, hy, e1, e2⟩ | ⟨e1, e2⟩
      · rw [e1, e2]; exact hxs y hy
      · rw [e1, e2]; exact hrest p (.head _)
    · have := stored_len xs p.1 p.2 .none
      simp only [List.length_cons] at hlen; omega
    · exact q h' tk hD' fun b o h1 h2 e => hk' b o h1 h2 (k2 b o h1 (k1 b o h2 e))
end
theorem typeCall_dict_0 : checkTypeCall "dict" ⟨[], []⟩ = pure () := by kernel_rfl
theorem newCall_dict_0 : checkBuiltinCall "dict.__new__" ⟨[.type "dict"], []⟩ = pure () := by kernel_rfl
theorem code_dict_new0 {Q₁ : Value → Shared → Prop} (h : Q₁ (.ref s.heap.objs.size) { s with heap := s.heap.push { cls := .type "dict", data := .dict #[] } }) :
    codeAny (model prog w) A (.call (.builtin "dict.__new__") ⟨[.type "dict"], []⟩) (wants Q₁ E) s := by
  refine codeAny_call_builtin PySem.F.kt_plain_dict_new PySem.F.kt_entry_dict_new (wpAny_of_eq newCall_dict_0 ?_)
  have hsub := PySem.F.kt_sub_dict
  have hmro := PySem.F.kt_mro_dict
  obtain ⟨hp, g, d, tk, os⟩ := s
  unfold Builtin.«dict.__new__»
  wp_walk
  exact h
theorem call_dict_empty {Q : Value → Shared → Prop} (h : Q (.ref s.heap.objs.size) { s with heap := s.heap.push { cls := .type "dict", data := .dict #[] } }) :
    wpAny (model prog w) A (call (.type "dict") []) Q E s := by
  refine callType_codes (Q₁ := fun obj s₁ => obj = .ref s.heap.objs.size ∧ s₁ = { s with heap := s.heap.push { cls := .type "dict", data := .dict #[] } }) PySem.F.kt_called_dict typeCall_dict_0 PySem.F.entry_dict_init (code_dict_new0 ⟨rfl, rfl⟩) ?_
  rintro obj s₁ ⟨rfl, rfl⟩
  have hT : Shared.TypeIs { s with heap := s.heap.push { cls := .type "dict", data := .dict #[] } } (.ref s.heap.objs.size) "dict" := ⟨_, Heap.get?_push_size _ rfl, rfl⟩
  refine ⟨hT, PySem.F.args_dict_init_1 _, ?_⟩
  unfold Builtin.«dict.__init__»
  refine wpAny_bind ?_
  unfold Builtin.Dict.selfAndRest
  refine wpAny_bind (wpAny_notOrdered_dict hT ?_)
  show wpAny _ _ (pure (s.heap.objs.size, ([] : List Value))) _ _ _
  refine wpAny_pure ?_
  show wpAny _ _ (Builtin.Dict.addKeywords s.heap.objs.size [] >>= fun _ => ret Value.none) _ _ _
  exact wpAny_bind (wpAny_pure (wpAny_pure ⟨rfl, h⟩))
noncomputable def ddK {α K : Type} [DecidableEq K] (key : α → K) (xs : List α) : List α := xs.foldl (fun acc x => if acc.any (fun y => decide (key y = key x)) then acc else acc ++ [x]) []
section
variable {α K : Type} [DecidableEq K] {key : α → K} {P : α → VP}
noncomputable def RelK (key : α → K) (P : α → VP) (ψ : PM) (x : α) (y : K × Addr × Value) : Prop := y.1 = key x ∧ (P x).p ψ (.ref y.2.1) ∧ y.2.2 = .none
theorem rel_any {x : α} : ∀ {acc : List α} {ys : List (K × Addr × Value)}, All2 (RelK key P ψ) acc ys → (atKey ys (key x)).isSome = acc.any (fun y => decide (key y = key x))
  | [], _, .nil => rfl
  | y :: acc, z :: ys, .cons h t => by
    have ih := rel_any (x := x) t
    unfold atKey at ih ⊢
    rw [List.any_cons, List.find?_cons, h.1]
    by_cases q : key y = key x
    · simp [q]
    · rw [decide_eq_false q]
      simpa using ih
theorem rel_put {k : K} : ∀ {acc : List α} {ys : List (K × Addr × Value)}, All2 (RelK key P ψ) acc ys → ys.map (putAt k .none) = ys
  | [], _, .nil => rfl
  | y :: acc, (z1, z2, z3) :: ys, .cons h t => by
    have h3 : z3 = .none := h.2.2
    rw [List.map_cons, rel_put t]
    subst h3
    unfold putAt
    split <;> rfl
theorem rel_fold : ∀ (xs : List α) (as : List Addr) (acc : List α) (ys : List (K × Addr × Value)), All2 (fun (P : VP) v => P.p ψ v) (xs.map P) (as.map Value.ref) → All2 (RelK key P ψ) acc ys →
    All2 (RelK key P ψ) (xs.foldl (fun acc x => if acc.any (fun y => decide (key y = key x)) then acc else acc ++ [x]) acc) (foldK ((xs.map key).zip as) ys)
  | [], [], _, _, _, h => h
  | x :: xs, a :: as, acc, ys, .cons h t, hr => by
    show All2 _ (xs.foldl _ (if acc.any (fun y => decide (key y = key x)) then acc else acc ++ [x])) (foldK ((xs.map key).zip as) (storedH ys (key x) a .none))
    refine rel_fold xs as _ _ t ?_
    unfold storedH
    rw [rel_any hr]
    by_cases q : acc.any (fun y => decide (key y = key x)) = true
    · rw [if_pos q, if_pos q, rel_put hr]; exact hr
    · rw [if_neg q, if_neg q]; exact hr.append (.cons ⟨rfl, h, rfl⟩ .nil)
theorem refs_of {xs : List α} (href : ∀ x ψ v, (P x).p ψ v → ∃ a, v = .ref a) : ∀ {xs : List α} {vs : List Value}, All2 (fun (P : VP) v => P.p ψ v) (xs.map P) vs → ∃ as : List Addr, vs = as.map Value.ref
  | [], [], .nil => ⟨[], rfl⟩
  | x :: xs, v :: vs, .cons h t => by
    obtain ⟨a, rfl⟩ := href x ψ v h
    obtain ⟨as, rfl⟩ := refs_of (xs := xs) href t
    exact ⟨a :: as, rfl⟩
theorem rel_keys {knd : HeapKind prog w K} : ∀ {acc : List α} {ys : List (K × Addr × Value)}, All2 (RelK key P ψ) acc ys → All2 (fun (P : VP) v => P.p ψ v) (acc.map P) ((ys.map (entryOfKey knd)).map (·.key))
  | [], _, .nil => .nil
  | _ :: _, _ :: _, .cons h t => .cons h.2.1 (rel_keys t)
theorem spec_fk {knd : HeapKind prog w K} {xs : List α} {x : Addr} (ho : φ x = some (bndO "dict.fromkeys" "dict")) (hmods : ∃ o, φ sysModules = some o) (hroom : ∀ A ψ s, Cx ⟨k, true⟩ A ψ s → knd.room A.in1)
    (hkey : ∀ x ψ v, (P x).p ψ v → ∃ a, v = .ref a ∧ ∀ h, Sub ψ h → knd.is h (key x) a) (hsz : xs.length ≤ 1000) : Spec prog w ⟨k, true⟩ φ (.ref x) [vList (xs.map P)] (vKeys ((ddK key xs).map P)) := by
  intro A ψ s vs c l h
  obtain ⟨v, rfl, a, vs, j, rfl, hoa, hall⟩ := one_arg h
  obtain ⟨as, rfl⟩ := refs_of (xs := xs) (fun x ψ v h => let ⟨a, e, _⟩ := hkey x ψ v h; ⟨a, e⟩) hall
  show wpAny (model prog w) A (call (.ref x) [.ref a]) _ _ s
  refine call_bnd (c.sub _ _ (l _ _ ho)) (check_fk _) entry_fk (by first | decide +kernel | (unfold String.startsWith; decide +kernel)) (by decide) ?_
  rw [Around.under_plainId plain_fk _]
  unfold Builtin.«dict.fromkeys»
  have hl : s.heap.IsList a (as.map Value.ref).toArray := ⟨_, c.sub _ _ hoa, rfl, j, rfl⟩
  refine wpAny_bind (wpAny_of_eq (a := true) (isType_type _) ?_)
  refine if_not rfl ?_
  refine wpAny_bind (wpAny_of_eq (a := true) PySem.F.kt_sub_dict ?_)
  refine if_not rfl ?_
  refine if_not rfl ?_
  refine wpAny_bind (wpAny_rule ?_)
  refine wpAny_bind (wpAny_pure ?_)
  dsimp only
  refine wpAny_bind (call_dict_empty ?_)
  refine wpAny_holding ?_
  have hlt : a < s.heap.objs.size := Heap.lt_size (c.sub _ _ hoa)
  have hn1 : s.heap.get? s.heap.objs.size = none := get_size _
  generalize hs1 : ({ s with heap := s.heap.push { cls := .type "dict", data := .dict #[] } } : Shared) = s1
  have k1 : ∀ b o, s.heap.get? b = some o → s1.heap.get? b = some o := fun b o e => by rw [← hs1]; exact Heap.get?_push_of_some _ e
  have hz1 : s1.heap.objs.size = s.heap.objs.size + 1 := by rw [← hs1]; exact Heap.size_push ..
  have hD1 : s1.heap.DictOfH knd s.heap.objs.size [] := by rw [← hs1]; exact Heap.DictOfH.new s.heap
  have hl1 : s1.heap.IsList a (as.map Value.ref).toArray := hl.at fun o e => k1 a o e
  refine wpAny_bind (wpAny_typeOf hl1.typeIs (wpAny_bind (wpAny_typeOf hD1.typeIs ?_)))
  refine if_not (by decide) ?_
  refine wpAny_bind (wpAny_typeOf hD1.typeIs ?_)
  refine if_not (by decide) ?_
  refine wpAny_bind (wpAny_pyIter_list hl1 ?_)
  have hlen : (as.map Value.ref).length = xs.length := by rw [← hall.length, List.length_map]
  have hzip : ((xs.map key).zip as).map (fun p => Value.ref p.2) = as.map Value.ref := by
    have e : ((xs.map key).zip as).map (fun p => Value.ref p.2) = (((xs.map key).zip as).map Prod.snd).map Value.ref := by rw [List.map_map]; rfl
    rw [e, List.map_snd_zip (by simp at hlen; simp; omega)]
  refine wpAny_pure ⟨plainId_quiet plain_fkl _, codeAny_builtin entry_fkl ?_⟩
  rw [Around.under_plainId plain_fkl _]
  rw [hz1]
  have hS1 : Sub ψ s1.heap := fun b o e => k1 b o (c.sub b o e)
  have hψd := none_of_sub c.sub hn1
  have hψI := none_of_sub c.sub (Heap.get?_none_of_le (h := s.heap) (Nat.le_succ _))
  have hI1 : s1.heap.get? (s.heap.objs.size + 1) = none := by rw [← hz1]; exact get_size _
  have p2 : ∀ b o, s1.heap.get? b = some o → (s1.heap.push { cls := .type "list_iterator", data := .fields #[.ref a, .int 0 0] }).get? b = some o := fun b o e => Heap.get?_push_of_some _ e
  refine fk_loop (R := wants (fun v s' => ∃ ψ', Grow (frs A) ψ s ψ' s' ∧ (vKeys ((ddK key xs).map P)).p ψ' v) (fun _ _ => False)) (knd := knd) (ψ := ψ) (items := (as.map Value.ref).toArray) (l := a) (d := s.heap.objs.size) (I := s.heap.objs.size + 1) (hroom A ψ s c) (c.none rfl) (Nat.ne_of_lt (Nat.lt_succ_of_lt hlt)) (Nat.ne_of_lt (Nat.lt_succ_self _)) (Nat.ne_of_gt hlt) ((xs.map key).zip as) 0 [] _ ?_ ?_ (fun _ hx => nomatch hx) ?_ ?_ hψd hψI ?_ ?_ ?_ ?_
  · rw [hzip]; rfl
  · intro p hp h hs
    obtain ⟨i, hi⟩ := List.getElem?_of_mem hp
    rw [List.getElem?_zip_eq_some] at hi
    obtain ⟨h1, h2⟩ := hi
    rw [List.getElem?_map] at h1
    cases q : xs[i]? with
    | none => rw [q] at h1; cases h1
    | some z =>
      rw [q] at h1
      have hp1 : p.1 = key z := (Option.some.inj h1).symm
      obtain ⟨v, hv, hpv⟩ := hall.get (i := i) (a := P z) (by rw [List.getElem?_map, q]; rfl)
      rw [List.getElem?_map, h2] at hv
      cases hv
      obtain ⟨a', e, hk⟩ := hkey z ψ _ hpv
      cases e
      rw [hp1]
      exact hk h hs
  · simp only [List.length_nil, List.length_zip, List.length_map]; omega
  · exact fun b o e => p2 b o (hS1 b o e)
  · exact DictOfH.move hD1 (fun o e => p2 _ o e) fun _ hx => nomatch hx
  · exact ⟨_, by rw [← hz1]; exact Heap.get?_push_size _ rfl, rfl, rfl⟩
  · exact hl1.at fun o e => p2 a o e
  · intro h' tk hD' hk'
    obtain ⟨o, es, ep, ho', hx', hd', he', his', hn'⟩ := hD'
    have kk : ∀ b o, s.heap.get? b = some o → h'.get? b = some o := fun b o e => hk' b o (fun q => by rw [q, hn1] at e; cases e) (fun q => by rw [q, Heap.get?_none_of_le (Nat.le_succ _)] at e; cases e) (p2 b o (k1 b o e))
    have hrel := rel_fold (key := key) (P := P) (ψ := ψ) xs as [] [] hall .nil
    obtain ⟨oms, hms⟩ := hmods
    have hlo : (s.heap.objs.size == sysModules) = false := by
      have : sysModules < s.heap.objs.size := Heap.lt_size (c.sub _ _ (l _ _ hms))
      exact beq_eq_false_iff_ne.mpr (Nat.ne_of_gt this)
    have e1 : ({ s1 with heap := h', toks := tk } : Shared) = { s with heap := h', toks := tk } := by rw [← hs1]
    show ∃ ψ', Grow (frs A) ψ s ψ' { s1 with heap := h', toks := tk } ∧ _
    rw [e1]
    refine ⟨put ψ s.heap.objs.size o, ⟨Ext.of_keeps kk, le_put hψd, Sub.put (fun b o e => kk b o (c.sub b o e)) ho', fun b z e => ?_⟩, s.heap.objs.size, o, es, ep, rfl, hlo, put_self _ _ _, hx', hd', ?_⟩
    · by_cases q : b = s.heap.objs.size
      · subst q; exact .inr hn1
      · rw [put_ne q] at e; exact .inl e
    · rw [he']
      exact (rel_keys hrel).imp fun P v y => P.mono (le_put hψd) y
end
end Mine
namespace Mine
variable {prog : Program} {w : World} {X : Fix} {Γ : List (Str × VP)} {ψ ω φ : PM} {s s' : Shared} {k : Nat} {n b : Bool} {m : Str → Option Value} {μ : Md} {A : Around} {env : Env} {sc scope : Scope}
variable {E : Value → Shared → Prop}
theorem keep_bnd {id T : String} {x : Addr} (ho : φ x = some (bndO id T)) : KeepOk φ (.ref x) := by
  intro M h hs
  refine ⟨.machine, .inr (.inl rfl), fun A Q E s k q => ?_⟩
  unfold keeperOf
  refine wpAny_bind (wpAny_load (k _ _ (hs _ _ ho)) ?_)
  exact wpAny_pure q
theorem ev_fk {e : Expr} {px ap pos : Pos} {P R : VP} (hg : BN φ ("dict" : Str) (.type "dict")) (hkd : sc.names.lookup ("dict" : Str) = some NameKind.globalImplicit) (he' : Ev prog w μ sc Γ φ e P) (hn : notStar e = true)
    (hs : ∀ φ' a, Le φ φ' → φ' a = some (bndO "dict.fromkeys" "dict") → Spec prog w μ φ' (.ref a) [P] R) (hl : (ap.endLine == pos.line) = true) : Ev prog w μ sc Γ φ (.Call (.Attribute (.Name "dict" px) "fromkeys" ap) [e] [] pos) R := by
  intro A env m ψ s he c l f t
  have ha : EvA prog w μ sc Γ φ [e] [P] := EvA.cons he' EvA.nil hn
  rw [arm_eval_Call, attributeBase_name]
  refine Good.bind ((ev_builtin hg hkd rfl : Ev prog w μ sc Γ φ (.Name "dict" px) _) A env m ψ s he c l f t) fun v ψ1 s1 g1 p1 => ?_
  cases p1
  refine wpAny_bind (wpAny_standAt ?_)
  unfold methodCall
  have hform : methodCallForm ([e].length + ([] : List Keyword).length) (backTo pos (starEach [e] env)) (backToKw pos (keywordEach [] env)) = true := by
    unfold methodCallForm
    have h1 : (backTo pos (starEach [e] env)).all (!·.1) = true := by
      have := any_star ha pos env
      rw [List.all_eq_true]
      intro y hy
      have h2 := List.any_eq_false.mp this y hy
      simpa using h2
    rw [h1]
    rfl
  rw [hform]
  refine wpAny_bind (wpAny_holding ?_)
  show wpAny _ _ (getMethod (.type "dict") "fromkeys" _) _ _ _
  refine getMethod_fk fun a h' tk ha' hna hk => ?_
  have hpos : methodCallPos true (.Name "dict" px) env ap pos = pure pos := by unfold methodCallPos; rw [hl]; rfl
  show wpAny _ _ (methodCallPos true (.Name "dict" px) env ap pos >>= fun callPos => callWith callPos (.ref a) [] (backTo pos (starEach [e] env)) []) _ _ _
  rw [hpos]
  refine wpAny_bind (wpAny_pure ?_)
  have hψ1 := none_of_sub g1.sub hna
  have g2 : Grow (frs A) ψ1 s1 (put ψ1 a (bndO "dict.fromkeys" "dict")) { s1 with heap := h', toks := tk } := ⟨Ext.of_keeps hk, le_put hψ1, Sub.put (fun b o e => hk b o (g1.sub b o e)) ha', fun b z e => by
    by_cases q : b = a
    · subst q; exact .inr hna
    · rw [put_ne q] at e; exact .inl e⟩
  have L2 := (l.trans g1.le).trans g2.le
  have hfin := callWith_ok (Fs := []) (first := []) (pos := pos) (fv := .ref a) (R := R) he (ha.le L2) (keep_bnd (put_self _ _ _)) (hs _ a L2 (put_self _ _ _)) ((c.grow g1).grow g2) (Le.refl _) ((f.ext g1.ext).ext g2.ext) ((t.le g1.le).le g2.le) .nil
  exact wpAny_mono hfin (fun v s' ⟨ψ', g, p⟩ => ⟨ψ', g2.trans g, p⟩) fun _ _ x => x
theorem v_fk {e : Expr} {px ap pos : Pos} {P R : VP} (hg : BN φ ("dict" : Str) (.type "dict")) (he' : EV prog w μ sc Γ φ e P) (hs : ∀ φ' a, Le φ φ' → φ' a = some (bndO "dict.fromkeys" "dict") → Spec prog w μ φ' (.ref a) [P] R) (hkd : sc.names.lookup ("dict" : Str) = some NameKind.globalImplicit := by rfl) (hn : notStar e = true := by rfl) (hl : (ap.endLine == pos.line) = true := by rfl) :
    EV prog w μ sc Γ φ (.Call (.Attribute (.Name "dict" px) "fromkeys" ap) [e] [] pos) R := ⟨ev_fk hg hkd he'.go hn hs hl⟩
theorem spec_defG {a : Addr} {fd : FuncData} {body : List Stmt} {Ps : List VP} {R : VP} {Γ₀ : List (Str × VP)} (K : FnK φ a fd) (hb : fd.body = .stmts body) (hcl : fd.closure = [])
    (hbind : ∀ ψ (s : Shared) vs, Sub ψ s.heap → Le φ ψ → All2 (fun (P : VP) v => P.p ψ v) Ps vs → ∃ binds, BindsTo s fd ⟨vs, []⟩ binds ∧ All2 (fun (g : Str × VP) (b : Str × Value) => g.1 = b.1 ∧ g.2.p ψ b.2) Γ₀ binds) (hnd : decide ((Γ₀.map (·.1)).Nodup) = true)
    (hkind : (Γ₀.all fun y => fd.scope.names.lookup y.1 == some .local || fd.scope.names.lookup y.1 == some .cell) = true) (hfree : (fd.scope.names.all fun x => x.2 != .free) = true) (hnd' : decide (((cellsFrom 0 fd.scope.names []).map (·.1)).Nodup) = true)
    (h : BodyOk prog w k n φ fd.scope Γ₀ body R) : Spec prog w ⟨k + 1, n⟩ φ (.ref a) Ps R := by
  intro A ψ s vs c l hv
  obtain ⟨binds, hB, hG⟩ := hbind ψ s vs c.sub l hv
  refine enter_cells (tb := []) (fun p hp => by cases hp) c (K.le l) hb hcl hB ?_ hfree hnd' fun env s' he hcd x' => ?_
  · rw [List.all_eq_true] at hkind ⊢
    intro y hy
    obtain ⟨i, hi⟩ := List.getElem?_of_mem hy
    obtain ⟨g, hg, hgb⟩ := hG.get' hi
    rw [← hgb.1]
    exact hkind g (List.mem_of_getElem? hg)
  · exact h ⟨A, A.deeper env, ψ, s, env.locals :: env.cells.map (·.2), env, none, []⟩ ψ s' _ he (CX.of c rfl) l (fun c hc => List.mem_cons_of_mem _ hc) ⟨rfl, x'.dp rfl rfl⟩ ⟨_, x', typ_binds hG hnd⟩
end Mine
namespace Mine
variable {prog : Program} {w : World} {X : Fix} {Γ : List (Str × VP)} {ψ ω φ : PM} {s s' : Shared} {k : Nat} {n b : Bool} {m : Str → Option Value} {μ : Md} {A : Around} {env : Env} {sc scope : Scope}
variable {E : Value → Shared → Prop}
noncomputable def itO (l : Addr) : Obj := { cls := .type "list_iterator", data := .fields #[.ref l, .int 0 0] }
theorem y_iter {x : Str} {px pos ip cp : Pos} {e : Expr} {ps : List VP} (hsc : X.env.scope = sc) (b : B X Γ ψ ω s) (c : CX ⟨k, n⟩ X) (hg : BN ψ ("iter" : Str) (.builtin "iter")) (hkd : sc.names.lookup ("iter" : Str) = some NameKind.globalImplicit) (h : EV prog w ⟨k, n⟩ sc Γ ψ e (vList ps)) (hk : stores X x)
    (q : ∀ I l vs j ψ' s', Le ψ ψ' → ω I = none → ψ' I = none → ψ' l = some (lst vs j) → All2 (fun (P : VP) v => P.p ψ' v) ps vs → B X ((x, vVal (.ref I)) :: Γ) ψ' (put ω I (itO l)) s' → Ex prog w X rest Q E s') (hn : notStar e = true := by rfl)
    (hs : swapsWith (.Call (.Name "iter" ip) [e] [] cp) (some (.Name x px)) pos.line X.env = pure false := by rfl) : Ex prog w X (.Assign [.Name x px] (.Call (.Name "iter" ip) [e] [] cp) pos :: rest) Q E s := by
  constructor
  refine wpAny_execs_cons (wpAny_Assign_Name ?_ hs)
  obtain ⟨m, Y, t⟩ := b
  refine call_open (Ps := [vList ps]) hsc ⟨ev_builtin hg hkd rfl⟩ keep_builtin (e1 h hn) (Y.cx c) (Le.refl _) Y.fram t fun us ψ1 s1 g1 p1 => ?_
  obtain ⟨v, rfl, l, vs, j, rfl, ho, hall⟩ := one_arg p1
  have Y1 := Y.grow c g1
  have hl : s1.heap.IsList l vs.toArray := ⟨_, g1.sub _ _ ho, rfl, j, rfl⟩
  refine call_function_entry (by decide +kernel) (by decide +kernel) kdk_entry_iter (kdk_args_iter _) ?_
  unfold Builtin.«iter»
  refine wpAny_bind (m := someArgs "iter" 1 2 _) (wpAny_of_eq (a := [Value.ref l]) (by first | rfl | kernel_rfl!) ?_)
  show wpAny _ _ (pyIter (.ref l) >>= _) _ _ _
  refine wpAny_bind (wpAny_pyIter_list hl ?_)
  refine wpAny_pure ⟨_, rfl, ?_⟩
  have Y2 := Y1.lay (itO l) rfl s1.toks
  have hω : ω s1.heap.objs.size = none := by
    cases z : ω s1.heap.objs.size with
    | none => rfl
    | some o => have := (Y1.own _ _ z).1; rw [get_size] at this; cases this
  refine Y2.store hk fun s3 Y3 => (q s1.heap.objs.size l vs j ψ1 s3 g1.le hω (none_of_sub g1.sub (get_size _)) ho hall ⟨_, Y3, (t.le g1.le).cons rfl⟩).go
theorem steps_walk {A : Around} {I : Addr} {wr fz : List Addr} {Pv : Nat → Value → Prop} {St : Nat → Heap → Prop} {x : Str} {px : Pos} {items : List VP} (hitem : ∀ i v, i < items.length → Pv i v → ∃ Q, items[i]? = some Q ∧ Q.p ψ v) (V : Walk prog w A I wr fz items.length Pv St) (hfz : ∀ b ∈ fz, ∃ o, ψ b = some o) :
    Steps prog w A ψ (.Name x px) (.ref I) wr fz items.length (tgName x items) St := by
  obtain ⟨⟨fp, W, hfp⟩, hlive⟩ := V
  refine ⟨fun i h h' hs hk => W.frame i h h' hs fun b hb o e => hk b (hfp b hb) o e, hlive, W.self, ?_, ?_⟩
  · intro i X m ψ' ω s Q E hi x3 le' hst3 hw hk q
    refine W.item i s _ _ hi hst3 fun v h' tk hPv hst' hkeep => ⟨v, rfl, wpAny_pure ?_⟩
    obtain ⟨Q', hQ', hq'⟩ := hitem i v hi hPv
    have x4 := x3.wmove (s' := { s with heap := h', toks := tk }) hw ⟨h', tk, rfl⟩ hkeep
    refine wpAny_assign_Name (x4.store (hk _ (List.mem_singleton.mpr rfl)) fun s5 x5 => ?_)
    have key : ∀ b ∈ wr, s5.heap.get? b = h'.get? b := fun b hb => by
      obtain ⟨o, ho⟩ := hlive _ _ hst' b hb
      rw [ho]
      exact (x5.own b o (by rw [wput_on hb]; exact ho)).1
    rw [wput_same key] at x5
    refine q _ s5 x5 (fun Γ t => ?_) (W.frame _ _ _ hst' fun b hb o ho => ?_)
    · have : tgName x items i = [(x, Q')] := by unfold tgName; rw [hQ']; rfl
      rw [this]
      exact t.cons (Q'.mono le' hq')
    · rcases hfp b hb with z | z
      · rw [key b z]; exact ho
      · obtain ⟨o', ho'⟩ := hfz b z
        have h1 : h'.get? b = some o' := x4.sub b o' (le' _ _ ho')
        rw [ho] at h1; cases h1
        exact x5.sub b o (le' _ _ ho')
  · intro X m ψ' ω s Q E x le' hst3 hw q
    exact W.done s _ _ hst3 fun h' tk hkeep => q _ (x.wmove (s' := { s with heap := h', toks := tk }) hw ⟨h', tk, rfl⟩ hkeep)
theorem bs_iter {x y : Str} {px yp : Pos} {I l : Addr} {vs : List Value} {j : Nat} {ps : List VP} (hsc : X.env.scope = sc) (c : CX ⟨k, true⟩ X) (b : B X Γ ψ (put ω I (itO l)) s) (hω : ω I = none) (hl : ψ l = some (lst vs j)) (hall : All2 (fun (P : VP) v => P.p ψ v) ps vs) (hx : Γ.lookup x = some (vVal (.ref I))) (hk : isVar (sc.names.lookup x) = true) (hd : (x == ("__debug__" : Str) || x == ("__classdict__" : Str)) = false) :
    BS prog w X Γ ψ ω s (.Name x px) (.Name y yp) ps.length (tgName y ps) := by
  constructor
  have b0 := b
  obtain ⟨m, Y, t⟩ := b0
  obtain ⟨hI, hψI, hI0, hIf⟩ := Y.own I _ (put_self _ _ _)
  have hne : l ≠ I := fun q => by rw [q, hψI] at hl; cases hl
  refine b.eval c (P := vVal (.ref I)) (by rw [hsc]; exact ev_var hx hk hd) fun v ψ1 s1 l1 p1 b1 => ?_
  cases p1
  obtain ⟨m1, Y1, t1⟩ := b1
  obtain ⟨hI1, hψI1, hI01, hIf1⟩ := Y1.own I _ (put_self _ _ _)
  have hl1 : s1.heap.IsList l vs.toArray := ⟨_, Y1.sub _ _ (l1 _ _ hl), rfl, j, rfl⟩
  have W := Walks.list (prog := prog) (w := w) (A := X.A) ((Y1.cx c).none rfl) I l hne vs.toArray
  have e : vs.toArray.size = ps.length := by simp [hall.length]
  rw [e] at W
  have st0 : s1.heap.IsListIter I l 0 ∧ s1.heap.IsList l vs.toArray := ⟨⟨_, hI1, rfl, rfl⟩, hl1⟩
  have V : Walk prog w X.A I [I] [l] ps.length _ _ := ⟨⟨_, W, fun b hb => by simp at hb; rcases hb with rfl | rfl <;> simp⟩, fun i h hst b hb => by rw [List.mem_singleton.mp hb]; obtain ⟨o, ho, _⟩ := hst.1; exact ⟨o, ho⟩⟩
  refine W.self 0 _ _ _ st0 ⟨ψ1, m1, [I], [l], _, l1, ?_, t1, steps_walk (A := X.A) (fun i v hi hv => ?_) V (fun b hb => by rw [List.mem_singleton.mp hb]; exact ⟨_, l1 _ _ hl⟩), st0, fun b hb => by rw [List.mem_singleton.mp hb]; exact hω, fun b hb => by rw [List.mem_singleton.mp hb]; exact ⟨_, l1 _ _ hl⟩⟩
  · have e2 : wput ω [I] s1.heap = put ω I (itO l) := by
      funext b
      unfold wput put
      by_cases q : b = I
      · subst q; simp [hI1]
      · simp [q]
    rw [e2]; exact Y1
  · obtain ⟨Q, hQ, pQ⟩ := hall.get' (by simpa using hv)
    exact ⟨Q, hQ, Q.mono l1 pQ⟩
theorem op_is_other {P Q : VP} (h : ∀ ψ u v, Le φ ψ → P.p ψ u → Q.p ψ v → ∃ x y ox oy, u = .ref x ∧ v = .ref y ∧ x ≠ y ∧ ψ x = some ox ∧ ψ y = some oy ∧ oy.cls = .type "object") : Op2 prog w μ φ (compareOp .Is) P Q (vBool false) := by
  intro A ψ s u v c l pu pv
  obtain ⟨x, y, ox, oy, rfl, rfl, hne, hx, hy, hcl⟩ := h ψ u v l pu pv
  show wpAny _ A (do return Value.bool (← isSame (.ref x) (.ref y)) : Sem Value) _ _ s
  refine wpAny_bind ?_
  have e : (x == y) = false := beq_eq_false_iff_ne.mpr hne
  show wpAny _ A (if (x == y) = true then pure true else _) _ _ s
  rw [if_neg (by rw [e]; exact Bool.false_ne_true)]
  refine wpAny_bind (wpAny_load (c.sub _ _ hx) (wpAny_bind (wpAny_load (c.sub _ _ hy) ?_)))
  rw [hcl]
  split
  · rename_i h1 _ _
    revert h1
    exact fun h1 => absurd (Value.type.inj h1) (by decide)
  · exact wpAny_pure (wpAny_pure ⟨ψ, Grow.refl c.sub, rfl⟩)
theorem Steps.congr {tgt : Expr} {it : Value} {wr fz : List Addr} {nn nn' : Nat} {Tg Tg' : Nat → List (Str × VP)} {St : Nat → Heap → Prop} (V : Steps prog w A ψ tgt it wr fz nn Tg St) (e : nn = nn') (ht : ∀ i < nn, Tg i = Tg' i) : Steps prog w A ψ tgt it wr fz nn' Tg' St := by
  subst e
  exact ⟨V.frame, V.live, V.self, fun i X m ψ' ω s Q E hi Y l hst hw hk q => V.step i X m ψ' ω s Q E hi Y l hst hw (by rw [ht i hi]; exact hk) (by rw [ht i hi]; exact q), V.done⟩
theorem BS.congr {iter tgt : Expr} {nn nn' : Nat} {Tg Tg' : Nat → List (Str × VP)} (h : BS prog w X Γ ψ ω s iter tgt nn Tg) (e : nn = nn') (ht : ∀ i < nn, Tg i = Tg' i) : BS prog w X Γ ψ ω s iter tgt nn' Tg' := by
  constructor
  refine wpAny_mono h.go (fun v s2 h2 => wpAny_mono h2 (fun it s3 h3 => ?_) fun _ _ e => e) fun _ _ e => e
  obtain ⟨ψ1, m1, wr, fz, St, l1, Y, t, V, r⟩ := h3
  exact ⟨ψ1, m1, wr, fz, St, l1, Y, t, V.congr e ht, r⟩
end Mine
namespace Mine
variable {prog : Program} {w : World} {X : Fix} {Γ : List (Str × VP)} {ψ ω φ : PM} {s s' : Shared} {k : Nat} {n b : Bool} {m : Str → Option Value} {μ : Md} {A : Around} {env : Env} {sc scope : Scope}
variable {E : Value → Shared → Prop}
noncomputable def fstIdx {α : Type} (f : α → Bool) : Nat → List α → Option Nat
  | _, [] => none
  | i, y :: ys => if f y then some i else fstIdx f (i + 1) ys
noncomputable def rmE {α : Type} (f : α → Bool) (ys : List α) : Option (List α) := (fstIdx f 0 ys).map fun p => ys.eraseIdx p
theorem eraseIdx_mapM {α β : Type} (f : α → β) : ∀ (l : List α) (i : Nat), (l.eraseIdx i).map f = (l.map f).eraseIdx i
  | [], _ => rfl
  | _ :: _, 0 => rfl
  | x :: l, i + 1 => by show f x :: (l.eraseIdx i).map f = f x :: (l.map f).eraseIdx i; rw [eraseIdx_mapM f l i]
theorem OpEq.le {P Q : VP} {r : Bool} (h : OpEq prog w μ φ P Q r) (l : Le φ ψ) : OpEq prog w μ ψ P Q r := fun A ψ' s u v c l' => h A ψ' s u v c (l.trans l')
theorem All2.eraseIdx {α β : Type} {R : α → β → Prop} {as : List α} {bs : List β} (h : All2 R as bs) : ∀ (i : Nat), All2 R (as.eraseIdx i) (bs.eraseIdx i) := by
  induction h with
  | nil => intro i; exact .nil
  | cons h t ih =>
    intro i
    cases i with
    | zero => exact t
    | succ i => exact .cons h (ih i)
section
variable {α : Type} {P : α → VP} {Qx : VP} {f : α → Bool} {vs : List Value} {a : Addr} {j : Nat} {R : Result → Shared → Prop} {ys : List α} {x : Value}
theorem remove_loop (c : CX ⟨k + 1, n⟩ X) (ha : ω a = some (lst vs j)) (hall : All2 (fun (P : VP) v => P.p ψ v) (ys.map P) vs) (hx : Qx.p ψ x) (lφ : Le φ ψ) (he : ∀ y, OpEq prog w ⟨k, n⟩ φ (P y) Qx (f y)) (hsz : vs.length ≤ 1000000) :
    ∀ (rest : List α) (i : Nat) (ψ1 : PM) (s1 : Shared), ys.drop i = rest → S X m ψ1 ω s1 → Le ψ ψ1 →
      (∀ p, fstIdx f i rest = some p → ∀ ψ' s' j', Le ψ ψ' → S X m ψ' (put ω a (lst (vs.eraseIdx p) j')) s' → R (.ok (.ret .none)) s') →
      (fstIdx f i rest = none → ∀ ψ' s1 h' tk e t, Le ψ ψ' → S X m ψ' ω s1 → (∀ b o, s1.heap.get? b = some o → h'.get? b = some o) → s1.heap.get? e = none → h'.get? e = some (exo "ValueError" t .none (ctxOf X.A)) → R (.error (.ref e)) { s1 with heap := h', toks := tk }) →
      wpAny (model prog w) X.A.in1 (Builtin.«list.remove.loop» ⟨[.ref a, x, rawInt i], []⟩) (again' prog w X.A R) (fun e s' => R (.error e) s') s1 := by
  have hlen : vs.length = ys.length := by rw [← hall.length, List.length_map]
  have hline : sizeLine = 16777216 := rfl
  intro rest
  induction rest with
  | nil =>
    intro i ψ1 s1 hd Y l1 q qe
    have ho := (Y.own a _ ha).1
    have hge : ys.length ≤ i := List.drop_eq_nil_iff.mp hd
    unfold Builtin.«list.remove.loop»
    dsimp only [rawInt]
    refine wpAny_bind (listItems_at ho rfl ?_)
    have hi : vs.toArray[((i : Nat) : Int).toNat]? = none := by simp; omega
    rw [hi]
    dsimp only
    refine wpAny_bind (wpAny_rule ?_)
    refine (raise_words plainExc_ValueError (A := X.A.in1) (Y.cx c).hand Y.sub fun h' tk e t hk hn he' => ?_)
    exact qe rfl ψ1 s1 h' tk e t l1 Y hk hn he'
  | cons y rest ih =>
    intro i ψ1 s1 hd Y l1 q qe
    have ho := (Y.own a _ ha).1
    have hlt' : i < ys.length := by
      rcases Nat.lt_or_ge i ys.length with h | h
      · exact h
      · rw [List.drop_eq_nil_of_le h] at hd; cases hd
    have hlt : i < vs.length := by omega
    have hdd : ys.drop i = ys[i] :: ys.drop (i + 1) := List.drop_eq_getElem_cons hlt'
    rw [hdd] at hd
    obtain ⟨rfl, hd'⟩ := List.cons.inj hd
    have he0 : wpAny (model prog w) X.A.in1 (eqBool vs[i] x) (fun b s' => b = f ys[i] ∧ ∃ ψ', Grow (frs X.A) ψ1 s1 ψ' s') (fun _ _ => False) s1 := by
      obtain ⟨P0, e0, p0⟩ := hall.get' (List.getElem?_eq_getElem hlt)
      rw [List.getElem?_map, List.getElem?_eq_getElem hlt'] at e0
      cases e0
      exact he _ X.A.in1 ψ1 s1 _ _ (Y.cx c).in1 (lφ.trans l1) ((P _).mono l1 p0) (Qx.mono l1 hx)
    unfold Builtin.«list.remove.loop»
    dsimp only [rawInt]
    refine wpAny_bind (listItems_at ho rfl ?_)
    have hi : vs.toArray[((i : Nat) : Int).toNat]? = some vs[i] := by simp [hlt]
    rw [hi]
    dsimp only
    refine wpAny_bind (wpAny_mono he0 (fun b s' hb => ?_) fun _ _ e => e.elim)
    obtain ⟨rfl, ψ2, g2⟩ := hb
    have Y2 := Y.grow c g2
    unfold fstIdx at q qe
    cases hb : f ys[i] with
    | true =>
      rw [hb] at q
      have ho2 := (Y2.own a _ ha).1
      have e2 : vs.toArray.eraseIdxIfInBounds ((i : Nat) : Int).toNat = (vs.eraseIdx i).toArray := by
        apply Array.toList_inj.mp
        simp
      refine if_so rfl ?_
      refine wpAny_bind (listUpdate_at ho2 rfl ?_ (by rw [List.size_toArray]; omega) ?_)
      · have s2 := Heap.SameBut.update s'.heap a (Obj.mapSeq (·.eraseIdxIfInBounds ((i : Nat) : Int).toNat))
        obtain ⟨c2, hc2⟩ : ∃ c2, (s'.heap.update a (Obj.mapSeq (·.eraseIdxIfInBounds ((i : Nat) : Int).toNat))).get? a = some (seqObj "list" (vs.toArray.eraseIdxIfInBounds ((i : Nat) : Int).toNat) c2) := ⟨_, get?_update_seq ho2 (·.eraseIdxIfInBounds ((i : Nat) : Int).toNat)⟩
        rw [e2] at hc2
        refine wpAny_pure (q i rfl ψ2 _ c2 (l1.trans g2.le) (Y2.sameBut ha ⟨_, s'.toks, rfl⟩ (fun b ob hb e => (s2.2 b hb).trans e) hc2))
      · rw [e2, List.size_toArray]
        have := List.length_eraseIdx_le vs i
        omega
    | false =>
      rw [hb] at q qe
      refine if_not rfl ?_
      have hc : ((i : Int) + 1) = ((i + 1 : Nat) : Int) := by push_cast; rfl
      rw [hc]
      refine wpAny_pure ⟨plainId_quiet MeetsSeq.plain_remove_loop _, codeAny_builtin MeetsSeq.entry_remove_loop ?_⟩
      rw [Around.under_plainId MeetsSeq.plain_remove_loop _]
      exact ih (i + 1) ψ2 s' hd' Y2 (l1.trans g2.le) q qe
end
section
variable {rest : List Stmt} {Q : Flow → Shared → Prop}
theorem y_remove {α : Type} {P : α → VP} {Qx : VP} {f : α → Bool} {vs : List Value} {a : Addr} {j : Nat} {ys : List α} {x : Str} {px ap cpos pos : Pos} {e : Expr} (hsc : X.env.scope = sc) (b : B X Γ ψ ω s) (c : CX ⟨k + 1, n⟩ X) (ha : ω a = some (lst vs j)) (hall : All2 (fun (P : VP) v => P.p ψ v) (ys.map P) vs)
    (h : EI prog w X Γ ψ ω e Qx) (lφ : Le φ ψ) (he : ∀ y, OpEq prog w ⟨k, n⟩ φ (P y) Qx (f y)) (hsz : vs.length ≤ 1000000)
    (q : ∀ ys' us ψ' s' j', rmE f ys = some ys' → Le ψ ψ' → All2 (fun (P : VP) v => P.p ψ' v) (ys'.map P) us → B X Γ ψ' (put ω a (lst us j')) s' → Ex prog w X rest Q E s')
    (qe : rmE f ys = none → ∀ x ψ' s', Le ψ ψ' → FlF X Γ ψ' ω "ValueError" (ctxOf X.A) x s' → E (.ref x) s')
    (hx : Γ.lookup x = some (vVal (.ref a)) := by rfl) (hv : isVar (sc.names.lookup x) = true := by rfl) (hd : (x == ("__debug__" : Str) || x == ("__classdict__" : Str)) = false := by rfl) (hn : notStar e = true := by rfl) (hl : (ap.endLine == cpos.line) = true := by rfl) :
    Ex prog w X (.Expr (.Call (.Attribute (.Name x px) "remove" ap) [e] [] cpos) pos :: rest) Q E s := by
  have b0 := b
  refine ⟨ex_cons (wpAny_Expr_any (own_mcall b hx (hsc ▸ hv) hd PySem.F.slot_list_remove (by rfl) ha h.go hn hl fun v ψ1 s1 l1 p1 b1 => ?_) ?_ (by rfl))⟩
  · obtain ⟨m, Y, t⟩ := b1
    have ho := (Y.own a _ ha).1
    refine call_wp PySem.F.slot_list_remove ⟨_, ho, rfl⟩ PySem.F.entry_list_remove (PySem.F.args_list_remove_2 _ _) ?_
    unfold Builtin.«list.remove»
    refine wpAny_bind (wpAny_of_eq (a := (Value.ref a, v)) (by first | rfl | kernel_rfl) ?_)
    refine wpAny_pure ⟨plainId_quiet MeetsSeq.plain_remove_loop _, codeAny_builtin MeetsSeq.entry_remove_loop ?_⟩
    rw [Around.under_plainId MeetsSeq.plain_remove_loop _]
    refine remove_loop (φ := φ) (ψ := ψ1) (f := f) (P := P) (Qx := Qx) c ha (hall.imp fun (P : VP) v y => P.mono l1 y) p1 (lφ.trans l1) he hsz ys 0 ψ1 s1 rfl Y (Le.refl _) (fun p hp ψ' s' j' l' Y' => ?_) fun hp ψ' s2 h' tk e t' l' Y' hk hne hte => ?_
    · have e2 : rmE f ys = some (ys.eraseIdx p) := by unfold rmE; rw [hp]; rfl
      refine (q _ (vs.eraseIdx p) ψ' s' j' e2 (l1.trans l') ?_ ⟨m, Y', t.le l'⟩).go
      rw [eraseIdx_mapM]
      exact (hall.imp fun (P : VP) v y => P.mono (l1.trans l') y).eraseIdx p
    · refine qe (by unfold rmE; rw [hp]; rfl) e ψ' _ (l1.trans l') (FlF.of c (⟨m, Y', t.le l'⟩ : B X Γ ψ' ω s2) (Grow.refl Y'.sub) (Ext.of_keeps hk) hne hte)
  · obtain ⟨m, Y, _⟩ := b0
    have := Y.fram.fn
    unfold interactive
    rw [this]; rfl
theorem y_listCall {x : Str} {px pos ip cp : Pos} {e : Expr} {c' : String} {ps : List VP} (hc : c' = "list" ∨ c' = "tuple") (hsc : X.env.scope = sc) (b : B X Γ ψ ω s) (c : CX ⟨k, n⟩ X) (hg : BN ψ ("list" : Str) (.type "list")) (hkd : sc.names.lookup ("list" : Str) = some NameKind.globalImplicit) (h : EV prog w ⟨k, n⟩ sc Γ ψ e (vSeq c' ps)) (hk : stores X x) (hsz : ps.length ≤ 1000000)
    (q : ∀ a vs j ψ' s', Le ψ ψ' → ω a = none → ψ' a = none → All2 (fun (P : VP) v => P.p ψ' v) ps vs → B X ((x, vVal (.ref a)) :: Γ) ψ' (put ω a (lst vs j)) s' → Ex prog w X rest Q E s') (hn : notStar e = true := by rfl)
    (hs : swapsWith (.Call (.Name "list" ip) [e] [] cp) (some (.Name x px)) pos.line X.env = pure false := by rfl) : Ex prog w X (.Assign [.Name x px] (.Call (.Name "list" ip) [e] [] cp) pos :: rest) Q E s := by
  constructor
  have hline : sizeLine = 16777216 := rfl
  refine wpAny_execs_cons (wpAny_Assign_Name ?_ hs)
  obtain ⟨m, Y, t⟩ := b
  refine call_open (Ps := [vSeq c' ps]) hsc ⟨ev_builtin hg hkd rfl⟩ keep_type (e1 h hn) (Y.cx c) (Le.refl _) Y.fram t fun us ψ1 s1 g1 p1 => ?_
  obtain ⟨v, rfl, l, vs, j, rfl, ho, hall⟩ := one_arg p1
  have Y1 := Y.grow c g1
  refine call_list_seq (items := vs.toArray) l hc (g1.sub _ _ ho) rfl rfl (fun h' cap hk' hnw => ?_) (by rw [List.size_toArray, ← hall.length]; omega)
  have Y2 := (Y1.kept (tk := s1.toks) hk').take (a := s1.heap.objs.size) (o := lst vs cap) hnw (Y1.freshA (get_size _))
  have hω : ω s1.heap.objs.size = none := (Y1.freshA (get_size _)).o
  refine Y2.store hk fun s3 Y3 => (q s1.heap.objs.size vs cap ψ1 s3 g1.le hω (none_of_sub g1.sub (get_size _)) hall ⟨_, Y3, (t.le g1.le).cons rfl⟩).go
end
end Mine
namespace Mine
variable {prog : Program} {w : World} {X : Fix} {Γ : List (Str × VP)} {ψ ω φ : PM} {s s' : Shared} {k : Nat} {n b : Bool} {m : Str → Option Value} {μ : Md} {A : Around} {env : Env} {sc scope : Scope}
variable {E : Value → Shared → Prop}
noncomputable def lexC {α : Type} (eq op : α → α → Bool) (fin : Bool) : List α → List α → Bool
  | x :: xs, y :: ys => if eq x y then lexC eq op fin xs ys else op x y
  | _, _ => fin
noncomputable def ordOp : Bool → CmpOp | true => .Lt | false => .Gt
noncomputable def ordCode : Bool → Int | true => 0 | false => 4
noncomputable def ordFin (b : Bool) (m n : Nat) : Bool := if b then decide (m < n) else decide (n < m)
section
variable {α : Type} {P : α → VP} {eq op : α → α → Bool} {xs ys : List α} {us vs : List Value} {l r : Addr} {R : Result → Shared → Prop} {d : Bool} {i1 i2 : Nat}
theorem cmp_loop (lφ : Le φ ψ) (hl : ψ l = some (lst us i1)) (hr : ψ r = some (lst vs i2)) (hu : All2 (fun (P : VP) v => P.p ψ v) (xs.map P) us) (hv : All2 (fun (P : VP) v => P.p ψ v) (ys.map P) vs)
    (he : ∀ x y, OpEq prog w ⟨k, n⟩ φ (P x) (P y) (eq x y)) (ho : ∀ x y, Op2 prog w ⟨k, n⟩ φ (richCompare (ordOp d)) (P x) (P y) (vBool (op x y))) :
    ∀ (m i : Nat), us.length - i = m → ∀ A ψ1 s, Cx ⟨k + 1, n⟩ A ψ1 s → Le ψ ψ1 → (∀ ψ' s', Grow (frs A) ψ1 s ψ' s' → R (.ok (.ret (.bool (lexC eq op (ordFin d us.length vs.length) (xs.drop i) (ys.drop i))))) s') →
      wpAny (model prog w) A.in1 (Builtin.«list.__eq__.loop» ⟨[.ref l, .ref r, rawInt i, rawInt (ordCode d)], []⟩) (again' prog w A R) (fun e s' => R (.error e) s') s := by
  have hlu : us.length = xs.length := by rw [← hu.length, List.length_map]
  have hlv : vs.length = ys.length := by rw [← hv.length, List.length_map]
  have stop : ∀ (i : Nat) A ψ1 s, Cx ⟨k + 1, n⟩ A ψ1 s → Le ψ ψ1 → (us.length ≤ i ∨ vs.length ≤ i) → (∀ ψ' s', Grow (frs A) ψ1 s ψ' s' → R (.ok (.ret (.bool (lexC eq op (ordFin d us.length vs.length) (xs.drop i) (ys.drop i))))) s') →
      wpAny (model prog w) A.in1 (Builtin.«list.__eq__.loop» ⟨[.ref l, .ref r, rawInt i, rawInt (ordCode d)], []⟩) (again' prog w A R) (fun e s' => R (.error e) s') s := by
    intro i A ψ1 s c l1 hge q
    have h1 := c.sub _ _ (l1 _ _ hl)
    have h2 := c.sub _ _ (l1 _ _ hr)
    have q1 := q ψ1 s (Grow.refl c.sub)
    have e : lexC eq op (ordFin d us.length vs.length) (xs.drop i) (ys.drop i) = ordFin d us.length vs.length := by
      rcases hge with h | h
      · rw [List.drop_eq_nil_of_le (by omega)]; rfl
      · have : ys.drop i = [] := List.drop_eq_nil_of_le (by omega)
        rw [this]
        cases xs.drop i <;> rfl
    rw [e] at q1
    obtain ⟨hp, g, dd, tk, os⟩ := s
    have hs1 : us.toArray.size = us.length := List.size_toArray
    have hs2 : vs.toArray.size = vs.length := List.size_toArray
    by_cases hlt : i < us.length
    · have hi1 : us.toArray[((i : Nat) : Int).toNat]? = some us[i] := by simp [hlt]
      have hi2 : vs.toArray[((i : Nat) : Int).toNat]? = none := by simp; omega
      cases d
      all_goals
        wp_walk using wpAny_loadPart' h1, wpAny_loadPart' h2
        rw [hi1, hi2]
        wp_walk using wpAny_loadPart' h1, wpAny_loadPart' h2
        rw [hs1, hs2]
        exact q1
    · have hi1 : us.toArray[((i : Nat) : Int).toNat]? = none := by simp; omega
      cases d
      all_goals
        wp_walk using wpAny_loadPart' h1, wpAny_loadPart' h2
        rw [hi1]
        wp_walk using wpAny_loadPart' h1, wpAny_loadPart' h2
        rw [hs1, hs2]
        exact q1
  intro m
  induction m with
  | zero => intro i hm A ψ1 s c l1 q; exact stop i A ψ1 s c l1 (.inl (by omega)) q
  | succ m ih =>
    intro i hm A ψ1 s c l1 q
    by_cases hge : vs.length ≤ i
    · exact stop i A ψ1 s c l1 (.inr hge) q
    have hlt1 : i < us.length := by omega
    have hlt2 : i < vs.length := by omega
    have hx1 : i < xs.length := by omega
    have hx2 : i < ys.length := by omega
    have h1 := c.sub _ _ (l1 _ _ hl)
    have h2 := c.sub _ _ (l1 _ _ hr)
    have hd1 : xs.drop i = xs[i] :: xs.drop (i + 1) := List.drop_eq_getElem_cons hx1
    have hd2 : ys.drop i = ys[i] :: ys.drop (i + 1) := List.drop_eq_getElem_cons hx2
    rw [hd1, hd2] at q
    have p1 : (P xs[i]).p ψ1 us[i] := by
      obtain ⟨P0, e0, p0⟩ := hu.get' (List.getElem?_eq_getElem hlt1)
      rw [List.getElem?_map, List.getElem?_eq_getElem hx1] at e0
      cases e0; exact (P _).mono l1 p0
    have p2 : (P ys[i]).p ψ1 vs[i] := by
      obtain ⟨P0, e0, p0⟩ := hv.get' (List.getElem?_eq_getElem hlt2)
      rw [List.getElem?_map, List.getElem?_eq_getElem hx2] at e0
      cases e0; exact (P _).mono l1 p0
    have he0 := he xs[i] ys[i] A.in1 ψ1 s us[i] vs[i] c.in1 (lφ.trans l1) p1 p2
    have ho0 : ∀ ψ2 s2, Grow (frs A) ψ1 s ψ2 s2 → Good prog w A.in1 ψ2 s2 (richCompare (ordOp d) us[i] vs[i]) (vBool (op xs[i] ys[i])) := fun ψ2 s2 g2 => ho xs[i] ys[i] A.in1 ψ2 s2 us[i] vs[i] (c.grow g2).in1 (lφ.trans (l1.trans g2.le)) ((P _).mono g2.le p1) ((P _).mono g2.le p2)
    have hi1 : us.toArray[((i : Nat) : Int).toNat]? = some us[i] := by simp [hlt1]
    have hi2 : vs.toArray[((i : Nat) : Int).toNat]? = some vs[i] := by simp [hlt2]
    have hc : ((i : Int) + 1) = ((i + 1 : Nat) : Int) := by push_cast; rfl
    obtain ⟨hp, g, dd, tk, os⟩ := s
    have hfin : wpAny (model prog w) A.in1 (eqBool us[i] vs[i]) (fun b s' => ∃ ψ2, Grow (frs A) ψ1 ⟨hp, g, dd, tk, os⟩ ψ2 s' ∧ b = eq xs[i] ys[i]) (fun e s' => R (.error e) s') ⟨hp, g, dd, tk, os⟩ := wpAny_mono he0 (fun b s' ⟨e, ψ2, g2⟩ => ⟨ψ2, g2, e⟩) fun _ _ e => e.elim
    cases d
    all_goals
      wp_walk using wpAny_loadPart' h1, wpAny_loadPart' h2
      rw [hi1, hi2]
      refine wpAny_bind (wpAny_mono hfin (fun b s' hb => ?_) fun _ _ e => e)
      obtain ⟨ψ2, g2, rfl⟩ := hb
      cases hb : eq xs[i] ys[i] with
      | true =>
        wp_walk
        rw [hc]
        refine ⟨plainId_quiet MeetsSeq3.plain_eq_loop _, codeAny_builtin MeetsSeq3.entry_eq_loop ?_⟩
        rw [Around.under_plainId MeetsSeq3.plain_eq_loop _]
        refine ih (i + 1) (by omega) A ψ2 s' (c.grow g2) (l1.trans g2.le) fun ψ3 s3 g3 => ?_
        have := q ψ3 s3 (g2.trans g3)
        unfold lexC at this
        rw [hb] at this
        exact this
      | false =>
        have h1' := (c.grow g2).sub _ _ ((l1.trans g2.le) _ _ hl)
        have h2' := (c.grow g2).sub _ _ ((l1.trans g2.le) _ _ hr)
        refine if_not rfl ?_
        refine wpAny_bind (listItems_at h1' rfl (wpAny_bind (listItems_at h2' rfl ?_)))
        rw [hi1, hi2]
        refine wpAny_bind (wpAny_mono (ho0 ψ2 s' g2) (fun v s3 hv => ?_) fun _ _ e => e.elim)
        obtain ⟨ψ3, g3, rfl⟩ := hv
        have := q ψ3 s3 (g2.trans g3)
        unfold lexC at this
        rw [hb] at this
        exact wpAny_pure this
end
section
variable {α : Type} {P : α → VP} {eq op : α → α → Bool} {xs ys : List α} {d : Bool}
noncomputable def ordId : Bool → String | true => "list.__lt__" | false => "list.__gt__"
theorem call_ord {Q : Value → Shared → Prop} {l r : Addr} (c : Cx ⟨k + 1, n⟩ A ψ s) (lφ : Le φ ψ) (hl : (vList (xs.map P)).p ψ (.ref l)) (hr : (vList (ys.map P)).p ψ (.ref r)) (he : ∀ x y, OpEq prog w ⟨k, n⟩ φ (P x) (P y) (eq x y)) (ho : ∀ x y, Op2 prog w ⟨k, n⟩ φ (richCompare (ordOp d)) (P x) (P y) (vBool (op x y)))
    (q : ∀ ψ' s', Grow (frs A) ψ s ψ' s' → Q (.bool (lexC eq op (ordFin d xs.length ys.length) xs ys)) s') : wpAny (model prog w) A (call (.builtin (ordId d)) [.ref l, .ref r]) Q E s := by
  obtain ⟨_, us, i1, e1, hl', hu⟩ := hl
  obtain ⟨_, vs, i2, e2, hr', hv⟩ := hr
  cases e1; cases e2
  have hlu : us.length = xs.length := by rw [← hu.length, List.length_map]
  have hlv : vs.length = ys.length := by rw [← hv.length, List.length_map]
  have f3 := AutoSeq1.sub_list_list
  have hloop := cmp_loop (prog := prog) (w := w) (k := k) (n := n) (d := d) (eq := eq) (op := op) (R := wants Q E) lφ hl' hr' hu hv he ho _ 0 rfl A ψ s c (Le.refl _) fun ψ' s' g => by
    rw [hlu, hlv]
    exact q ψ' s' g
  have h1 := c.sub _ _ hl'
  have h2 := c.sub _ _ hr'
  have hT : s.TypeIs (.ref l) "list" := ⟨_, h1, rfl⟩
  cases d
  · refine call_wp PySem.F.slot_list_gt hT PySem.F.entry_list_gt (PySem.F.args_list_gt_2 _ _) ?_
    obtain ⟨hp, g, dd, tk, os⟩ := s
    wp_walk using wpAny_loadPart' h1, wpAny_loadPart' h2
    refine ⟨plainId_quiet MeetsSeq3.plain_eq_loop _, codeAny_builtin MeetsSeq3.entry_eq_loop ?_⟩
    rw [Around.under_plainId MeetsSeq3.plain_eq_loop _]
    exact hloop
  · refine call_wp PySem.F.slot_list_lt hT PySem.F.entry_list_lt (PySem.F.args_list_lt_2 _ _) ?_
    obtain ⟨hp, g, dd, tk, os⟩ := s
    wp_walk using wpAny_loadPart' h1, wpAny_loadPart' h2
    refine ⟨plainId_quiet MeetsSeq3.plain_eq_loop _, codeAny_builtin MeetsSeq3.entry_eq_loop ?_⟩
    rw [Around.under_plainId MeetsSeq3.plain_eq_loop _]
    exact hloop
theorem opLt_L (he : ∀ x y, OpEq prog w ⟨k, n⟩ φ (P x) (P y) (eq x y)) (ho : ∀ x y, Op2 prog w ⟨k, n⟩ φ (richCompare .Lt) (P x) (P y) (vBool (op x y))) :
    OpLt prog w ⟨k + 1, n⟩ φ (vList (xs.map P)) (vList (ys.map P)) (lexC eq op (decide (xs.length < ys.length)) xs ys) := by
  intro A ψ s u v c l hu hv
  have hu' := hu
  obtain ⟨x, us, i1, rfl, hx, _⟩ := hu'
  obtain ⟨y, vs, i2, rfl, hy, _⟩ := id hv
  have hun : A.units < cLine := by have := c.units; show _ < 9900; omega
  have hT1 : s.TypeIs (.ref x) "list" := ⟨_, c.sub _ _ hx, rfl⟩
  rw [keyLt'_oneType, oneLt'_eq]
  simp only [if_true]
  refine wpAny_bind (wpAny_cRoomFor hun ?_)
  refine wpAny_bind (wpAny_callSpecialIfBound?_slot hT1 PySem.F.slot_list_lt (call_ord (d := true) c l hu hv he ho fun ψ' s' g => ?_))
  exact wpAny_truthy_bool ⟨rfl, ψ', g⟩
theorem tyIs_seq {c : String} {ps : List VP} : TyIs prog w φ (vSeq c ps) (.type c) := by
  rintro ψ v h l hs ⟨a, vs, j, rfl, ho, _⟩
  intro A Q E s k q
  exact wpAny_typeOf ⟨_, k _ _ (hs _ _ ho), rfl⟩ q
end
end Mine
namespace Mine
variable {prog : Program} {w : World} {X : Fix} {Γ : List (Str × VP)} {ψ ω φ : PM} {s s' : Shared} {k : Nat} {n b : Bool} {m : Str → Option Value} {μ : Md} {A : Around} {env : Env} {sc scope : Scope}
variable {E : Value → Shared → Prop}
theorem adjust_rev (n : Nat) : Builtin.Slice.sliceAdjust none none (-1) (n : Int) = ((n : Int) - 1, -1) := by
  unfold Builtin.Slice.sliceAdjust
  have h1 : ((-1 : Int) < 0) := by omega
  simp only [h1, if_true]
theorem places_rev (n : Nat) : Builtin.Slice.slicePlaces ((n : Int) - 1) (-1) (-1) = n := by
  unfold Builtin.Slice.slicePlaces
  have h1 : ¬ ((-1 : Int) > 0) := by omega
  simp only [h1, if_false, Int.neg_neg, Int.ediv_one]
  split <;> omega
theorem filterMap_some {α β : Type} {f : α → Option β} {g : α → β} : ∀ {l : List α}, (∀ k ∈ l, f k = some (g k)) → l.filterMap f = l.map g
  | [], _ => rfl
  | x :: l, h => by rw [List.filterMap_cons, h x (.head _), List.map_cons, filterMap_some fun k hk => h k (.tail _ hk)]
theorem applied_rev {sl : Addr} {n : Nat} {u : Tok} {Q : Int × Int × Nat → Shared → Prop} (hs : s.heap.IsSliceOf sl .none .none (.int (-1) u)) (h : Q ((n : Int) - 1, -1, n) s) :
    wpAny (model prog w) A (Builtin.Slice.sliceApplied (.ref sl) (pure (n : Int))) Q E s := by
  obtain ⟨os, hos, hcs, hds⟩ := id hs
  unfold Builtin.Slice.sliceApplied Builtin.Slice.sliceFields
  refine wpAny_bind (wpAny_bind (wpAny_field hos hds (x := .none) rfl (wpAny_bind (wpAny_field hos hds (x := .none) rfl (wpAny_bind (wpAny_field hos hds (x := .int (-1) u) rfl (wpAny_pure ?_)))))))
  refine wpAny_bind (slicePart_int ?_)
  show wpAny _ _ (if ((-1 : Int) == 0) = true then _ else _) _ _ s
  rw [if_neg (by decide)]
  refine wpAny_bind (slicePart_none (wpAny_bind (slicePart_none (wpAny_bind (wpAny_pure ?_)))))
  show wpAny _ _ (match Builtin.Slice.sliceAdjust none none (-1) (n : Int) with | (lo, hi) => pure (lo, (-1 : Int), Builtin.Slice.slicePlaces lo hi (-1))) _ _ s
  rw [adjust_rev n]
  show wpAny _ _ (pure ((n : Int) - 1, (-1 : Int), Builtin.Slice.slicePlaces ((n : Int) - 1) (-1) (-1))) _ _ s
  rw [places_rev n]
  exact wpAny_pure h
theorem pick_rev (vs : List Value) : ((List.range vs.toArray.size).filterMap fun (k : Nat) => vs.toArray[((vs.toArray.size : Int) - 1 + (k : Int) * -1).toNat]?) = vs.reverse := by
  refine List.ext_getElem? fun i => ?_
  have hs : vs.toArray.size = vs.length := by simp
  rw [hs]
  have e : ∀ k ∈ List.range vs.length, vs.toArray[((vs.length : Int) - 1 + (k : Int) * -1).toNat]? = some (vs.reverse.getD k .none) := fun k hk => by
    have hk' := List.mem_range.mp hk
    have e1 : ((vs.length : Int) - 1 + (k : Int) * -1).toNat = vs.length - 1 - k := by omega
    rw [e1, List.getD_eq_getElem?_getD, List.getElem?_reverse hk']
    have hlt : vs.length - 1 - k < vs.length := by omega
    simp [hlt]
  rw [filterMap_some e, List.getElem?_map]
  by_cases hi : i < vs.length
  · rw [List.getElem?_range hi, Option.map_some, List.getD_eq_getElem?_getD, List.getElem?_eq_getElem (by simpa using hi)]; rfl
  · rw [List.getElem?_eq_none (by simp; omega), List.getElem?_eq_none (by simp; omega)]; rfl
theorem All2.reverse {α β : Type} {R : α → β → Prop} {as : List α} {bs : List β} (h : All2 R as bs) : All2 R as.reverse bs.reverse := by
  induction h with
  | nil => exact .nil
  | cons h _ ih => rw [List.reverse_cons, List.reverse_cons]; exact ih.append (.cons h .nil)
theorem get_rev {ps : List VP} (hsz : ps.length ≤ 1000000) : Op2 prog w μ φ getItem (vTup ps) (vSlice none none (some (-1))) (vTup ps.reverse) := by
  rintro A ψ s _ _ c l ⟨a, vs, j, rfl, ho, hall⟩ ⟨sa, vl, vu, vst, rfl, hs, p1, p2, p3⟩
  have hlen := hall.length
  have hline : sizeLine = 16777216 := rfl
  have ht : s.heap.IsTuple a vs.toArray := ⟨_, c.sub _ _ ho, rfl, j, rfl⟩
  cases p1
  cases p2
  obtain ⟨u, e3⟩ : ∃ u, vst = .int (-1) u := by cases p3; exact ⟨_, rfl⟩
  subst e3
  have hsl : s.heap.IsSliceOf sa .none .none (.int (-1) u) := ⟨_, c.sub _ _ hs, rfl, rfl⟩
  have hTs : s.TypeIs (.ref sa) "slice" := ⟨_, c.sub _ _ hs, rfl⟩
  show wpAny _ _ (getItem (.ref a) (.ref sa)) _ _ s
  unfold getItem
  try with_reducible refine wpAny_holding ?_
  first | refine wpAny_bind (wpAny_pure ?_) | skip
  refine wpAny_bind (wpAny_sequenceKey ht.typeIs (by decide) ?_)
  refine wpAny_bind (wpAny_callSpecial?_slot (name := Str.ofString "__getitem__") ht.typeIs slot_tuple_getitem
    (wpAny_call_entry slot_tuple_getitem ht.typeIs entry_tuple_getitem ?_ (args_tuple_getitem _ _)))
  show wpAny _ _ (Builtin.Tuple.tupleItemsOf (.ref a) >>= _) _ _ s
  refine wpAny_bind (tupleItemsOf_ ht ?_)
  refine wpAny_bind (wpAny_typeOf hTs ?_)
  rw [if_pos (by decide)]
  refine wpAny_bind (applied_rev hsl ?_)
  have hno : ¬ (((vs.toArray.size : Int) - 1 == 0 && (-1 : Int) == 1 && vs.toArray.size == vs.toArray.size) = true) := by
    have : ((-1 : Int) == 1) = false := by decide
    rw [this]; simp
  dsimp only
  rw [if_neg hno, pick_rev vs]
  have hn := none_of_sub c.sub (get_size s.heap)
  have fin : ∃ ψ', Grow (frs A) ψ s ψ' { s with heap := s.heap.push { cls := .type "tuple", data := .seq vs.reverse.toArray } } ∧ (vTup ps.reverse).p ψ' (.ref s.heap.objs.size) :=
    ⟨_, Grow.push c.sub _ rfl s.toks, _, vs.reverse, 0, rfl, put_self _ _ _, hall.reverse.imp fun P v x => P.mono (le_put hn) x⟩
  have hok : sizeOk (.seq vs.reverse.toArray) := by show vs.reverse.toArray.size ≤ sizeLine; simp; omega
  first
    | exact wpAny_bind (m := Builtin.Tuple.tupleExact _) (wpAny_newObj_type (wpAny_pure ⟨_, rfl, wpAny_pure fin⟩) hok)
    | exact wpAny_bind (m := Builtin.Tuple.tupleExact _) (wpAny_newObj_type (wpAny_bind (wpAny_pure (wpAny_pure ⟨_, rfl, wpAny_pure fin⟩))) hok)
    | exact wpAny_bind (wpAny_bind (m := Builtin.Tuple.tupleExact _) (wpAny_newObj_type (wpAny_pure (wpAny_pure ⟨_, rfl, wpAny_pure fin⟩)) hok))
theorem add_tups {ps qs : List VP} (hsz : ps.length + qs.length ≤ sizeLine) : Op2 prog w μ φ (binaryOp .Add) (vTup ps) (vTup qs) (vTup (ps ++ qs)) := by
  rintro A ψ s _ _ c l ⟨a, vs, j, rfl, ho, hall⟩ ⟨a', vs', j', rfl, ho', hall'⟩
  have h1 := c.sub _ _ ho
  have h2 := c.sub _ _ ho'
  have e : vs.toArray ++ vs'.toArray = (vs ++ vs').toArray := by simp
  have hn := none_of_sub c.sub (get_size s.heap)
  by_cases hv : vs = []
  · subst hv
    cases hall
    exact concat_meets ⟨_, h1, rfl⟩ ⟨_, h2, rfl⟩ noFill_tuple_add seq_tuple_add PySem.F.slot_tuple_add PySem.F.entry_tuple_add (PySem.F.args_tuple_add_2 _ _)
      (tuple_addW0 a a' _ _ j j' none none #[] #[] (by simp)) ⟨h1, h2, ψ, Grow.refl c.sub, _, vs', j', rfl, ho', by simpa using hall'⟩
  · by_cases hw : vs' = []
    · subst hw
      cases hall'
      exact concat_meets ⟨_, h1, rfl⟩ ⟨_, h2, rfl⟩ noFill_tuple_add seq_tuple_add PySem.F.slot_tuple_add PySem.F.entry_tuple_add (PySem.F.args_tuple_add_2 _ _)
        (tuple_addW1 a a' _ _ j j' none none #[] #[] (by simpa using hv) (by simp)) ⟨h1, h2, ψ, Grow.refl c.sub, _, vs, j, rfl, ho, by simpa using hall⟩
    · refine concat_meets ⟨_, h1, rfl⟩ ⟨_, h2, rfl⟩ noFill_tuple_add seq_tuple_add PySem.F.slot_tuple_add PySem.F.entry_tuple_add (PySem.F.args_tuple_add_2 _ _)
        (tuple_addW2 a a' _ _ j j' none none #[] #[] (by simpa using hv) (by simpa using hw) (by rw [List.size_toArray, List.size_toArray, ← hall.length, ← hall'.length]; exact hsz)) ⟨h1, h2, ?_⟩
      rw [e]
      exact ⟨_, Grow.push c.sub _ rfl s.toks, _, vs ++ vs', 0, rfl, put_self _ _ _, (hall.append hall').imp fun P v x => P.mono (le_put hn) x⟩
theorem get_mapZ {α : Type} {f : α → VP} {d : α} {l : List α} {i : Int} (h0 : 0 ≤ i) (hi : i.toNat < l.length) (hs : (l.length : Int) < 2 ^ 63) : Op2 prog w μ φ getItem (vList (l.map f)) (vInt i) (f (l.getD i.toNat d)) := by
  refine get_list h0 (by omega) ?_
  rw [List.getElem?_map, List.getD_eq_getElem?_getD, List.getElem?_eq_getElem hi]; rfl
end Mine
namespace Mine
variable {prog : Program} {w : World} {X : Fix} {Γ : List (Str × VP)} {ψ ω φ : PM} {s s' : Shared} {k : Nat} {n b : Bool} {m : Str → Option Value} {μ : Md} {A : Around} {env : Env} {sc scope : Scope}
variable {E : Value → Shared → Prop}
section
variable {ψ₀ : PM} {s₀ : Shared}
theorem put_twice {a : Addr} {o o' : Obj} : put (put ω a o) a o' = put ω a o' := by funext b; unfold put; split <;> rfl
theorem Wk.less {F : List Addr} {ω' : PM} (x : Wk F ψ₀ s₀ ψ ω s) (h : ∀ b o, ω' b = some o → ω b = some o) : Wk F ψ₀ s₀ ψ ω' s := ⟨x.g, fun b o e => x.own b o (h b o e)⟩
theorem zip_item {α : Type} {xs : List α} {ks vs : List Value} (i : Nat) (hl : ks.length = vs.length) : kas_item (ks.toArray.zip vs.toArray) i = (ks.getD i .none, vs.getD i .none) := by
  unfold kas_item
  have e : (ks.toArray.zip vs.toArray) = (ks.zip vs).toArray := by apply Array.toList_inj.mp; rw [Array.toList_zip]
  rw [e]
  have e0 : (ks.zip vs).toArray.getD i (Value.none, Value.none) = ((ks.zip vs)[i]?).getD (Value.none, Value.none) := by rw [Array.getD_eq_getD_getElem?]; simp
  rw [e0]
  by_cases hi : i < (ks.zip vs).length
  · have h1 : i < ks.length := by rw [List.length_zip] at hi; omega
    have h2 : i < vs.length := by rw [List.length_zip] at hi; omega
    rw [List.getElem?_eq_getElem hi, List.getElem_zip, List.getD_eq_getElem?_getD, List.getD_eq_getElem?_getD, List.getElem?_eq_getElem h1, List.getElem?_eq_getElem h2]; rfl
  · have h1 : ks.length ≤ i := by rw [List.length_zip] at hi; omega
    rw [List.getElem?_eq_none (by omega), List.getD_eq_getElem?_getD, List.getD_eq_getElem?_getD, List.getElem?_eq_none h1, List.getElem?_eq_none (by omega)]; rfl
theorem list_sortK_ok {α : Type} {P Pk : α → VP} {lt : α → α → Bool} {d : α} {xs : List α} {vs : List Value} {T : Value} {a : Addr} {j : Nat} {f : Value} {Q : PySem.Fin → Shared → Prop} (h2 : 2 ≤ xs.length) (h64 : xs.length < 64) (c₀ : Cx ⟨k, n⟩ A ψ₀ s₀) (lφ : Le φ ψ) (x : Wk (frs A) ψ₀ s₀ ψ ω s) (ha : ω a = some (lst vs j))
    (hall : All2 (fun (P : VP) v => P.p ψ v) (xs.map P) vs) (hf : ∀ x, Spec prog w ⟨k, n⟩ φ f [P x] (Pk x)) (hT : ∀ x, TyIs prog w φ (Pk x) T) (hT1 : (T != Value.type "tuple") = true) (hT2 : (T == T) = true) (hlt : ∀ x y, OpLt prog w ⟨k, n⟩ φ (Pk x) (Pk y) (lt x y))
    (q : ∀ ψ' s' us j', Le ψ ψ' → Wk (frs A) ψ₀ s₀ ψ' (put ω a (lst us j')) s' → All2 (fun (P : VP) v => P.p ψ' v) ((sortL lt d xs).map P) us → Q (.done (.ret .none)) s') :
    wpAny (model prog w) A (ksk_tree a f false) Q E s := by
  have hlen : vs.length = xs.length := by rw [← hall.length, List.length_map]
  obtain ⟨ho, hψa, h0a⟩ := x.own a _ ha
  replace ho : s.heap.get? a = some (seqObj "list" vs.toArray j) := ho
  have s1 := Heap.SameBut.update s.heap a (Obj.mapSeq fun _ => (#[] : Array Value))
  obtain ⟨e1, ho1⟩ : ∃ e1, (s.heap.update a (Obj.mapSeq fun _ => (#[] : Array Value))).get? a = some (seqObj "list" #[] e1) := ⟨_, get?_update_seq ho fun _ => #[]⟩
  have hline : sizeLine = 16777216 := rfl
  unfold ksk_tree
  refine wpAny_bind (listItems_at ho rfl ?_)
  refine wpAny_bind (listUpdate_at ho rfl ?_ (by rw [List.size_toArray]; omega) (Nat.zero_le _))
  refine wpAny_bind (seqEpoch_at ho1 rfl ?_)
  refine wpAny_bind (wpAny_newTuple ?_ (by show vs.length ≤ _; omega))
  refine wpAny_bind (wpAny_newList ?_ (Nat.zero_le _))
  refine wpAny_holding ?_
  have x1 : Wk (frs A) ψ₀ s₀ ψ (put ω a (lst [] e1)) { s with heap := s.heap.update a (Obj.mapSeq fun _ => (#[] : Array Value)), toks := s.toks } := x.set ha ho1 fun b hb => s1.2 b hb
  have x2 := x1.keeps (tk := s.toks) (h' := (s.heap.update a (Obj.mapSeq fun _ => (#[] : Array Value))).push (seqObj "tuple" vs.toArray 0)) fun b o e => Heap.get?_push_of_some _ e
  have x3 := x2.push (o := lst [] 0) rfl s.toks
  have hω : ω ((s.heap.update a (Obj.mapSeq fun _ => (#[] : Array Value))).push (seqObj "tuple" vs.toArray 0)).objs.size = none := by
    cases z : ω ((s.heap.update a (Obj.mapSeq fun _ => (#[] : Array Value))).push (seqObj "tuple" vs.toArray 0)).objs.size with
    | none => rfl
    | some o => have := Heap.lt_size (x.own _ _ z).1; rw [size_push', Heap.size_update] at this; exact absurd (Nat.lt_of_succ_lt this) (Nat.lt_irrefl _)
  have hka : ((s.heap.update a (Obj.mapSeq fun _ => (#[] : Array Value))).push (seqObj "tuple" vs.toArray 0)).objs.size ≠ a := by
    have : a < s.heap.objs.size := Heap.lt_size ho
    rw [size_push', Heap.size_update]; exact Nat.ne_of_gt (Nat.lt_succ_of_lt this)
  show wpAny (model prog w) A (ksk_rest a f false vs.toArray e1 (.ref ((s.heap.update a (Obj.mapSeq fun _ => (#[] : Array Value))).push (seqObj "tuple" vs.toArray 0)).objs.size)) Q E { s with heap := ((s.heap.update a (Obj.mapSeq fun _ => (#[] : Array Value))).push (seqObj "tuple" vs.toArray 0)).push (lst [] 0) }
  generalize hs3 : ({ s with heap := ((s.heap.update a (Obj.mapSeq fun _ => (#[] : Array Value))).push (seqObj "tuple" vs.toArray 0)).push (lst [] 0) } : Shared) = s3
  have x3' : Wk (frs A) ψ₀ s₀ ψ (put (put ω a (lst [] e1)) ((s.heap.update a (Obj.mapSeq fun _ => (#[] : Array Value))).push (seqObj "tuple" vs.toArray 0)).objs.size (lst [] 0)) s3 := by rw [← hs3]; exact x3
  clear hs3 x1 x2 x3
  generalize ((s.heap.update a (Obj.mapSeq fun _ => (#[] : Array Value))).push (seqObj "tuple" vs.toArray 0)).objs.size = kS at hω hka x3' ⊢
  unfold ksk_rest
  refine wpAny_bind (wpAny_rule ?_)
  rw [List.forIn_toArray]
  refine wpAny_bind (ksk_fold (fun i s' => ∃ ψ' ks j, Le ψ ψ' ∧ Wk (frs A) ψ₀ s₀ ψ' (put (put ω a (lst [] e1)) kS (lst ks j)) s' ∧ All2 (fun (P : VP) v => P.p ψ' v) ((xs.take i).map Pk) ks) vs 0 s3 ⟨ψ, [], 0, Le.refl _, x3', by simpa using All2.nil⟩ ?step ?done)
  case step =>
    rintro i v s' hv ⟨ψ1, ks, j1, l1, x1, hk⟩
    simp only [Nat.zero_add] at hk ⊢
    have hi : i < vs.length := (List.getElem?_eq_some_iff.mp hv).1
    have hxi : xs[i]? = some xs[i] := List.getElem?_eq_getElem (by omega)
    have hp : (P xs[i]).p ψ v := by
      obtain ⟨P0, e0, p0⟩ := hall.get' hv
      rw [List.getElem?_map, hxi] at e0
      cases e0; exact p0
    refine wpAny_bind (wpAny_attempt (wpAny_mono (hf xs[i] A ψ1 s' [v] (c₀.grow x1.g) (lφ.trans l1) (.cons ((P _).mono l1 hp) .nil)) (fun kv s2 hkv => ?_) fun _ _ hF => hF.elim))
    obtain ⟨ψ2, g2, p2⟩ := hkv
    dsimp only
    have x2 := x1.call (μ := ⟨k, n⟩) c₀.stk g2
    obtain ⟨hkS, _, _⟩ := x2.own kS _ (put_self _ _ _)
    have hkl : ks.length ≤ 1000 := by have := hk.length; rw [List.length_map, List.length_take] at this; omega
    have s3 := Heap.SameBut.update s2.heap kS (Obj.mapSeq (·.push kv))
    obtain ⟨c2, hc2⟩ : ∃ c2, (s2.heap.update kS (Obj.mapSeq (·.push kv))).get? kS = some (seqObj "list" (ks.toArray.push kv) c2) := ⟨_, get?_update_seq (n := j1) hkS (·.push kv)⟩
    have ek : ks.toArray.push kv = (ks ++ [kv]).toArray := by simp
    rw [ek] at hc2
    refine wpAny_bind (listUpdate_at hkS rfl ?_ (by rw [List.size_toArray]; omega) (by rw [ek, List.size_toArray, List.length_append]; show ks.length + 1 ≤ _; omega))
    have y := x2.set (tk := s2.toks) (put_self _ _ _) hc2 fun b hb => s3.2 b hb
    have e1' : put (put (put ω a (lst [] e1)) kS (lst ks j1)) kS (seqObj "list" (ks ++ [kv]).toArray c2) = put (put ω a (lst [] e1)) kS (lst (ks ++ [kv]) c2) := put_twice
    rw [e1'] at y
    refine wpAny_pure ⟨rfl, ψ2, ks ++ [kv], c2, l1.trans g2.le, y, ?_⟩
    rw [List.take_add_one, hxi, List.map_append]
    exact (hk.imp fun (P : VP) v y => P.mono g2.le y).append (.cons p2 .nil)
  case done =>
    rintro s' ⟨ψ1, ks, j1, l1, x1, hk⟩
    have htake : xs.take (0 + vs.length) = xs := List.take_of_length_le (by omega)
    rw [htake] at hk
    have hkl : ks.length = vs.length := by have := hk.length; rw [List.length_map] at this; omega
    obtain ⟨hkS, _, _⟩ := x1.own kS _ (put_self _ _ _)
    refine wpAny_bind (listItems_at hkS rfl ?_)
    unfold ksk_end
    dsimp only
    have hne : ¬ vs.toArray.size < 2 := by rw [List.size_toArray]; omega
    refine if_not rfl ?_
    rw [if_neg hne, if_neg hne]
    refine wpAny_bind (kas_kind (by omega) (fun v hv => ?_) hT1 hT2 ?_)
    · obtain ⟨i, hi⟩ := List.getElem?_of_mem hv
      obtain ⟨Pv, hP, hp⟩ := hk.get' hi
      obtain ⟨z, _, rfl⟩ := List.mem_map.mp (List.mem_of_getElem? hP)
      exact hT z ψ1 v _ (lφ.trans l1) x1.g.sub hp
    · refine wpAny_bind (wpAny_mono (sort_core (it := ks.toArray.zip vs.toArray) (nn := vs.length) (Pk := fun i => Pk (xs.getD i d)) (lt := fun i j => lt (xs.getD i d) (xs.getD j d)) (by omega) (by omega) (by rw [Array.size_zip, List.size_toArray, List.size_toArray]; omega) c₀ (lφ.trans l1) x1 (fun i hi => ?_) (fun i _ j _ => hlt _ _)) (fun r s2 hr => ?_) fun _ _ e => e)
      · rw [zip_item (xs := xs) i hkl]
        have h1 := all2_getD hk (i := i) (D := Pk d) (by rw [List.length_map]; omega)
        have h2 : xs[i]? = some xs[i] := List.getElem?_eq_getElem (by omega)
        rw [List.getD_eq_getElem?_getD, List.getElem?_map, h2] at h1
        show (Pk (xs.getD i d)).p ψ1 (ks.getD i Value.none)
        rw [List.getD_eq_getElem?_getD, h2]
        exact h1
      · obtain ⟨⟨⟩, st'⟩ := r
        obtain ⟨har, hfl, hsz, hsm, ψ', l', x'⟩ := hr
        dsimp only at har hfl ⊢
        unfold ksk_tail
        obtain ⟨hkS', _, _⟩ := x'.own kS _ (put_self _ _ _)
        have s4 := Heap.SameBut.update s2.heap kS (Obj.mapSeq fun _ => (#[] : Array Value))
        obtain ⟨c4, hc4⟩ : ∃ c4, (s2.heap.update kS (Obj.mapSeq fun _ => (#[] : Array Value))).get? kS = some (seqObj "list" #[] c4) := ⟨_, get?_update_seq (n := j1) hkS' fun _ => #[]⟩
        refine wpAny_bind (listUpdate_at hkS' rfl ?_ (by rw [List.size_toArray]; omega) (Nat.zero_le _))
        have x4 := x'.set (tk := s2.toks) (put_self _ _ _) hc4 fun b hb => s4.2 b hb
        refine wpAny_bind (wpAny_letGo ?_)
        have hωa : put (put (put ω a (lst [] e1)) kS (lst ks j1)) kS (seqObj "list" #[] c4) a = some (lst [] e1) := by rw [put_ne hka.symm, put_ne hka.symm]; exact put_self _ _ _
        obtain ⟨hoa, _⟩ := x4.own a _ hωa
        show wpAny (model prog w) A _ Q E ({ s2 with heap := s2.heap.update kS (Obj.mapSeq fun _ => (#[] : Array Value)), toks := s2.toks } : Shared)
        generalize ({ s2 with heap := s2.heap.update kS (Obj.mapSeq fun _ => (#[] : Array Value)), toks := s2.toks } : Shared) = s5 at x4 hoa ⊢
        refine wpAny_bind (seqEpoch_at hoa rfl ?_)
        have hout : (arrOf st').map (·.2) = (((runT (fun i j => lt (xs.getD i d) (xs.getD j d)) (kas_sort vs.length)).toList.map fun i => vs.getD i Value.none)).toArray := by
          apply Array.toList_inj.mp
          rw [har, Array.map_map, Array.toList_map]
          exact List.map_congr_left fun i _ => by show (kas_item (ks.toArray.zip vs.toArray) i).2 = _; rw [zip_item (xs := xs) i hkl]
        have hz : ((runT (fun i j => lt (xs.getD i d) (xs.getD j d)) (kas_sort vs.length)).toList.map fun i => vs.getD i Value.none).length = vs.length := by rw [List.length_map, Array.length_toList, hsz]
        have s6 := Heap.SameBut.update s5.heap a (Obj.mapSeq fun _ => (arrOf st').map (·.2))
        obtain ⟨c6, hc6⟩ : ∃ c6, (s5.heap.update a (Obj.mapSeq fun _ => (arrOf st').map (·.2))).get? a = some (seqObj "list" ((arrOf st').map (·.2)) c6) := ⟨_, get?_update_seq (n := e1) hoa fun _ => (arrOf st').map (·.2)⟩
        refine wpAny_bind (listUpdate_at hoa rfl ?_ (Nat.zero_le _) (by show ((arrOf st').map (·.2)).size ≤ _; rw [hout, List.size_toArray, hz]; omega))
        rw [hfl]
        simp only [bne_self_eq_false, Bool.false_eq_true, if_false]
        have x6 := x4.set (tk := s5.toks) hωa hc6 fun b hb => s6.2 b hb
        rw [hout] at x6
        refine wpAny_pure (q ψ' _ ((runT (fun i j => lt (xs.getD i d) (xs.getD j d)) (kas_sort vs.length)).toList.map fun i => vs.getD i Value.none) c6 (l1.trans l') ?_ ?_)
        · rw [hout]
          refine x6.less fun b o e => ?_
          by_cases hb : b = a
          · subst hb; rw [put_self] at e ⊢; exact e
          · rw [put_ne hb] at e ⊢
            have hbk : b ≠ kS := fun q => by rw [q, hω] at e; cases e
            rw [put_ne hbk, put_ne hbk, put_ne hb]; exact e
        · have hne2 : ¬ xs.length < 2 := by omega
          unfold sortL
          rw [if_neg hne2, ← hlen]
          exact all2_pick (hall.imp fun (P : VP) v y => P.mono (l1.trans l') y) _ fun i hi => by have := hsm.2 i (by simpa using hi); omega
end
theorem call_sortedK {α : Type} {P Pk : α → VP} {lt : α → α → Bool} {d : α} {xs : List α} {T : Value} {l K : Addr} {Q : Value → Shared → Prop} (h2 : 2 ≤ xs.length) (h64 : xs.length < 64) (c : Cx ⟨k + 2, n⟩ A ψ s) (lφ : Le φ ψ) (hl : (vList (xs.map P)).p ψ (.ref l)) (hf : ∀ x, Spec prog w ⟨k, n⟩ φ (.ref K) [P x] (Pk x)) (hT : ∀ x, TyIs prog w φ (Pk x) T) (hT1 : (T != Value.type "tuple") = true) (hT2 : (T == T) = true) (hlt : ∀ x y, OpLt prog w ⟨k, n⟩ φ (Pk x) (Pk y) (lt x y))
    (q : ∀ v ψ' s', Grow (frs A) ψ s ψ' s' → (vList ((sortL lt d xs).map P)).p ψ' v → Q v s') :
    wpAny (model prog w) A (call (.builtin "sorted") [.ref l] [(Str.ofString "key", .ref K)]) Q E s := by
  obtain ⟨_, vs, j, e, ho, hall⟩ := hl
  cases e
  have hlen : vs.length = xs.length := by rw [← hall.length, List.length_map]
  have hl : s.heap.IsList l vs.toArray := ⟨_, c.sub _ _ ho, rfl, j, rfl⟩
  have hline : sizeLine = 16777216 := rfl
  refine call_function_entry_kw kind_sorted plain_sorted entry_sorted (ksk_s1 _ _) ?_
  unfold Builtin.«sorted»
  refine wpAny_bind (m := checkCount "sorted" 1 1 _) (wpAny_pure ?_)
  refine wpAny_bind (collect_list hl ?_ (by omega))
  refine wpAny_bind (wpAny_newList ?_ (by omega))
  have hsz : ((s.heap.push (seqObj "list" #[] 0)).update s.heap.objs.size (Obj.mapSeq (· ++ vs.toArray))).objs.size = s.heap.objs.size + 1 := by
    rw [Heap.size_update, size_push']
  have hoL : (((s.heap.push (seqObj "list" #[] 0)).update s.heap.objs.size (Obj.mapSeq (· ++ vs.toArray))).push (seqObj "list" vs.toArray 0)).get? (s.heap.objs.size + 1) = some (seqObj "list" vs.toArray 0) := by
    rw [← hsz]; exact Heap.get?_push_size _ rfl
  have keep : ∀ b o, s.heap.get? b = some o → (((s.heap.push (seqObj "list" #[] 0)).update s.heap.objs.size (Obj.mapSeq (· ++ vs.toArray))).push (seqObj "list" vs.toArray 0)).get? b = some o := fun b o q => by
    have hlt : b < s.heap.objs.size := Heap.lt_size q
    rw [Heap.get?_push_ne _ _ _ (by rw [hsz]; exact Nat.ne_of_lt (Nat.lt_succ_of_lt hlt)), Heap.get?_update_ne _ _ _ _ (Nat.ne_of_lt hlt), Heap.get?_push_ne _ _ _ (Nat.ne_of_lt hlt)]
    exact q
  show wpAny _ _ _ _ _ { s with heap := ((s.heap.push (seqObj "list" #[] 0)).update s.heap.objs.size (Obj.mapSeq (· ++ vs.toArray))).push (seqObj "list" vs.toArray 0) }
  rw [hsz]
  have hn1 : s.heap.get? (s.heap.objs.size + 1) = none := Heap.get?_none_of_le (Nat.le_succ _)
  have x := ((Wk.start (F := frs A) c.sub).keeps (tk := s.toks) keep).lay hoL hn1 (none_of_sub c.sub hn1)
  refine wpAny_bind (wpAny_holding (wpAny_call_entry_kw slot_list_sort ⟨_, hoL, rfl⟩ entry_list_sort ?_ (ksk_l1 _ _)))
  rw [ksk_t1]
  refine list_sortK_ok (d := d) (A := A.in1.in1) (vs := vs) (j := 0) (k := k) (n := n) (P := P) (Pk := Pk) (lt := lt) h2 h64 (c.in1.in1) lφ x (put_self _ _ _) hall hf hT hT1 hT2 hlt fun ψ' s' us j' l' x' hall' => ?_
  refine ⟨_, rfl, wpAny_pure ⟨_, rfl, ?_⟩⟩
  exact q _ (put ψ' (s.heap.objs.size + 1) (lst us j')) s' (x'.freeze (put_self _ _ _)) ⟨_, us, j', rfl, put_self _ _ _, hall'.imp fun P v y => P.mono (le_put (x'.own _ _ (put_self _ _ _)).2.1) y⟩
end Mine
namespace Mine
variable {prog : Program} {w : World} {X : Fix} {Γ : List (Str × VP)} {ψ ω φ : PM} {s s' : Shared} {k : Nat} {n b : Bool} {m : Str → Option Value} {μ : Md} {A : Around} {env : Env} {sc scope : Scope}
variable {E : Value → Shared → Prop}
theorem enter_expr {tb : List (Addr × Obj)} {k : Nat} {n : Bool} {A : Around} {a : Addr} {fd : FuncData} {body : Expr} {vs : List Value} {kw : List (Str × Value)} {binds : List (Str × Value)} {Q : Value → Shared → Prop} {E : Value → Shared → Prop}
    (htb : ∀ p ∈ tb, s.heap.get? p.1 = some p.2 ∧ ψ p.1 = none ∧ p.1 ∉ frs A) (c : Cx ⟨k + 1, n⟩ A ψ s) (K : FnK ψ a fd) (hb : fd.body = .expr body) (hcl : fd.closure = []) (hbind : BindsTo s fd ⟨vs, kw⟩ binds)
    (hkind : (binds.all fun y => fd.scope.names.lookup y.1 == some .local || fd.scope.names.lookup y.1 == some .cell) = true) (hfree : (fd.scope.names.all fun x => x.2 != .free) = true) (hnd' : decide (((cellsFrom 0 fd.scope.names []).map (·.1)).Nodup) = true)
    (h : ∀ env s', env.scope = fd.scope → env.code = fd.code ∧ env.qual = fd.qualname ++ ".<locals>." → S ⟨A, A.deeper env, ψ, s, env.locals :: env.cells.map (·.2), env, none, tb⟩ (fun x => binds.reverse.lookup x) ψ (fun _ => none) s' →
      wpAny (model prog w) (A.deeper env) (eval body env) Q (leaveE prog w A env E) s') : codeAny (model prog w) A (.call (.ref a) ⟨vs, kw⟩) (fun r s' => match r with | .ok (.ret v) => Q v s' | .ok _ => False | .error e => E e s') s := by
  obtain ⟨o, ho, hd⟩ := K.obj
  have hnodup : ((cellsFrom 0 fd.scope.names []).map (·.1)).Nodup := of_decide_eq_true hnd'
  have hdepth : A.depth < recursionLimit := by have := c.depth; simp at this; show _ < 1000; omega
  refine kla_callFunE hdepth (c.sub _ _ ho) hd K.co K.gen hb (K.codeRec c.sub) (hbind _ _ _ _ ?_)
  rw [hcl]
  refine wpAny_newFunctionEnv_cells K.kind (kindsX hkind _) fun env' he s' x => ?_
  subst he
  refine ⟨(K.noLimit c.sub).keeps x.toInCall.keep, kla_codeExpr ?_⟩
  have hLn : s.heap.get? s.heap.objs.size = none := get_size _
  have hnofree : ∀ x, fd.scope.names.lookup x ≠ some .free := fun y hy => by
    have := List.all_eq_true.mp hfree _ (mem_of_lookup hy)
    simp at this
  have cellNone : ∀ y c, (cellsFrom (s.heap.objs.size + 1) fd.scope.names []).lookup y = some c → s.heap.get? c = none := fun y cc hy => by
    have := x.above y cc (mem_of_lookup hy)
    cases q : s.heap.get? cc with
    | none => rfl
    | some o => exact absurd (Nat.lt_trans (Heap.lt_size q) this) (Nat.lt_irrefl _)
  refine wpAny_mono (h _ s' rfl ⟨rfl, rfl⟩ ?_) (fun fl s2 q => ?_) fun _ _ q => q
  · refine ⟨?_, Le.refl _, fun _ _ e => .inl e, fun b ob e => x.toInCall.keep b ob (c.sub b ob e), ?_, .deep rfl, (fun e he => by cases he), List.mem_cons_self .., ?_, ?_, ?_, (fun a o e => by cases e), ?_⟩
    · obtain ⟨h', tk, e, kk⟩ := x.done
      subst e
      exact Ext.of_keeps kk
    · refine ⟨K.kind, K.gl, K.bi, ⟨_, x.toInCall.ns, fun y hy => ?_⟩, fun y hy => ?_, fun y z cc hy hz => ?_, fun y cc hy => ?_⟩
      · rw [bindL_is _ _ _ _ hy]; simp
      · rcases hy with hy | hy
        · have hsome := cellsFrom_some fd.scope.names (s.heap.objs.size + 1) [] (.inl hy)
          obtain ⟨cc, hcc⟩ := Option.isSome_iff_exists.mp hsome
          refine ⟨cc, hcc, ?_⟩
          have := x.cell y cc hcc
          rw [bindC_is _ _ _ _ hy] at this
          simpa using this
        · exact absurd hy (hnofree y)
      · exact name_of_addr x.apart (mem_of_lookup hy) (mem_of_lookup hz)
      · exact Nat.ne_of_gt (x.above y cc (mem_of_lookup hy))
    · intro cc hcc
      rcases List.mem_cons.mp hcc with rfl | hcc
      · obtain ⟨o, _, _, ho, _⟩ := x.toInCall.ns; exact ⟨o, ho⟩
      · obtain ⟨⟨y, c'⟩, hy, rfl⟩ := List.mem_map.mp hcc
        have hnd := cellsFrom_names fd.scope.names 0 (s.heap.objs.size + 1) [] [] rfl
        obtain ⟨o, ho, _⟩ := x.cell y c' (lookup_of_mem_nodup (hnd ▸ hnodup) hy)
        exact ⟨o, ho⟩
    · intro cc hcc
      rcases List.mem_cons.mp hcc with rfl | hcc
      · exact ⟨none_of_sub c.sub hLn, hLn⟩
      · obtain ⟨⟨y, c'⟩, hy, rfl⟩ := List.mem_map.mp hcc
        have hnd := cellsFrom_names fd.scope.names 0 (s.heap.objs.size + 1) [] [] rfl
        have hy' := lookup_of_mem_nodup (hnd ▸ hnodup) hy
        exact ⟨none_of_sub c.sub (cellNone y c' hy'), cellNone y c' hy'⟩
    · intro y cc hy hnin
      exact absurd (List.mem_cons_of_mem _ (List.mem_map.mpr ⟨(y, cc), mem_of_lookup hy, rfl⟩)) hnin
    · intro p hp
      obtain ⟨t1, t2, t3⟩ := htb p hp
      refine ⟨x.toInCall.keep _ _ t1, t2, fun hcc => ?_, rfl, t3, ⟨_, t1⟩, t2⟩
      rcases List.mem_cons.mp hcc with q | hcc
      · have q' : p.1 = s.heap.objs.size := q
        rw [q', hLn] at t1; cases t1
      · obtain ⟨⟨y, c'⟩, hy, q⟩ := List.mem_map.mp hcc
        have hnd := cellsFrom_names fd.scope.names 0 (s.heap.objs.size + 1) [] [] rfl
        have hy' := lookup_of_mem_nodup (hnd ▸ hnodup) hy
        have := cellNone y c' hy'
        have q' : c' = p.1 := q
        rw [← q', this] at t1; cases t1
  · exact q
theorem spec_lam {a : Addr} {fd : FuncData} {body : Expr} {names : List Str} {Ps : List VP} {R : VP} (K : FnK φ a fd) (hb : fd.body = .expr body) (hcl : fd.closure = []) (hlen : names.length = Ps.length)
    (hbind : ∀ vs : List Value, vs.length = names.length → bindArgs fd ⟨vs, []⟩ = pure (names.zip vs)) (hnd : decide (names.Nodup) = true)
    (hkind : (names.all fun y => fd.scope.names.lookup y == some .local || fd.scope.names.lookup y == some .cell) = true) (hfree : (fd.scope.names.all fun x => x.2 != .free) = true) (hnd' : decide (((cellsFrom 0 fd.scope.names []).map (·.1)).Nodup) = true)
    (h : EV prog w ⟨k, n⟩ fd.scope (names.zip Ps) φ body R) : Spec prog w ⟨k + 1, n⟩ φ (.ref a) Ps R := by
  intro A ψ s vs c l hv
  have hl : vs.length = names.length := by rw [hlen, hv.length]
  refine wpAny_call (enter_expr (tb := []) (Q := fun v s' => ∃ ψ', Grow (frs A) ψ s ψ' s' ∧ R.p ψ' v) (E := fun _ _ => False) (fun p hp => by cases hp) c (K.le l) hb hcl (BindsTo.of_eq (hbind vs hl)) ?_ hfree hnd' fun env s' he hcd x' => ?_)
  · rw [List.all_eq_true] at hkind ⊢
    intro y hy
    exact hkind y.1 (List.of_mem_zip hy).1
  · have ht : Typ (names.zip Ps) ψ (fun x => (names.zip vs).reverse.lookup x) := by
      refine typ_binds ?_ ?_
      · refine All2.of_get (by simp [hl, hlen]) fun i a b ha hb => ?_
        rw [List.getElem?_zip_eq_some] at ha hb
        refine ⟨by have := ha.1.symm.trans hb.1; exact Option.some.inj this, ?_⟩
        obtain ⟨v, hv', hp⟩ := hv.get ha.2
        rw [hb.2] at hv'; cases hv'
        exact hp
      · have : (names.zip Ps).map (·.1) = names := by rw [List.map_fst_zip (by omega)]
        rw [this]; exact hnd
    have cx : CX ⟨k, n⟩ ⟨A, A.deeper env, ψ, s, env.locals :: env.cells.map (·.2), env, none, []⟩ := CX.of c rfl
    have bb : B ⟨A, A.deeper env, ψ, s, env.locals :: env.cells.map (·.2), env, none, []⟩ (names.zip Ps) ψ (fun _ => none) s' := ⟨_, x', ht⟩
    refine bb.eval cx (by rw [he]; exact h.go.le l) fun v ψ' s2 l2 p b2 => ⟨ψ', b2.toGrow, p⟩
theorem tyIs_K {K : Addr} {ds : Nat → Stmt} {PF P : VP} : TyIs prog w φ (vKat K ds PF P) (.ref K) := by
  rintro ψ v h l hs ⟨_, x, dx, u, rfl, hx⟩
  intro A Q E s k q
  show wpAny _ A (do return (← loadPart x (some headPart)).cls) _ _ s
  exact wpAny_bind (wpAny_loadPart' (k _ _ (hs _ _ hx)) (wpAny_pure q))
theorem opLt_K {α : Type} {ds : Nat → Stmt} {K0 : Addr} {Q : α → VP} {PF : VP} {a b : α} {r : Bool}
    (hm : ∀ {ψ c K}, Le φ ψ → KCls ds c ψ K → (∃ o fv, ψ c = some o ∧ o.data = .cell (some fv) ∧ PF.p ψ fv) → ∀ {md st kvs}, BdK ds c ψ kvs → ∃ f of, (kvF md (putKV "__static_attributes__" (.ref st) kvs)).lookup (Str.ofString "__lt__") = some (.ref f) ∧ ψ f = some of ∧ of.cls = .type "function" ∧ Spec prog w ⟨k, n⟩ ψ (.ref f) [vK ds PF (Q a), vK ds PF (Q b)] (vBool r)) :
    OpLt prog w ⟨k, n⟩ φ (vKat K0 ds PF (Q a)) (vKat K0 ds PF (Q b)) r := by
  intro A ψ s u v c l hu' hv'
  have hu := hu'.1
  have hv := hv'.1
  have hu0 := hu
  have hv0 := hv
  obtain ⟨x, K, dx, ux, cc, o, fv, rfl, h1, h2, h3, h4, h5, h6, h7⟩ := hu
  obtain ⟨y, K', dy, uy, cc', o', fv', rfl, j1, j2, j3, j4, j5, j6, j7⟩ := hv
  obtain ⟨md, st, kvs, T, hb, -⟩ := h4.at c.sub
  obtain ⟨f, of, e1, e2, e3, hs⟩ := hm (md := md) (st := st) l h4 ⟨o, fv, h5, h6, h7⟩ hb
  have hx := c.sub _ _ h1
  have hcU : A.units < cLine := by have := c.units; simp at this; show _ < 9900; omega
  rw [keyLt'_oneType, oneLt'_eq]
  simp only [if_true]
  refine wpAny_bind (wpAny_cRoomFor hcU ?_)
  refine wpAny_bind (K_special T hx rfl e1 (c.sub _ _ e2) e3 ?_)
  refine wpAny_mono (hs A ψ s [.ref x, .ref y] c (Le.refl _) (.cons hu0 (.cons hv0 .nil))) (fun v s' z => ?_) fun _ _ z => z.elim
  obtain ⟨ψ', g, p⟩ := z
  cases p
  exact wpAny_truthy_bool ⟨rfl, ψ', g⟩
end Mine
namespace Mine
variable {prog : Program} {w : World} {X : Fix} {Γ : List (Str × VP)} {ψ ω φ : PM} {s s' : Shared} {k : Nat} {n b : Bool} {m : Str → Option Value} {μ : Md} {A : Around} {env : Env} {sc scope : Scope}
variable {E : Value → Shared → Prop}
theorem SpecT.le {μ : Md} {f : Value} {P : Addr} {Ps : List VP} {R : VP} (h : SpecT prog w μ φ f P Ps R) (l : Le φ ψ) : SpecT prog w μ ψ f P Ps R := fun A ψ' s vs Q E c l' => h A ψ' s vs Q E c (l.trans l')
theorem CX.tb2 {μ : Md} {P : Addr} {o : Obj} (c : CX μ X) : CX μ (X.setTb P o) := ⟨c.base⟩
theorem spliced_one {e : Expr} {Q : List Value → Shared → Prop} {pos : Pos} (hn : notStar e = true) (h : wpAny (model prog w) A (eval e env) (fun v s' => Q [v] s') E s) : wpAny (model prog w) A (spliced (backTo pos (starEach [e] env))) Q E s := by
  rw [starEach_cons hn]
  show wpAny _ _ (spliced ((false, if (false = true) then _ else eval e env) :: [])) _ _ _
  unfold spliced
  simp only [Bool.false_eq_true, if_false]
  refine wpAny_bind (wpAny_mono h (fun v s' h' => ?_) fun _ _ e => e)
  exact wpAny_bind (wpAny_pure (wpAny_bind (wpAny_holding (wpAny_pure (wpAny_pure h')))))
theorem callWith_ref1 {e : Expr} {fv : Value} {pos : Pos} {Q : Value → Shared → Prop} (hn : notStar e = true)
    (h : wpAny (model prog w) A (eval e env) (fun v s' => (∃ k, (k = Keeper.frame ∨ k = Keeper.machine ∨ k = Keeper.boundFrame) ∧ Looks (model prog w) s'.heap (keeperOf fv) k) ∧ wpAny (model prog w) A (call fv [v]) Q E s') E s) :
    wpAny (model prog w) A (callWith pos fv [] (backTo pos (starEach [e] env)) []) Q E s := by
  refine callWith_of (P := fun h => ∃ k, (k = Keeper.frame ∨ k = Keeper.machine ∨ k = Keeper.boundFrame) ∧ Looks (model prog w) h (keeperOf fv) k) (by rw [starEach_cons hn]; rfl) (fun _ x => x) ?_
  have h2 := spliced_one (pos := pos) (Q := fun vs s' => (∃ k, (k = Keeper.frame ∨ k = Keeper.machine ∨ k = Keeper.boundFrame) ∧ Looks (model prog w) s'.heap (keeperOf fv) k) ∧ wpAny (model prog w) A (call fv ([] ++ vs) []) Q E s') hn h
  rw [starEach_cons hn] at h2 ⊢
  exact evalArgs_plain h2
section
variable {rest : List Stmt} {Q : Flow → Shared → Prop}
theorem y_sortKey {α : Type} {P : α → VP} {PF : VP} {lt : α → α → Bool} {d : α} {xs : List α} {ds : Nat → Stmt} {x : Str} {px pos p1 p2 p3 p4 lp kp : Pos} {e : Expr} {largs : Arguments} {lbody : Expr} {lsc : Scope} {ac clw Plaw Pctk : Addr} (hsc : X.env.scope = sc) (b : B X Γ ψ ω s) (c : CX ⟨k + 2, true⟩ X)
    (hg : BN ψ ("sorted" : Str) (.builtin "sorted")) (hkd : sc.names.lookup ("sorted" : Str) = some NameKind.globalImplicit) (h : EV prog w ⟨k + 2, true⟩ sc Γ ψ e (vList (xs.map P))) (hn : notStar e = true)
    (hgc : GN ψ ("cmp_to_key" : Str) (.ref ac)) (hkc : sc.names.lookup ("cmp_to_key" : Str) = some NameKind.globalImplicit) (Kc : KeepOk ψ (.ref ac)) (hsp : SpecT prog w ⟨k + 2, true⟩ ψ (.ref ac) Pctk [PF] (vCls ds PF))
    (hdef : defaultsOf largs X.env = ([], [])) (hclo : closureFor lsc X.env = pure []) (hmk : TopMk ψ) (hge : X.env.globals = mainGlobals) (hcode : X.env.code = .ref clw) (C : CodeHdP ψ clw Plaw) (hPl : (Plaw, tabObj #[]) ∈ X.tb) (hPc : (Pctk, tabObj #[]) ∈ X.tb) (hne : Plaw ≠ Pctk)
    (hlam : ∀ ψ' f ct pm c', Le ψ ψ' → ψ' f = some { cls := .type "function", data := .func (fnD "<lambda>" (X.env.qual ++ "<lambda>") largs (.expr lbody) lsc [] pm (.ref c') ct) } → CodeK ψ' (.ref c') (X.env.qual ++ "<lambda>") → PF.p ψ' (.ref f))
    (hf : ∀ ψ' K cc o fv, Le ψ ψ' → KCls ds cc ψ' K → ψ' cc = some o → o.data = .cell (some fv) → PF.p ψ' fv → ∀ x, Spec prog w ⟨k, true⟩ ψ' (.ref K) [P x] (vKat K ds PF (P x)))
    (hlt : ∀ ψ' K, Le ψ ψ' → ∀ x y, OpLt prog w ⟨k, true⟩ ψ' (vKat K ds PF (P x)) (vKat K ds PF (P y)) (lt x y)) (h2 : 2 ≤ xs.length) (h64 : xs.length < 64) (hk : stores X x)
    (q : ∀ ψ' s' t1 t2, Le ψ ψ' → B ((X.setTb Plaw (tabObj t1)).setTb Pctk (tabObj t2)) ((x, vList ((sortL lt d xs).map P)) :: Γ) ψ' ω s' → Ex prog w ((X.setTb Plaw (tabObj t1)).setTb Pctk (tabObj t2)) rest Q E s') :
    Ex prog w X (.Assign [.Name x px] (.Call (.Name "sorted" p1) [e] [⟨some "key", .Call (.Name "cmp_to_key" p2) [.Lambda largs lbody lsc lp] [] p3, kp⟩] p4) pos :: rest) Q E s := by
  constructor
  refine wpAny_execs_cons (wpAny_Assign_Name ?_ (by rfl))
  obtain ⟨m, Y, t⟩ := b
  refine wpAny_Call_Name_kw ?_
  refine ((ev_builtin hg hkd rfl : Ev prog w ⟨k + 2, true⟩ sc Γ ψ (.Name "sorted" p1) _) X.A X.env m ψ s hsc (Y.cx c) (Le.refl _) Y.fram t).use fun v0 ψ0 s0 g0 p0 => ?_
  cases p0
  have Y0 := Y.grow c g0
  refine callWith_kw ?_ (by rw [starEach_cons hn]; rfl) (by rw [starEach_cons hn]; rfl)
  refine spliced_one hn ?_
  refine ((h.go.le g0.le) X.A X.env m ψ0 s0 hsc (Y0.cx c) (Le.refl _) Y0.fram (t.le g0.le)).use fun v1 ψ1 s1 g1 pl => ?_
  have Y1 := Y0.grow c g1
  have L1 := g0.le.trans g1.le
  refine wpAny_evalAll_cons ?_
  show wpAny (model prog w) X.A (do let v ← eval (.Call (.Name "cmp_to_key" p2) [.Lambda largs lbody lsc lp] [] p3) X.env; standAt p4; pure v) _ _ s1
  refine wpAny_bind ?_
  rw [arm_eval_Call_Name']
  refine wpAny_bind (((ev_glob hgc hkc rfl : Ev prog w ⟨k + 2, true⟩ sc Γ ψ (.Name "cmp_to_key" p2) _) X.A X.env m ψ1 s1 hsc (Y1.cx c) L1 Y1.fram (t.le L1)).use fun v2 ψ2 s2 g2 p2' => ?_)
  cases p2'
  have Y2 := Y1.grow c g2
  have L2 := L1.trans g2.le
  show wpAny (model prog w) X.A (callWith p3 (.ref ac) [] (backTo p3 (starEach [.Lambda largs lbody lsc lp] X.env)) []) _ _ s2
  refine callWith_ref1 rfl ?_
  rw [arm_eval_Lambda, hdef]
  refine wpAny_bind (wpAny_evalAll_nil (wpAny_bind (wpAny_holding (wpAny_pure ?_))))
  refine S.mkFunT Y2 (hmk.le L2) hclo hge hcode (C.le L2) hPl trivial (by rfl) trivial fun f c' s3 ct pm ψ3 l3 hf3 hc3 Y3 => ?_
  have L3 := L2.trans l3
  refine ⟨Kc.le L3 _ _ Y3.sub, ?_⟩
  have c3 : CX ⟨k + 2, true⟩ (X.setTb Plaw (tabObj (#[] ++ #[rawInt lp.line, rawInt lp.col, .ref c']))) := c.tb2
  have hPc3 : (Pctk, tabObj #[]) ∈ (X.setTb Plaw (tabObj (#[] ++ #[rawInt lp.line, rawInt lp.col, .ref c']))).tb := by
    refine List.mem_map.mpr ⟨(Pctk, tabObj #[]), hPc, ?_⟩
    show (if Pctk = Plaw then _ else _) = _
    rw [if_neg (Ne.symm hne)]
  obtain ⟨t1, t2, t3, t4, t5, t6, t7⟩ := Y3.tab _ hPc3
  have hoff : Pctk ∉ frs X.A := fun hm => by
    obtain ⟨fr, e, _⟩ := c3.stk
    rcases Y3.link.frs e hm with q | q
    · exact t3 (by rw [q]; exact Y3.loc)
    · exact t5 q
  refine hsp X.A ψ3 s3 [.ref f] _ _ (Y3.cx c3) L3 (.cons (hlam ψ3 f ct pm c' L3 hf3 hc3) .nil) t1 t2 hoff fun vK ψ4 s4 ps g4 hP4 hψ4 pK => ?_
  have Y4 := Y3.growT c3 hPc3 g4 hP4 hψ4
  have L4 := L3.trans g4.le
  obtain ⟨K, cc, o, fv, rfl, hK, ho, hod, hpf⟩ := pK
  refine wpAny_bind (wpAny_standAt (wpAny_pure (wpAny_evalAll_nil ?_)))
  have c4 : CX ⟨k + 2, true⟩ ((X.setTb Plaw (tabObj (#[] ++ #[rawInt lp.line, rawInt lp.col, .ref c']))).setTb Pctk (tabObj ps)) := c3.tb2
  obtain ⟨al, vls, jl, rfl, hal, hvl⟩ := id pl
  show wpAny (model prog w) X.A (call (.builtin "sorted") [.ref al] [(Str.ofString "key", .ref K)]) _ _ s4
  refine call_sortedK (P := P) (Pk := fun x => vKat K ds PF (P x)) (lt := lt) (d := d) (T := .ref K) h2 h64 (Y4.cx c4) (Le.refl _) ((vList (xs.map P)).mono (g2.le.trans (l3.trans g4.le)) pl) (hf ψ4 K cc o fv L4 hK ho hod hpf) (fun x => tyIs_K) (by rfl) (by show (Value.ref K == Value.ref K) = true; exact beq_self_eq_true _) (hlt ψ4 K L4) fun v5 ψ5 s5 g5 p5 => ?_
  have Y5 := Y4.grow c4 g5
  have L5 := L4.trans g5.le
  refine Y5.store (x := x) hk fun s6 Y6 => (q ψ5 s6 _ _ L5 ⟨_, Y6, (t.le L5).cons p5⟩).go
end
end Mine
namespace Mine
variable {prog : Program} {w : World} {X : Fix} {Γ : List (Str × VP)} {ψ ω φ : PM} {s s' : Shared} {k : Nat} {n b : Bool} {m : Str → Option Value} {μ : Md} {A : Around} {env : Env} {sc scope : Scope}
variable {E : Value → Shared → Prop}
open PySem.W.X
noncomputable def lookH (as : List Addr) (ns : List (Addr × Str)) (es : List Addr) (s : Shared) : List (Option Obj) × List (Option Value) × Bool :=
  (as.map s.heap.get?, ns.map (fun p => s.heap.nsMap p.1 p.2), es.all s.heap.isNs)
noncomputable def objT (as : List Addr) (os : List (Option Obj)) (b : Addr) : Option Obj := ((as.zip os).find? fun p => Nat.beq p.1 b).bind (·.2)
noncomputable def nsT (ns : List (Addr × Str)) (vs : List (Option Value)) (a : Addr) (x : Str) : Option (Option Value) := ((ns.zip vs).find? fun p => Nat.beq p.1.1 a && decide (p.1.2 = x)).map (·.2)
theorem zip_map {α β : Type} {f : α → β} {l : List α} {r : List β} (h : l.map f = r) {p : α × β} (m : p ∈ l.zip r) : f p.1 = p.2 := by
  subst h
  rw [← List.map_prod_left_eq_zip] at m
  obtain ⟨a, _, e⟩ := List.mem_map.mp m
  rw [← e]
theorem objT_ok {h : Heap} {as : List Addr} {os : List (Option Obj)} (e : as.map h.get? = os) {b : Addr} {o : Obj} (q : objT as os b = some o) : h.get? b = some o := by
  obtain ⟨p, hp, h2⟩ := Option.bind_eq_some_iff.mp q
  have hb : Nat.beq p.1 b = true := List.find?_some (p := fun p : Addr × Option Obj => Nat.beq p.1 b) hp
  rw [← h2, ← zip_map e (List.mem_of_find?_eq_some hp), Nat.eq_of_beq_eq_true hb]
theorem nsT_ok {f : Addr × Str → Option Value} {ns : List (Addr × Str)} {vs : List (Option Value)} (e : ns.map f = vs) {a : Addr} {x : Str} {r : Option Value} (q : nsT ns vs a x = some r) : f (a, x) = r := by
  obtain ⟨p, hp, h2⟩ := Option.map_eq_some_iff.mp q
  have h3 := Bool.and_eq_true_iff.mp (List.find?_some (p := fun p : (Addr × Str) × Option Value => Nat.beq p.1.1 a && decide (p.1.2 = x)) hp)
  rw [← h2, ← zip_map e (List.mem_of_find?_eq_some hp), ← Nat.eq_of_beq_eq_true h3.1, ← of_decide_eq_true h3.2]
structure Known (h : Heap) (as : List Addr) (os : List (Option Obj)) (ns : List (Addr × Str)) (vs : List (Option Value)) (es : List Addr) : Prop where
  obj : ∀ {b : Addr} {o : Obj}, objT as os b = some o → h.get? b = some o
  nsv : ∀ {a : Addr} {x : Str} {r : Option Value}, es.any (Nat.beq a) = true → nsT ns vs a x = some r → ∃ (o : Obj) (ds : Array DictEntry) (ep : Nat), h.get? a = some o ∧ o.data = .dict ds ep ∧ StrKeys ds ∧ nsFind ds x = r
theorem Known.of {as : List Addr} {os : List (Option Obj)} {ns : List (Addr × Str)} {vs : List (Option Value)} {es : List Addr} {s₀ : Shared} {h : Heap} (Y : lookH as ns es s₀ = (os, vs, true)) (k : ∀ b o, s₀.heap.get? b = some o → h.get? b = some o) : Known h as os ns vs es := by
  have y1 : as.map s₀.heap.get? = os := congrArg (·.1) Y
  have y2 : ns.map (fun p => s₀.heap.nsMap p.1 p.2) = vs := congrArg (·.2.1) Y
  have y3 : es.all s₀.heap.isNs = true := congrArg (·.2.2) Y
  refine ⟨fun e => k _ _ (objT_ok y1 e), fun {a x r} ha e => ?_⟩
  obtain ⟨b, hb, hab⟩ := List.any_eq_true.mp ha
  have hn := List.all_eq_true.mp y3 b hb
  rw [← Nat.eq_of_beq_eq_true hab] at hn
  obtain ⟨o, ds, ep, ho, hd, hk, hf⟩ := Heap.Ns.of_isNs hn
  exact ⟨o, ds, ep, k _ _ ho, hd, hk, (hf x).symm ▸ nsT_ok y2 e⟩
noncomputable def phi (P Q : Addr) (h : Heap) : PM := fun a => if a = P ∨ a = Q then none else h.get? a
theorem phi_sub {P Q : Addr} {h : Heap} : Sub (phi P Q h) h := fun b o e => by
  unfold phi at e
  split at e
  · cases e
  · exact e
noncomputable def offB (P Q a : Addr) : Bool := !(Nat.beq a P || Nat.beq a Q)
theorem phi_off {P Q : Addr} {h : Heap} {a : Addr} (h1 : offB P Q a = true) : phi P Q h a = h.get? a := by
  unfold phi
  rw [if_neg]
  have h2 := (Bool.or_eq_false_iff.mp ((Bool.not_eq_true' _).mp h1))
  rintro (q | q)
  · exact Nat.ne_of_beq_eq_false h2.1 q
  · exact Nat.ne_of_beq_eq_false h2.2 q
section
variable {P Q : Addr} {h : Heap} {as : List Addr} {os : List (Option Obj)} {nl : List (Addr × Str)} {vs : List (Option Value)} {es : List Addr}
theorem Known.at (K : Known h as os nl vs es) {a : Addr} {o : Obj} (h1 : offB P Q a = true) (e : objT as os a = some o) : phi P Q h a = some o := (phi_off h1).trans (K.obj e)
theorem Known.ns (K : Known h as os nl vs es) {a : Addr} {x : Str} {r : Option Value} (h1 : offB P Q a = true) (ha : es.any (Nat.beq a) = true) (e : nsT nl vs a x = some r) : NsKnows (phi P Q h) a x r := by
  obtain ⟨o, ds, ep, ho, hd, hk, hf⟩ := K.nsv ha e
  exact ⟨o, ds, ep, (phi_off h1).trans ho, hd, hk, hf⟩
theorem Known.val (K : Known h as os nl vs es) {a : Addr} {mg : Str → Option Value} (g : h.Ns a mg) {x : Str} {r : Option Value} (ha : es.any (Nat.beq a) = true) (e : nsT nl vs a x = some r) : mg x = r := by
  obtain ⟨o, ds, ep, ho, hd, hk, hf⟩ := K.nsv ha e
  obtain ⟨o', ds', ep', ho', hd', _, hf'⟩ := g
  rw [ho] at ho'; cases ho'
  rw [hd] at hd'; cases hd'
  exact (hf' x).symm.trans hf
noncomputable def isFn : ScopeKind → Bool
  | .function => true
  | _ => false
theorem isFn_eq {k : ScopeKind} (h : isFn k = true) : k = .function := by
  unfold isFn at h
  split at h
  · rfl
  · cases h
noncomputable def fdB (P Q a c : Addr) (fd : FuncData) : Bool := (offB P Q a && offB P Q c) && (Nat.beq fd.globals mainGlobals && Nat.beq fd.builtins builtinsNs && (isFn fd.scope.kind && (!fd.scope.isCoroutine && !fd.scope.isGenerator)))
noncomputable def fnO (fd : FuncData) : Obj := { cls := .type "function", data := .func fd }
noncomputable def codeO (vs : List Value) : Obj := { cls := .type "code", data := .fields vs.toArray }
theorem Known.fn (K : Known h as os nl vs es) {a c : Addr} {fd : FuncData} {cs : List Value} {tq : Tok} (lim : NsKnows (phi P Q h) cStatics "sys.recursionlimit" none) (e : objT as os a = some (fnO fd)) (hcode : fd.code = .ref c) (ec : objT as os c = some (codeO cs)) (hq : cs[1]? = some (.str fd.qualname tq)) (hb : fdB P Q a c fd = true) : FnK (phi P Q h) a fd := by
  have h1 := Bool.and_eq_true_iff.mp hb
  have h3 := Bool.and_eq_true_iff.mp h1.1
  have h4 := Bool.and_eq_true_iff.mp h1.2
  have h5 := Bool.and_eq_true_iff.mp h4.1
  have h6 := Bool.and_eq_true_iff.mp h4.2
  have h7 := Bool.and_eq_true_iff.mp h6.2
  exact ⟨⟨_, K.at h3.1 e, rfl⟩, Nat.eq_of_beq_eq_true h5.1, Nat.eq_of_beq_eq_true h5.2, isFn_eq h6.1, (Bool.not_eq_true' _).mp h7.1, (Bool.not_eq_true' _).mp h7.2, ⟨c, _, _, tq, hcode, K.at h3.2 ec, rfl, by rw [List.getElem?_toArray]; exact hq⟩, lim⟩
theorem Known.codeHd (K : Known h as os nl vs es) {c T : Addr} {cs : List Value} {file : Str} {tf tg tt : Tok} {flags text : Int} {inF : Bool} (h1 : offB P Q c = true) (e : objT as os c = some (codeO cs)) (e1 : cs[11]? = some (.ref T)) (e2 : cs[18]? = some (.str file tf)) (e3 : cs[7]? = some (.int flags tg)) (e4 : cs[9]? = some (.bool inF)) (e5 : cs[10]? = some (.int text tt)) (hne : c ≠ T) : CodeHdP (phi P Q h) c T := by
  have g : ∀ {i : Nat} {v : Value}, cs[i]? = some v → cs.toArray.getD i .none = v := fun {i v} q => by
    rw [Array.getD_eq_getD_getElem?, List.getElem?_toArray, q]; rfl
  exact ⟨_, _, file, tf, flags, tg, inF, text, tt, K.at h1 e, rfl, rfl, by rw [List.getElem?_toArray]; exact e1, g e1, g e2, g e3, g e4, g e5, hne⟩
theorem Known.table (K : Known h as os nl vs es) {c T : Addr} {cs : List Value} (e : objT as os c = some (codeO cs)) (e1 : cs[11]? = some (.ref T)) : isCodeTable h T := ⟨c, _, _, K.obj e, rfl, rfl, by rw [List.getElem?_toArray]; exact e1⟩
end
end Mine
namespace Mine
noncomputable def fbody : Stmt → List Stmt
  | .FunctionDef _ _ b _ _ _ _ _ _ _ => b
  | _ => []
noncomputable def fargs : Stmt → Arguments
  | .FunctionDef _ a _ _ _ _ _ _ _ _ => a
  | _ => ⟨[], [], none, [], [], none, []⟩
noncomputable def fscope : Stmt → Scope
  | .FunctionDef _ _ _ _ _ _ sc _ _ _ => sc
  | _ => default
noncomputable def fname : Stmt → Str
  | .FunctionDef n .. => n
  | _ => ""
noncomputable def fdOf (st : Stmt) (qual : Str) (cl : List (Str × Addr)) (dV kV doc pm cd ct : Value) : FuncData := fnX (fname st) qual (fargs st) (fbody st) (fscope st) cl dV kV doc pm none cd ct
noncomputable def body2 : List Stmt := PySem.Challenge.pw_op0045_02.main.body
noncomputable def st2 (i : Nat) : Stmt := body2.getD i (.Pass ⟨0, 0, 0, 0⟩)

structure Top2 (φ : PM) : Prop where
  range : BN φ "range" (.type "range")
  sum : BN φ "sum" (.builtin "sum")
  enum : BN φ "enumerate" (.type "enumerate")
  tuple : BN φ "tuple" (.type "tuple")
  list : BN φ "list" (.type "list")
  sorted : BN φ "sorted" (.builtin "sorted")
  len : BN φ "len" (.builtin "len")
theorem BN.le {φ ψ : PM} {x : Str} {v : Value} (h : BN φ x v) (l : Le φ ψ) : BN ψ x v := ⟨h.1.le l, h.2.le l⟩
theorem Top2.le {φ ψ : PM} (T : Top2 φ) (l : Le φ ψ) : Top2 ψ := ⟨T.range.le l, T.sum.le l, T.enum.le l, T.tuple.le l, T.list.le l, T.sorted.le l, T.len.le l⟩

noncomputable def bit (f k : Int) : Bool := Builtin.bitAnd (f.fdiv (2 ^ k.toNat)) 1 != 0
noncomputable def joinUp (ms : List Int) (f : Int) : Nat → Int
  | 0 => 0
  | k + 1 => if bit f k then Builtin.bitOr (joinUp ms f k) (ms.getD k 0) else joinUp ms f k
noncomputable def allUp (ms : List Int) : Nat → List Int
  | 0 => []
  | i + 1 => if !(allUp ms i).contains (joinUp ms i 4) then allUp ms i ++ [joinUp ms i 4] else allUp ms i

theorem spec_all {prog : Program} {w : World} {k : Nat} {φ : PM} {a : Addr} {pm cd : Value} {ms : List Int} (T : Top2 φ) (hms : ms.length = 4) (K : FnK φ a (fdOf (st2 16) "_law_all" [] .none .none .none pm cd .none)) :
    Spec prog w ⟨k + 1, true⟩ φ (.ref a) [vList (ms.map vInt)] (vList ((allUp ms 16).map vInt)) := by
  refine spec_def (names := ["masks"]) K rfl rfl rfl (fun vs h => by obtain ⟨a, rfl⟩ := list_len1 h; rfl) (by rfl) (by rfl) (by rfl) (by rfl) ?_
  intro X ψ s E hsc c l hft hdp b
  refine st_newList b (sto hsc) fun a s1 h1 h2 b1 => ?_
  have hlen : ∀ i, (allUp ms i).length ≤ i := by
    intro i
    induction i with
    | zero => exact Nat.le_refl _
    | succ i ih => unfold allUp; split <;> (try rw [List.length_append, List.length_singleton]) <;> omega
  refine st_forS hsc b1 c (ev_ct (T.le l).range (a1 ev_int) op_range1) (src_range0 rfl (nn := 16) (by rfl) (by rfl))
    (fun i Γ' ψ' ω' => Γ' = ([("told", vVal (.ref a)), ("masks", vList (ms.map vInt))] : List (Str × VP)) ∧ ∃ vs j, ω' a = some (lst vs j) ∧ All2 (fun (P : VP) v => P.p ψ' v) ((allUp ms i).map vInt) vs) (fun i hi => stoT hsc) ?_ ?_ ?_ ?_
  · rintro i Γ' ψ' ω₁ ω₂ ⟨rfl, vs, j, ha, hall⟩ hω
    exact ⟨rfl, vs, j, by rw [hω a _ (put_self _ _ _)]; exact ha, hall⟩
  · intro ψ' l'
    exact ⟨rfl, [], 0, put_self _ _ _, .nil⟩
  · rintro i Γi ψi ωi si hi ⟨rfl, vs, j, ha, hall⟩ li b2
    refine st_assign b2 (EvIn.of c hsc ev_int) (sto hsc) (by rfl) fun v ψ3 s3 l3 p3 b3 => ?_
    have T3 := T.le (l.trans (li.trans l3))
    refine st_forS hsc (b3.retype (Γ' := [("mask", vInt (joinUp ms i 0)), ("figure", vInt i), ("told", vVal (.ref a)), ("masks", vList (ms.map vInt))]) fun m t => t) c (ev_ct T3.range (a1 ev_int) op_range1) (src_range0 rfl (nn := 4) (by rfl) (by rfl))
      (fun q Γ' ψ' ω' => Γ' = ([("mask", vInt (joinUp ms i q)), ("figure", vInt i), ("told", vVal (.ref a)), ("masks", vList (ms.map vInt))] : List (Str × VP)) ∧ ∀ a' o, ωi a' = some o → ω' a' = some o) (fun i hi => stoT hsc) ?_ ?_ ?_ ?_
    · rintro q Γ' ψ' ω₁ ω₂ ⟨rfl, h⟩ hω
      exact ⟨rfl, fun a' o ho => by rw [hω a' o ho]; exact h a' o ho⟩
    · intro ψ' l'
      exact ⟨rfl, fun _ _ h => h⟩
    · rintro q Γq ψq ωq sq hq ⟨rfl, hω⟩ lq b4
      refine st_if b4 (r := bit i q) (TsIn.of c hsc (evb_v (ev_bin (ev_bin ev_v ev_v (op_shr_int (by omega))) ev_int op_and_int) tru_int)) fun ψ5 s5 l5 b5 => ?_
      cases hb : bit i q with
      | true =>
        have e : joinUp ms i (q + 1) = Builtin.bitOr (joinUp ms i q) (ms.getD q 0) := by show (if bit i q = true then _ else _) = _; rw [hb]; rfl
        refine st_aug (R := vInt (joinUp ms i (q + 1))) b5 c (by rfl) (EvIn.of c hsc (ev_subL ev_v ev_v (get_ints (by omega) (by rw [hms]; decide)))) (by rw [e]; exact iop_or_int) (sto hsc) (fun v ψ6 s6 l6 p6 b6 => ?_) (by rw [hsc]; rfl) (by rfl)
        refine wpAny_execs_nil (wpAny_execs_nil ?_)
        exact ⟨_, ψ6, ωq, ⟨rfl, hω⟩, l5.trans l6, b6.retype fun m t => pk t (pk t (pk t (pk t Typ.nil))), fun a' o ho _ => ho⟩
      | false =>
        have e : joinUp ms i (q + 1) = joinUp ms i q := by show (if bit i q = true then _ else _) = _; rw [hb]; rfl
        refine wpAny_execs_nil (wpAny_execs_nil ?_)
        exact ⟨_, ψ5, ωq, ⟨by rw [e], hω⟩, l5, b5.retype fun m t => pk t (pk t (pk t (pk t Typ.nil))), fun a' o ho _ => ho⟩
    · rintro Γ' ψ' ω' s' ⟨rfl, hω⟩ l' b'
      have ha' := hω a _ ha
      have hl' : Le ψi ψ' := l3.trans l'
      have hall' := hall.imp fun (P : VP) v x => P.mono hl' x
      refine st_if b' (r := !(allUp ms i).contains (joinUp ms i 4)) (TsIn.ofO c hsc (seeOwn (x := "told") (o := lst vs j) (by rfl) (own_list ha' b'.noOwn hall')) (evb_c ev_v ev_v notIn_ints)) fun ψ5 s5 l5 b5 => ?_
      have step : allUp ms (i + 1) = if !(allUp ms i).contains (joinUp ms i 4) then allUp ms i ++ [joinUp ms i 4] else allUp ms i := rfl
      cases hb : !(allUp ms i).contains (joinUp ms i 4) with
      | true =>
        rw [hb] at step
        refine st_app hsc b5 ha' (EvIn.of c hsc ev_v) (by have h3 := hall.length; have h4 := hlen i; rw [List.length_map] at h3; have : sizeLine = 16777216 := rfl; omega) fun v ψ6 s6 j6 l6 p6 b6 => ?_
        refine wpAny_execs_nil (wpAny_execs_nil ?_)
        refine ⟨_, ψ6, _, ⟨rfl, vs ++ [v], j6, put_self _ _ _, ?_⟩, hl'.trans (l5.trans l6), b6.retype fun m t => pk t (pk t Typ.nil), fun a' o ho hn => ?_⟩
        · rw [step]
          simp only [if_true, List.map_append, List.map_cons, List.map_nil]
          exact (hall'.imp fun (P : VP) v x => P.mono (l5.trans l6) x).append (.cons p6 .nil)
        · have : a' ≠ a := fun q => by rw [q, put_self] at hn; cases hn
          rw [put_ne this]; exact hω a' o ho
      | false =>
        rw [hb] at step
        refine wpAny_execs_nil (wpAny_execs_nil ?_)
        refine ⟨_, ψ5, _, ⟨rfl, vs, j, ha', ?_⟩, hl'.trans l5, b5.retype fun m t => pk t (pk t Typ.nil), fun a' o ho hn => hω a' o ho⟩
        rw [step]
        simp only [Bool.false_eq_true, if_false]
        exact hall'.imp fun (P : VP) v x => P.mono l5 x
  · rintro Γ' ψ' ω' s' ⟨rfl, vs, j, ha, hall⟩ l' b'
    exact ret_own b' c (by rfl) ha hall (by rw [hsc]; rfl) (by rfl)

noncomputable def topKeep (ms : List Int) (mask : Int) (k j : Nat) : Bool := ((j : Int) != k) && (bit mask j && (bit (ms.getD j 0) k && true))
noncomputable def topTest (ms : List Int) (mask : Int) (k : Nat) : Bool := bit mask k && (((List.range 4).filter (topKeep ms mask k)).isEmpty && true)
noncomputable def topsUp (ms : List Int) (mask : Int) : Nat → List Int
  | 0 => []
  | k + 1 => if topTest ms mask k then topsUp ms mask k ++ [(k : Int)] else topsUp ms mask k
theorem spec_tops {prog : Program} {w : World} {k : Nat} {φ : PM} {a : Addr} {pm cd : Value} {ms : List Int} {mask : Int} (T : Top2 φ) (hms : ms.length = 4) (K : FnK φ a (fdOf (st2 17) "_law_tops" [] .none .none .none pm cd .none)) :
    Spec prog w ⟨k + 10, true⟩ φ (.ref a) [vList (ms.map vInt), vInt mask] (vList ((topsUp ms mask 4).map vInt)) := by
  refine spec_def (names := ["masks", "mask"]) K rfl rfl rfl (fun vs h => by obtain ⟨a, b, rfl⟩ := list_len2 h; rfl) (by rfl) (by rfl) (by rfl) (by rfl) ?_
  intro X ψ s E hsc c l hft hdp b
  refine st_newList b (sto hsc) fun a s1 h1 h2 b1 => ?_
  have hlen : ∀ i, (topsUp ms mask i).length ≤ i := by
    intro i
    induction i with
    | zero => exact Nat.le_refl _
    | succ i ih => unfold topsUp; split <;> (try rw [List.length_append, List.length_singleton]) <;> omega
  refine st_forS hsc b1 c (ev_ct (T.le l).range (a1 ev_int) op_range1) (src_range0 rfl (nn := 4) (by rfl) (by rfl))
    (fun i Γ' ψ' ω' => Γ' = ([("tops", vVal (.ref a)), ("masks", vList (ms.map vInt)), ("mask", vInt mask)] : List (Str × VP)) ∧ ∃ vs j, ω' a = some (lst vs j) ∧ All2 (fun (P : VP) v => P.p ψ' v) ((topsUp ms mask i).map vInt) vs) (fun i hi => stoCT hsc hft) ?_ ?_ ?_ ?_
  · rintro i Γ' ψ' ω₁ ω₂ ⟨rfl, vs, j, ha, hall⟩ hω
    exact ⟨rfl, vs, j, by rw [hω a _ (put_self _ _ _)]; exact ha, hall⟩
  · intro ψ' l'
    exact ⟨rfl, [], 0, put_self _ _ _, .nil⟩
  · rintro i Γi ψi ωi si hi ⟨rfl, vs, j, ha, hall⟩ li b2
    have Ti := T.le (l.trans li)
    refine st_if b2 (r := topTest ms mask i) (TsIn.of c hsc (evb_and (evb_v (ev_bin (ev_bin ev_v ev_v (op_shr_int (by omega))) ev_int op_and_int) tru_int) fun _ => evb_and (evb_c (P := vList (((List.range 4).filter (topKeep ms mask i)).map fun j => vInt (j : Nat))) (ev_comp (ev_ct Ti.range (a1 ev_int) op_range1) (src_range0 rfl (nn := 4) (by rfl) (by rfl)) (by rfl) (fun i hi => ownT)
      (fun q hq => evt_one (evb_and (evb_c ev_v ev_v op_ne_int) fun _ => evb_and (evb_v (ev_bin (ev_bin ev_v ev_v (op_shr_int (by omega))) ev_int op_and_int) tru_int) fun _ => evb_and (evb_v (ev_bin (ev_bin (ev_subL ev_v ev_v (get_ints (by omega) (by rw [hms]; decide))) ev_v (op_shr_int (by omega))) ev_int op_and_int) tru_int) fun _ => evb_and_nil))
      (fun q hq _ => ev_v) (by decide)) (ev_listD EvA.nil (by decide)) (by have h := op_eq_nil (prog := prog) (w := w) (μ := ⟨k + 9, true⟩) (φ := ψi) (ps := ((List.range 4).filter (topKeep ms mask i)).map fun j => vInt (j : Nat)) (by show 1 ≤ k + 9; omega); rw [isEmpty_map] at h; exact h)) fun _ => evb_and_nil)) fun ψ5 s5 l5 b5 => ?_
    have step : topsUp ms mask (i + 1) = if topTest ms mask i then topsUp ms mask i ++ [(i : Int)] else topsUp ms mask i := rfl
    have hall' := hall.imp fun (P : VP) v x => P.mono l5 x
    cases hb : topTest ms mask i with
    | true =>
      rw [hb] at step
      refine st_app hsc b5 ha (EvIn.of c hsc ev_v) (by have h3 := hall.length; have h4 := hlen i; rw [List.length_map] at h3; have : sizeLine = 16777216 := rfl; omega) fun v ψ6 s6 j6 l6 p6 b6 => ?_
      refine wpAny_execs_nil (wpAny_execs_nil ?_)
      refine ⟨_, ψ6, _, ⟨rfl, vs ++ [v], j6, put_self _ _ _, ?_⟩, l5.trans l6, b6.retype fun m t => pk t (pk t (pk t Typ.nil)), fun a' o ho hn => ?_⟩
      · rw [step]
        simp only [if_true, List.map_append, List.map_cons, List.map_nil]
        exact (hall'.imp fun (P : VP) v x => P.mono l6 x).append (.cons p6 .nil)
      · have : a' ≠ a := fun q => by rw [q, put_self] at hn; cases hn
        rw [put_ne this]; exact ho
    | false =>
      rw [hb] at step
      refine wpAny_execs_nil (wpAny_execs_nil ?_)
      refine ⟨_, ψ5, _, ⟨rfl, vs, j, ha, ?_⟩, l5, b5.retype fun m t => pk t (pk t (pk t Typ.nil)), fun a' o ho hn => ho⟩
      rw [step]
      simp only [Bool.false_eq_true, if_false]
      exact hall'
  · rintro Γ' ψ' ω' s' ⟨rfl, vs, j, ha, hall⟩ l' b'
    exact ret_own b' c (by rfl) ha hall (by rw [hsc]; rfl) (by rfl)

end Mine
namespace Mine
variable {prog : Program} {w : World} {X : Fix} {Γ : List (Str × VP)} {ψ ω φ : PM} {s s' : Shared} {k : Nat} {n b : Bool} {m : Str → Option Value} {μ : Md} {A : Around} {env : Env} {sc scope : Scope}
variable {E : Value → Shared → Prop}
noncomputable def clsBody : Stmt → List Stmt | .ClassDef _ _ _ b _ _ _ _ _ _ _ => b | _ => []
noncomputable def kb2 : List Stmt := clsBody ((fbody (st2 4)).getD 0 (.Pass ⟨0, 0, 0, 0⟩))
noncomputable def ds2 (i : Nat) : Stmt := kb2.getD (i + 2) (.Pass ⟨0, 0, 0, 0⟩)
noncomputable def triB : List Value → Bool
  | [] => true
  | .int _ _ :: .int _ _ :: _ :: rest => triB rest
  | _ => false
theorem tri_ok : ∀ {l : List Value}, triB l = true → TriplesOk l
  | [], _ => trivial
  | .int _ _ :: .int _ _ :: _ :: rest, h => tri_ok (l := rest) h
theorem spec_ctk {k : Nat} {φ : PM} {a cc P : Addr} {pm : Value} {PF : VP} (K : FnK φ a (fdOf (st2 4) "cmp_to_key" [] .none .none .none pm (.ref cc) .none)) (C : CodeHdP φ cc P)
    (hobj : BN φ "object" (.type "object")) (hbc : NsKnows φ builtinsNs "__build_class__" (some (.builtin "__build_class__"))) (hany : NsKnows φ cStatics "thirdparty.any" none) (hmods : ∃ o, φ sysModules = some o) (hT : TopMk φ) :
    SpecT prog w ⟨k + 25, n⟩ φ (.ref a) P [PF] (vCls ds2 PF) := by
  intro A ψ s vs Q E c l hv hP hPψ hPf q
  obtain ⟨v, rfl, hv1⟩ : ∃ v, vs = [v] ∧ PF.p ψ v := by
    cases hv with
    | cons h t => cases t with | nil => exact ⟨_, rfl, h⟩
  refine enter_cells (k := k + 24) (tb := [(P, tabObj #[])]) (binds := [("mycmp", v)]) (fun p hp => by rw [List.mem_singleton] at hp; subst hp; exact ⟨hP, hPψ, hPf⟩) c (K.le l) rfl rfl (BindsTo.of_eq rfl) (by rfl) (by rfl) (by rfl) fun env s' he hcd x' => ?_
  have F := x'.fram
  obtain ⟨cl, hcl, hcell⟩ := F.cel "mycmp" (.inl (by show env.scope.names.lookup _ = _; rw [he]; rfl))
  dsimp only at hcl
  refine wpAny_execs_cons ?_
  refine cls_ok (ds := ds2) (c := cl) (clos := [("mycmp", cl)]) x' (CX.of c rfl) (hobj.le l) (by dsimp only; rw [he]; rfl) (hbc.le l) ?_ (hany.le l) (let ⟨o, h⟩ := hmods; ⟨o, l _ _ h⟩) (by rfl) (by rfl) (by rfl) hcd.1 (C.le l) (List.mem_singleton.mpr rfl) (hT.le l) (closure_one hcl (by rfl) (by rfl)) (K.lim.le l) ?_ (by rfl) (by rfl) (by rfl) (by rfl) (by rfl) ?_ ?_ ?_
  · -- the full name
    unfold qualnameIn
    have hk : env.kindOf "K" = some .local := by show env.scope.names.lookup _ = _; rw [he]; rfl
    dsimp only
    rw [hk, hcd.2]
    kernel_rfl
  · have := c.depth
    simp at this
    show (A.deeper env).depth + 20 < 1000
    simp only [Around.deeper]
    omega
  · intro R ns c1 P1 fr ψ1 s1 pm1 t1 t2 l1 hne hC b hR
    refine codeAny_bodyC (by rfl) (by rfl) ?_
    refine wpAny_execs_cons (c_str b hne (by rfl) (by rfl) fun tkm s2 b2 => ?_)
    refine wpAny_execs_cons (c_list1 b2 hne (by rfl) (by rfl) fun sl tks ψ3 s3 l3 hsl b3 => ?_)
    have T3 := hT.le (l.trans (l1.trans l3))
    have C3 := hC.le l3
    refine wpAny_execs_cons (c_def b3 hne (by rfl) T3 C3 (by rfl) (fun _ => rfl) (closure_nil (by rfl)) trivial (by rfl) (by rfl) fun f0 c0 ct0 pm0 ψ4 s4 l4 hf0 hk0 b4 => ?_)
    have T4 := T3.le l4
    have C4 := C3.le l4
    refine wpAny_execs_cons (c_def b4 hne (by rfl) T4 C4 (by rfl) (fun _ => rfl) (closure_one (y := "mycmp") (c := cl) (by rfl) (by rfl) (by rfl)) (tri_ok (by kernel_rfl)) (by kernel_rfl) (by rfl) fun f1 c1 ct1 pm1 ψ5 s5 l5 hf1 hk1 b5 => ?_)
    have T5 := T4.le l5
    have C5 := C4.le l5
    refine wpAny_execs_cons (c_def b5 hne (by rfl) T5 C5 (by rfl) (fun _ => rfl) (closure_one (y := "mycmp") (c := cl) (by rfl) (by rfl) (by rfl)) (tri_ok (by kernel_rfl)) (by kernel_rfl) (by rfl) fun f2 c2 ct2 pm2 ψ6 s6 l6 hf2 hk2 b6 => ?_)
    have T6 := T5.le l6
    have C6 := C5.le l6
    refine wpAny_execs_cons (c_def b6 hne (by rfl) T6 C6 (by rfl) (fun _ => rfl) (closure_one (y := "mycmp") (c := cl) (by rfl) (by rfl) (by rfl)) (tri_ok (by kernel_rfl)) (by kernel_rfl) (by rfl) fun f3 c3 ct3 pm3 ψ7 s7 l7 hf3 hk3 b7 => ?_)
    have T7 := T6.le l7
    have C7 := C6.le l7
    refine wpAny_execs_cons (c_def b7 hne (by rfl) T7 C7 (by rfl) (fun _ => rfl) (closure_one (y := "mycmp") (c := cl) (by rfl) (by rfl) (by rfl)) (tri_ok (by kernel_rfl)) (by kernel_rfl) (by rfl) fun f4 c4 ct4 pm4 ψ8 s8 l8 hf4 hk4 b8 => ?_)
    have T8 := T7.le l8
    have C8 := C7.le l8
    refine wpAny_execs_cons (c_def b8 hne (by rfl) T8 C8 (by rfl) (fun _ => rfl) (closure_one (y := "mycmp") (c := cl) (by rfl) (by rfl) (by rfl)) (tri_ok (by kernel_rfl)) (by kernel_rfl) (by rfl) fun f5 c5 ct5 pm5 ψ9 s9 l9 hf5 hk5 b9 => ?_)
    refine wpAny_execs_cons (c_none b9 hne (by rfl) (by rfl) fun s10 b10 => ?_)
    refine wpAny_execs_nil ?_
    have e4 : FK ψ4 [] (ds2 0) f0 := ⟨pm0, _, ct0, hf0, hk0⟩
    have e5 : FK ψ5 [("mycmp", cl)] (ds2 1) f1 := ⟨pm1, _, ct1, hf1, hk1⟩
    have e6 : FK ψ6 [("mycmp", cl)] (ds2 2) f2 := ⟨pm2, _, ct2, hf2, hk2⟩
    have e7 : FK ψ7 [("mycmp", cl)] (ds2 3) f3 := ⟨pm3, _, ct3, hf3, hk3⟩
    have e8 : FK ψ8 [("mycmp", cl)] (ds2 4) f4 := ⟨pm4, _, ct4, hf4, hk4⟩
    have e9 : FK ψ9 [("mycmp", cl)] (ds2 5) f5 := ⟨pm5, _, ct5, hf5, hk5⟩
    have l89 := l9
    have l79 := l8.trans l89
    have l69 := l7.trans l79
    have l59 := l6.trans l69
    have l49 := l5.trans l59
    exact hR ψ9 _ _ s10 (l3.trans (l4.trans l49)) ⟨tkm, t1, t2, (39 : Int), sl, f0, f1, f2, f3, f4, f5, tks, by kernel_rfl, l49 _ _ (l4 _ _ hsl), e4.le l49, e5.le l59, e6.le l69, e7.le l79, e8.le l89, e9⟩ b10
  · exact .inl (by show env.scope.names.lookup _ = _; rw [he]; rfl)
  · intro K0 c1 ψ2 s2 l2 hK Y2
    have hcx : CX ⟨k + 24, n⟩ (Fix.setTb ⟨A, A.deeper env, ψ, s, env.locals :: env.cells.map (·.2), env, none, [(P, tabObj #[])]⟩ P (tabObj #[rawInt 39, rawInt 4, .ref c1])) := CX.of c rfl
    have hg : ∃ m, m = (fun y => if y = ("K" : Str) then some (Value.ref K0) else List.lookup y [(("mycmp" : Str), v)].reverse) := ⟨_, rfl⟩
    obtain ⟨m, hm⟩ := hg
    rw [← hm] at Y2
    have bK : B (Fix.setTb ⟨A, A.deeper env, ψ, s, env.locals :: env.cells.map (·.2), env, none, [(P, tabObj #[])]⟩ P (tabObj #[rawInt 39, rawInt 4, .ref c1])) [("K", vVal (.ref K0)), ("mycmp", PF)] ψ2 (fun _ => none) s2 := ⟨m, Y2, fun x R hx => by
      subst hm
      by_cases q1 : x = ("K" : Str)
      · subst q1; cases hx; exact ⟨_, by simp, rfl⟩
      · by_cases q2 : x = ("mycmp" : Str)
        · subst q2
          have : R = PF := by have : some PF = some R := hx; exact (Option.some.inj this).symm
          subst this
          exact ⟨v, (if_neg (by decide)).trans rfl, R.mono l2 hv1⟩
        · rw [List.lookup_cons, List.lookup_cons, show (x == ("K" : Str)) = false by simpa using q1, show (x == ("mycmp" : Str)) = false by simpa using q2] at hx; cases hx⟩
    refine st_return bK (EvIn.pure hcx (ev_var (x := "K") (by rfl) (by show isVar (env.scope.names.lookup _) = true; rw [he]; rfl) (by rfl))) fun v3 ψ3 s3 l3 p3 b3 => ?_
    cases p3
    have hK3 := hK.le l3
    have g3 := b3.toGrow
    obtain ⟨m3, Y3, t3⟩ := b3
    obtain ⟨cl', hcl', hc3⟩ := Y3.fram.cel "mycmp" (.inl (by show env.scope.names.lookup _ = _; rw [he]; rfl))
    have hcc : cl' = cl := by have : some cl' = some cl := hcl'.symm.trans hcl; exact Option.some.inj this
    subst hcc
    obtain ⟨v4, hv4, hp4⟩ := t3 "mycmp" PF (by rfl)
    rw [hv4] at hc3
    obtain ⟨oc, hoc, hocd⟩ := hc3
    have hft : cl' ∈ env.locals :: env.cells.map (·.2) := List.mem_cons_of_mem _ (List.mem_map.mpr ⟨_, mem_of_lookup hcl, rfl⟩)
    obtain ⟨ho1, ho2⟩ := Y3.off cl' hft
    have htb := Y3.tab (P, tabObj #[rawInt 39, rawInt 4, .ref c1]) (by show _ ∈ List.map _ _; simp)
    have hPc : P ≠ cl' := fun z => htb.2.2.1 (by show P ∈ _; rw [z]; exact hft)
    have lc := le_put (o := oc) ho1
    refine q (.ref K0) (put ψ3 cl' oc) s3 _ ⟨(by have z := g3.ext; rw [setTb_F] at z; exact z), g3.le.trans lc, fun b ob e => ?_, fun b ob e => ?_⟩ htb.1 ?_ ⟨K0, cl', oc, v4, rfl, hK3.le lc, put_self _ _ _, hocd, PF.mono lc hp4⟩
    · by_cases z : b = cl'
      · subst z; rw [put_self] at e; cases e; exact hoc
      · rw [put_ne z] at e; exact g3.sub b ob e
    · by_cases z : b = cl'
      · subst z; exact .inr ho2
      · rw [put_ne z] at e; exact g3.new b ob e
    · rw [put_ne hPc]; exact htb.2.1
end Mine
namespace Mine
variable {prog : Program} {w : World} {X : Fix} {Γ : List (Str × VP)} {ψ ω φ : PM} {s s' : Shared} {k : Nat} {n b : Bool} {m : Str → Option Value} {μ : Md} {A : Around} {env : Env} {sc scope : Scope}
variable {E : Value → Shared → Prop}
theorem spec_three2 {prog : Program} {w : World} {k : Nat} {n : Bool} {φ : PM} {a : Addr} {pm cd : Value} (K : FnK φ a (fdOf (st2 2) "three_way_cmp" [] .none .none .none pm cd .none)) {x y : Int} :
    Spec prog w ⟨k + 1, n⟩ φ (.ref a) [vInt x, vInt y] (vInt (b2i (decide (y < x)) - b2i (decide (x < y)))) := by
  refine spec_def (names := ["x", "y"]) K rfl rfl rfl (fun vs h => by obtain ⟨a, b, rfl⟩ := list_len2 h; rfl) (by rfl) (by rfl) (by rfl) (by rfl) ?_
  intro X ψ s E hsc c l hft hdp b
  refine st_return b (EvIn.pure c ?_) fun v ψ' s2 l2 p b2 => ⟨ψ', b2.toGrow, p⟩
  rw [hsc]
  refine ev_bin (P := vBool (decide (y < x))) (Q := vBool (decide (x < y))) ?_ ?_ op_sub_bool
  · exact ev_cmp (ev_var rfl rfl rfl) (ev_var rfl rfl rfl) op_gt_int rfl
  · exact ev_cmp (ev_var rfl rfl rfl) (ev_var rfl rfl rfl) op_lt_int rfl
end Mine
namespace Mine
variable {prog : Program} {w : World} {X : Fix} {Γ : List (Str × VP)} {ψ ω φ : PM} {s s' : Shared} {k : Nat} {n b : Bool} {m : Str → Option Value} {μ : Md} {A : Around} {env : Env} {sc scope : Scope}
variable {E : Value → Shared → Prop}
noncomputable def word (i : Nat) : Str := ([("" : Str), "a", "ab", "b"] : List Str).getD i ""
noncomputable def vW (i : Nat) : VP := vStr (word i)
noncomputable def setOf (mask : Int) : List Nat := (List.range 4).filter fun (k : Nat) => bit mask k
theorem spec_set {prog : Program} {w : World} {k : Nat} {φ : PM} {a : Addr} {pm cd : Value} {mask : Int} (T : Top2 φ) (K : FnK φ a (fdOf (st2 13) "_law_set" [] .none .none .none pm cd .none)) :
    Spec prog w ⟨k + 10, true⟩ φ (.ref a) [vInt mask] (vTup ((setOf mask).map vW)) := by
  refine spec_def (names := ["mask"]) K rfl rfl rfl (fun vs h => by obtain ⟨a, rfl⟩ := list_len1 h; rfl) (by rfl) (by rfl) (by rfl) (by rfl) (BodyX.ok ?_)
  intro X ψ s E hsc c l hft hdp b
  have Ti := T.le l
  have e : (setOf mask).map vW = ((List.range 4).filter fun (k : Nat) => bit mask k).map fun i => [vStr "", vStr "a", vStr "ab", vStr "b"].getD i vNone := by
    refine List.map_congr_left fun i hi => ?_
    have hi4 : i < 4 := List.mem_range.mp (List.mem_filter.mp hi).1
    match i, hi4 with
    | 0, _ | 1, _ | 2, _ | 3, _ => rfl
  rw [e]
  refine y_ret b (EI.of c hsc (v_ct Ti.tuple (e1 (v_compE (nn := 4) (keep := fun (k : Nat) => bit mask k) (R := fun i => [vStr "", vStr "a", vStr "ab", vStr "b"].getD i vNone) (src_enum (ps := [vStr "", vStr "a", vStr "ab", vStr "b"]) rfl Ti.enum rfl (v_list (ec v_str (ec v_str (ec v_str (e1 v_str)))) (by decide))) (by rfl) (fun i hi => by intro p hp; simp at hp; rcases hp with rfl | rfl <;> rfl)
    (fun i hi => t_one (b_v (v_bin (v_bin v_v v_v (op_shr_int (by omega))) v_int op_and_int) tru_int)) (fun i hi _ => v_v) (by decide))) (call_tuple ?_)))
  rw [List.length_map]
  exact Nat.le_trans (List.length_filter_le _ _) (by decide)
end Mine
set_option maxHeartbeats 400000
namespace Mine
theorem spec_sld {prog : Program} {w : World} {k : Nat} {φ : PM} {a : Addr} {pm cd : Value} {α : Type} {P : α → VP} {lt gt eq : α → α → Bool} {xs ys : List α} (hIE : BN φ "IndexError" (.type "IndexError"))
    (hlt : ∀ x y, Op2 prog w ⟨k, false⟩ φ (compareOp .Lt) (P x) (P y) (vBool (lt x y))) (hgt : ∀ x y, Op2 prog w ⟨k, false⟩ φ (compareOp .Gt) (P x) (P y) (vBool (gt x y)))
    (heq : ∀ x y, Op2 prog w ⟨k, false⟩ φ (compareOp .Eq) (P x) (P y) (vBool (eq x y))) (hx : xs.length ≤ 1000) (hy : ys.length ≤ 1000)
    (K : FnK φ a (fdOf (st2 1) "sorted_list_difference" [] .none .none .none pm cd .none)) :
    Spec prog w ⟨k + 1, true⟩ φ (.ref a) [vList (xs.map P), vList (ys.map P)] (vTup [vList ((sld lt gt eq xs ys).1.map P), vList ((sld lt gt eq xs ys).2.map P)]) := by
  refine spec_def (names := ["expected", "actual"]) K rfl rfl rfl (fun vs h => by obtain ⟨a, b, rfl⟩ := list_len2 h; rfl) (by rfl) (by rfl) (by rfl) (by rfl) (BodyX.ok ?_)
  intro X ψ s E hsc c l hft hdp b
  have T := Top.of c hdp
  have hline : sizeLine = 16777216 := rfl
  have hctx : ctxOf X.A = .none := by
    unfold ctxOf
    rw [(b.cx c).none rfl]; rfl
  refine y_assign2 b (EI.of c hsc v_int) (sto hsc) (sto hsc) fun v0 ψ1 s1 l1 p1 b1 => ?_
  refine y_newList b1 (sto hsc) fun a1 s2 ha1 hb1 b2 => ?_
  refine y_newList b2 (sto hsc) fun a2 s3 ha2 hb2 b3 => ?_
  have hne : a1 ≠ a2 := fun q => by rw [q, put_self] at ha2; cases ha2
  have hne' : a2 ≠ a1 := Ne.symm hne
  have L1 : Le φ ψ1 := l.trans l1
  refine y_while (sldI X φ P lt gt eq xs ys a1 a2) ?_ (xs.length + ys.length) ⟨0, 0, [], [], ψ1, _, by simp, Nat.zero_le _, Nat.zero_le _, Nat.le_refl _, Nat.le_refl _, by simp, L1,
    ⟨[], 0, [], 0, by rw [put_ne hne]; exact put_self _ _ _, .nil, put_self _ _ _, .nil⟩, b3.retype fun m t => pk t (pk t (pk t (pk t (pk t (pk t Typ.nil)))))⟩
  rintro nn s4 ⟨i, j, ms, us, ψ4, ω4, rfl, hi, hj, hms, hus, hres, L4, hown, b4⟩
  refine test_I b4 (r := true) (TI.of c hsc (b_v v_bool tru_bool)) fun ψ5 s5 l5 b5 => ?_
  simp only [if_true]
  have L5 := L4.trans l5
  have hown5 := hown.le l5 (Le.refl _)
  refine y_tryE (φ := φ) (Eb := sldE X φ P lt gt eq xs ys a1 a2) hdp c hsc hIE (by rfl) (by rfl) F.isExc_IndexError F.notTuple_IndexError ?_ ?_
  · -- the try's body
    by_cases hil' : xs.length ≤ i
    · have hie : i = xs.length := by omega
      refine y_assignR (cls := "IndexError") hsc b5 c (r_subL v_v v_v (by simp; omega) (by omega)) fun x ψ6 s6 l6 f6 => ?_
      rw [hctx] at f6
      refine ⟨x, i, j, ms, us, ψ6, ω4, .none, rfl, hi, hj, hms, hus, ?_, L5.trans l6, .inl rfl, hown5.le l6 (Le.refl _), .inl f6⟩
      have e1 : xs.drop i = [] := List.drop_eq_nil_of_le (by omega)
      rw [hres, e1, sld_nil]
    have hil : i < xs.length := by omega
    have dx : xs.drop i = xs[i] :: xs.drop (i + 1) := List.drop_eq_getElem_cons hil
    refine y_assign (P := P xs[i]) b5 (EI.of c hsc (v_subL v_v v_v (get_list (by omega) (by omega) (by simp [hil])))) (sto hsc) fun v6 ψ6 s6 l6 p6 b6 => ?_
    have L6 := L5.trans l6
    have hown6 := hown5.le l6 (Le.refl _)
    by_cases hjl' : ys.length ≤ j
    · refine y_assignR (cls := "IndexError") hsc b6 c (r_subL v_v v_v (by simp; omega) (by omega)) fun x ψ7 s7 l7 f7 => ?_
      rw [hctx] at f7
      refine ⟨x, i, j, ms, us, ψ7, ω4, .none, rfl, hi, hj, hms, hus, ?_, L6.trans l7, .inl rfl, hown6.le l7 (Le.refl _), .inl (f7.retype fun m t => pk t (pk t (pk t (pk t (pk t (pk t Typ.nil))))))⟩
      have e1 : ys.drop j = [] := List.drop_eq_nil_of_le (by omega)
      rw [hres, e1, sld_nil']
    have hjl : j < ys.length := by omega
    have dy : ys.drop j = ys[j] :: ys.drop (j + 1) := List.drop_eq_getElem_cons hjl
    refine y_assign (P := P ys[j]) b6 (EI.of c hsc (v_subL v_v v_v (get_list (by omega) (by omega) (by simp [hjl])))) (sto hsc) fun v7 ψ7 s7 l7 p7 b7 => ?_
    have L7 := L6.trans l7
    have hown7 := hown6.le l7 (Le.refl _)
    refine y_if b7 (r := lt xs[i] ys[j]) (TI.of c hsc (b_cmp v_v v_v ((hlt _ _).any.le L7))) fun ψ8 s8 l8 b8 => ?_
    have L8 := L7.trans l8
    have hown8 := hown7.le l8 (Le.refl _)
    cases hl : lt xs[i] ys[j] with
    | true =>
      obtain ⟨v1, j1, v2, j2, o1, q1, o2, q2⟩ := hown8
      have hlen1 := q1.length
      rw [List.length_map] at hlen1
      refine y_app hsc b8 o1 (EI.of c hsc v_v) (by omega) fun v9 ψ9 s9 j9 l9 p9 b9 => ?_
      have L9 := L8.trans l9
      refine y_aug (P₁ := vInt (i : Nat)) (R := vInt ((i + 1 : Nat) : Int)) hsc b9 c (EI.of c hsc v_int) iop_add_int (sto hsc) (fun va ψa sa la pa ba => ?_)
      have La := L9.trans la
      have lall := l9.trans la
      have howna : Own2 ψa (put ω4 a1 (lst (v1 ++ [v9]) j9)) a1 a2 ((ms ++ [xs[i]]).map P) (us.map P) :=
        ⟨_, _, v2, j2, put_self _ _ _, by rw [List.map_append]; exact (q1.imp fun (P : VP) v x => P.mono lall x).append (.cons ((P xs[i]).mono la p9) .nil), by rw [put_ne hne']; exact o2, q2.imp fun (P : VP) v x => P.mono lall x⟩
      refine skip_loop (P := P) (eq := eq) (xs := xs) (x := xs[i]) (i0 := i + 1) (Γ := [("a", P ys[j]), ("e", P xs[i]), ("j", vInt j), ("i", vInt i), ("unexpected", vVal (.ref a2)), ("missing", vVal (.ref a1)), ("expected", vList (xs.map P)), ("actual", vList (ys.map P))]) hsc c T heq La (by rfl) (by rfl) (by rfl) (by rfl) (by rfl) (by rfl) (by rfl) (sto hsc) (by rfl) (by rfl) (by rfl) (by omega) hil ba ?_ ?_
      · intro i1 ψb sb hi1 hi2 hdw lb bb
        refine x_nil (x_nil (x_nil ⟨(xs.length - i1) + (ys.length - j), by omega, i1, j, ms ++ [xs[i]], us, ψb, _, rfl, by omega, hj, by simp; omega, hus, ?_, La.trans lb, howna.le lb (Le.refl _), bb.retype fun m t => pk t (pk t (pk t (pk t (pk t (pk t Typ.nil)))))⟩))
        rw [hres, sld_lt dx dy hl hdw]; simp
      · intro z ψb sb hdw lb fb
        rw [hctx] at fb
        refine ⟨z, xs.length, j, ms ++ [xs[i]], us, ψb, _, .none, rfl, Nat.le_refl _, hj, by simp; omega, hus, ?_, La.trans lb, .inl rfl, howna.le lb (Le.refl _), .inr (.inr (fb.retype fun m t => pk t (pk t (pk t (pk t (pk t (pk t Typ.nil)))))))⟩
        rw [hres, sld_lt dx dy hl hdw, sld_nil]; simp
    | false =>
      refine y_if b8 (r := gt xs[i] ys[j]) (TI.of c hsc (b_cmp v_v v_v ((hgt _ _).any.le L8))) fun ψ9 s9 l9 b9 => ?_
      have L9 := L8.trans l9
      have hown9 := hown8.le l9 (Le.refl _)
      cases hg : gt xs[i] ys[j] with
      | true =>
        obtain ⟨v1, j1, v2, j2, o1, q1, o2, q2⟩ := hown9
        have hlen2 := q2.length
        rw [List.length_map] at hlen2
        refine y_app hsc b9 o2 (EI.of c hsc v_v) (by omega) fun va ψa sa ja la pa ba => ?_
        have La := L9.trans la
        refine y_aug (P₁ := vInt (j : Nat)) (R := vInt ((j + 1 : Nat) : Int)) hsc ba c (EI.of c hsc v_int) iop_add_int (sto hsc) (fun vb ψb sb lb pb bb => ?_)
        have Lb := La.trans lb
        have lall := la.trans lb
        have hownb : Own2 ψb (put ω4 a2 (lst (v2 ++ [va]) ja)) a1 a2 (ms.map P) ((us ++ [ys[j]]).map P) :=
          ⟨v1, j1, _, _, by rw [put_ne hne]; exact o1, q1.imp fun (P : VP) v x => P.mono lall x, put_self _ _ _, by rw [List.map_append]; exact (q2.imp fun (P : VP) v x => P.mono lall x).append (.cons ((P ys[j]).mono lb pa) .nil)⟩
        refine skip_loop (P := P) (eq := eq) (xs := ys) (x := ys[j]) (i0 := j + 1) (Γ := [("a", P ys[j]), ("e", P xs[i]), ("j", vInt j), ("i", vInt i), ("unexpected", vVal (.ref a2)), ("missing", vVal (.ref a1)), ("expected", vList (xs.map P)), ("actual", vList (ys.map P))]) hsc c T heq Lb (by rfl) (by rfl) (by rfl) (by rfl) (by rfl) (by rfl) (by rfl) (sto hsc) (by rfl) (by rfl) (by rfl) (by omega) hjl bb ?_ ?_
        · intro i1 ψc sc hi1 hi2 hdw lc bc
          refine x_nil (x_nil (x_nil (x_nil ⟨(xs.length - i) + (ys.length - i1), by omega, i, i1, ms, us ++ [ys[j]], ψc, _, rfl, hi, by omega, hms, by simp; omega, ?_, Lb.trans lc, hownb.le lc (Le.refl _), bc.retype fun m t => pk t (pk t (pk t (pk t (pk t (pk t Typ.nil)))))⟩)))
          rw [hres, sld_gt dx dy hl hg hdw]; simp
        · intro z ψc sc hdw lc fc
          rw [hctx] at fc
          refine ⟨z, i, ys.length, ms, us ++ [ys[j]], ψc, _, .none, rfl, hi, Nat.le_refl _, hms, by simp; omega, ?_, Lb.trans lc, .inl rfl, hownb.le lc (Le.refl _), .inr (.inr (fc.retype fun m t => pk t (pk t (pk t (pk t (pk t (pk t Typ.nil)))))))⟩
          rw [hres, sld_gt dx dy hl hg hdw, sld_nil']; simp
      | false =>
        refine y_aug (P₁ := vInt (i : Nat)) (R := vInt ((i + 1 : Nat) : Int)) hsc b9 c (EI.of c hsc v_int) iop_add_int (sto hsc) (fun va ψa sa la pa ba => ?_)
        have La := L9.trans la
        have howna := hown9.le la (Le.refl _)
        refine y_final (Eb := fun e s => ∃ x ψb, e = .ref x ∧ Le ψa ψb ∧ ((xs.drop (i + 1)).dropWhile fun z => eq z xs[i]) = [] ∧ FlT X [("i", vInt (xs.length : Nat)), ("a", P ys[j]), ("e", P xs[i]), ("j", vInt j), ("i", vInt i), ("unexpected", vVal (.ref a2)), ("missing", vVal (.ref a1)), ("expected", vList (xs.map P)), ("actual", vList (ys.map P))] ψb ω4 "IndexError" .none x (here X) s) hdp c ?_ ?_
        · refine skip_loop (P := P) (eq := eq) (xs := xs) (x := xs[i]) (i0 := i + 1) (Γ := [("a", P ys[j]), ("e", P xs[i]), ("j", vInt j), ("i", vInt i), ("unexpected", vVal (.ref a2)), ("missing", vVal (.ref a1)), ("expected", vList (xs.map P)), ("actual", vList (ys.map P))]) hsc c T heq La (by rfl) (by rfl) (by rfl) (by rfl) (by rfl) (by rfl) (by rfl) (sto hsc) (by rfl) (by rfl) (by rfl) (by omega) hil ba ?_ ?_
          · intro i1 ψb sb hi1 hi2 hdw lb bb
            have Lb := La.trans lb
            refine x_nil ⟨rfl, ?_⟩
            refine y_aug (P₁ := vInt (j : Nat)) (R := vInt ((j + 1 : Nat) : Int)) hsc bb c (EI.of c hsc v_int) iop_add_int (sto hsc) (fun vc ψc sc' lc pc bc => ?_)
            have Lc := Lb.trans lc
            refine skip_loop (P := P) (eq := eq) (xs := ys) (x := ys[j]) (i0 := j + 1) (Γ := [("i", vInt (i1 : Nat)), ("a", P ys[j]), ("e", P xs[i]), ("j", vInt j), ("i", vInt i), ("unexpected", vVal (.ref a2)), ("missing", vVal (.ref a1)), ("expected", vList (xs.map P)), ("actual", vList (ys.map P))]) hsc c T heq Lc (by rfl) (by rfl) (by rfl) (by rfl) (by rfl) (by rfl) (by rfl) (sto hsc) (by rfl) (by rfl) (by rfl) (by omega) hjl bc ?_ ?_
            · intro j1 ψd sd hj1 hj2 hdw2 ld bd
              refine x_nil (x_nil (x_nil (x_nil (x_nil ⟨(xs.length - i1) + (ys.length - j1), by omega, i1, j1, ms, us, ψd, _, rfl, by omega, by omega, by omega, by omega, ?_, Lc.trans ld, howna.le (lb.trans (lc.trans ld)) (Le.refl _), bd.retype fun m t => pk t (pk t (pk t (pk t (pk t (pk t Typ.nil)))))⟩))))
              rw [hres, sld_eq dx dy hl hg hdw hdw2]
            · intro z ψd sd hdw2 ld fd
              rw [hctx] at fd
              refine Fl.forE (.inr (.inr fd)) c T fun se fe => ?_
              refine ⟨z, i1, ys.length, ms, us, ψd, _, .none, rfl, by omega, Nat.le_refl _, by omega, by omega, ?_, Lc.trans ld, .inl rfl, howna.le (lb.trans (lc.trans ld)) (Le.refl _), .inr (.inr (fe.retype fun m t => pk t (pk t (pk t (pk t (pk t (pk t Typ.nil)))))))⟩
              rw [hres, sld_eq dx dy hl hg hdw hdw2, sld_nil']; simp
          · intro z ψb sb hdw lb fb
            rw [hctx] at fb
            exact ⟨z, ψb, rfl, lb, hdw, fb⟩
        · rintro e sb ⟨x, ψb, rfl, lb, hdw, fb⟩
          have Lb := La.trans lb
          refine ⟨x, _, ψb, ω4, _, _, rfl, .inl rfl, .inr (.inr fb), fun sc' ψc lc hc => ?_⟩
          obtain ⟨ω', t, y, hle, hn, hny, hxy, hq, hex, ht, bc⟩ := hc
          have Lc := Lb.trans lc
          refine y_aug (X := X.mk' x) (P₁ := vInt (j : Nat)) (R := vInt ((j + 1 : Nat) : Int)) hsc bc c.mk2 (EI.of c.mk2 hsc v_int) iop_add_int (sto hsc) (fun vd ψd sd ld pd bd => ?_)
          have Ld := Lc.trans ld
          refine skip_loop (X := X.mk' x) (P := P) (eq := eq) (xs := ys) (x := ys[j]) (i0 := j + 1) (Γ := [("i", vInt (xs.length : Nat)), ("a", P ys[j]), ("e", P xs[i]), ("j", vInt j), ("i", vInt i), ("unexpected", vVal (.ref a2)), ("missing", vVal (.ref a1)), ("expected", vList (xs.map P)), ("actual", vList (ys.map P))]) hsc c.mk2 T.mk' heq Ld (by rfl) (by rfl) (by rfl) (by rfl) (by rfl) (by rfl) (by rfl) (sto hsc) (by rfl) (by rfl) (by rfl) (by omega) hjl bd ?_ ?_
          · intro j1 ψe se hj1 hj2 hdw2 le be
            refine x_nil ⟨rfl, _, ψe, ω4, ⟨ω', t, y, hle, hn, hny, hxy, hq, le _ _ (ld _ _ hex), ht, be⟩, fun sf ff => ?_⟩
            refine ⟨x, xs.length, j1, ms, us, ψe, ω4, .none, rfl, Nat.le_refl _, by omega, by omega, by omega, ?_, Ld.trans le, .inl rfl, howna.le (lb.trans (lc.trans (ld.trans le))) (Le.refl _), .inr (.inr (ff.retype fun m t => pk t (pk t (pk t (pk t (pk t (pk t Typ.nil)))))))⟩
            rw [hres, sld_eq dx dy hl hg hdw hdw2, sld_nil]; simp
          · intro z ψe se hdw2 le fe
            refine Fl.forH (.inr (.inr fe)) hdp c fun sf ff => ?_
            have hzx : ω4 z = none := by
              obtain ⟨_, _, _, h1, h2, _⟩ := ff
              cases q : ω4 z with
              | none => rfl
              | some o => rw [hle z o q] at h2; cases h2
            refine ⟨z, xs.length, ys.length, ms, us, ψe, ω', _, rfl, Nat.le_refl _, Nat.le_refl _, by omega, by omega, ?_, Ld.trans le, ?_, howna.le (lb.trans (lc.trans (ld.trans le))) hle, .inr (.inr (ff.retype fun m t => pk t (pk t (pk t (pk t (pk t (pk t Typ.nil)))))))⟩
            · rw [hres, sld_eq dx dy hl hg hdw hdw2, sld_nil]; simp
            · exact .inr ⟨x, _, _, rfl, le _ _ (ld _ _ hex), rfl, rfl⟩
  · -- except IndexError
    rintro e s6 ⟨x, i1, j1, ms1, us1, ψ6, ω6, ctx, rfl, hi1, hj1, hms1, hus1, hres1, L6, hc6, hown6, f6⟩
    refine ⟨x, _, ψ6, ω6, "IndexError", ctx, rfl, L6, F.self_IndexError, hc6, f6, fun s7 ψ7 l7 h7 => ?_⟩
    have b7 := h7.plain
    obtain ⟨v1, k1, v2, k2, o1, q1, o2, q2⟩ := hown6.le l7 (Le.refl _)
    have hlen1 := q1.length
    have hlen2 := q2.length
    rw [List.length_map] at hlen1 hlen2
    refine y_ext (X := X.mk' x) (ps := (xs.drop i1).map P) hsc b7 o1 (EI.of c.mk2 hsc (v_subL v_v (v_slice (p_some v_v) evp0 evp0) (get_from (by omega)))) (by simp; omega) fun u1 ψ8 s8 k8 l8 r8 b8 => ?_
    refine y_ext (X := X.mk' x) (ps := (ys.drop j1).map P) (a := a2) (vs := v2) (j := k2) hsc b8 (by rw [put_ne hne']; exact o2) (EI.of c.mk2 hsc (v_subL v_v (v_slice (p_some v_v) evp0 evp0) (get_from (by omega)))) (by simp; omega) fun u2 ψ9 s9 k9 l9 r9 b9 => ?_
    refine x_break ?_
    show Ex prog w X _ _ _ s9
    have ba := b9.unmark hdp
    have L9 := L6.trans (l7.trans (l8.trans l9))
    have f1 := ba.freeze (put_self _ _ _)
    have f2 := f1.freeze (a := a1) (o := lst (v1 ++ u1) k8) (by simp [hne, put])
    have g2 := ba.ownNone (a := a2) (put_self _ _ _)
    have g1 := f1.ownNone (a := a1) (o := lst (v1 ++ u1) k8) (by simp [hne, put])
    have lz : Le ψ9 (put (put ψ9 a2 (lst (v2 ++ u2) k9)) a1 (lst (v1 ++ u1) k8)) := (le_put g2).trans (le_put g1)
    have q1' : All2 (fun (Q : VP) v => Q.p (put (put ψ9 a2 (lst (v2 ++ u2) k9)) a1 (lst (v1 ++ u1) k8)) v) ((sld lt gt eq xs ys).1.map P) (v1 ++ u1) := by
      rw [hres1, List.map_append]
      exact (q1.imp fun (Q : VP) v x => Q.mono ((l8.trans l9).trans lz) x).append (r8.imp fun (Q : VP) v x => Q.mono (l9.trans lz) x)
    have q2' : All2 (fun (Q : VP) v => Q.p (put (put ψ9 a2 (lst (v2 ++ u2) k9)) a1 (lst (v1 ++ u1) k8)) v) ((sld lt gt eq xs ys).2.map P) (v2 ++ u2) := by
      rw [hres1, List.map_append]
      exact (q2.imp fun (Q : VP) v x => Q.mono ((l8.trans l9).trans lz) x).append (r9.imp fun (Q : VP) v x => Q.mono lz x)
    have bz := (f2.view (x := "missing") (v := .ref a1) (P := vList ((sld lt gt eq xs ys).1.map P)) (by rfl) ⟨a1, v1 ++ u1, k8, rfl, put_self _ _ _, q1'⟩).view (x := "unexpected") (v := .ref a2) (P := vList ((sld lt gt eq xs ys).2.map P)) (by rfl) ⟨a2, v2 ++ u2, k9, rfl, by rw [put_ne hne']; exact put_self _ _ _, q2'⟩
    exact y_ret bz (EI.of c hsc (v_tup (e2 v_v v_v) (by show 2 ≤ sizeLine; decide)))
end Mine
namespace Mine
variable {prog : Program} {w : World} {X : Fix} {Γ : List (Str × VP)} {ψ ω φ : PM} {s s' : Shared} {k : Nat} {n b : Bool} {m : Str → Option Value} {μ : Md} {A : Around} {env : Env} {sc scope : Scope}
variable {E : Value → Shared → Prop}
noncomputable def wi (i : Nat) : Nat := if i < 4 then i else 0
noncomputable def wlt (x y : Nat) : Bool := decide (wi x < wi y)
noncomputable def weq (x y : Nat) : Bool := wi x == wi y
theorem wi_lt (i : Nat) : wi i < 4 := by unfold wi; split <;> omega
theorem word_wi (i : Nat) : word i = word (wi i) := by
  unfold wi
  split
  · rfl
  · rename_i h
    match i, h with
    | i + 4, _ => rfl
theorem wlt_is (x y : Nat) : decide ((word x).cps.toList < (word y).cps.toList) = wlt x y := by
  rw [word_wi x, word_wi y]
  have h : ∀ a < 4, ∀ b < 4, decide ((word a).cps.toList < (word b).cps.toList) = decide (a < b) := by decide +kernel
  exact h _ (wi_lt x) _ (wi_lt y)
theorem weq_is (x y : Nat) : (word x == word y) = weq x y := by
  rw [word_wi x, word_wi y]
  have h : ∀ a < 4, ∀ b < 4, (word a == word b) = (a == b) := by decide +kernel
  exact h _ (wi_lt x) _ (wi_lt y)
section
variable {prog : Program} {w : World} {μ : Md} {φ : PM}
theorem op_ltW (x y : Nat) : Op2 prog w μ φ (compareOp .Lt) (vW x) (vW y) (vBool (wlt x y)) := by rw [← wlt_is]; exact op_lt_str
theorem op_gtW (x y : Nat) : Op2 prog w μ φ (compareOp .Gt) (vW x) (vW y) (vBool (wlt y x)) := by rw [← wlt_is]; exact op_gt_str
theorem op_eqW (x y : Nat) : Op2 prog w μ φ (compareOp .Eq) (vW x) (vW y) (vBool (weq x y)) := by rw [← weq_is]; exact op_eq_str
theorem opEqW (x y : Nat) : OpEq prog w μ φ (vW x) (vW y) (weq x y) := by rw [← weq_is]; exact opEq_str
theorem opLtW (x y : Nat) : OpLt prog w μ φ (vW x) (vW y) (wlt x y) := by rw [← wlt_is]; exact opLt_str
end
noncomputable def wsld (xs ys : List Nat) : List Nat × List Nat := sld wlt (fun x y => wlt y x) weq xs ys
noncomputable def join (xs ys : List Nat) : List Nat := sortL wlt 0 (xs ++ (wsld xs ys).2)
theorem sld_snd_le {α : Type} {lt gt eq : α → α → Bool} : ∀ (f : Nat) (xs ys : List α), (sldF lt gt eq f xs ys).1.length ≤ xs.length ∧ (sldF lt gt eq f xs ys).2.length ≤ ys.length
  | 0, xs, ys => ⟨Nat.le_refl _, Nat.le_refl _⟩
  | f + 1, [], ys => by rw [sldF_nil]; exact ⟨Nat.le_refl _, Nat.le_refl _⟩
  | f + 1, x :: xs, [] => by rw [sldF_nil']; exact ⟨Nat.le_refl _, Nat.le_refl _⟩
  | f + 1, x :: xs, y :: ys => by
    have hx := length_dropWhile_le (p := fun z => eq z x) xs
    have hy := length_dropWhile_le (p := fun z => eq z y) ys
    unfold sldF
    split
    · have := sld_snd_le (lt := lt) (gt := gt) (eq := eq) f (xs.dropWhile fun z => eq z x) (y :: ys)
      simp only [List.length_cons] at *; omega
    · split
      · have := sld_snd_le (lt := lt) (gt := gt) (eq := eq) f (x :: xs) (ys.dropWhile fun z => eq z y)
        simp only [List.length_cons] at *; omega
      · have := sld_snd_le (lt := lt) (gt := gt) (eq := eq) f (xs.dropWhile fun z => eq z x) (ys.dropWhile fun z => eq z y)
        simp only [List.length_cons] at *; omega
theorem join_length (xs ys : List Nat) : (join xs ys).length ≤ xs.length + ys.length := by
  unfold join
  rw [sortL_length, List.length_append]
  have := (sld_snd_le (lt := wlt) (gt := fun x y => wlt y x) (eq := weq) (xs.length + ys.length) xs ys).2
  unfold wsld sld
  omega
theorem spec_sldW {prog : Program} {w : World} {k : Nat} {φ : PM} {a : Addr} {pm cd : Value} {xs ys : List Nat} (hIE : BN φ "IndexError" (.type "IndexError")) (hx : xs.length ≤ 1000) (hy : ys.length ≤ 1000) (K : FnK φ a (fdOf (st2 1) "sorted_list_difference" [] .none .none .none pm cd .none)) :
    Spec prog w ⟨k + 1, true⟩ φ (.ref a) [vList (xs.map vW), vList (ys.map vW)] (vTup [vList ((wsld xs ys).1.map vW), vList ((wsld xs ys).2.map vW)]) :=
  spec_sld hIE op_ltW (fun x y => op_gtW x y) op_eqW hx hy K
theorem spec_join {prog : Program} {w : World} {k : Nat} {φ : PM} {a as : Addr} {pm cd pms cds : Value} {xs ys : List Nat} (T : Top2 φ) (hIE : BN φ "IndexError" (.type "IndexError")) (hsld : GN φ "sorted_list_difference" (.ref as)) (Ks : FnK φ as (fdOf (st2 1) "sorted_list_difference" [] .none .none .none pms cds .none)) (hx : xs.length ≤ 31) (hy : ys.length ≤ 31)
    (K : FnK φ a (fdOf (st2 14) "_law_join" [] .none .none .none pm cd .none)) :
    Spec prog w ⟨k + 10, true⟩ φ (.ref a) [vTup (xs.map vW), vTup (ys.map vW)] (vTup ((join xs ys).map vW)) := by
  refine spec_def (names := ["one", "other"]) K rfl rfl rfl (fun vs h => by obtain ⟨a, b, rfl⟩ := list_len2 h; rfl) (by rfl) (by rfl) (by rfl) (by rfl) (BodyX.ok ?_)
  intro X ψ s E hsc c l hft hdp b
  have Ti := T.le l
  have hline : sizeLine = 16777216 := rfl
  have h2 := (sld_snd_le (lt := wlt) (gt := fun x y => wlt y x) (eq := weq) (xs.length + ys.length) xs ys).2
  have hj := join_length xs ys
  have lx : ((xs.map vW).length) ≤ sizeLine := by rw [List.length_map]; omega
  have ly : ((ys.map vW).length) ≤ sizeLine := by rw [List.length_map]; omega
  have hs : Spec prog w ⟨k + 9, true⟩ ψ (.builtin "sorted") [vList ((xs ++ (wsld xs ys).2).map vW)] (vList ((join xs ys).map vW)) :=
    call_sorted (k := k + 7) (T := .type "str") (by rw [List.length_append]; show _ + (sldF _ _ _ _ _ _).2.length < _; omega) (fun x => tyIs_str) (by decide) (by decide) opLtW
  refine y_ret b (EI.of c hsc (v_ct Ti.tuple (e1 (v_cb Ti.sorted (e1 (v_bin (v_ct Ti.list (e1 v_v) (call_list (.inr rfl) lx)) (v_subT (v_cg (NsKnows.le hsld l) (Ks.le l) (e2 (v_ct Ti.list (e1 v_v) (call_list (.inr rfl) lx)) (v_ct Ti.list (e1 v_v) (call_list (.inr rfl) ly))) (((spec_sldW (k := k + 8) hIE (by omega) (by omega) Ks).le l))) v_int (get_tup (i := 1) (by decide) rfl)) (add_lists (by rw [List.length_map, List.length_map]; show _ + (sldF _ _ _ _ _ _).2.length ≤ _; omega)))) (by rw [← List.map_append]; exact hs))) (call_tuple (by rw [List.length_map]; omega))))
end Mine
namespace Mine
variable {prog : Program} {w : World} {X : Fix} {Γ : List (Str × VP)} {ψ ω φ : PM} {s s' : Shared} {k : Nat} {n b : Bool} {m : Str → Option Value} {μ : Md} {A : Around} {env : Env} {sc scope : Scope}
variable {E : Value → Shared → Prop}
set_option linter.unusedSimpArgs false in
theorem bind_kwd1 {s : Shared} {fd : FuncData} {d : Addr} {x y : Str} {v r : Value} (h1 : fd.params.posonlyargs.map (·.arg) = []) (h2 : fd.params.args.map (·.arg) = [x]) (h3 : fd.params.kwonlyargs.map (·.arg) = [y]) (h4 : fd.params.vararg = none) (h5 : fd.params.kwarg = none) (h6 : fd.defaults = .none) (h7 : fd.kwdefaults = .ref d)
    (hxy : (y == x) = false) (hyx : (x == y) = false) (hd : NsKnows φ d y (some r)) (hs : Sub φ s.heap) : BindsTo s fd ⟨[v], []⟩ [(x, v), (y, r)] := by
  intro M A E Q hq
  obtain ⟨mm, hm, em⟩ := hd.ns hs
  have hxx : (x == x) = true := beq_self_eq_true x
  have hyy : (y == y) = true := beq_self_eq_true y
  unfold bindArgs
  simp only [h1, h2, h3, h4, h5, h6, h7]
  have e0 : seqItems? .none = pure none := by rfl
  rw [e0]
  simp only [List.forIn_nil, pure_bind, List.nil_append, List.zip_cons_cons, List.zip_nil_right, List.forIn_cons, Option.getD_none, List.length_cons, List.length_nil]
  refine if_not (by rfl) ?_
  refine if_not (by simp [List.lookup, hxx]) ?_
  refine wpAny_bind (wpAny_of_eq (a := [(x, v)]) (by rfl) ?_)
  refine wpAny_bind (wpAny_bind ?_)
  refine if_so (by simp [List.lookup, hxy]) ?_
  refine wpAny_bind (wpAny_nsGet hm ?_)
  rw [em]
  refine wpAny_pure (wpAny_pure ?_)
  refine if_not (by rfl) ?_
  refine wpAny_pure ?_
  have e1 : (List.filterMap (fun n => Option.map (fun z => (n, z)) (List.lookup n ([(x, v)] ++ [(y, r)]))) ([x] ++ [y])) = [(x, v), (y, r)] := by
    simp [List.lookup, hxx, hxy, hyy, hyx]
  rw [e1]
  exact hq
theorem bind_dedup {s : Shared} {d : Addr} {pm cd v : Value} (hd : NsKnows φ d "unhashable_fallback" (some (.bool false))) (hs : Sub φ s.heap) :
    BindsTo s (fdOf (st2 8) "_deduplicate" [] .none (.ref d) .none pm cd .none) ⟨[v], []⟩ [("params", v), ("unhashable_fallback", .bool false)] :=
  bind_kwd1 (by rfl) (by rfl) (by rfl) (by rfl) (by rfl) (by rfl) (by rfl) (by decide +kernel) (by decide +kernel) hd hs
noncomputable def keyOf (xs : List Nat) : List Str := xs.map word
theorem tup_key {prog : Program} {w : World} (x : List Nat) (ψ : PM) (v : Value) (h : (vTup (x.map vW)).p ψ v) : ∃ a, v = .ref a ∧ ∀ h, Sub ψ h → (tupleKind (strKind prog w)).is h (keyOf x) a := by
  obtain ⟨a, vs, n, rfl, ho, hall⟩ := h
  refine ⟨a, rfl, fun hp hs => ⟨_, vs.toArray, n, hs _ _ ho, rfl, rfl, ?_⟩⟩
  have : ∀ {x : List Nat} {vs : List Value}, All2 (fun (P : VP) v => P.p ψ v) (x.map vW) vs → ItemsAre (strKind prog w) (keyOf x) vs := by
    intro x
    induction x with
    | nil => intro vs h; cases h; exact .nil
    | cons y x ih =>
      intro vs h
      cases h with
      | cons h t =>
        obtain ⟨u, rfl⟩ := h
        exact .cons (strKind_is prog w (word y) u) (ih t)
  exact this hall
noncomputable def ddW (xs : List (List Nat)) : List (List Nat) := ddK keyOf xs
theorem ddK_length {α K : Type} [DecidableEq K] {key : α → K} (xs : List α) : (ddK key xs).length ≤ xs.length := by
  have : ∀ (xs acc : List α), (xs.foldl (fun acc x => if acc.any (fun y => decide (key y = key x)) then acc else acc ++ [x]) acc).length ≤ acc.length + xs.length := by
    intro xs
    induction xs with
    | nil => intro acc; exact Nat.le_refl _
    | cons x xs ih =>
      intro acc
      show (xs.foldl _ (if acc.any (fun y => decide (key y = key x)) then acc else acc ++ [x])).length ≤ _
      refine Nat.le_trans (ih _) ?_
      split
      · simp only [List.length_cons]; omega
      · simp only [List.length_append, List.length_cons, List.length_nil]; omega
  exact Nat.le_trans (this xs []) (by simp)
theorem spec_dedup {prog : Program} {w : World} {k : Nat} {φ : PM} {a kd : Addr} {pm cd : Value} {xs : List (List Nat)} (hdict : BN φ "dict" (.type "dict")) (hte : BN φ "TypeError" (.type "TypeError")) (hmods : ∃ o, φ sysModules = some o) (hkd : NsKnows φ kd "unhashable_fallback" (some (.bool false))) (hsz : xs.length ≤ 1000)
    (K : FnK φ a (fdOf (st2 8) "_deduplicate" [] .none (.ref kd) .none pm cd .none)) :
    Spec prog w ⟨k + 10, true⟩ φ (.ref a) [vList (xs.map fun x => vTup (x.map vW))] (vKeys ((ddW xs).map fun x => vTup (x.map vW))) := by
  refine spec_defG (Γ₀ := [("params", vList (xs.map fun x => vTup (x.map vW))), ("unhashable_fallback", vBool false)]) K rfl rfl (fun ψ s vs hs l h => ?_) (by show decide ((["params", "unhashable_fallback"] : List Str).Nodup) = true; decide +kernel) (by rfl) (by rfl) (by rfl) (BodyX.ok ?_)
  · obtain ⟨v, rfl, p⟩ := one_arg h
    exact ⟨_, bind_dedup (hkd.le l) hs, .cons ⟨rfl, p⟩ (.cons ⟨rfl, rfl⟩ .nil)⟩
  intro X ψ s E hsc c l hft hdp b
  refine y_tryE (φ := φ) (Eb := fun _ _ => False) hdp c hsc hte (by rfl) (by rfl) (by rw [isSubtype_type]; kernel_rfl) (by first | kernel_rfl | (rw [isSubtype_type]; kernel_rfl)) ?_ (fun _ _ e => e.elim)
  refine y_return b (P := vKeys ((ddW xs).map fun x => vTup (x.map vW))) (EI.of c hsc (v_fk (hdict.le l) v_v fun φ' a' l' ha' => ?_)) fun v ψ' s' l2 p2 b2 => ⟨ψ', b2.toGrow, p2⟩
  have hm := hmods
  obtain ⟨o, ho⟩ := hm
  refine spec_fk (knd := tupleKind (strKind prog w)) (key := keyOf) (P := fun x => vTup (x.map vW)) ha' ⟨o, l' _ _ (l _ _ ho)⟩ (fun A ψ s c => ?_) tup_key hsz
  have := c.units
  show A.in1.units < 9900
  have e : A.in1.units = A.units + 1 := by rfl
  simp at this
  omega
end Mine
namespace Mine
variable {prog : Program} {w : World} {X : Fix} {Γ : List (Str × VP)} {ψ ω φ : PM} {s s' : Shared} {k : Nat} {n b : Bool} {m : Str → Option Value} {μ : Md} {A : Around} {env : Env} {sc scope : Scope}
variable {E : Value → Shared → Prop}
noncomputable abbrev vS (x : List Nat) : VP := vTup (x.map vW)
noncomputable def grown (sets : List (List Nat)) (row : List Nat) : List (List Nat) := ddW (sets ++ sets.map (join · row))
theorem keep_all {α : Type} {f : α → VP} {d : α} (l : List α) : ((List.range l.length).filter fun _ => true).map (fun i => f (l.getD i d)) = l.map f := by
  rw [List.filter_eq_self.mpr (fun _ _ => rfl)]
  refine List.ext_getElem? fun i => ?_
  rw [List.getElem?_map, List.getElem?_map]
  by_cases h : i < l.length
  · rw [List.getElem?_range h]
    show some (f (l.getD i d)) = _
    rw [List.getD_eq_getElem?_getD, List.getElem?_eq_getElem h]; rfl
  · rw [List.getElem?_eq_none (by simp; omega), List.getElem?_eq_none (by omega)]; rfl
structure Fn2 (φ : PM) : Prop where
  T : Top2 φ
  ie : BN φ "IndexError" (.type "IndexError")
  sld : ∃ a pm cd, GN φ "sorted_list_difference" (.ref a) ∧ FnK φ a (fdOf (st2 1) "sorted_list_difference" [] .none .none .none pm cd .none)
  join : ∃ a pm cd, GN φ "_law_join" (.ref a) ∧ FnK φ a (fdOf (st2 14) "_law_join" [] .none .none .none pm cd .none)
  dict : BN φ "dict" (.type "dict")
  te : BN φ "TypeError" (.type "TypeError")
  mods : ∃ o, φ sysModules = some o
  dedup : ∃ a kd pm cd, GN φ "_deduplicate" (.ref a) ∧ FnK φ a (fdOf (st2 8) "_deduplicate" [] .none (.ref kd) .none pm cd .none) ∧ NsKnows φ kd "unhashable_fallback" (some (.bool false))
theorem spec_grown {prog : Program} {w : World} {k : Nat} {φ : PM} {a : Addr} {pm cd : Value} {sets : List (List Nat)} {row : List Nat} (F : Fn2 φ) (h1 : sets.length ≤ 400) (h2 : ∀ x ∈ sets, x.length ≤ 31) (h3 : row.length ≤ 31)
    (K : FnK φ a (fdOf (st2 15) "_law_grown" [] .none .none .none pm cd .none)) :
    Spec prog w ⟨k + 20, true⟩ φ (.ref a) [vList (sets.map vS), vS row] (vList ((grown sets row).map vS)) := by
  refine spec_def (names := ["sets", "row"]) K rfl rfl rfl (fun vs h => by obtain ⟨a, b, rfl⟩ := list_len2 h; rfl) (by rfl) (by rfl) (by rfl) (by rfl) (BodyX.ok ?_)
  intro X ψ s E hsc c l hft hdp b
  have hline : sizeLine = 16777216 := rfl
  obtain ⟨as, pms, cds, gs, Ks⟩ := F.sld
  obtain ⟨aj, pmj, cdj, gj, Kj⟩ := F.join
  obtain ⟨ad, kd, pmd, cdd, gd, Kd, hkd⟩ := F.dedup
  have hgl : (sets ++ sets.map (join · row)).length ≤ 1000 := by rw [List.length_append, List.length_map]; omega
  have hdl := ddK_length (key := keyOf) (sets ++ sets.map (join · row))
  have hadd : Op2 prog w ⟨k + 19, true⟩ ψ (binaryOp .Add) (vList (sets.map vS)) (vList (((List.range sets.length).filter fun _ => true).map fun i => vS (join (sets.getD i []) row))) (vList ((sets ++ sets.map (join · row)).map vS)) := by
    rw [keep_all (f := fun x => vS (join x row)) (d := []) sets, List.map_append, List.map_map]
    refine add_lists ?_
    rw [List.length_map, List.length_map]; omega
  have hjoin : ∀ i < sets.length, Spec prog w ⟨k + 18, true⟩ ψ (.ref aj) [vS (sets.getD i []), vS row] (vS (join (sets.getD i []) row)) := fun i hi =>
    (spec_join (k := k + 8) F.T F.ie gs Ks (by rw [List.getD_eq_getElem?_getD, List.getElem?_eq_getElem hi]; exact h2 _ (List.getElem_mem hi)) h3 Kj).le l
  have hded : Spec prog w ⟨k + 19, true⟩ ψ (.ref ad) [vList ((sets ++ sets.map (join · row)).map vS)] (vKeys ((grown sets row).map vS)) := (spec_dedup (k := k + 9) F.dict F.te F.mods hkd hgl Kd).le l
  refine y_ret b (P := vList ((grown sets row).map vS)) (EI.of c hsc (v_ct (F.T.le l).list (e1 (v_cg (NsKnows.le gd l) (Kd.le l) (e1 (v_bin v_v (v_comp (nn := sets.length) (keep := fun _ => true) (R := fun i => vS (join (sets.getD i []) row)) v_v (src_map (f := vS) (d := []) (itr_list rfl)) (by rfl) (fun i hi => ownT) (fun i hi => t_nil)
    (fun i hi _ => v_cg (NsKnows.le gj l) (Kj.le l) (e2 v_v v_v) (hjoin i hi)) (by omega)) hadd)) hded)) (call_list_keys rfl ?_)))
  rw [List.length_map]
  exact Nat.le_trans hdl (by omega)
end Mine
namespace Mine
variable {prog : Program} {w : World} {X : Fix} {Γ : List (Str × VP)} {ψ ω φ : PM} {s s' : Shared} {k : Nat} {n b : Bool} {m : Str → Option Value} {μ : Md} {A : Around} {env : Env} {sc scope : Scope}
variable {E : Value → Shared → Prop}
noncomputable def foldN {α β : Type} (step : β → α → β) (b0 : β) (xs : List α) (i : Nat) : β := (xs.take i).foldl step b0
theorem foldN_succ {α β : Type} {step : β → α → β} {b0 : β} {xs : List α} {i : Nat} {d : α} (h : i < xs.length) : foldN step b0 xs (i + 1) = step (foldN step b0 xs i) (xs.getD i d) := by
  unfold foldN
  rw [List.take_add_one, List.getElem?_eq_getElem h, List.foldl_append, List.getD_eq_getElem?_getD, List.getElem?_eq_getElem h]
  rfl
theorem spec_reduce {prog : Program} {w : World} {k : Nat} {φ : PM} {a im T : Addr} {fv pm cd : Value} {oim oT : Obj} {nT : Nat} {α β : Type} {Bv : β → VP} {P : α → VP} {step : β → α → β} {b0 : β} {xs : List α} {d : α} (hiter : BN φ "iter" (.builtin "iter")) (gim : GN φ "_initial_missing" (.ref im)) (him : φ im = some oim) (hcl : oim.cls = .type "object")
    (hne : ∀ ψ u, (Bv b0).p ψ u → ∃ x ox, u = .ref x ∧ ψ x = some ox ∧ ox.cls ≠ .type "object") (hkp : KeepOk φ fv) (hf : ∀ i < xs.length, Spec prog w ⟨k, true⟩ φ fv [Bv (foldN step b0 xs i), P (xs.getD i d)] (Bv (step (foldN step b0 xs i) (xs.getD i d))))
    (hT : φ T = some oT) (hTd : oT.data = .seq #[.ref im] nT) (K : FnK φ a (fdOf (st2 6) "reduce" [] (.ref T) .none .none pm cd .none)) :
    Spec prog w ⟨k + 1, true⟩ φ (.ref a) [vVal fv, vList (xs.map P), Bv b0] (Bv (xs.foldl step b0)) := by
  refine spec_defG (Γ₀ := [("function", vVal fv), ("sequence", vList (xs.map P)), ("initial", Bv b0)]) K rfl rfl (fun ψ s vs hs l h => ?_) (by show decide ((["function", "sequence", "initial"] : List Str).Nodup) = true; decide +kernel) (by rfl) (by rfl) (by rfl) (BodyX.ok ?_)
  · obtain ⟨v, u, z, rfl, p1, p2, p3⟩ := three_args h
    exact ⟨[("function", v), ("sequence", u), ("initial", z)], BindsTo.of_defaults rfl (hs _ _ (l _ _ hT)) hTd (by rfl) (by rfl), .cons ⟨rfl, p1⟩ (.cons ⟨rfl, p2⟩ (.cons ⟨rfl, p3⟩ .nil))⟩
  intro X ψ s E hsc c l hft hdp b
  refine y_iter hsc b c ⟨hiter.1.le l, hiter.2.le l⟩ (by rfl) v_v (sto hsc) fun I l' vs j ψ1 s1 l1 hω hψI hl' hall b1 => ?_
  have L1 := l.trans l1
  refine y_if b1 (r := false) (TI.of c hsc (b_cmp v_v (v_g (NsKnows.le gim L1)) (op_is_other fun ψ' u v lv pu pv => ?_))) fun ψ2 s2 l2 b2 => ?_
  · cases pv
    obtain ⟨x, ox, rfl, hx, hc⟩ := hne _ _ pu
    have him' := lv _ _ (L1 _ _ him)
    exact ⟨x, im, ox, oim, rfl, rfl, fun q => by rw [q, him'] at hx; cases hx; exact hc hcl, hx, him', hcl⟩
  have L2 := L1.trans l2
  refine y_assign b2 (EI.of c hsc v_v) (sto hsc) fun v ψ3 s3 l3 p3 b3 => ?_
  refine x_nil ?_
  have L3 := L2.trans l3
  have hl3 : ψ3 l' = some (lst vs j) := l3 _ _ (l2 _ _ hl')
  have hall3 := hall.imp fun (P : VP) v y => P.mono (l2.trans l3) y
  refine y_forB (b3.forget (ω' := fun _ => none) (fun _ _ e => nomatch e)) c (BS.congr (nn' := xs.length) (Tg' := fun i => [("element", P (xs.getD i d))]) (bs_iter hsc c b3 rfl hl3 hall3 (by rfl) (by rfl) (by rfl)) (by rw [List.length_map]) fun i hi => ?_)
    (fun i Γ' ψ' ω' => Γ' = ([("value", Bv (foldN step b0 xs i)), ("it", vVal (.ref I)), ("function", vVal fv), ("sequence", vList (xs.map P)), ("initial", Bv b0)] : List (Str × VP))) (fun i hi => stoT hsc) (fun i Γ' ψ' ω₁ ω₂ h _ => h) (fun ψ' l' => rfl) ?_ ?_
  · rw [List.length_map] at hi
    unfold tgName
    rw [List.getElem?_map, List.getD_eq_getElem?_getD, List.getElem?_eq_getElem hi]; rfl
  · rintro i Γi ψi ωi si hi rfl li b4
    have Li := L3.trans li
    refine y_assign b4 (P := Bv (foldN step b0 xs (i + 1))) (EI.of c hsc (v_call v_v (hkp.le Li) (e2 v_v v_v) (by rw [foldN_succ hi]; exact (hf i hi).le Li))) (sto hsc) fun v ψ5 s5 l5 p5 b5 => ?_
    refine x_nil ⟨_, ψ5, ωi, rfl, l5, b5.retype fun m t => pk t (pk t (pk t (pk t (pk t Typ.nil)))), fun a o h _ => h⟩
  · rintro Γ' ψ' ω' s' rfl l' b'
    have e : Bv (foldN step b0 xs xs.length) = Bv (xs.foldl step b0) := by unfold foldN; rw [List.take_length]
    rw [← e]
    exact y_ret b' (EI.of c hsc v_v)
end Mine
namespace Mine
variable {prog : Program} {w : World} {X : Fix} {Γ : List (Str × VP)} {ψ ω φ : PM} {s s' : Shared} {k : Nat} {n b : Bool} {m : Str → Option Value} {μ : Md} {A : Around} {env : Env} {sc scope : Scope}
variable {E : Value → Shared → Prop}
noncomputable def ddE {α : Type} (eq : α → α → Bool) (xs : List α) : List α := xs.foldl (fun acc x => if acc.any (fun y => eq y x) then acc else acc ++ [x]) []
theorem ddE_length {α : Type} {eq : α → α → Bool} (xs : List α) : (ddE eq xs).length ≤ xs.length := by
  have : ∀ (xs acc : List α), (xs.foldl (fun acc x => if acc.any (fun y => eq y x) then acc else acc ++ [x]) acc).length ≤ acc.length + xs.length := by
    intro xs
    induction xs with
    | nil => intro acc; exact Nat.le_refl _
    | cons x xs ih =>
      intro acc
      show (xs.foldl _ (if acc.any (fun y => eq y x) then acc else acc ++ [x])).length ≤ _
      refine Nat.le_trans (ih _) ?_
      split
      · simp only [List.length_cons]; omega
      · simp only [List.length_append, List.length_cons, List.length_nil]; omega
  exact Nat.le_trans (this xs []) (by simp)
noncomputable def ddN {α : Type} (eq : α → α → Bool) (xs : List α) (i : Nat) : List α := ddE eq (xs.take i)
theorem ddN_succ {α : Type} {eq : α → α → Bool} {xs : List α} {i : Nat} {d : α} (h : i < xs.length) : ddN eq xs (i + 1) = if (ddN eq xs i).any (fun y => eq y (xs.getD i d)) then ddN eq xs i else ddN eq xs i ++ [xs.getD i d] := by
  unfold ddN ddE
  rw [List.take_add_one, List.getElem?_eq_getElem h, List.foldl_append, List.getD_eq_getElem?_getD, List.getElem?_eq_getElem h]
  rfl
theorem spec_ddu {prog : Program} {w : World} {k : Nat} {φ : PM} {a : Addr} {pm cd : Value} {α : Type} {Pp : VP} {P : α → VP} {eq : α → α → Bool} {xs : List α} {d : α} (hI : ∀ ψ, Itr prog w ⟨k + 1, true⟩ ψ Pp (xs.map P)) (he : ∀ x y, OpEq prog w ⟨k, true⟩ φ (P x) (P y) (eq x y)) (hsz : xs.length ≤ 1000000)
    (K : FnK φ a (fdOf (st2 9) "_deduplicate_unhashable" [] .none .none .none pm cd .none)) : Spec prog w ⟨k + 2, true⟩ φ (.ref a) [Pp] (vList ((ddE eq xs).map P)) := by
  refine spec_def (names := ["unhashable_params"]) K rfl rfl rfl (fun vs h => by obtain ⟨a, rfl⟩ := list_len1 h; rfl) (by rfl) (by rfl) (by rfl) (by rfl) (BodyX.ok ?_)
  intro X ψ s E hsc c l hft hdp b
  have hline : sizeLine = 16777216 := rfl
  refine y_newList b (sto hsc) fun a1 s1 h1 h2 b1 => ?_
  refine y_for hsc b1 c v_v (src_map (f := P) (d := d) (hI ψ)) (fun i Γ' ψ' ω' => Γ' = ([("new_unhashable", vVal (.ref a1)), ("unhashable_params", Pp)] : List (Str × VP)) ∧ ∃ vs j, ω' a1 = some (lst vs j) ∧ All2 (fun (P : VP) v => P.p ψ' v) ((ddN eq xs i).map P) vs) (fun i hi => stoT hsc) ?_ ?_ ?_ ?_
  · rintro i Γ' ψ' ω₁ ω₂ ⟨rfl, vs, j, ha, hall⟩ hω
    exact ⟨rfl, vs, j, by rw [hω a1 _ (put_self _ _ _)]; exact ha, hall⟩
  · intro ψ' l'
    exact ⟨rfl, [], 0, put_self _ _ _, .nil⟩
  · rintro i Γi ψi ωi si hi ⟨rfl, vs, j, ha, hall⟩ li b2
    have hlb := le_both b2.noOwn
    refine y_if b2 (r := !(ddN eq xs i).any (fun y => eq y (xs.getD i d))) (TI.own c hsc (seeOwn (x := "new_unhashable") (o := lst vs j) (by rfl) (own_list ha b2.noOwn hall)) (b_cmp v_v v_v (op_notIn fun y => (he y _).le ((l.trans li).trans hlb)))) fun ψ3 s3 l3 b3 => ?_
    have step := ddN_succ (eq := eq) (d := d) hi
    have hlen : (ddN eq xs i).length ≤ 1000000 := Nat.le_trans (ddE_length _) (by rw [List.length_take]; omega)
    have hall3 := hall.imp fun (P : VP) v y => P.mono l3 y
    cases hb : (ddN eq xs i).any (fun y => eq y (xs.getD i d)) with
    | true =>
      rw [hb] at step
      refine x_nil (x_nil ?_)
      refine ⟨_, ψ3, ωi, ⟨rfl, vs, j, ha, ?_⟩, l3, b3.retype fun m t => pk t (pk t Typ.nil), fun a o h _ => h⟩
      rw [step]; exact hall3
    | false =>
      rw [hb] at step
      refine y_app hsc b3 ha (EI.of c hsc v_v) (by have h3 := hall.length; rw [List.length_map] at h3; omega) fun v ψ6 s6 j6 l6 p6 b6 => ?_
      refine x_nil (x_nil ?_)
      refine ⟨_, ψ6, _, ⟨rfl, vs ++ [v], j6, put_self _ _ _, ?_⟩, l3.trans l6, b6.retype fun m t => pk t (pk t Typ.nil), fun a' o ho hn => ?_⟩
      · rw [step]
        simp only [Bool.false_eq_true, if_false, List.map_append, List.map_cons, List.map_nil]
        exact (hall3.imp fun (P : VP) v y => P.mono l6 y).append (.cons p6 .nil)
      · have : a' ≠ a1 := fun q => by rw [q, put_self] at hn; cases hn
        rw [put_ne this]; exact ho
  · rintro Γ' ψ' ω' s' ⟨rfl, vs, j, ha, hall⟩ l' b'
    have e : ddN eq xs xs.length = ddE eq xs := by unfold ddN; rw [List.take_length]
    rw [e] at hall
    exact x_retOwn hsc b' c ha hall
end Mine
namespace Mine
variable {prog : Program} {w : World} {X : Fix} {Γ : List (Str × VP)} {ψ ω φ : PM} {s s' : Shared} {k : Nat} {n b : Bool} {m : Str → Option Value} {μ : Md} {A : Around} {env : Env} {sc scope : Scope}
variable {E : Value → Shared → Prop}
noncomputable def rmF {α : Type} (eq : α → α → Bool) (cur : List α) (x : α) : Option (List α) := rmE (fun y => eq y x) cur
noncomputable def cmpO {α : Type} (eq : α → α → Bool) (xs ys : List α) : Bool := match (ddE eq xs).foldlM (rmF eq) (ddE eq ys) with
  | some r => r.isEmpty
  | none => false
theorem rmE_length {α : Type} {f : α → Bool} {ys ys' : List α} (h : rmE f ys = some ys') : ys'.length ≤ ys.length := by
  unfold rmE at h
  cases q : fstIdx f 0 ys with
  | none => rw [q] at h; cases h
  | some p => rw [q] at h; cases h; exact List.length_eraseIdx_le _ _
theorem spec_cao {prog : Program} {w : World} {k : Nat} {φ : PM} {a ad : Addr} {pm cd pmd cdd : Value} {α : Type} {Pp Pq : VP} {P : α → VP} {eq : α → α → Bool} {xs ys : List α} {d : α} (hlist : BN φ "list" (.type "list")) (hve : BN φ "ValueError" (.type "ValueError")) (hI : ∀ ψ, Itr prog w ⟨k + 1, true⟩ ψ Pp (xs.map P)) (hJ : ∀ ψ, Itr prog w ⟨k + 1, true⟩ ψ Pq (ys.map P)) (he : ∀ k x y, OpEq prog w ⟨k, false⟩ φ (P x) (P y) (eq x y)) (hx : xs.length ≤ 1000000) (hy : ys.length ≤ 1000000)
    (gd : GN φ "_deduplicate_unhashable" (.ref ad)) (Kd : FnK φ ad (fdOf (st2 9) "_deduplicate_unhashable" [] .none .none .none pmd cdd .none))
    (K : FnK φ a (fdOf (st2 10) "_compare_args_orderless" [] .none .none .none pm cd .none)) : Spec prog w ⟨k + 3, true⟩ φ (.ref a) [Pp, Pq] (vBool (cmpO eq xs ys)) := by
  refine spec_def (names := ["first_args", "second_args"]) K rfl rfl rfl (fun vs h => by obtain ⟨a, b, rfl⟩ := list_len2 h; rfl) (by rfl) (by rfl) (by rfl) (by rfl) (BodyX.ok ?_)
  intro X ψ s E hsc c l hft hdp b
  have hline : sizeLine = 16777216 := rfl
  have T := Top.of c hdp
  have hctx : ctxOf X.A = .none := by
    unfold ctxOf
    rw [(b.cx c).none rfl]; rfl
  have heT : ∀ x y, OpEq prog w ⟨k, true⟩ φ (P x) (P y) (eq x y) := fun x y A ψ s u v cc => he k x y A ψ s u v cc.any
  have heU : ∀ x y, OpEq prog w ⟨k + 1, true⟩ φ (P y) (P x) (eq y x) := fun x y A ψ s u v cc => he (k + 1) y x A ψ s u v cc.any
  refine y_assign b (EI.of c hsc (v_cg (NsKnows.le gd l) (Kd.le l) (e1 v_v) ((spec_ddu (d := d) hI heT hx Kd).le l))) (sto hsc) fun v ψ1 s1 l1 p1 b1 => ?_
  have L1 := l.trans l1
  refine y_assign b1 (EI.of c hsc (v_cg (NsKnows.le gd L1) (Kd.le L1) (e1 v_v) ((spec_ddu (d := d) hJ heT hy Kd).le L1))) (sto hsc) fun v ψ2 s2 l2 p2 b2 => ?_
  have L2 := L1.trans l2
  have hdx := ddE_length (eq := eq) xs
  have hdy := ddE_length (eq := eq) ys
  refine y_listCall (.inl rfl) hsc b2 c ⟨hlist.1.le L2, hlist.2.le L2⟩ (by rfl) v_v (sto hsc) (by rw [List.length_map]; omega) fun a1 vs0 j0 ψ3 s3 l3 h1 h2 hall0 b3 => ?_
  have L3 := L2.trans l3
  refine y_tryE (φ := φ) (Eb := fun e s => cmpO eq xs ys = false ∧ ∃ x ψ' ω', e = .ref x ∧ Le φ ψ' ∧ FlT X ([("t", vVal (.ref a1)), ("second_unhashable", vList ((ddE eq ys).map P)), ("first_unhashable", vList ((ddE eq xs).map P)), ("first_args", Pp), ("second_args", Pq)] : List (Str × VP)) ψ' ω' "ValueError" .none x (here X) s) hdp c hsc hve (by rfl) (by rfl) F.isExc_ValueError F.notTuple_ValueError ?_ ?_
  · refine y_for hsc b3 c v_v (src_map (f := P) (d := d) (itr_list rfl)) (fun i Γ' ψ' ω' => Γ' = ([("t", vVal (.ref a1)), ("second_unhashable", vList ((ddE eq ys).map P)), ("first_unhashable", vList ((ddE eq xs).map P)), ("first_args", Pp), ("second_args", Pq)] : List (Str × VP)) ∧ ∃ cur vs j, ((ddE eq xs).take i).foldlM (rmF eq) (ddE eq ys) = some cur ∧ cur.length ≤ 1000000 ∧ ω' a1 = some (lst vs j) ∧ All2 (fun (P : VP) v => P.p ψ' v) (cur.map P) vs) (fun i hi => stoT hsc) ?_ ?_ ?_ ?_
    · rintro i Γ' ψ' ω₁ ω₂ ⟨rfl, cur, vs, j, hc, hcl, ha, hall⟩ hω
      exact ⟨rfl, cur, vs, j, hc, hcl, by rw [hω a1 _ (put_self _ _ _)]; exact ha, hall⟩
    · intro ψ' l'
      exact ⟨rfl, ddE eq ys, vs0, j0, rfl, by omega, put_self _ _ _, hall0.imp fun (P : VP) v y => P.mono l' y⟩
    · rintro i Γi ψi ωi si hi ⟨rfl, cur, vs, j, hc, hcl, ha, hall⟩ li b4
      have Li := L3.trans li
      have hstep : ∀ r, rmF eq cur ((ddE eq xs).getD i d) = r → ((ddE eq xs).take (i + 1)).foldlM (rmF eq) (ddE eq ys) = r := fun r hr => by
        rw [List.take_add_one, List.foldlM_append, hc, List.getElem?_eq_getElem hi]
        show (rmF eq cur (ddE eq xs)[i] >>= fun b => List.foldlM (rmF eq) b []) = r
        rw [List.getD_eq_getElem?_getD, List.getElem?_eq_getElem hi] at hr
        replace hr : rmF eq cur (ddE eq xs)[i] = r := hr
        rw [← hr]
        cases rmF eq cur (ddE eq xs)[i] <;> rfl
      have hvl : vs.length = cur.length := by have := hall.length; rw [List.length_map] at this; exact this.symm
      refine y_remove (φ := φ) (f := fun y => eq y ((ddE eq xs).getD i d)) (P := P) (ys := cur) hsc b4 c ha hall (EI.of c hsc v_v) Li (heU _) (by omega) (fun ys' us ψ5 s5 j5 hr l5 hall5 b5 => ?_) fun hr x ψ5 s5 l5 f5 => ?_
      · refine x_nil ?_
        refine ⟨_, ψ5, _, ⟨rfl, ys', us, j5, hstep _ hr, Nat.le_trans (rmE_length hr) hcl, put_self _ _ _, hall5⟩, l5, b5.retype fun m t => pk t (pk t (pk t (pk t (pk t Typ.nil)))), fun a' o ho hn => ?_⟩
        have : a' ≠ a1 := fun q => by rw [q, put_self] at hn; cases hn
        rw [put_ne this]; exact ho
      · rw [hctx] at f5
        refine Fl.forE (.inl f5) c T fun s6 f6 => ⟨?_, x, ψ5, ωi, rfl, Li.trans l5, f6.retype fun m t => pk t (pk t (pk t (pk t (pk t Typ.nil))))⟩
        have h0 := hstep none hr
        have e : (ddE eq xs).foldlM (rmF eq) (ddE eq ys) = none := by
          rw [← List.take_append_drop (i + 1) (ddE eq xs), List.foldlM_append, h0]; rfl
        unfold cmpO
        rw [e]
    · rintro Γ' ψ' ω' s' ⟨rfl, cur, vs, j, hc, hcl, ha, hall⟩ l' b'
      rw [List.take_length] at hc
      refine x_nil ?_
      have e : cmpO eq xs ys = !(!(cur.map P).isEmpty) := by unfold cmpO; rw [hc]; simp
      rw [e]
      show Ex prog w X _ _ _ s'
      refine y_ret b' (EI.own c hsc (seeOwn (x := "t") (o := lst vs j) (by rfl) (own_list ha b'.noOwn hall)) (v_un v_v (op_not (tru_list (by rw [List.length_map]; omega)))) (flat_bool _))
  · rintro e s6 ⟨hcf, x, ψ6, ω6, rfl, L6, f6⟩
    refine ⟨x, _, ψ6, ω6, "ValueError", .none, rfl, L6, F.self_ValueError, .inl rfl, .inr (.inr f6), fun s7 ψ7 l7 h7 => ?_⟩
    have b7 := h7.plain
    rw [hcf]
    exact y_return b7 (EI.of c.mk2 hsc v_bool) fun v ψ' s' l2 p2 b2 => ⟨ψ', b2.toGrow, p2⟩
end Mine
namespace Mine
variable {prog : Program} {w : World} {X : Fix} {Γ : List (Str × VP)} {ψ ω φ : PM} {s s' : Shared} {k : Nat} {n b : Bool} {m : Str → Option Value} {μ : Md} {A : Around} {env : Env} {sc scope : Scope}
variable {E : Value → Shared → Prop}
section
variable {prog : Program} {w : World} {k : Nat} {n : Bool} {φ : PM} {α : Type} {Q : α → VP} {cmp : α → α → Int}
theorem K2_lt (hlim : NsKnows φ cStatics "sys.recursionlimit" none) (hH : ∀ z ψ v, (Q z).p ψ v → handedIn v = true) {K0 : Addr} (a b : α) :
    OpLt prog w ⟨k + 1, n⟩ φ (vKat K0 ds2 (vFn prog w ⟨k, n⟩ Q cmp) (Q a)) (vKat K0 ds2 (vFn prog w ⟨k, n⟩ Q cmp) (Q b)) (decide (cmp a b < 0)) := by
  refine opLt_K fun {ψ c K} l hK hc {md st kvs} hb => ?_
  obtain ⟨pm, t1, t2, fl, sl, f0, f1, f2, f3, f4, f5, tks, rfl, h1, a0, a1, a2, a3, a4, a5⟩ := hb
  obtain ⟨o, fv, ho, hod, hfv⟩ := hc
  obtain ⟨pm1, cd1, ct1, hof, _⟩ := id a1
  refine ⟨f1, _, by rfl, hof, rfl, ?_⟩
  exact spec_meth (ds := ds2) (d := ds2 1) (cc := c) a1 ho hod (hlim.le l) hfv hH (by rfl) (by rfl) (by rfl) (by rfl) ⟨_, _, _, _, _, _, _, _, _, by rfl⟩ (fun _ _ _ _ _ => by rfl) op_lt_int (fun _ => rfl)
theorem K2_make {c K : Addr} {oc : Obj} {fv : Value} {P PF : VP} (hK : KCls ds2 c φ K) (hc : φ c = some oc) (hoc : oc.data = .cell (some fv)) (hfv : PF.p φ fv) (hlim : NsKnows φ cStatics "sys.recursionlimit" none) : Spec prog w ⟨k + 6, n⟩ φ (.ref K) [P] (vKat K ds2 PF P) :=
  spec_K hK hc hoc hfv hlim (by rfl) (by rfl) (by rfl) (by rfl) ⟨_, _, _, _, by rfl⟩ (fun _ _ _ _ _ => by rfl)
end
end Mine
set_option maxHeartbeats 400000
namespace Mine
noncomputable abbrev vPair (p : Int × Int) : VP := vTup [vInt p.1, vInt p.2]
noncomputable def prs : List (Int × Int) := [(0, 2), (1, 2), (0, 3), (1, 3), (2, 3)]
noncomputable def odd (ns : List Int) (k : Nat) : Bool := ((pickL ns (some (k : Int)) none (some 5)).sum + k).fmod 2 == 1
noncomputable def maskTest (ns : List Int) (later : Int) (k : Nat) : Bool := ((prs.getD k (0, 0)).2 == later) && (odd ns k && true)
noncomputable def maskUp (ns ms : List Int) (later : Int) : Nat → Int
  | 0 => 2 ^ later.toNat
  | k + 1 => if maskTest ns later k then Builtin.bitOr (maskUp ns ms later k) (ms.getD (prs.getD k (0, 0)).1.toNat 0) else maskUp ns ms later k
noncomputable def masksUp (ns : List Int) : Nat → List Int
  | 0 => [1, 3]
  | i + 1 => masksUp ns i ++ [maskUp ns (masksUp ns i) (2 + i) 5]
theorem masksUp_length (ns : List Int) : ∀ i, (masksUp ns i).length = 2 + i
  | 0 => rfl
  | i + 1 => by show (masksUp ns i ++ [_]).length = _; rw [List.length_append, masksUp_length ns i]; rfl
theorem spec_masks {prog : Program} {w : World} {k : Nat} {φ : PM} {a : Addr} {pm cd : Value} {ns : List Int} (T : Top2 φ) (hns : ns.length ≤ 63) (K : FnK φ a (fdOf (st2 12) "_law_masks" [] .none .none .none pm cd .none)) :
    Spec prog w ⟨k + 10, true⟩ φ (.ref a) [vList (ns.map vInt)] (vList ((masksUp ns 2).map vInt)) := by
  refine spec_def (names := ["script"]) K rfl rfl rfl (fun vs h => by obtain ⟨a, rfl⟩ := list_len1 h; rfl) (by rfl) (by rfl) (by rfl) (by rfl) (BodyX.ok ?_)
  intro X ψ s E hsc c l hft hdp b
  have hline : sizeLine = 16777216 := rfl
  refine y_listS hsc b c (e2 v_int v_int) (by decide) (sto hsc) fun a vs0 ψ1 s1 h1 h2 l1 hvs0 b1 => ?_
  refine y_assign (P := vList (prs.map vPair)) b1 (EI.of c hsc (v_list (ec (v_tup (e2 v_int v_int) (by decide)) (ec (v_tup (e2 v_int v_int) (by decide)) (ec (v_tup (e2 v_int v_int) (by decide)) (ec (v_tup (e2 v_int v_int) (by decide)) (e1 (v_tup (e2 v_int v_int) (by decide))) (by rfl)) (by rfl)) (by rfl)) (by rfl)) (by decide))) (sto hsc) fun v ψ2 s2 l2 p2 b2 => ?_
  have L2 := l1.trans l2
  refine y_for hsc b2 c (v_ct (T.le (l.trans L2)).range (e2 v_int v_int) op_range2) (src_range rfl (nn := 2) (by rfl) (by rfl))
    (fun i Γ' ψ' ω' => Γ' = ([("pairs", vList (prs.map vPair)), ("masks", vVal (.ref a)), ("script", vList (ns.map vInt))] : List (Str × VP)) ∧ ∃ vs j, ω' a = some (lst vs j) ∧ All2 (fun (P : VP) v => P.p ψ' v) ((masksUp ns i).map vInt) vs) (fun i hi => stoT hsc) ?_ ?_ ?_ ?_
  · rintro i Γ' ψ' ω₁ ω₂ ⟨rfl, vs, j, ha, hall⟩ hω
    exact ⟨rfl, vs, j, by rw [hω a _ (put_self _ _ _)]; exact ha, hall⟩
  · intro ψ' l'
    exact ⟨rfl, vs0, 0, put_self _ _ _, hvs0.imp fun (P : VP) v x => P.mono (l2.trans l') x⟩
  · rintro i Γi ψi ωi si hi ⟨rfl, vs, j, ha, hall⟩ li b3
    refine y_assign (P := vInt (maskUp ns (masksUp ns i) (2 + i) 0)) b3 (EI.of c hsc (v_bin v_int v_v (op_pow_int (by omega) (by omega) (by decide)))) (sto hsc) fun v ψ4 s4 l4 p4 b4 => ?_
    have T4 := T.le (l.trans (L2.trans (li.trans l4)))
    refine y_for hsc b4 c (v_ct T4.range (e1 v_int) op_range1) (src_range0 rfl (nn := 5) (by rfl) (by rfl))
      (fun q Γ' ψ' ω' => Γ' = ([("mask", vInt (maskUp ns (masksUp ns i) (2 + i) q)), ("later", vInt (2 + i)), ("pairs", vList (prs.map vPair)), ("masks", vVal (.ref a)), ("script", vList (ns.map vInt))] : List (Str × VP)) ∧ ∀ a' o, ωi a' = some o → ω' a' = some o) (fun i hi => stoT hsc) ?_ ?_ ?_ ?_
    · rintro q Γ' ψ' ω₁ ω₂ ⟨rfl, h⟩ hω
      exact ⟨rfl, fun a' o ho => by rw [hω a' o ho]; exact h a' o ho⟩
    · intro ψ' l'
      exact ⟨rfl, fun _ _ h => h⟩
    · rintro q Γq ψq ωq sq hq ⟨rfl, hω⟩ lq b5
      have Tq := T4.le lq
      have hprs : prs.length = 5 := rfl
      refine y_if b5 (r := maskTest ns (2 + i) q) (TI.of c hsc (b_and (b_cmp (v_subT (v_subL v_v v_v (get_map (f := vPair) (d := (0, 0)) (by rw [hprs]; exact hq) (by decide))) v_int (get_tup (i := 1) (by decide) (by rfl))) v_v op_eq_int) fun _ => b_and (b_cmp (v_bin (v_bin
        (v_cb Tq.sum (e1 (v_subL v_v (v_slice (p_some v_v) evp0 (p_some v_int)) (get_sliceM (by decide) (by omega)))) (call_sum (itr_list rfl))) v_v op_add_int) v_int (op_mod_int (by decide))) v_int op_eq_int) fun _ => b_and0)) fun ψ6 s6 l6 b6 => ?_
      cases hb : maskTest ns (2 + i) q with
      | true =>
        have e : maskUp ns (masksUp ns i) (2 + i) (q + 1) = Builtin.bitOr (maskUp ns (masksUp ns i) (2 + i) q) ((masksUp ns i).getD (prs.getD q (0, 0)).1.toNat 0) := by show (if maskTest ns (2 + i) q = true then _ else _) = _; rw [hb]; rfl
        have h2 : (prs.getD q (0, 0)).2 = 2 + i := by
          unfold maskTest at hb
          simp only [Bool.and_eq_true, beq_iff_eq] at hb
          exact hb.1
        have h3 : ∀ q < 5, 0 ≤ (prs.getD q (0, 0)).1 ∧ (prs.getD q (0, 0)).1 < (prs.getD q (0, 0)).2 := by decide
        have h4 := h3 q hq
        have ha6 := hω a _ ha
        have hlen := masksUp_length ns i
        have hall6 := hall.imp fun (P : VP) v x => P.mono (l4.trans (lq.trans l6)) x
        refine y_aug (R := vInt (maskUp ns (masksUp ns i) (2 + i) (q + 1))) hsc b6 c (EI.own c hsc (seeOwn (x := "masks") (o := lst vs j) (by rfl) (own_list ha6 b6.noOwn hall6)) (v_subL v_v (v_subT (v_subL v_v v_v (get_map (f := vPair) (d := (0, 0)) (by rw [hprs]; exact hq) (by decide))) v_int (get_tup (i := 0) (by decide) (by rfl))) (get_intsZ h4.1 (by omega) (by omega))) (flat_int _)) (by rw [e]; exact iop_or_int) (sto hsc) fun v ψ7 s7 l7 p7 b7 => ?_
        refine x_nil (x_nil ?_)
        exact ⟨_, ψ7, ωq, ⟨rfl, hω⟩, l6.trans l7, b7.retype fun m t => pk t (pk t (pk t (pk t (pk t Typ.nil)))), fun a' o ho _ => ho⟩
      | false =>
        have e : maskUp ns (masksUp ns i) (2 + i) (q + 1) = maskUp ns (masksUp ns i) (2 + i) q := by show (if maskTest ns (2 + i) q = true then _ else _) = _; rw [hb]; rfl
        refine x_nil (x_nil ?_)
        exact ⟨_, ψ6, ωq, ⟨by rw [e], hω⟩, l6, b6.retype fun m t => pk t (pk t (pk t (pk t (pk t Typ.nil)))), fun a' o ho _ => ho⟩
    · rintro Γ' ψ' ω' s' ⟨rfl, hω⟩ l' b'
      have ha' := hω a _ ha
      have hl' : Le ψi ψ' := l4.trans l'
      have hall' := hall.imp fun (P : VP) v x => P.mono hl' x
      have hlen := masksUp_length ns i
      refine y_app hsc b' ha' (EI.of c hsc v_v) (by have h3 := hall.length; rw [List.length_map] at h3; omega) fun v ψ6 s6 j6 l6 p6 b6 => ?_
      refine x_nil ?_
      refine ⟨_, ψ6, _, ⟨rfl, vs ++ [v], j6, put_self _ _ _, ?_⟩, hl'.trans l6, b6.retype fun m t => pk t (pk t (pk t Typ.nil)), fun a' o ho hn => ?_⟩
      · show All2 _ ((masksUp ns i ++ [maskUp ns (masksUp ns i) (2 + i) 5]).map vInt) _
        simp only [List.map_append, List.map_cons, List.map_nil]
        exact (hall'.imp fun (P : VP) v x => P.mono l6 x).append (.cons p6 .nil)
      · have : a' ≠ a := fun q => by rw [q, put_self] at hn; cases hn
        rw [put_ne this]; exact hω a' o ho
  · rintro Γ' ψ' ω' s' ⟨rfl, vs, j, ha, hall⟩ l' b'
    exact x_retOwn hsc b' c ha hall
end Mine
namespace Mine
variable {prog : Program} {w : World} {X : Fix} {Γ : List (Str × VP)} {ψ ω φ : PM} {s s' : Shared} {k : Nat} {n b : Bool} {m : Str → Option Value} {μ : Md} {A : Around} {env : Env} {sc scope : Scope}
variable {E : Value → Shared → Prop}
noncomputable def rowsOf (ms : List Int) : List (List Nat) := ms.map setOf
noncomputable def setsOf (ms : List Int) : List (List Nat) := (rowsOf ms).foldl grown [[]]
noncomputable def bitsOf (ms : List Int) : List Int := allUp ms 16
noncomputable def wordsL : List (List Nat) := (List.range 16).map fun (m : Nat) => setOf m
noncomputable def st (sets : List (List Nat)) (k : Nat) : List Nat := sets.getD k []
noncomputable def keepW (sets : List (List Nat)) (k j : Nat) : Bool := ((j : Int) != (k : Int)) && ((wsld (st sets j) (st sets k)).1.isEmpty && true)
noncomputable def within (sets : List (List Nat)) (k : Nat) : List (List Nat) := ((List.range sets.length).filter (keepW sets k)).map (st sets)
noncomputable def madeOf (sets : List (List Nat)) (k : Nat) : List Nat := (within sets k).foldl join []
noncomputable def keepL (sets : List (List Nat)) (k j : Nat) : Bool := (wsld (st sets j) (st sets k)).1.isEmpty && ((((wsld (st sets j) (st sets k)).2.length : Int) == 1) && true)
noncomputable def lackL (sets : List (List Nat)) (k : Nat) : List Nat := ((List.range sets.length).filter (keepL sets k)).map fun j => (wsld (st sets j) (st sets k)).2.headD 0
noncomputable def alikeOf (sets : List (List Nat)) (k : Nat) : Bool := cmpO weq (st sets k) (madeOf sets k)
noncomputable def lEq : List Nat → List Nat → Bool
  | [], [] => true
  | x :: xs, y :: ys => weq x y && lEq xs ys
  | _, _ => false
noncomputable def diffs (xs : List (List Nat)) : List (List (List Nat × List Nat)) := xs.map fun one => xs.map fun other => wsld one other
noncomputable def lessBits (x y : Int) : Int := Builtin.bitAnd x (Builtin.bitNot y)
noncomputable def diffsB (bits : List Int) : List (List (List Nat × List Nat)) := bits.map fun x => bits.map fun y => (wordsL.getD (lessBits x y).toNat [], wordsL.getD (lessBits y x).toNat [])
noncomputable def wltL (x y : Nat) : Bool := lexC weq wlt (decide (([x] : List Nat).length < ([y] : List Nat).length)) [x] [y]
noncomputable def topsOf (ms : List Int) (bits : List Int) (k : Nat) : List Int := topsUp ms (bits.getD k 0) 4
noncomputable def topsRows (ms : List Int) (ts : List Int) : List (List Nat) := ts.map fun t => (rowsOf ms).getD t.toNat []
noncomputable def wholeUp (sets : List (List Nat)) : Nat → List (List Nat)
  | 0 => []
  | k + 1 => if alikeOf sets k then wholeUp sets k else wholeUp sets k ++ [st sets k]
noncomputable def cmpLen (a b : List Nat) : Int := b2i (decide ((b.length : Int) < a.length)) - b2i (decide ((a.length : Int) < b.length))
noncomputable def sizeLt (a b : List Nat) : Bool := decide (cmpLen a b < 0)
noncomputable def bySize (sets : List (List Nat)) : List (List Nat) := (List.range 5).flatMap fun (size : Nat) => ((List.range sets.length).filter fun j => ((st sets j).length : Int) == (size : Int)).map (st sets)
noncomputable def small (l : List (List Nat)) (n : Nat) : Bool := decide (l.length ≤ n) && l.all fun x => decide (x.length ≤ 31)
structure G2 (ms : List Int) : Prop where
  c1 : setsOf ms = (bitsOf ms).map setOf
  c2 : diffs (setsOf ms) = diffsB (bitsOf ms)
  c2r : ∀ x ∈ bitsOf ms, ∀ y ∈ bitsOf ms, 0 ≤ lessBits x y ∧ (lessBits x y).toNat < 16
  c3 : ∀ k < (setsOf ms).length, alikeOf (setsOf ms) k = lEq (st (setsOf ms) k) (madeOf (setsOf ms) k) ∧ cmpO weq (madeOf (setsOf ms) k).reverse (st (setsOf ms) k ++ st (setsOf ms) k) = alikeOf (setsOf ms) k
  c4 : ∀ k < (setsOf ms).length, (sortL wltL 0 (lackL (setsOf ms) k)).map (fun x => [x]) = (topsOf ms (bitsOf ms) k).map fun t => wordsL.getD ((2 : Int) ^ t.toNat).toNat []
  c5 : ∀ k < (setsOf ms).length, (topsRows ms (topsOf ms (bitsOf ms) k)).foldl join [] = st (setsOf ms) k
  c5r : ∀ k < (setsOf ms).length, ∀ t ∈ topsOf ms (bitsOf ms) k, 0 ≤ t ∧ t < 4
  c6 : wholeUp (setsOf ms) (setsOf ms).length = rowsOf ms
  c7 : sortL sizeLt [] (setsOf ms) = bySize (setsOf ms)
  l0 : ms.length = 4
  l1 : 2 ≤ (setsOf ms).length ∧ (setsOf ms).length ≤ 16
  l2 : ∀ i < 4, small (foldN grown [[]] (rowsOf ms) i) 100 = true
  l3 : small (rowsOf ms) 4 = true ∧ small (setsOf ms) 16 = true
  l4 : ∀ k < (setsOf ms).length, ∀ i < 16, (foldN join [] (within (setsOf ms) k) i).length ≤ 31 ∧ (madeOf (setsOf ms) k).length ≤ 31
  l5 : ∀ k < (setsOf ms).length, ∀ i < 16, (foldN join [] (topsRows ms (topsOf ms (bitsOf ms) k)) i).length ≤ 31
  l6 : ∀ k < (setsOf ms).length, (lackL (setsOf ms) k).length ≤ 16 ∧ (topsOf ms (bitsOf ms) k).length ≤ 4
noncomputable def masksF (f : Nat → Bool) (i : Nat) : List Int := match i with
  | 0 => [1, 3]
  | i + 1 => masksF f i ++ [maskUpF f (masksF f i) (2 + i) 5]
where maskUpF (f : Nat → Bool) (ms : List Int) (later : Int) : Nat → Int
  | 0 => 2 ^ later.toNat
  | k + 1 => if ((prs.getD k (0, 0)).2 == later) && (f k && true) then Builtin.bitOr (maskUpF f ms later k) (ms.getD (prs.getD k (0, 0)).1.toNat 0) else maskUpF f ms later k
noncomputable def msOf (a b c d e : Bool) : List Int := masksF (fun k => [a, b, c, d, e].getD k false) 2
theorem masks_is (ns : List Int) : masksUp ns 2 = msOf (odd ns 0) (odd ns 1) (odd ns 2) (odd ns 3) (odd ns 4) := by rfl
theorem g2_all (a b c d e : Bool) : G2 (msOf a b c d e) := by
  constructor <;> (revert a b c d e; decide +kernel)
end Mine
namespace Mine
variable {prog : Program} {w : World} {X : Fix} {Γ : List (Str × VP)} {ψ ω φ : PM} {s s' : Shared} {k : Nat} {n b : Bool} {m : Str → Option Value} {μ : Md} {A : Around} {env : Env} {sc scope : Scope}
variable {E : Value → Shared → Prop}
noncomputable abbrev vL (x : List Nat) : VP := vList (x.map vW)
noncomputable abbrev vPr (p : List Nat × List Nat) : VP := vTup [vL p.1, vL p.2]
noncomputable abbrev vRow (r : List (List Nat × List Nat)) : VP := vList (r.map vPr)
noncomputable def DOk (n : Nat) (d : PyData) : Prop := d.canLay0 = true ∧ d.depth ≤ n
theorem dok_all {n : Nat} : ∀ {ds : List PyData}, (∀ d ∈ ds, DOk n d) → PyData.canLayAll0 ds = true ∧ PyData.depthAll ds ≤ n
  | [], _ => ⟨rfl, Nat.zero_le _⟩
  | d :: ds, h => by
    have h1 := h d (.head _)
    have h2 := dok_all fun x hx => h x (.tail _ hx)
    exact ⟨by show (d.canLay0 && PyData.canLayAll0 ds) = true; rw [h1.1, h2.1]; rfl, by show max d.depth (PyData.depthAll ds) ≤ n; exact Nat.max_le.mpr ⟨h1.2, h2.2⟩⟩
theorem dok_list {n : Nat} {ds : List PyData} (h : ∀ d ∈ ds, DOk n d) : DOk (n + 1) (.list ds) := ⟨(dok_all h).1, by have := (dok_all h).2; show PyData.depthAll ds + 1 ≤ n + 1; omega⟩
theorem dok_tup {n : Nat} {ds : List PyData} (h : ∀ d ∈ ds, DOk n d) : DOk (n + 1) (.tuple ds) := ⟨(dok_all h).1, by have := (dok_all h).2; show PyData.depthAll ds + 1 ≤ n + 1; omega⟩
theorem dok_map {α : Type} {n : Nat} {f : α → PyData} {l : List α} (h : ∀ x, DOk n (f x)) : ∀ d ∈ l.map f, DOk n d := fun d hd => by obtain ⟨x, _, rfl⟩ := List.mem_map.mp hd; exact h x
noncomputable def dW (i : Nat) : PyData := .str (word i)
theorem dok_W (i : Nat) : DOk 0 (dW i) := by
  unfold dW
  rw [word_wi]
  have h : ∀ a < 4, (PyData.str (word a)).canLay0 = true := by decide +kernel
  exact ⟨h _ (wi_lt i), Nat.le_refl _⟩
noncomputable abbrev dS (x : List Nat) : PyData := .tuple (x.map dW)
noncomputable abbrev dL (x : List Nat) : PyData := .list (x.map dW)
noncomputable abbrev dPr (p : List Nat × List Nat) : PyData := .tuple [dL p.1, dL p.2]
theorem dok_S (x : List Nat) : DOk 1 (dS x) := dok_tup (dok_map dok_W)
theorem dok_L (x : List Nat) : DOk 1 (dL x) := dok_list (dok_map dok_W)
theorem dok_Pr (p : List Nat × List Nat) : DOk 2 (dPr p) := dok_tup fun d hd => by
  rcases List.mem_cons.mp hd with rfl | hd
  · exact dok_L _
  · rw [List.mem_singleton.mp hd]; exact dok_L _
theorem rd_W (i : Nat) : Rd (vW i) (dW i) := rd_str _
theorem rd_S (x : List Nat) : Rd (vS x) (dS x) := rd_tup (rd_map rd_W x)
theorem rd_L (x : List Nat) : Rd (vL x) (dL x) := rd_list (rd_map rd_W x)
theorem rd_Pr (p : List Nat × List Nat) : Rd (vPr p) (dPr p) := rd_tup (.cons (rd_L _) (.cons (rd_L _) .nil))
theorem dok_shaped {n : Nat} {d : PyData} (h : DOk n d) (hn : n ≤ 64) : PySem.SeqAt.shaped d = true := by
  unfold PySem.SeqAt.shaped
  rw [h.1, decide_eq_true (Nat.le_trans h.2 hn)]; rfl
section
variable {prog : Program} {w : World} {μ : Md} {φ : PM} {P Q : VP} {d : PyData} {n : Nat}
theorem op_ne_same (hk : 7 ≤ μ.k) (hp : Rd P d) (hq : Rd Q d) (hd : DOk n d) (hn : n ≤ 64) : Op2 prog w μ φ (compareOp .NotEq) P Q (vBool false) := by
  have h := op_ne_data (prog := prog) (w := w) (φ := φ) hk hp hq (dok_shaped hd hn) (dok_shaped hd hn)
  rw [SeqAt.eqv_refl d hd.1] at h
  exact h
theorem op_eq_same (hk : 7 ≤ μ.k) (hp : Rd P d) (hq : Rd Q d) (hd : DOk n d) (hn : n ≤ 64) : Op2 prog w μ φ (compareOp .Eq) P Q (vBool true) := by
  have h := op_eq_data (prog := prog) (w := w) (φ := φ) hk hp hq (dok_shaped hd hn) (dok_shaped hd hn)
  rw [SeqAt.eqv_refl d hd.1] at h
  exact h
end
theorem eqv_S : ∀ (x y : List Nat), PyData.eqv (dS x) (dS y) = lEq x y := by
  have : ∀ (x y : List Nat), PyData.eqvAll (x.map dW) (y.map dW) = lEq x y := by
    intro x
    induction x with
    | nil => intro y; cases y <;> rfl
    | cons a x ih =>
      intro y
      cases y with
      | nil => rfl
      | cons b y =>
        show (PyData.eqv (dW a) (dW b) && PyData.eqvAll (x.map dW) (y.map dW)) = (weq a b && lEq x y)
        rw [ih]
        have : PyData.eqv (dW a) (dW b) = weq a b := by rw [← weq_is]; rfl
        rw [this]
  intro x y
  exact this x y
theorem keep_all' {f : Nat → VP} {n : Nat} : ((List.range n).filter fun _ => true).map f = (List.range n).map f := by rw [List.filter_eq_self.mpr (fun _ _ => rfl)]
theorem EV.conv {prog : Program} {w : World} {μ : Md} {sc : Scope} {Γ : List (Str × VP)} {φ : PM} {e : Expr} {P P' : VP} (h : EV prog w μ sc Γ φ e P) (q : P = P') : EV prog w μ sc Γ φ e P' := q ▸ h
structure Law2 (φ : PM) (a clw Plaw Pctk : Addr) : Prop where
  F : Fn2 φ
  law : ∃ pm, FnK φ a (fdOf (st2 18) "law" [] .none .none .none pm (.ref clw) .none)
  lawC : CodeHdP φ clw Plaw
  masks : ∃ a pm cd, GN φ "_law_masks" (.ref a) ∧ FnK φ a (fdOf (st2 12) "_law_masks" [] .none .none .none pm cd .none)
  set : ∃ a pm cd, GN φ "_law_set" (.ref a) ∧ FnK φ a (fdOf (st2 13) "_law_set" [] .none .none .none pm cd .none)
  grown : ∃ a pm cd, GN φ "_law_grown" (.ref a) ∧ FnK φ a (fdOf (st2 15) "_law_grown" [] .none .none .none pm cd .none)
  all : ∃ a pm cd, GN φ "_law_all" (.ref a) ∧ FnK φ a (fdOf (st2 16) "_law_all" [] .none .none .none pm cd .none)
  tops : ∃ a pm cd, GN φ "_law_tops" (.ref a) ∧ FnK φ a (fdOf (st2 17) "_law_tops" [] .none .none .none pm cd .none)
  reduce : ∃ a T im oT nT oim pm cd, GN φ "reduce" (.ref a) ∧ FnK φ a (fdOf (st2 6) "reduce" [] (.ref T) .none .none pm cd .none) ∧ φ T = some oT ∧ oT.data = .seq #[.ref im] nT ∧ GN φ "_initial_missing" (.ref im) ∧ φ im = some oim ∧ oim.cls = .type "object"
  iter : BN φ "iter" (.builtin "iter")
  ve : BN φ "ValueError" (.type "ValueError")
  ddu : ∃ a pm cd, GN φ "_deduplicate_unhashable" (.ref a) ∧ FnK φ a (fdOf (st2 9) "_deduplicate_unhashable" [] .none .none .none pm cd .none)
  cao : ∃ a pm cd, GN φ "_compare_args_orderless" (.ref a) ∧ FnK φ a (fdOf (st2 10) "_compare_args_orderless" [] .none .none .none pm cd .none)
  three : ∃ a pm cd, GN φ "three_way_cmp" (.ref a) ∧ FnK φ a (fdOf (st2 2) "three_way_cmp" [] .none .none .none pm cd .none)
  ctk : ∃ a cc pm, GN φ "cmp_to_key" (.ref a) ∧ FnK φ a (fdOf (st2 4) "cmp_to_key" [] .none .none .none pm (.ref cc) .none) ∧ CodeHdP φ cc Pctk
  obj : BN φ "object" (.type "object")
  bc : NsKnows φ builtinsNs "__build_class__" (some (.builtin "__build_class__"))
  any : NsKnows φ cStatics "thirdparty.any" none
  mkT : TopMk φ
  lim : NsKnows φ cStatics "sys.recursionlimit" none
end Mine
namespace Mine
variable {prog : Program} {w : World} {X : Fix} {Γ : List (Str × VP)} {ψ ω φ : PM} {s s' : Shared} {k : Nat} {n b : Bool} {m : Str → Option Value} {μ : Md} {A : Around} {env : Env} {sc scope : Scope}
variable {E : Value → Shared → Prop}
theorem EV.imp {prog : Program} {w : World} {μ : Md} {sc : Scope} {Γ : List (Str × VP)} {φ : PM} {e : Expr} {P P' : VP} (h : EV prog w μ sc Γ φ e P) (q : ∀ ψ v, P.p ψ v → P'.p ψ v) : EV prog w μ sc Γ φ e P' :=
  ⟨fun A env m ψ s he c l f t => wpAny_mono (h.go A env m ψ s he c l f t) (fun v s' ⟨ψ', g, p⟩ => ⟨ψ', g, q ψ' v p⟩) fun _ _ x => x⟩
theorem all2_re {α : Type} {P P' : α → VP} {ψ : PM} : ∀ {xs : List α} {vs : List Value}, (∀ x ∈ xs, ∀ v, (P x).p ψ v → (P' x).p ψ v) → All2 (fun (P : VP) v => P.p ψ v) (xs.map P) vs → All2 (fun (P : VP) v => P.p ψ v) (xs.map P') vs
  | [], [], _, .nil => .nil
  | x :: xs, v :: vs, h, .cons a t => .cons (h x (.head _) v a) (all2_re (fun y hy => h y (.tail _ hy)) t)
theorem vList_re {α : Type} {P P' : α → VP} {xs : List α} (h : ∀ x ∈ xs, ∀ ψ v, (P x).p ψ v → (P' x).p ψ v) (ψ : PM) (v : Value) (p : (vList (xs.map P)).p ψ v) : (vList (xs.map P')).p ψ v := by
  obtain ⟨a, vs, j, e, ho, hall⟩ := p
  exact ⟨a, vs, j, e, ho, all2_re (fun x hx v => h x hx ψ v) hall⟩
noncomputable def vS' (x : List Nat) : VP := ⟨fun ψ v => x.length ≤ 31 ∧ (vS x).p ψ v, fun l ⟨h, p⟩ => ⟨h, (vS x).mono l p⟩⟩
theorem put_id {ω : PM} {a : Addr} {o : Obj} (h : ω a = some o) : put ω a o = ω := by
  funext b
  by_cases q : b = a
  · subst q; rw [put_self, h]
  · rw [put_ne q]
theorem y_ifApp {prog : Program} {w : World} {X : Fix} {Γ : List (Str × VP)} {ψ ω : PM} {s : Shared} {sc : Scope} {rest : List Stmt} {Q : Flow → Shared → Prop} {E : Value → Shared → Prop} {t e : Expr} {r : Bool} {x : Str} {px ap cpos pos ipos : Pos} {P : VP} {ps : List VP} {a : Addr} {vs : List Value} {j : Nat} (hsc : X.env.scope = sc) (b : B X Γ ψ ω s) (ht : TI prog w X Γ ψ ω t r) (ha : ω a = some (lst vs j)) (hall : All2 (fun (P : VP) v => P.p ψ v) ps vs) (h : ∀ ψ', Le ψ ψ' → EI prog w X Γ ψ' ω e P) (hsz : vs.length ≤ sizeLine)
    (q : ∀ ψ' s' vs' j', Le ψ ψ' → All2 (fun (P : VP) v => P.p ψ' v) (ps ++ if r then [P] else []) vs' → B X Γ ψ' (put ω a (lst vs' j')) s' → Ex prog w X rest Q E s')
    (hx : Γ.lookup x = some (vVal (.ref a)) := by rfl) (hv : isVar (sc.names.lookup x) = true := by rfl) (hd : (x == ("__debug__" : Str) || x == ("__classdict__" : Str)) = false := by rfl) (hn : notStar e = true := by rfl) (hl : (ap.endLine == cpos.line) = true := by rfl) :
    Ex prog w X (.If t [.Expr (.Call (.Attribute (.Name x px) "append" ap) [e] [] cpos) ipos] [] pos :: rest) Q E s := by
  refine y_if b ht fun ψ1 s1 l1 b1 => ?_
  cases r with
  | true =>
    refine y_app hsc b1 ha (h ψ1 l1) hsz (fun v ψ2 s2 j2 l2 p2 b2 => ?_) hx hv hd hn hl
    refine x_nil ?_
    exact q ψ2 s2 _ j2 (l1.trans l2) ((hall.imp fun (P : VP) v y => P.mono (l1.trans l2) y).append (.cons p2 .nil)) b2
  | false =>
    refine x_nil ?_
    exact q ψ1 s1 vs j l1 (by simpa using hall.imp fun (P : VP) v y => P.mono l1 y) (by rw [put_id ha]; exact b1)
theorem swaps_cell {X : Fix} {sc : Scope} {elt : Expr} {gs : List Comprehension} {scope : Scope} {p pos : Pos} {t : Str} {line : Nat} (hsc : X.env.scope = sc) (hk : sc.names.lookup t = some .cell) : swapsWith (.ListComp elt gs scope p) (some (.Name t pos)) line X.env = pure false := by
  have e : X.env.kindOf t = some .cell := by show X.env.scope.names.lookup t = _; rw [hsc]; exact hk
  show (pure (X.env.blockKind == .function && X.env.kindOf t == some .local && pos.line == p.line && !(scope.names.any fun (n, k) => n == t && (k == .local || k == .cell))) : Sem Bool) = pure false
  rw [e]
  have : ((some NameKind.cell : Option NameKind) == some .local) = false := by decide
  rw [this]
  simp
theorem swaps_local {X : Fix} {sc : Scope} {elt : Expr} {gs : List Comprehension} {scope : Scope} {p pos : Pos} {t : Str} {line : Nat} (hsc : X.env.scope = sc) (hf : sc.kind = .function) (hk : sc.names.lookup t = some .local) (hl : (pos.line == p.line) = true) (hs : (scope.names.any fun (n, k) => n == t && (k == .local || k == .cell)) = false) : swapsWith (.ListComp elt gs scope p) (some (.Name t pos)) line X.env = pure true := by
  have e : X.env.kindOf t = some .local := by show X.env.scope.names.lookup t = _; rw [hsc]; exact hk
  show (pure (X.env.blockKind == .function && X.env.kindOf t == some .local && pos.line == p.line && !(scope.names.any fun (n, k) => n == t && (k == .local || k == .cell))) : Sem Bool) = pure true
  have e2 : X.env.blockKind = .function := by
    unfold Env.blockKind
    rw [hsc, hf]; rfl
  rw [e, e2, hl, hs]
  rfl
theorem range_small {b : Int} (h0 : 0 ≤ b) (h1 : b ≤ 1000) : Builtin.Range.small 0 b 1 = true := by
  have f : ∀ x : Int, 0 ≤ x → x ≤ 1000 → Builtin.Range.rangeFitsLong x = true := fun x h1 h2 => by unfold Builtin.Range.rangeFitsLong; simp; omega
  have hb := f b h0 h1
  have hz := f (Builtin.Range.rangeSize 0 b 1) (by rw [rangeSize_one]; split <;> omega) (by rw [rangeSize_one]; split <;> omega)
  unfold Builtin.Range.small
  simp [f 0 (by omega) (by omega), f 1 (by omega) (by omega), hb, hz]
theorem src_len {prog : Program} {w : World} {μ : Md} {φ : PM} {x : Str} {px : Pos} {ps : List VP} {nn : Nat} (hn : μ.n = true) (e : ps.length = nn) (h : nn ≤ 1000) : Src prog w μ φ (.Name x px) (vRange 0 (ps.length : Int)) nn (fun i => [(x, vInt (i : Nat))]) :=
  src_range0 hn (by omega) (range_small (by omega) (by omega))
theorem small_len {l : List (List Nat)} {n : Nat} (h : small l n = true) : l.length ≤ n ∧ ∀ x ∈ l, x.length ≤ 31 := by
  unfold small at h
  rw [Bool.and_eq_true] at h
  exact ⟨of_decide_eq_true h.1, fun x hx => of_decide_eq_true (List.all_eq_true.mp h.2 x hx)⟩
theorem law2_walk {prog : Program} {w : World} {k : Nat} {φ ψ : PM} {A : Around} {s : Shared} {a clw Plaw Pctk : Addr} {ns : List Int} {sv : Value} {Q : Value → Shared → Prop} {E : Value → Shared → Prop} (T : Law2 φ a clw Plaw Pctk) (hns : ns.length ≤ 63) (c0 : Cx ⟨k + 61, true⟩ A ψ s) (l0 : Le φ ψ) (hsv : (vList (ns.map vInt)).p ψ sv) (hne : Plaw ≠ Pctk)
    (h1 : s.heap.get? Plaw = some (tabObj #[]) ∧ ψ Plaw = none ∧ Plaw ∉ frs A) (h2 : s.heap.get? Pctk = some (tabObj #[]) ∧ ψ Pctk = none ∧ Pctk ∉ frs A)
    (hq : ∀ ψ' s', Grow (Plaw :: Pctk :: frs A) ψ s ψ' s' → Q (.bool true) s') : wpAny (model prog w) A (call (.ref a) [sv]) Q E s := by
  obtain ⟨pm, K⟩ := T.law
  have G : G2 (masksUp ns 2) := by rw [masks_is]; exact g2_all _ _ _ _ _
  refine enter_cells (k := k + 60) (tb := [(Plaw, tabObj #[]), (Pctk, tabObj #[])]) (binds := [("script", sv)]) (fun p hp => ?_) c0 (K.le l0) rfl rfl (BindsTo.of_eq (by rfl)) (by rfl) (by rfl) (by rfl) fun env s' he hcd x' => ?_
  · rcases List.mem_cons.mp hp with rfl | hp
    · exact h1
    · rw [List.mem_singleton.mp hp]; exact h2
  have hcx : CX ⟨k + 60, true⟩ ⟨A, A.deeper env, ψ, s, env.locals :: env.cells.map (·.2), env, none, [(Plaw, tabObj #[]), (Pctk, tabObj #[])]⟩ := CX.of c0 rfl
  have hdp : Deep ⟨A, A.deeper env, ψ, s, env.locals :: env.cells.map (·.2), env, none, [(Plaw, tabObj #[]), (Pctk, tabObj #[])]⟩ := ⟨rfl, x'.dp rfl rfl⟩
  have hft : ∀ c ∈ env.cells.map (·.2), c ∈ env.locals :: env.cells.map (·.2) := fun c hc => List.mem_cons_of_mem _ hc
  have hX : ∃ X : Fix, X = ⟨A, A.deeper env, ψ, s, env.locals :: env.cells.map (·.2), env, none, [(Plaw, tabObj #[]), (Pctk, tabObj #[])]⟩ := ⟨_, rfl⟩
  obtain ⟨X, hX⟩ := hX
  have eA : A.deeper env = X.A := by rw [hX]
  have eenv : env = X.env := by rw [hX]
  rw [← hX] at hcx hdp x'
  have c : CX ⟨k + 60, true⟩ X := hcx
  have hsc : X.env.scope = (fdOf (st2 18) "law" [] .none .none .none pm (.ref clw) .none).scope := by rw [← eenv]; exact he
  have hcode : X.env.code = .ref clw := by rw [← eenv]; exact hcd.1
  have hft' : ∀ c ∈ X.env.cells.map (·.2), c ∈ X.ft := by rw [hX]; exact hft
  have htb : X.tb = [(Plaw, tabObj #[]), (Pctk, tabObj #[])] := by rw [hX]
  have hF : X.F = Plaw :: Pctk :: frs A := by rw [hX]; rfl
  have hψ0 : X.ψ₀ = ψ := by rw [hX]
  have hs0 : X.s₀ = s := by rw [hX]
  rw [eA, eenv]
  have b : B X [("script", vList (ns.map vInt))] ψ (fun _ => none) s' := ⟨_, x', fun x P hx => by
    by_cases q : x = ("script" : Str)
    · subst q; cases hx; exact ⟨sv, by simp, hsv⟩
    · have : List.lookup x [(("script" : Str), vList (ns.map vInt))] = none := by simp [List.lookup_cons, beq_eq_false_iff_ne.mpr q]
      rw [this] at hx; cases hx⟩
  clear hX hcx x' he hcd hft eA
  have hfin : ∀ ψ' s2, Grow X.F X.ψ₀ X.s₀ ψ' s2 → Q (.bool true) s2 := fun ψ' s2 g => by rw [hF, hψ0, hs0] at g; exact hq ψ' s2 g
  clear hq
  generalize leaveE prog w A X.env E = E'
  refine (?_ : Ex prog w X (fbody (st2 18)) (fun fl s2 => Q (outOf fl) s2) E' s').go
  obtain ⟨am, pmm, cdm, gm, Km⟩ := T.masks
  obtain ⟨ast, pmst, cdst, gst, Kst⟩ := T.set
  obtain ⟨agr, pmgr, cdgr, ggr, Kgr⟩ := T.grown
  obtain ⟨aal, pmal, cdal, gal, Kal⟩ := T.all
  obtain ⟨ato, pmto, cdto, gto, Kto⟩ := T.tops
  obtain ⟨are, Tt, im, oT, nT, oim, pmre, cdre, gre, Kre, hTt, hTd, gim, him, hicl⟩ := T.reduce
  obtain ⟨adu, pmdu, cddu, gdu, Kdu⟩ := T.ddu
  obtain ⟨aca, pmca, cdca, gca, Kca⟩ := T.cao
  obtain ⟨asl, pmsl, cdsl, gsl, Ksl⟩ := T.F.sld
  obtain ⟨ajo, pmjo, cdjo, gjo, Kjo⟩ := T.F.join
  have TT := T.F.T
  have hline : sizeLine = 16777216 := rfl
  refine y_assign b (EI.of c hsc (v_cg (NsKnows.le gm l0) (Km.le l0) (e1 v_v) ((spec_masks (k := k + 50) TT hns Km).le l0))) (by first | exact sto hsc | exact stoC hsc hft') fun v1 ψ1 s1 l1 p1 b1 => ?_
  have L1 := l0.trans l1
  have hms := G.l0
  generalize masksUp ns 2 = ms at G hms b1
  have erows : ((List.range ms.length).filter fun _ => true).map (fun i => vS (setOf (ms.getD i 0))) = (rowsOf ms).map vS := by
    rw [keep_all (f := fun m => vS (setOf m)) (d := 0) ms]; unfold rowsOf; rw [List.map_map]; rfl
  refine y_assign (P := vList ((rowsOf ms).map vS)) b1 (EI.of c hsc ((v_comp (nn := ms.length) (keep := fun _ => true) (R := fun i => vS (setOf (ms.getD i 0))) (k := k + 59) v_v (src_ints (itr_list rfl)) (by rfl) (fun i hi => ownT) (fun i hi => t_nil) (fun i hi _ => v_cg (NsKnows.le gst L1) (Kst.le L1) (e1 v_v) ((spec_set (k := k + 49) TT Kst).le L1)) (by omega)).conv (congrArg vList erows))) (by first | exact sto hsc | exact stoC hsc hft') (fun v2 ψ2 s2 l2 p2 b2 => ?_) (swaps_cell hsc (by rfl))
  have L2 := L1.trans l2
  have hgrow : ∀ i < (rowsOf ms).length, Spec prog w ⟨k + 59, true⟩ ψ2 (.ref agr) [vList ((foldN grown [[]] (rowsOf ms) i).map vS), vS ((rowsOf ms).getD i [])] (vList ((grown (foldN grown [[]] (rowsOf ms) i) ((rowsOf ms).getD i [])).map vS)) := fun i hi => by
    have hi4 : i < 4 := by have : (rowsOf ms).length = 4 := by unfold rowsOf; rw [List.length_map]; exact hms
                           omega
    have hb := small_len (G.l2 i hi4)
    have hr := small_len G.l3.1
    exact (spec_grown (k := k + 39) T.F (by omega) hb.2 (hr.2 _ (by rw [List.getD_eq_getElem?_getD, List.getElem?_eq_getElem hi]; exact List.getElem_mem hi)) Kgr).le L2
  refine y_assign (P := vList ((setsOf ms).map vS)) b2 (EI.of c hsc (v_cg (NsKnows.le gre L2) (Kre.le L2) (e3 (v_g (NsKnows.le ggr L2)) v_v (v_list (Ps := [vTup []]) (e1 (v_tup e0 (by decide))) (by decide))) (spec_reduce (k := k + 59) (Bv := fun x => vList (x.map vS)) (P := vS) (step := grown) (b0 := [[]]) (xs := rowsOf ms) (d := []) ⟨T.iter.1.le L2, T.iter.2.le L2⟩ (NsKnows.le gim L2) (L2 _ _ him) hicl (fun ψ u ⟨a, vs, n, e, ho, _⟩ => ⟨a, _, e, ho, by show Value.type "list" ≠ Value.type "object"; decide⟩) (keep_fn (L2 _ _ Kgr.obj.choose_spec.1) Kgr.obj.choose_spec.2) hgrow (L2 _ _ hTt) hTd (Kre.le L2)))) (by first | exact sto hsc | exact stoC hsc hft') fun v3 ψ3 s3 l3 p3 b3 => ?_
  have L3 := L2.trans l3
  refine y_assign (P := vList ((bitsOf ms).map vInt)) b3 (EI.of c hsc (v_cg (NsKnows.le gal L3) (Kal.le L3) (e1 v_v) ((spec_all (k := k + 59) TT hms Kal).le L3))) (by first | exact sto hsc | exact stoC hsc hft') fun v4 ψ4 s4 l4 p4 b4 => ?_
  have L4 := L3.trans l4
  have hlen : (setsOf ms).length = (bitsOf ms).length := by rw [G.c1, List.length_map]
  have hl16 := G.l1.2
  have hl2 := G.l1.1
  have hsm := small_len G.l3.2
  have hsti : ∀ i, i < (setsOf ms).length → (st (setsOf ms) i).length ≤ 31 := fun i hi => hsm.2 _ (by unfold st; rw [List.getD_eq_getElem?_getD, List.getElem?_eq_getElem hi]; exact List.getElem_mem hi)
  have esets : ((List.range (bitsOf ms).length).filter fun _ => true).map (fun i => vS (setOf ((bitsOf ms).getD i 0))) = (setsOf ms).map vS := by
    rw [keep_all (f := fun m => vS (setOf m)) (d := 0) (bitsOf ms), G.c1, List.map_map]; rfl
  refine y_if b4 (r := false) (TI.of c hsc (b_cmp v_v ((v_comp (nn := (bitsOf ms).length) (keep := fun _ => true) (R := fun i => vS (setOf ((bitsOf ms).getD i 0))) (k := k + 59) v_v (src_ints (itr_list rfl)) (by rfl) (fun i hi => ownT) (fun i hi => t_nil) (fun i hi _ => v_cg (NsKnows.le gst L4) (Kst.le L4) (e1 v_v) ((spec_set (k := k + 49) TT Kst).le L4)) (by omega)).conv (congrArg vList esets)) (op_ne_same (by show 7 ≤ k + 60; omega) (rd_list (rd_map rd_S (setsOf ms))) (rd_list (rd_map rd_S (setsOf ms))) (dok_list (dok_map dok_S)) (by decide)))) fun ψ5 s5 l5 b5 => ?_
  refine x_nil ?_
  show Ex prog w X _ _ _ s5
  have L5 := L4.trans l5
  have einner : ∀ one : List Nat, ((List.range (setsOf ms).length).filter fun _ => true).map (fun j => vPr (wsld one ((setsOf ms).getD j []))) = ((setsOf ms).map fun other => wsld one other).map vPr := fun one => by
    rw [keep_all (f := fun o => vPr (wsld one o)) (d := []) (setsOf ms), List.map_map]; rfl
  have ealone : ((List.range (setsOf ms).length).filter fun _ => true).map (fun i => vRow ((setsOf ms).map fun other => wsld ((setsOf ms).getD i []) other)) = (diffs (setsOf ms)).map vRow := by
    rw [keep_all (f := fun one => vRow ((setsOf ms).map fun other => wsld one other)) (d := []) (setsOf ms)]; unfold diffs; rw [List.map_map]; rfl
  have hst : ∀ i, i < (setsOf ms).length → ((setsOf ms).getD i []).length ≤ 31 := hsti
  refine y_assign (P := vList ((diffs (setsOf ms)).map vRow)) b5 (EI.of c hsc ((v_comp (nn := (setsOf ms).length) (keep := fun _ => true) (R := fun i => vRow ((setsOf ms).map fun other => wsld ((setsOf ms).getD i []) other)) (k := k + 59) v_v (src_map (f := vS) (d := []) (itr_list rfl)) (by rfl) (fun i hi => ownT) (fun i hi => t_nil)
    (fun i hi _ => (v_comp (nn := (setsOf ms).length) (keep := fun _ => true) (R := fun j => vPr (wsld ((setsOf ms).getD i []) ((setsOf ms).getD j []))) (k := k + 58) v_v (src_map (f := vS) (d := []) (itr_list rfl)) (by rfl) (fun i hi => ownT) (fun i hi => t_nil)
      (fun j hj _ => v_cg (NsKnows.le gsl L5) (Ksl.le L5) (e2 (v_ct (TT.le L5).list (e1 v_v) (call_list (.inr rfl) (by rw [List.length_map]; have := hst i hi; omega))) (v_ct (TT.le L5).list (e1 v_v) (call_list (.inr rfl) (by rw [List.length_map]; have := hst j hj; omega)))) ((spec_sldW (k := k + 57) T.F.ie (by have := hst i hi; omega) (by have := hst j hj; omega) Ksl).le L5)) (by omega)).conv (congrArg vList (einner _))) (by omega)).conv (congrArg vList ealone))) (by first | exact sto hsc | exact stoC hsc hft') (fun v6 ψ6 s6 l6 p6 b6 => ?_) (swaps_cell hsc (by rfl))
  have L6 := L5.trans l6
  have ewords : ((List.range 16).filter fun _ => true).map (fun (i : Nat) => vL (setOf (i : Nat))) = wordsL.map vL := by
    rw [keep_all']; unfold wordsL; rw [List.map_map]; rfl
  refine y_assign (P := vList (wordsL.map vL)) b6 (EI.of c hsc ((v_comp (nn := 16) (keep := fun _ => true) (R := fun (i : Nat) => vL (setOf (i : Nat))) (k := k + 59) (v_ct (TT.le L6).range (e1 v_int) op_range1) (src_range0 rfl (by rfl) (by rfl)) (by rfl) (fun i hi => ownT) (fun i hi => t_nil)
    (fun i hi _ => v_ct (TT.le L6).list (e1 (v_cg (NsKnows.le gst L6) (Kst.le L6) (e1 v_v) ((spec_set (k := k + 49) TT Kst).le L6))) (call_list (.inr rfl) (by rw [List.length_map]; exact Nat.le_trans (List.length_filter_le _ _) (by decide)))) (by decide)).conv (congrArg vList ewords))) (by first | exact sto hsc | exact stoC hsc hft') (fun v7 ψ7 s7 l7 p7 b7 => ?_) (swaps_cell hsc (by rfl))
  have L7 := L6.trans l7
  have hw16 : wordsL.length = 16 := by rfl
  have c2' : diffs (setsOf ms) = (bitsOf ms).map fun x => (bitsOf ms).map fun y => (wordsL.getD (lessBits x y).toNat [], wordsL.getD (lessBits y x).toNat []) := by rw [G.c2]; unfold diffsB; rfl
  have c4' := G.c4
  have hgw : ∀ i, 0 ≤ i → i.toNat < 16 → ∀ kk, Op2 prog w ⟨kk, true⟩ ψ7 getItem (vList (wordsL.map vL)) (vInt i) (vL (wordsL.getD i.toNat [])) := fun i h0 hi kk => get_mapZ (f := vL) (d := []) h0 (by rw [hw16]; exact hi) (by rw [hw16]; decide)
  generalize wordsL = W at hw16 c2' c4' b7 hgw
  have einB : ∀ x : Int, ((List.range (bitsOf ms).length).filter fun _ => true).map (fun j => vPr (W.getD (lessBits x ((bitsOf ms).getD j 0)).toNat [], W.getD (lessBits ((bitsOf ms).getD j 0) x).toNat [])) = ((bitsOf ms).map fun y => (W.getD (lessBits x y).toNat [], W.getD (lessBits y x).toNat [])).map vPr := fun x => by
    rw [keep_all (f := fun y => vPr (W.getD (lessBits x y).toNat [], W.getD (lessBits y x).toNat [])) (d := 0) (bitsOf ms), List.map_map]; rfl
  have eB : ((List.range (bitsOf ms).length).filter fun _ => true).map (fun i => vRow ((bitsOf ms).map fun y => (W.getD (lessBits ((bitsOf ms).getD i 0) y).toNat [], W.getD (lessBits y ((bitsOf ms).getD i 0)).toNat []))) = (diffs (setsOf ms)).map vRow := by
    rw [keep_all (f := fun x => vRow ((bitsOf ms).map fun y => (W.getD (lessBits x y).toNat [], W.getD (lessBits y x).toNat []))) (d := 0) (bitsOf ms), c2', List.map_map]; rfl
  have hbm : ∀ i, i < (bitsOf ms).length → (bitsOf ms).getD i 0 ∈ bitsOf ms := fun i hi => by rw [List.getD_eq_getElem?_getD, List.getElem?_eq_getElem hi]; exact List.getElem_mem hi
  refine y_if b7 (r := false) (TI.of c hsc (b_cmp v_v ((v_comp (nn := (bitsOf ms).length) (keep := fun _ => true) (R := fun i => vRow ((bitsOf ms).map fun y => (W.getD (lessBits ((bitsOf ms).getD i 0) y).toNat [], W.getD (lessBits y ((bitsOf ms).getD i 0)).toNat []))) (k := k + 59) v_v (src_ints (itr_list rfl)) (by rfl) (fun i hi => ownT) (fun i hi => t_nil)
    (fun i hi _ => (v_comp (nn := (bitsOf ms).length) (keep := fun _ => true) (R := fun j => vPr (W.getD (lessBits ((bitsOf ms).getD i 0) ((bitsOf ms).getD j 0)).toNat [], W.getD (lessBits ((bitsOf ms).getD j 0) ((bitsOf ms).getD i 0)).toNat [])) (k := k + 58) v_v (src_ints (itr_list rfl)) (by rfl) (fun i hi => ownT) (fun i hi => t_nil)
      (fun j hj _ => v_tup (e2 (v_subL v_v (v_bin v_v (v_un v_v op_inv_int) op_and_int) (hgw _ (G.c2r _ (hbm i hi) _ (hbm j hj)).1 (G.c2r _ (hbm i hi) _ (hbm j hj)).2 _)) (v_subL v_v (v_bin v_v (v_un v_v op_inv_int) op_and_int) (hgw _ (G.c2r _ (hbm j hj) _ (hbm i hi)).1 (G.c2r _ (hbm j hj) _ (hbm i hi)).2 _))) (by show 2 ≤ sizeLine; decide)) (by omega)).conv (congrArg vList (einB _))) (by omega)).conv (congrArg vList eB)) (op_ne_same (by show 7 ≤ k + 60; omega) (rd_list (rd_map (fun r => rd_list (rd_map rd_Pr r)) (diffs (setsOf ms)))) (rd_list (rd_map (fun r => rd_list (rd_map rd_Pr r)) (diffs (setsOf ms)))) (dok_list (dok_map fun r => dok_list (dok_map dok_Pr))) (by decide)))) fun ψ8 s8 l8 b8 => ?_
  refine x_nil ?_
  show Ex prog w X _ _ _ s8
  have L8 := L7.trans l8
  refine y_newList b8 (by first | exact sto hsc | exact stoC hsc hft') fun aw s9 hw1 hw2 b9 => ?_
  have hrowl : ∀ one : List Nat, ((setsOf ms).map fun o => wsld one o).length = (setsOf ms).length := fun one => by rw [List.length_map]
  have hdl : (diffs (setsOf ms)).length = (setsOf ms).length := by unfold diffs; rw [List.length_map]
  have hal1 : ∀ j, j < (setsOf ms).length → ∀ (φ' : PM) kk, Op2 prog w ⟨kk, true⟩ φ' getItem (vList ((diffs (setsOf ms)).map vRow)) (vInt (j : Nat)) (vRow ((setsOf ms).map fun o => wsld (st (setsOf ms) j) o)) := fun j hj φ' kk => by
    have h := get_map (prog := prog) (w := w) (μ := ⟨kk, true⟩) (φ := φ') (f := vRow) (d := []) (ns := diffs (setsOf ms)) (i := j) (by omega) (by omega)
    have e : (diffs (setsOf ms)).getD j [] = (setsOf ms).map fun o => wsld (st (setsOf ms) j) o := by
      unfold diffs
      rw [List.getD_eq_getElem?_getD, List.getElem?_map, List.getElem?_eq_getElem hj]
      unfold st
      rw [List.getD_eq_getElem?_getD, List.getElem?_eq_getElem hj]; rfl
    rw [e] at h; exact h
  have hal2 : ∀ (one : List Nat) i, i < (setsOf ms).length → ∀ (φ' : PM) kk, Op2 prog w ⟨kk, true⟩ φ' getItem (vRow ((setsOf ms).map fun o => wsld one o)) (vInt (i : Nat)) (vPr (wsld one (st (setsOf ms) i))) := fun one i hi φ' kk => by
    have h := get_map (prog := prog) (w := w) (μ := ⟨kk, true⟩) (φ := φ') (f := vPr) (d := ([], [])) (ns := (setsOf ms).map fun o => wsld one o) (i := i) (by rw [hrowl]; exact hi) (by rw [hrowl]; omega)
    have e : ((setsOf ms).map fun o => wsld one o).getD i ([], []) = wsld one (st (setsOf ms) i) := by
      rw [List.getD_eq_getElem?_getD, List.getElem?_map, List.getElem?_eq_getElem hi]
      unfold st
      rw [List.getD_eq_getElem?_getD, List.getElem?_eq_getElem hi]; rfl
    rw [e] at h; exact h
  have hnil : ∀ (x : List Nat) (φ' : PM) kk, Op2 prog w ⟨kk + 1, true⟩ φ' (compareOp .Eq) (vL x) (vList []) (vBool x.isEmpty) := fun x φ' kk => by
    have h := op_eq_nil (prog := prog) (w := w) (μ := ⟨kk + 1, true⟩) (φ := φ') (ps := x.map vW) (by show 1 ≤ kk + 1; omega)
    rw [isEmpty_map] at h; exact h
  have hsetsS : ∀ j, j < (setsOf ms).length → ∀ (φ' : PM) kk, Op2 prog w ⟨kk, true⟩ φ' getItem (vList ((setsOf ms).map vS)) (vInt (j : Nat)) (vS (st (setsOf ms) j)) := fun j hj φ' kk => get_map (f := vS) (d := []) hj (by omega)
  have hwl : ∀ i, (within (setsOf ms) i).length ≤ (setsOf ms).length := fun i => by
    unfold within; rw [List.length_map]; exact Nat.le_trans (List.length_filter_le _ _) (by rw [List.length_range]; exact Nat.le_refl _)
  have hwm : ∀ i x, x ∈ within (setsOf ms) i → x.length ≤ 31 := fun i x hx => by
    unfold within at hx
    obtain ⟨j, hj, rfl⟩ := List.mem_map.mp hx
    exact hsti j (List.mem_range.mp (List.mem_filter.mp hj).1)
  have hrl : (rowsOf ms).length = 4 := by unfold rowsOf; rw [List.length_map]; exact hms
  refine y_forB b9 c (BS.congr (nn' := (setsOf ms).length) (Tg' := fun i => [("one", vS (st (setsOf ms) i)), ("k", vInt (i : Nat))]) (BS.of c hsc (src_enum rfl (TT.le L8).enum (by rfl) v_v) b9) (by rw [List.length_map]) fun i hi => ?_)
    (fun i Γ' ψ' ω' => Γ' = ([("whole", vVal (.ref aw)), ("words", vList (W.map vL)), ("alone", vList ((diffs (setsOf ms)).map vRow)), ("bits", vList ((bitsOf ms).map vInt)), ("sets", vList ((setsOf ms).map vS)), ("rows", vList ((rowsOf ms).map vS)), ("masks", vList (ms.map vInt)), ("script", vList (ns.map vInt))] : List (Str × VP)) ∧ ∃ vs j, ω' aw = some (lst vs j) ∧ All2 (fun (P : VP) v => P.p ψ' v) ((wholeUp (setsOf ms) i).map vS) vs)
    (fun i hi p hp => ?_) ?_ ?_ ?_ ?_
  · rw [List.length_map] at hi
    show [(Str.ofString "one", ((setsOf ms).map vS).getD i vNone), (Str.ofString "k", vInt (i : Nat))] = _
    rw [List.getD_eq_getElem?_getD, List.getElem?_map, List.getElem?_eq_getElem hi]
    unfold st
    rw [List.getD_eq_getElem?_getD, List.getElem?_eq_getElem hi]; rfl
  · rcases List.mem_cons.mp hp with rfl | hp
    · exact sto hsc
    · rw [List.mem_singleton.mp hp]; exact stoC hsc hft'
  · rintro i Γ' ψ' ω₁ ω₂ ⟨rfl, vs, j, ha, hall⟩ hω
    exact ⟨rfl, vs, j, by rw [hω aw _ (put_self _ _ _)]; exact ha, hall⟩
  · intro ψ' l'
    exact ⟨rfl, [], 0, put_self _ _ _, .nil⟩
  · rintro i Γi ψi ωi si hi ⟨rfl, vs, j, ha, hall⟩ li bb
    have Li := L8.trans li
    have hone := hsti i hi
    refine y_comp (nn := (setsOf ms).length) (keep := keepW (setsOf ms) i) (R := fun j => vS (st (setsOf ms) j)) hsc bb (k := k + 59) c (by first | exact sto hsc | exact stoC hsc hft') (v_ct (TT.le Li).range (e1 (v_cb (TT.le Li).len (e1 v_v) (call_len (by rw [List.length_map]; omega)))) op_range1) (src_len rfl (by rw [List.length_map]) (by omega)) (by rfl) (fun i hi => ownT)
      (fun j hj => t_one (b_and (b_cmp v_v v_v op_ne_int) fun _ => b_and (b_cmp (v_subT (v_subL (v_subL v_v v_v (hal1 j hj _ _)) v_v (hal2 _ i hi _ _)) v_int (get_tup (i := 0) (by decide) rfl)) (v_list e0 (by decide)) (hnil _ _ _)) fun _ => b_and0))
      (fun j hj _ => v_subL v_v v_v (hsetsS j hj _ _)) (by omega) (fun va ψa sa la pa ba => ?_) (swaps_local hsc (by rfl) (by rfl) (by rfl) (by rfl))
    have La := Li.trans la
    have ewi : ((List.range (setsOf ms).length).filter (keepW (setsOf ms) i)).map (fun j => vS (st (setsOf ms) j)) = (within (setsOf ms) i).map vS := by
      unfold within; rw [List.map_map]; rfl
    rw [ewi] at ba
    have hw16' := hwl i
    have hjn : ∀ q < (within (setsOf ms) i).length, Spec prog w ⟨k + 59, true⟩ ψa (.ref ajo) [vS (foldN join [] (within (setsOf ms) i) q), vS ((within (setsOf ms) i).getD q [])] (vS (join (foldN join [] (within (setsOf ms) i) q) ((within (setsOf ms) i).getD q []))) := fun q hq =>
      (spec_join (k := k + 49) TT T.F.ie gsl Ksl (G.l4 i hi q (by omega)).1 (hwm i _ (by rw [List.getD_eq_getElem?_getD, List.getElem?_eq_getElem hq]; exact List.getElem_mem hq)) Kjo).le La
    refine y_assign (P := vS (madeOf (setsOf ms) i)) ba (EI.of c hsc (v_cg (NsKnows.le gre La) (Kre.le La) (e3 (v_g (NsKnows.le gjo La)) v_v (v_tup e0 (by decide))) (spec_reduce (k := k + 59) (Bv := vS) (P := vS) (step := join) (b0 := []) (xs := within (setsOf ms) i) (d := []) ⟨T.iter.1.le La, T.iter.2.le La⟩ (NsKnows.le gim La) (La _ _ him) hicl (fun ψ u ⟨a, vs, n, e, ho, _⟩ => ⟨a, _, e, ho, by show Value.type "tuple" ≠ Value.type "object"; decide⟩) (keep_fn (La _ _ Kjo.obj.choose_spec.1) Kjo.obj.choose_spec.2) hjn (La _ _ hTt) hTd (Kre.le La)))) (by first | exact sto hsc | exact stoC hsc hft') fun vb ψb sb lb pb bb2 => ?_
    have Lb := La.trans lb
    have hmade : (madeOf (setsOf ms) i).length ≤ 31 := (G.l4 i hi 0 (by decide)).2
    have hcao : ∀ (x y : List Nat) (ψ' : PM), Le φ ψ' → x.length ≤ 100 → y.length ≤ 100 → Spec prog w ⟨k + 60, true⟩ ψ' (.ref aca) [vS x, vS y] (vBool (cmpO weq x y)) := fun x y ψ' l' hx hy =>
      (spec_cao (k := k + 57) (P := vW) (eq := weq) (xs := x) (ys := y) (d := 0) TT.list T.ve (fun ψ => itr_tup rfl) (fun ψ => itr_tup rfl) (fun k x y => opEqW x y) (by omega) (by omega) gdu Kdu Kca).le l'
    refine y_assign (P := vBool (alikeOf (setsOf ms) i)) bb2 (EI.of c hsc (v_cg (NsKnows.le gca Lb) (Kca.le Lb) (e2 v_v v_v) (hcao _ _ _ Lb (by omega) (by omega)))) (by first | exact sto hsc | exact stoC hsc hft') fun vc ψc sc lc pc bc => ?_
    have Lc := Lb.trans lc
    have hc3 := G.c3 i hi
    have heq : Op2 prog w ⟨k + 60, true⟩ ψc (compareOp .Eq) (vS (st (setsOf ms) i)) (vS (madeOf (setsOf ms) i)) (vBool (lEq (st (setsOf ms) i) (madeOf (setsOf ms) i))) := by
      have h := op_eq_data (prog := prog) (w := w) (μ := ⟨k + 60, true⟩) (φ := ψc) (by show 7 ≤ k + 60; omega) (rd_S (st (setsOf ms) i)) (rd_S (madeOf (setsOf ms) i)) (dok_shaped (dok_S _) (by decide)) (dok_shaped (dok_S _) (by decide))
      rw [eqv_S] at h; exact h
    have hrev : Op2 prog w ⟨k + 60, true⟩ ψc getItem (vS (madeOf (setsOf ms) i)) (vSlice none none (some (-1))) (vS (madeOf (setsOf ms) i).reverse) := by
      have h := get_rev (prog := prog) (w := w) (μ := ⟨k + 60, true⟩) (φ := ψc) (ps := (madeOf (setsOf ms) i).map vW) (by rw [List.length_map]; omega)
      rw [← List.map_reverse] at h; exact h
    have hadd : Op2 prog w ⟨k + 60, true⟩ ψc (binaryOp .Add) (vS (st (setsOf ms) i)) (vS (st (setsOf ms) i)) (vS (st (setsOf ms) i ++ st (setsOf ms) i)) := by
      have h := add_tups (prog := prog) (w := w) (μ := ⟨k + 60, true⟩) (φ := ψc) (ps := (st (setsOf ms) i).map vW) (qs := (st (setsOf ms) i).map vW) (by rw [List.length_map]; omega)
      rw [← List.map_append] at h; exact h
    refine y_if bc (r := (alikeOf (setsOf ms) i != lEq (st (setsOf ms) i) (madeOf (setsOf ms) i)) || ((cmpO weq (madeOf (setsOf ms) i).reverse (st (setsOf ms) i ++ st (setsOf ms) i) != alikeOf (setsOf ms) i) || false)) (TI.of c hsc (b_or (b_cmp v_v (v_cmp v_v v_v heq) op_isNot_bool) fun _ => b_or (b_cmp (v_cg (NsKnows.le gca Lc) (Kca.le Lc) (e2 (v_subT v_v (v_slice evp0 evp0 (p_some (v_un v_int op_neg_int))) hrev) (v_bin v_v v_v hadd)) (hcao _ _ _ Lc (by rw [List.length_reverse]; omega) (by rw [List.length_append]; omega))) v_v op_isNot_bool) fun _ => b_or0)) fun ψd sd ld bd => ?_
    have hr0 : ((alikeOf (setsOf ms) i != lEq (st (setsOf ms) i) (madeOf (setsOf ms) i)) || ((cmpO weq (madeOf (setsOf ms) i).reverse (st (setsOf ms) i ++ st (setsOf ms) i) != alikeOf (setsOf ms) i) || false)) = false := by
      rw [← hc3.1, hc3.2]; simp
    rw [hr0]
    refine x_nil ?_
    show Ex prog w X _ _ _ sd
    have Ld := Lc.trans ld
    have hω : ωi aw = some (lst vs j) := ha
    have hwlen : ∀ q, (wholeUp (setsOf ms) q).length ≤ q := by
      intro q
      induction q with
      | zero => exact Nat.le_refl _
      | succ q ih =>
        show (if alikeOf (setsOf ms) q then wholeUp (setsOf ms) q else wholeUp (setsOf ms) q ++ [st (setsOf ms) q]).length ≤ q + 1
        split
        · omega
        · rw [List.length_append, List.length_singleton]; omega
    have hvl : vs.length ≤ 1000 := by have h3 := hall.length; have h4 := hwlen i; rw [List.length_map] at h3; omega
    have hupw : ((wholeUp (setsOf ms) i).map vS ++ if (!alikeOf (setsOf ms) i) = true then [vS (st (setsOf ms) i)] else []) = (wholeUp (setsOf ms) (i + 1)).map vS := by
      show _ = (if alikeOf (setsOf ms) i then wholeUp (setsOf ms) i else wholeUp (setsOf ms) i ++ [st (setsOf ms) i]).map vS
      cases alikeOf (setsOf ms) i
      · simp
      · simp
    refine y_ifApp (P := vS (st (setsOf ms) i)) (ps := (wholeUp (setsOf ms) i).map vS) hsc bd (TI.of c hsc (b_not (b_v v_v tru_bool))) hω (hall.imp fun (P : VP) v y => P.mono (la.trans (lb.trans (lc.trans ld))) y) (fun ψ' _ => EI.of c hsc v_v) (by omega) (fun ψe se vse je le halle be => ?_)
    rw [hupw] at halle
    have Le' := Ld.trans le
    refine y_assign (P := vList ((topsOf ms (bitsOf ms) i).map vInt)) be (EI.of c hsc (v_cg (NsKnows.le gto Le') (Kto.le Le') (e2 v_v (v_subL v_v v_v (get_ints (ns := bitsOf ms) (i := i) (by omega) (by omega)))) ((spec_tops (k := k + 50) TT hms Kto).le Le'))) (by first | exact sto hsc | exact stoC hsc hft') fun vf ψf sf lf pf bf => ?_
    have Lf := Le'.trans lf
    have hlen2 : ∀ (x : List Nat) (φ' : PM) kk, x.length ≤ 1000 → Spec prog w ⟨kk, true⟩ φ' (.builtin "len") [vL x] (vInt (x.length : Nat)) := fun x φ' kk hx => by
      have h := call_len (prog := prog) (w := w) (μ := ⟨kk, true⟩) (φ := φ') (ps := x.map vW) (by rw [List.length_map]; omega)
      rw [List.length_map] at h; exact h
    have hsl2 : ∀ j, (wsld (st (setsOf ms) j) (st (setsOf ms) i)).2.length ≤ 1000 := fun j => by
      have := (sld_snd_le (lt := wlt) (gt := fun x y => wlt y x) (eq := weq) ((st (setsOf ms) j).length + (st (setsOf ms) i).length) (st (setsOf ms) j) (st (setsOf ms) i)).2
      unfold wsld sld
      omega
    refine y_comp (nn := (setsOf ms).length) (keep := keepL (setsOf ms) i) (R := fun j => vL (wsld (st (setsOf ms) j) (st (setsOf ms) i)).2) hsc bf (k := k + 59) c (by first | exact sto hsc | exact stoC hsc hft') (v_ct (TT.le Lf).range (e1 (v_cb (TT.le Lf).len (e1 v_v) (call_len (by rw [List.length_map]; omega)))) op_range1) (src_len rfl (by rw [List.length_map]) (by omega)) (by rfl) (fun i hi => ownT)
      (fun j hj => t_one (b_and (b_cmp (v_subT (v_subL (v_subL v_v v_v (hal1 j hj _ _)) v_v (hal2 _ i hi _ _)) v_int (get_tup (i := 0) (by decide) rfl)) (v_list e0 (by decide)) (hnil _ _ _)) fun _ => b_and (b_cmp (v_cb (TT.le Lf).len (e1 (v_subT (v_subL (v_subL v_v v_v (hal1 j hj _ _)) v_v (hal2 _ i hi _ _)) v_int (get_tup (i := 1) (by decide) rfl))) (hlen2 _ _ _ (hsl2 j))) v_int op_eq_int) fun _ => b_and0))
      (fun j hj _ => v_subT (v_subL (v_subL v_v v_v (hal1 j hj _ _)) v_v (hal2 _ i hi _ _)) v_int (get_tup (i := 1) (by decide) rfl)) (by omega) (fun vg ψg sg lg pg bg => ?_) (swaps_local hsc (by rfl) (by rfl) (by rfl) (by rfl))
    have Lg := Lf.trans lg
    have elack : ((List.range (setsOf ms).length).filter (keepL (setsOf ms) i)).map (fun j => vL (wsld (st (setsOf ms) j) (st (setsOf ms) i)).2) = (lackL (setsOf ms) i).map fun x => vL [x] := by
      unfold lackL
      rw [List.map_map]
      refine List.map_congr_left fun j hj => ?_
      have hk := (List.mem_filter.mp hj).2
      unfold keepL at hk
      simp only [Bool.and_eq_true, beq_iff_eq, Bool.and_true] at hk
      have h1 : (wsld (st (setsOf ms) j) (st (setsOf ms) i)).2.length = 1 := by have := hk.2; omega
      obtain ⟨z, hz⟩ := list_len1 h1
      show vL (wsld (st (setsOf ms) j) (st (setsOf ms) i)).2 = vL [(wsld (st (setsOf ms) j) (st (setsOf ms) i)).2.headD 0]
      rw [hz]; rfl
    rw [elack] at bg
    have hl6 := G.l6 i hi
    have hsort : Spec prog w ⟨k + 60, true⟩ ψg (.builtin "sorted") [vList ((lackL (setsOf ms) i).map fun x => vL [x])] (vList (((sortL wltL 0 (lackL (setsOf ms) i)).map fun x => [x]).map vL)) := by
      rw [List.map_map]
      exact call_sorted (k := k + 58) (P := fun x => vL [x]) (lt := wltL) (d := 0) (T := .type "list") (by omega) (fun x => tyIs_seq) (by decide) (by decide) (fun x y => opLt_L (k := k + 57) (P := vW) (eq := weq) (op := wlt) (xs := [x]) (ys := [y]) (fun x y => opEqW x y) (fun x y => op_ltW x y))
    have c4i := c4' i hi
    have etops : ((List.range (topsOf ms (bitsOf ms) i).length).filter fun _ => true).map (fun q => vL (W.getD ((2 : Int) ^ ((topsOf ms (bitsOf ms) i).getD q 0).toNat).toNat [])) = ((sortL wltL 0 (lackL (setsOf ms) i)).map fun x => [x]).map vL := by
      rw [keep_all (f := fun t : Int => vL (W.getD ((2 : Int) ^ t.toNat).toNat [])) (d := 0) (topsOf ms (bitsOf ms) i), c4i, List.map_map]; rfl
    have htm : ∀ q, q < (topsOf ms (bitsOf ms) i).length → 0 ≤ (topsOf ms (bitsOf ms) i).getD q 0 ∧ (topsOf ms (bitsOf ms) i).getD q 0 < 4 := fun q hq => G.c5r i hi _ (by rw [List.getD_eq_getElem?_getD, List.getElem?_eq_getElem hq]; exact List.getElem_mem hq)
    have hpow : ∀ t : Int, 0 ≤ t → t < 4 → 0 ≤ (2 : Int) ^ t.toNat ∧ ((2 : Int) ^ t.toNat).toNat < 16 := fun t h0 h4 => by
      have h : ∀ q < 4, 0 ≤ (2 : Int) ^ q ∧ ((2 : Int) ^ q).toNat < 16 := by decide
      exact h _ (by omega)
    have hgwg : ∀ t : Int, 0 ≤ t → t < 4 → ∀ kk, Op2 prog w ⟨kk, true⟩ ψg getItem (vList (W.map vL)) (vInt ((2 : Int) ^ t.toNat)) (vL (W.getD ((2 : Int) ^ t.toNat).toNat [])) := fun t h0 h4 kk => get_mapZ (f := vL) (d := []) (hpow t h0 h4).1 (by rw [hw16]; exact (hpow t h0 h4).2) (by rw [hw16]; decide)
    refine y_if bg (r := false) (TI.of c hsc (b_cmp (v_cb (TT.le Lg).sorted (e1 v_v) hsort) ((v_comp (nn := (topsOf ms (bitsOf ms) i).length) (keep := fun _ => true) (R := fun q => vL (W.getD ((2 : Int) ^ ((topsOf ms (bitsOf ms) i).getD q 0).toNat).toNat [])) (k := k + 59) v_v (src_ints (itr_list rfl)) (by rfl) (fun i hi => ownT) (fun i hi => t_nil)
      (fun q hq _ => v_subL v_v (v_bin v_int v_v (op_pow_int (htm q hq).1 (by have := htm q hq; omega) (by decide))) (hgwg _ (htm q hq).1 (htm q hq).2 _)) (by omega)).conv (congrArg vList etops)) (op_ne_same (by show 7 ≤ k + 60; omega) (rd_list (rd_map rd_L _)) (rd_list (rd_map rd_L _)) (dok_list (dok_map dok_L)) (by decide)))) fun ψh sh lh bh => ?_
    refine x_nil ?_
    show Ex prog w X _ _ _ sh
    have Lh := Lg.trans lh
    have etr : ((List.range (topsOf ms (bitsOf ms) i).length).filter fun _ => true).map (fun q => vS ((rowsOf ms).getD ((topsOf ms (bitsOf ms) i).getD q 0).toNat [])) = (topsRows ms (topsOf ms (bitsOf ms) i)).map vS := by
      rw [keep_all (f := fun t : Int => vS ((rowsOf ms).getD t.toNat [])) (d := 0) (topsOf ms (bitsOf ms) i)]; unfold topsRows; rw [List.map_map]; rfl
    have htrl : (topsRows ms (topsOf ms (bitsOf ms) i)).length ≤ 4 := by unfold topsRows; rw [List.length_map]; exact hl6.2
    have hrm := (small_len G.l3.1).2
    have htrm : ∀ x ∈ topsRows ms (topsOf ms (bitsOf ms) i), x.length ≤ 31 := fun x hx => by
      unfold topsRows at hx
      obtain ⟨z, hz, rfl⟩ := List.mem_map.mp hx
      have hz4 := G.c5r i hi z hz
      exact hrm _ (by rw [List.getD_eq_getElem?_getD, List.getElem?_eq_getElem (by omega)]; exact List.getElem_mem _)
    have hjn2 : ∀ q < (topsRows ms (topsOf ms (bitsOf ms) i)).length, Spec prog w ⟨k + 59, true⟩ ψh (.ref ajo) [vS (foldN join [] (topsRows ms (topsOf ms (bitsOf ms) i)) q), vS ((topsRows ms (topsOf ms (bitsOf ms) i)).getD q [])] (vS (join (foldN join [] (topsRows ms (topsOf ms (bitsOf ms) i)) q) ((topsRows ms (topsOf ms (bitsOf ms) i)).getD q []))) := fun q hq =>
      (spec_join (k := k + 49) TT T.F.ie gsl Ksl (G.l5 i hi q (by omega)) (htrm _ (by rw [List.getD_eq_getElem?_getD, List.getElem?_eq_getElem hq]; exact List.getElem_mem hq)) Kjo).le Lh
    have hne5 : Op2 prog w ⟨k + 60, true⟩ ψh (compareOp .NotEq) (vS ((topsRows ms (topsOf ms (bitsOf ms) i)).foldl join [])) (vS (st (setsOf ms) i)) (vBool false) := by
      rw [G.c5 i hi]
      exact op_ne_same (by show 7 ≤ k + 60; omega) (rd_S _) (rd_S _) (dok_S _) (by decide)
    refine y_if bh (r := false) (TI.of c hsc (b_cmp (v_cg (NsKnows.le gre Lh) (Kre.le Lh) (e3 (v_g (NsKnows.le gjo Lh)) ((v_comp (nn := (topsOf ms (bitsOf ms) i).length) (keep := fun _ => true) (R := fun q => vS ((rowsOf ms).getD ((topsOf ms (bitsOf ms) i).getD q 0).toNat [])) (k := k + 59) v_v (src_ints (itr_list rfl)) (by rfl) (fun i hi => ownT) (fun i hi => t_nil)
      (fun q hq _ => v_subL v_v v_v (get_mapZ (f := vS) (d := []) (htm q hq).1 (by have := htm q hq; omega) (by rw [hrl]; decide))) (by omega)).conv (congrArg vList etr)) (v_tup e0 (by decide))) (spec_reduce (k := k + 59) (Bv := vS) (P := vS) (step := join) (b0 := []) (xs := topsRows ms (topsOf ms (bitsOf ms) i)) (d := []) ⟨T.iter.1.le Lh, T.iter.2.le Lh⟩ (NsKnows.le gim Lh) (Lh _ _ him) hicl (fun ψ u ⟨a, vs, n, e, ho, _⟩ => ⟨a, _, e, ho, by show Value.type "tuple" ≠ Value.type "object"; decide⟩) (keep_fn (Lh _ _ Kjo.obj.choose_spec.1) Kjo.obj.choose_spec.2) hjn2 (Lh _ _ hTt) hTd (Kre.le Lh))) v_v hne5)) fun ψz sz lz bz => ?_
    refine x_nil ?_
    show Ex prog w X _ _ _ sz
    refine x_nil ?_
    refine ⟨_, ψz, _, ⟨rfl, vse, je, put_self _ _ _, halle.imp fun (P : VP) v y => P.mono (lf.trans (lg.trans (lh.trans lz))) y⟩, la.trans (lb.trans (lc.trans (ld.trans (le.trans (lf.trans (lg.trans (lh.trans lz))))))), bz.retype fun m t => pk t (pk t (pk t (pk t (pk t (pk t (pk t (pk t Typ.nil))))))), fun a' o ho hn => ?_⟩
    have : a' ≠ aw := fun q => by rw [q, put_self] at hn; cases hn
    rw [put_ne this]; exact ho
  · rintro Γ' ψ' ω' s' ⟨rfl, vs, j, ha, hall⟩ l' b'
    have Lw := L8.trans l'
    rw [G.c6] at hall
    refine y_if b' (r := false) (TI.own c hsc (seeOwn (x := "whole") (o := lst vs j) (by rfl) (own_list ha b'.noOwn hall)) (b_cmp v_v v_v (op_ne_same (by show 7 ≤ k + 60; omega) (rd_list (rd_map rd_S (rowsOf ms))) (rd_list (rd_map rd_S (rowsOf ms))) (dok_list (dok_map dok_S)) (by decide)))) fun ψp sp lp bp => ?_
    refine x_nil ?_
    show Ex prog w X _ _ _ sp
    have Lp := Lw.trans lp
    obtain ⟨act, cct, pmct, gct, Kct, Cct⟩ := T.ctk
    obtain ⟨ath, pmth, cdth, gth, Kth⟩ := T.three
    have hge : X.env.globals = mainGlobals := by obtain ⟨m, Y, _⟩ := bp; exact Y.fram.gl
    refine y_sortKey (k := k + 58) (P := vS') (PF := vFn prog w ⟨k + 57, true⟩ vS' cmpLen) (lt := sizeLt) (d := []) (xs := setsOf ms) (ds := ds2) hsc bp c ⟨TT.sorted.1.le Lp, TT.sorted.2.le Lp⟩ (by rfl) (EV.imp (P := vList ((setsOf ms).map vS)) v_v (vList_re fun x hx ψ v p => ⟨hsm.2 x hx, p⟩)) (by rfl) (NsKnows.le gct Lp) (by rfl) (keep_fn (Lp _ _ Kct.obj.choose_spec.1) Kct.obj.choose_spec.2)
      ((spec_ctk (k := k + 35) Kct Cct T.obj T.bc T.any T.F.mods T.mkT).le Lp) (by rfl) (by rfl) (T.mkT.le Lp) hge hcode (T.lawC.le Lp) (by rw [htb]; exact .head _) (by rw [htb]; exact .tail _ (.head _)) hne
      (fun ψ' f ct pm' c' lf hf hc => ?_) (fun ψ' K cc o fv lf hK ho hod hpf x => (K2_make (k := k + 52) hK ho hod hpf (T.lim.le (Lp.trans lf)))) (fun ψ' K lf x y => K2_lt (k := k + 57) (T.lim.le (Lp.trans lf)) (fun z ψ v hv => by obtain ⟨_, _, _, _, rfl, _⟩ := hv; rfl) x y) hl2 (by omega) (by first | exact sto hsc | exact stoC hsc hft') (fun ψq sq t1 t2 lq bq => ?_)
    · have LL := Lp.trans lf
      have FN : FnK ψ' f (fnD "<lambda>" (X.env.qual ++ "<lambda>") _ (.expr _) _ [] pm' (.ref c') ct) := ⟨⟨_, hf, rfl⟩, rfl, rfl, by rfl, by rfl, by rfl, hc, T.lim.le LL⟩
      refine ⟨keep_fn hf rfl, fun x y => ?_⟩
      by_cases hxy : x.length ≤ 31 ∧ y.length ≤ 31
      · refine spec_lam (k := k + 56) (names := ["one", "other"]) FN rfl rfl rfl (fun vs h => by obtain ⟨a, b, rfl⟩ := list_len2 h; rfl) (by decide +kernel) (by rfl) (by rfl) (by rfl) ?_
        have hl (z : List Nat) (hz : z.length ≤ 31) : Spec prog w ⟨k + 56, true⟩ ψ' (.builtin "len") [vS z] (vInt (z.length : Nat)) := by
          have h := call_len_t (prog := prog) (w := w) (μ := ⟨k + 56, true⟩) (φ := ψ') (ps := z.map vW) (by rw [List.length_map]; omega)
          rw [List.length_map] at h; exact h
        exact v_cg (NsKnows.le gth LL) (Kth.le LL) (e2 (v_cb (TT.le LL).len (e1 (EV.imp (P := vS' x) v_v fun ψ v p => p.2)) (hl x hxy.1)) (v_cb (TT.le LL).len (e1 (EV.imp (P := vS' y) v_v fun ψ v p => p.2)) (hl y hxy.2))) ((spec_three2 (k := k + 55) (x := (x.length : Int)) (y := (y.length : Int)) Kth).le LL)
      · intro A ψ s vs cc lc hv
        obtain ⟨u, v, rfl, p1, p2⟩ := two_args hv
        exact absurd ⟨p1.1, p2.1⟩ hxy
    · have Lq := Lp.trans lq
      have hsc2 : ((X.setTb Plaw (tabObj t1)).setTb Pctk (tabObj t2)).env.scope = (fdOf (st2 18) "law" [] .none .none .none pm (.ref clw) .none).scope := hsc
      have c2 : CX ⟨k + 60, true⟩ ((X.setTb Plaw (tabObj t1)).setTb Pctk (tabObj t2)) := c.tb2.tb2
      have hsrt : ∀ x ∈ sortL sizeLt [] (setsOf ms), ∀ ψ v, (vS' x).p ψ v → (vS x).p ψ v := fun x hx ψ v p => p.2
      have epick : ∀ size : Nat, all2 (fun _ => (setsOf ms).length) (fun i j => ((st (setsOf ms) j).length : Int) == (i : Int)) (fun _ j => vS (st (setsOf ms) j)) size = (((List.range (setsOf ms).length).filter fun j => ((st (setsOf ms) j).length : Int) == (size : Int)).map (st (setsOf ms))).map vS := fun size => by
        unfold all2
        rw [flatMap_pick, List.map_map]; rfl
      have ecomp : (List.range 5).flatMap (all2 (fun _ => (setsOf ms).length) (fun i j => ((st (setsOf ms) j).length : Int) == (i : Int)) (fun _ j => vS (st (setsOf ms) j))) = (sortL sizeLt [] (setsOf ms)).map vS := by
        rw [G.c7]; unfold bySize
        rw [List.map_flatMap]
        exact congrArg (fun f => (List.range 5).flatMap f) (funext epick)
      have hbnd : ∀ i, ((List.range i).flatMap (all2 (fun _ => (setsOf ms).length) (fun i j => ((st (setsOf ms) j).length : Int) == (i : Int)) (fun _ j => vS (st (setsOf ms) j)))).length ≤ i * 16 := fun i => by
        induction i with
        | zero => exact Nat.zero_le _
        | succ i ih =>
          rw [List.range_succ, List.flatMap_append, List.length_append]
          have h1 : ([i].flatMap (all2 (fun _ => (setsOf ms).length) (fun i j => ((st (setsOf ms) j).length : Int) == (i : Int)) (fun _ j => vS (st (setsOf ms) j)))).length ≤ 16 := by
            rw [List.flatMap_singleton]
            exact Nat.le_trans (pick_length _ _ _) hl16
          omega
      have hlt (z : List Nat) (hz : z.length ≤ 31) (kk : Nat) (φ' : PM) : Spec prog w ⟨kk, true⟩ φ' (.builtin "len") [vS z] (vInt (z.length : Nat)) := by
        have h := call_len_t (prog := prog) (w := w) (μ := ⟨kk, true⟩) (φ := φ') (ps := z.map vW) (by rw [List.length_map]; omega)
        rw [List.length_map] at h; exact h
      refine y_return bq (P := vBool true) (EI.of c2 hsc2 (v_cmp (EV.imp v_v (vList_re hsrt)) (EV.conv ⟨ev_comp2 (k := k + 59) (n1 := 5) (n2 := fun _ => (setsOf ms).length) (keep := fun i j => ((st (setsOf ms) j).length : Int) == (i : Int)) (R := fun _ j => vS (st (setsOf ms) j)) (v_ct (TT.le Lq).range (e1 v_int) op_range1).go (src_range0 rfl (by rfl) (by rfl)) (by rfl) (fun i hi => ownT)
        (fun i hi => ev_v) (fun i hi => src_map (f := vS) (d := []) (itr_list rfl)) (fun i hi j hj p hp => ?_) (fun i hi j hj => (t_one (b_cmp (v_cb (TT.le Lq).len (e1 v_v) (hlt _ (hsti j hj) _ _)) v_v op_eq_int)).go) (fun i hi j hj _ => ev_v) (fun i hi => by have h1 := hbnd i; omega)⟩ (congrArg vList ecomp)) (op_eq_same (by show 7 ≤ k + 60; omega) (rd_list (rd_map rd_S _)) (rd_list (rd_map rd_S _)) (dok_list (dok_map dok_S)) (by decide)))) fun v ψr sr lr pr br => ?_
      · rw [List.mem_singleton.mp hp]; exact ⟨by rfl, by rfl⟩
      · cases pr
        have g := br.toGrow
        rw [setTb_F, setTb_F] at g
        exact hfin ψr sr g
end Mine
namespace Mine
variable {prog : Program} {w : World} {X : Fix} {Γ : List (Str × VP)} {ψ ω φ : PM} {s s' : Shared} {k : Nat} {n b : Bool} {m : Str → Option Value} {μ : Md} {A : Around} {env : Env} {sc scope : Scope}
variable {E : Value → Shared → Prop}
open PySem.W.X
theorem wellAll_ints {P : Params} {h : Heap} {ψ : PM} : ∀ {ns : List Int} {vs : List Value}, PySem.W.WellAll P h vs (ofPys (ns.map PyData.int)) → All2 (fun (P : VP) v => P.p ψ v) (ns.map vInt) vs
  | [], _, h => by
    simp only [List.map_nil, ofPys] at h
    cases h; exact .nil
  | n :: ns, _, h => by
    simp only [List.map_cons, ofPys, ofPy] at h
    cases h with
    | cons a t =>
      cases a
      exact .cons ⟨_, rfl⟩ (wellAll_ints t)
theorem law2_end {prog : Program} {w : World} {c : ClaimW} {cl : Str → Option Addr} {mean : ExcName → Option Value} {args : List WData} {s₁ : Shared} {ns : List Int} {a clw Plaw Pctk sv : Addr} {Pr : Params} {E : Value → Shared → Prop} (T : Law2 (phi Plaw Pctk s₁.heap) a clw Plaw Pctk) (hns : ns.length ≤ 63) (W : PySem.W.Well Pr s₁.heap (.ref sv) (ofPy (PyData.list (ns.map PyData.int))))
    (e1 : s₁.heap.get? Plaw = some (tabObj #[])) (e2 : s₁.heap.get? Pctk = some (tabObj #[])) (hne : Plaw ≠ Pctk) (i1 : isCodeTable s₁.heap Plaw) (i2 : isCodeTable s₁.heap Pctk) (hr : ∀ cls, c.raises args cls = false) (hp : c.post args (.bool true) args = true) (hg : s₁.gens = #[]) :
    wpAny (model prog w) callerA (call (.ref a) [.ref sv]) (fun v s' => GoodWG c cl mean args s₁ (.ok (.ret v)) s') E s₁ := by
  have hsub := phi_sub (P := Plaw) (Q := Pctk) (h := s₁.heap)
  have hfr : frs callerA = [] := rfl
  have c0 : Cx ⟨61, true⟩ callerA (phi Plaw Pctk s₁.heap) s₁ := ⟨by decide, by decide, fun _ => rfl, .inl rfl, ⟨[], rfl, fun _ h => nomatch h⟩, (fun b hb => by rw [hfr] at hb; cases hb), hsub⟩
  have hsv : (vList (ns.map vInt)).p (phi Plaw Pctk s₁.heap) (.ref sv) := by
    simp only [ofPy] at W
    cases W with
    | @list _ vs _ hget hall =>
      refine ⟨sv, vs, 0, rfl, ?_, wellAll_ints hall⟩
      unfold phi
      rw [if_neg, hget]
      rintro (q | q)
      · subst q; rw [e1] at hget; cases hget
      · subst q; rw [e2] at hget; cases hget
  refine law2_walk (k := 0) T hns c0 (Le.refl _) hsv hne ⟨e1, ?_, ?_⟩ ⟨e2, ?_, ?_⟩ fun ψ' s' g => ?_
  · unfold phi; rw [if_pos (.inl rfl)]
  · rw [hfr]; exact List.not_mem_nil
  · unfold phi; rw [if_pos (.inr rfl)]
  · rw [hfr]; exact List.not_mem_nil
  obtain ⟨h', tk, hs'⟩ := g.ext.rest
  have hF : ∀ b, b ∈ Plaw :: Pctk :: frs callerA → (b = Plaw ∨ b = Pctk) ∧ isCodeTable s₁.heap b ∧ s₁.heap.get? b = some (tabObj #[]) := fun b hb => by
    rcases List.mem_cons.mp hb with rfl | hb
    · exact ⟨.inl rfl, i1, e1⟩
    · rcases List.mem_cons.mp hb with rfl | hb
      · exact ⟨.inr rfl, i2, e2⟩
      · rw [hfr] at hb; cases hb
  have hold : ∀ b o, s₁.heap.get? b = some o → asItWas s₁.heap s'.heap b o := fun b o e => by
    rcases g.ext.kept b o e with ⟨sl, hh, hs⟩ | ⟨hb, hc, vs, more, hd, hh⟩
    · rcases hs with hs | ⟨hb, hn⟩
      · subst hs; exact .inl hh
      · have := (hF b hb).2.2
        rw [e] at this; cases this
        exact absurd rfl (hn #[])
    · exact .inr (.inl ⟨(hF b hb).2.1, hc, vs, more, hd, hh⟩)
  refine ⟨.inl ⟨_, _, [], rfl, hr, ReadsW.bool true, hp, fun _ => ⟨List.nodup_nil, fun _ hm => (nomatch hm)⟩⟩, ⟨hold, fun b o e => ?_⟩, by rw [hs'], by rw [hs']; show AllBare s₁.gens; rw [hg]; exact AllBare.empty⟩
  rcases g.ext.kept b o e with ⟨sl, hh, _⟩ | ⟨_, _, vs, more, _, hh⟩
  · exact ⟨_, hh⟩
  · exact ⟨_, hh⟩
end Mine
namespace Mine
open PySem.W.X
noncomputable def nq (a : Addr) (x : Str) : Addr × Str := (a, x)
noncomputable def fn2 (i : Nat) (q : Str) (dV kV pm : Value) (c : Addr) : Obj := fnO (fdOf (st2 i) q [] dV kV .none pm (.ref c) .none)
noncomputable def cv2_20 : List Value := [.str "sorted_list_difference" 189, .str "sorted_list_difference" 190, .str "/claim/cut.py" 191, .int (2) 0, .int (2) 0, .int (0) 0, .int (0) 0, .int (3) 0, .ref 15, .bool true, .int (181) 0, .ref 16, .none, .ref 17, .ref 18, .ref 19, .int (200) 0, .int (2) 0, .str "/claim/cut.py" 201]
noncomputable def cv2_27 : List Value := [.str "three_way_cmp" 203, .str "three_way_cmp" 204, .str "/claim/cut.py" 205, .int (34) 0, .int (2) 0, .int (0) 0, .int (0) 0, .int (3) 0, .ref 22, .bool true, .int (181) 0, .ref 23, .none, .ref 24, .ref 25, .ref 26, .int (208) 0, .int (34) 0, .str "/claim/cut.py" 209]
noncomputable def cv2_34 : List Value := [.str "cmp_to_key" 213, .str "cmp_to_key" 214, .str "/claim/cut.py" 215, .int (37) 0, .int (1) 0, .int (0) 0, .int (0) 0, .int (3) 0, .ref 29, .bool true, .int (181) 0, .ref 30, .none, .ref 31, .ref 32, .ref 33, .int (219) 0, .int (37) 0, .str "/claim/cut.py" 220]
noncomputable def cv2_43 : List Value := [.str "reduce" 223, .str "reduce" 224, .str "/claim/cut.py" 225, .int (63) 0, .int (3) 0, .int (0) 0, .int (0) 0, .int (3) 0, .ref 38, .bool true, .int (181) 0, .ref 39, .none, .ref 40, .ref 41, .ref 42, .int (232) 0, .int (63) 0, .str "/claim/cut.py" 233]
noncomputable def cv2_51 : List Value := [.str "_deduplicate" 238, .str "_deduplicate" 239, .str "/claim/cut.py" 240, .int (76) 0, .int (1) 0, .int (0) 0, .int (1) 0, .int (3) 0, .ref 46, .bool true, .int (181) 0, .ref 47, .none, .ref 48, .ref 49, .ref 50, .int (243) 0, .int (76) 0, .str "/claim/cut.py" 244]
noncomputable def cv2_58 : List Value := [.str "_deduplicate_unhashable" 246, .str "_deduplicate_unhashable" 247, .str "/claim/cut.py" 248, .int (83) 0, .int (1) 0, .int (0) 0, .int (0) 0, .int (3) 0, .ref 53, .bool true, .int (181) 0, .ref 54, .none, .ref 55, .ref 56, .ref 57, .int (252) 0, .int (83) 0, .str "/claim/cut.py" 253]
noncomputable def cv2_65 : List Value := [.str "_compare_args_orderless" 255, .str "_compare_args_orderless" 256, .str "/claim/cut.py" 257, .int (89) 0, .int (2) 0, .int (0) 0, .int (0) 0, .int (3) 0, .ref 60, .bool true, .int (181) 0, .ref 61, .none, .ref 62, .ref 63, .ref 64, .int (264) 0, .int (89) 0, .str "/claim/cut.py" 265]
noncomputable def cv2_72 : List Value := [.str "_law_masks" 269, .str "_law_masks" 270, .str "/claim/cut.py" 271, .int (100) 0, .int (1) 0, .int (0) 0, .int (0) 0, .int (3) 0, .ref 67, .bool true, .int (181) 0, .ref 68, .none, .ref 69, .ref 70, .ref 71, .int (278) 0, .int (100) 0, .str "/claim/cut.py" 279]
noncomputable def cv2_77 : List Value := [.str "_law_set" 281, .str "_law_set" 282, .str "/claim/cut.py" 283, .int (110) 0, .int (1) 0, .int (0) 0, .int (0) 0, .int (3) 0, .ref 74, .bool true, .int (181) 0, .ref 75, .none, .none, .none, .ref 76, .int (284) 0, .int (110) 0, .str "/claim/cut.py" 285]
noncomputable def cv2_84 : List Value := [.str "_law_join" 287, .str "_law_join" 288, .str "/claim/cut.py" 289, .int (112) 0, .int (2) 0, .int (0) 0, .int (0) 0, .int (3) 0, .ref 79, .bool true, .int (181) 0, .ref 80, .none, .ref 81, .ref 82, .ref 83, .int (292) 0, .int (112) 0, .str "/claim/cut.py" 293]
noncomputable def cv2_89 : List Value := [.str "_law_grown" 295, .str "_law_grown" 296, .str "/claim/cut.py" 297, .int (114) 0, .int (2) 0, .int (0) 0, .int (0) 0, .int (3) 0, .ref 86, .bool true, .int (181) 0, .ref 87, .none, .none, .none, .ref 88, .int (298) 0, .int (114) 0, .str "/claim/cut.py" 299]
noncomputable def cv2_96 : List Value := [.str "_law_all" 301, .str "_law_all" 302, .str "/claim/cut.py" 303, .int (116) 0, .int (1) 0, .int (0) 0, .int (0) 0, .int (3) 0, .ref 91, .bool true, .int (181) 0, .ref 92, .none, .ref 93, .ref 94, .ref 95, .int (309) 0, .int (116) 0, .str "/claim/cut.py" 310]
noncomputable def cv2_101 : List Value := [.str "_law_tops" 312, .str "_law_tops" 313, .str "/claim/cut.py" 314, .int (126) 0, .int (2) 0, .int (0) 0, .int (0) 0, .int (3) 0, .ref 98, .bool true, .int (181) 0, .ref 99, .none, .none, .none, .ref 100, .int (315) 0, .int (126) 0, .str "/claim/cut.py" 316]
noncomputable def cv2_106 : List Value := [.str "law" 318, .str "law" 319, .str "/claim/cut.py" 320, .int (132) 0, .int (1) 0, .int (0) 0, .int (0) 0, .int (3) 0, .ref 103, .bool true, .int (181) 0, .ref 104, .none, .none, .none, .ref 105, .int (321) 0, .int (132) 0, .str "/claim/cut.py" 322]
noncomputable def as2 : List Addr := [21, 28, 35, 44, 52, 59, 66, 73, 78, 85, 90, 97, 102, 107, 20, 27, 34, 43, 51, 58, 65, 72, 77, 84, 89, 96, 101, 106, 37, 36, 104, 30, 4]
noncomputable def os2 : List (Option Obj) := [
  some (fn2 1 "sorted_list_difference" (.none) (.none) (.str "cpy313.unittest.util" 187) 20),
  some (fn2 2 "three_way_cmp" (.none) (.none) (.str "cpy313.unittest.util" 187) 27),
  some (fn2 4 "cmp_to_key" (.none) (.none) (.str "cpy313.functools" 211) 34),
  some (fn2 6 "reduce" (.ref 37) (.none) (.str "cpy313.functools" 211) 43),
  some (fn2 8 "_deduplicate" (.none) (.ref 45) (.str "cpy313.typing" 235) 51),
  some (fn2 9 "_deduplicate_unhashable" (.none) (.none) (.str "cpy313.typing" 235) 58),
  some (fn2 10 "_compare_args_orderless" (.none) (.none) (.str "cpy313.typing" 235) 65),
  some (fn2 12 "_law_masks" (.none) (.none) (.str "law_op0045_02" 267) 72),
  some (fn2 13 "_law_set" (.none) (.none) (.str "law_op0045_02" 267) 77),
  some (fn2 14 "_law_join" (.none) (.none) (.str "law_op0045_02" 267) 84),
  some (fn2 15 "_law_grown" (.none) (.none) (.str "law_op0045_02" 267) 89),
  some (fn2 16 "_law_all" (.none) (.none) (.str "law_op0045_02" 267) 96),
  some (fn2 17 "_law_tops" (.none) (.none) (.str "law_op0045_02" 267) 101),
  some (fn2 18 "law" (.none) (.none) (.str "law_op0045_02" 267) 106),
  some (codeO cv2_20),
  some (codeO cv2_27),
  some (codeO cv2_34),
  some (codeO cv2_43),
  some (codeO cv2_51),
  some (codeO cv2_58),
  some (codeO cv2_65),
  some (codeO cv2_72),
  some (codeO cv2_77),
  some (codeO cv2_84),
  some (codeO cv2_89),
  some (codeO cv2_96),
  some (codeO cv2_101),
  some (codeO cv2_106),
  some (tupO [.ref 36]),
  some ({ cls := .type "object" }),
  some (tabObj #[]),
  some (tabObj #[]),
  some ({ cls := .type "module", dict := some 0 })]
noncomputable def ns2 : List (Addr × Str) := [nq 3 "sorted_list_difference", nq 3 "three_way_cmp", nq 3 "cmp_to_key", nq 3 "reduce", nq 3 "_deduplicate", nq 3 "_deduplicate_unhashable", nq 3 "_compare_args_orderless", nq 3 "_law_masks", nq 3 "_law_set", nq 3 "_law_join", nq 3 "_law_grown", nq 3 "_law_all", nq 3 "_law_tops", nq 3 "law", nq 3 "range", nq 0 "range", nq 3 "enumerate", nq 0 "enumerate", nq 3 "tuple", nq 0 "tuple", nq 3 "list", nq 0 "list", nq 3 "IndexError", nq 0 "IndexError", nq 3 "dict", nq 0 "dict", nq 3 "TypeError", nq 0 "TypeError", nq 3 "ValueError", nq 0 "ValueError", nq 3 "object", nq 0 "object", nq 3 "sum", nq 0 "sum", nq 3 "sorted", nq 0 "sorted", nq 3 "len", nq 0 "len", nq 3 "iter", nq 0 "iter", nq 0 "__build_class__", nq 2 "thirdparty.any", nq 2 "sys.recursionlimit", nq 3 "_initial_missing", nq 3 "__name__", nq 3 "__builtins__", nq 45 "unhashable_fallback", nq 1 "zz"]
noncomputable def vs2 : List (Option Value) := [some (.ref 21), some (.ref 28), some (.ref 35), some (.ref 44), some (.ref 52), some (.ref 59), some (.ref 66), some (.ref 73), some (.ref 78), some (.ref 85), some (.ref 90), some (.ref 97), some (.ref 102), some (.ref 107), none, some (.type "range"), none, some (.type "enumerate"), none, some (.type "tuple"), none, some (.type "list"), none, some (.type "IndexError"), none, some (.type "dict"), none, some (.type "TypeError"), none, some (.type "ValueError"), none, some (.type "object"), none, some (.builtin "sum"), none, some (.builtin "sorted"), none, some (.builtin "len"), none, some (.builtin "iter"), some (.builtin "__build_class__"), none, none, some (.ref 36), some (.str "law_op0045_02" 267), some (.ref 4), some (.bool false), none]
noncomputable def es2 : List Addr := [0, 1, 2, 3, 45]
noncomputable def PP2 : Program := PySem.Challenge.rw_op0045_02.row.prog
noncomputable def QQ2 : Program := view PP2 [1, 2, 4, 9, 10, 11, 12, 13, 14, 15, 16, 17, 18]
noncomputable def LL2 : List Str := ["_initial_missing", "reduce", "_deduplicate"]
theorem left2 : LeftO PP2 QQ2 LL2 (fun s => xlAt QQ2 [] s && recOk (RowW.records PySem.Challenge.rw_op0045_02.row.toRowW) s) (lookH as2 ns2 es2) (fun _ => (os2, vs2, true)) 1120 := fun w => by
  kernel_rfl

end Mine
namespace Mine
open PySem.W.X
theorem law2_known {h : Heap} (K : Known h as2 os2 ns2 vs2 es2) : Law2 (phi 104 30 h) 107 106 104 30 := by
  have lim : NsKnows (phi 104 30 h) cStatics "sys.recursionlimit" none := K.ns (by rfl) (by rfl) (by kernel_rfl)
  have bn : ∀ {x : Str} {v : Value}, nsT ns2 vs2 mainGlobals x = some none → nsT ns2 vs2 builtinsNs x = some (some v) → BN (phi 104 30 h) x v := fun e1 e2 => ⟨K.ns (by rfl) (by rfl) e1, K.ns (by rfl) (by rfl) e2⟩
  have gn : ∀ {x : Str} {v : Value}, nsT ns2 vs2 mainGlobals x = some (some v) → GN (phi 104 30 h) x v := fun e1 => K.ns (by rfl) (by rfl) e1
  have T2 : Top2 (phi 104 30 h) := ⟨bn (by kernel_rfl) (by kernel_rfl), bn (by kernel_rfl) (by kernel_rfl), bn (by kernel_rfl) (by kernel_rfl), bn (by kernel_rfl) (by kernel_rfl), bn (by kernel_rfl) (by kernel_rfl), bn (by kernel_rfl) (by kernel_rfl), bn (by kernel_rfl) (by kernel_rfl)⟩
  have cd : ∀ {a c : Addr} {i : Nat} {q : Str} {dV kV pm : Value} {vs : List Value} {tq : Tok}, objT as2 os2 a = some (fn2 i q dV kV pm c) → objT as2 os2 c = some (codeO vs) → vs[1]? = some (.str q tq) → fdB 104 30 a c (fdOf (st2 i) q [] dV kV .none pm (.ref c) .none) = true → FnK (phi 104 30 h) a (fdOf (st2 i) q [] dV kV .none pm (.ref c) .none) := fun e ec hq hb => K.fn lim e rfl ec hq hb
  have mods : ∃ o, phi 104 30 h sysModules = some o := by
    obtain ⟨o, _, _, h1, _, _, _⟩ : NsKnows (phi 104 30 h) sysModules "zz" none := K.ns (by rfl) (by rfl) (by kernel_rfl)
    exact ⟨o, h1⟩
  have F2 : Fn2 (phi 104 30 h) := ⟨T2, bn (by kernel_rfl) (by kernel_rfl), ⟨21, _, _, gn (by kernel_rfl), cd (by rfl) (by rfl) (by rfl) (by kernel_rfl)⟩, ⟨85, _, _, gn (by kernel_rfl), cd (by rfl) (by rfl) (by rfl) (by kernel_rfl)⟩,
    bn (by kernel_rfl) (by kernel_rfl), bn (by kernel_rfl) (by kernel_rfl), mods, ⟨52, 45, _, _, gn (by kernel_rfl), cd (by rfl) (by rfl) (by rfl) (by kernel_rfl), K.ns (by rfl) (by rfl) (by kernel_rfl)⟩⟩
  exact ⟨F2, ⟨_, cd (by rfl) (by rfl) (by rfl) (by kernel_rfl)⟩, K.codeHd (cs := cv2_106) (by rfl) (by kernel_rfl) (by rfl) (by rfl) (by rfl) (by rfl) (by rfl) (by decide),
    ⟨73, _, _, gn (by kernel_rfl), cd (by rfl) (by rfl) (by rfl) (by kernel_rfl)⟩,
    ⟨78, _, _, gn (by kernel_rfl), cd (by rfl) (by rfl) (by rfl) (by kernel_rfl)⟩,
    ⟨90, _, _, gn (by kernel_rfl), cd (by rfl) (by rfl) (by rfl) (by kernel_rfl)⟩,
    ⟨97, _, _, gn (by kernel_rfl), cd (by rfl) (by rfl) (by rfl) (by kernel_rfl)⟩,
    ⟨102, _, _, gn (by kernel_rfl), cd (by rfl) (by rfl) (by rfl) (by kernel_rfl)⟩,
    ⟨44, 37, 36, _, _, _, _, _, gn (by kernel_rfl), cd (by rfl) (by rfl) (by rfl) (by kernel_rfl), K.at (o := tupO [.ref 36]) (by rfl) (by kernel_rfl), by rfl, gn (by kernel_rfl), K.at (o := { cls := .type "object" }) (by rfl) (by kernel_rfl), by rfl⟩,
    bn (by kernel_rfl) (by kernel_rfl), bn (by kernel_rfl) (by kernel_rfl),
    ⟨59, _, _, gn (by kernel_rfl), cd (by rfl) (by rfl) (by rfl) (by kernel_rfl)⟩,
    ⟨66, _, _, gn (by kernel_rfl), cd (by rfl) (by rfl) (by rfl) (by kernel_rfl)⟩,
    ⟨28, _, _, gn (by kernel_rfl), cd (by rfl) (by rfl) (by rfl) (by kernel_rfl)⟩,
    ⟨35, 34, _, gn (by kernel_rfl), cd (by rfl) (by rfl) (by rfl) (by kernel_rfl), K.codeHd (cs := cv2_34) (by rfl) (by kernel_rfl) (by rfl) (by rfl) (by rfl) (by rfl) (by rfl) (by decide)⟩,
    bn (by kernel_rfl) (by kernel_rfl), K.ns (by rfl) (by rfl) (by kernel_rfl), K.ns (by rfl) (by rfl) (by kernel_rfl),
    ⟨⟨.str "law_op0045_02" 267, K.ns (by rfl) (by rfl) (by kernel_rfl)⟩, ⟨4, _, K.ns (by rfl) (by rfl) (by kernel_rfl), by decide, K.at (o := { cls := .type "module", dict := some 0 }) (by rfl) (by kernel_rfl), by rfl, by rfl, by rfl⟩⟩, lim⟩
end Mine
open PySem.W.X PySem.W.ZRun Mine
set_option maxHeartbeats 0 in
theorem PySem.Challenge.cw_op0045_02_holds : PySem.Challenge.rw_op0045_02.Holds := by
  w_on
  refine holds_law (by kernel_rfl) fun said => ?_
  refine holds_openX (q := QQ2) (loose := LL2) (Xt := fun s => xlAt QQ2 [] s && recOk (RowW.records PySem.Challenge.rw_op0045_02.row.toRowW) s) (XP := XL QQ2 []) (Yf := lookH as2 ns2 es2) (Ya := fun _ => (os2, vs2, true)) (N := 1120) left2 (fun s e => xl_of s (Bool.and_eq_true_iff.mp e).1) XL.keeps (by rfl) (by rfl) (by rfl) (fun s e => recFacts_of (Bool.and_eq_true_iff.mp e).2) (by rfl) (by first | assumption | decide +kernel) (by decide +kernel) ⟨rfl, rfl, rfl, rfl, rfl, by decide +kernel⟩ ?hw ?hc
  (case hw => exact ⟨[ofPy (PyData.list [])], by decide +kernel, by decide +kernel⟩)
  intro w s₀ s₁ mg mb G y fa o pm cd doc dV kV ho hd hcd hD hmg hg args vals as L hpre hlay hrd hwl hlo
  have K := Known.of y L.keeps
  refine Ground.open G ?_
  intro T B D TE TW
  wrow_args hpre hlay hrd hwl hlo
  have hfa : fa = 107 := by
    have e := K.val T.g (x := "law") (r := some (.ref 107)) (by rfl) (by kernel_rfl)
    have e2 : some (Value.ref fa) = some (.ref 107) := hmg.symm.trans e
    cases e2; rfl
  subst hfa
  clear hd hD hmg ho hcd
  have hkey : ∀ (ns : List Int) (sv : Addr), ¬ ((63 : Nat) : Int) < ((ns.length : Nat) : Int) → PySem.W.Well w.params s₁.heap (Value.ref sv) (ofPy (PyData.list (List.map PyData.int ns))) → wpAny (model PySem.Challenge.rw_op0045_02.row.prog w) callerA (call (.ref 107) [.ref sv]) (fun v s' => GoodWG PySem.Challenge.rw_op0045_02.row.claim (classAt s₀.heap) (ExcName.means s₀.heap) [ofPy (PyData.list (List.map PyData.int ns))] s₁ (.ok (.ret v)) s') (fun e s' => GoodWG PySem.Challenge.rw_op0045_02.row.claim (classAt s₀.heap) (ExcName.means s₀.heap) [ofPy (PyData.list (List.map PyData.int ns))] s₁ (.error e) s') s₁ := fun ns sv hn hW =>
    law2_end (law2_known K) (by omega) hW (K.obj (by kernel_rfl)) (K.obj (by kernel_rfl)) (by decide) (K.table (c := 106) (cs := cv2_106) (by kernel_rfl) (by rfl)) (K.table (c := 34) (cs := cv2_34) (by kernel_rfl) (by rfl)) (fun _ => rfl) (by first | rfl | wrow_post) hg
  exact hkey _ _ (by assumption) (by assumption)
