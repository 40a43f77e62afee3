import PyProof.Rows.All
import Wide.All
import OpenK.AllK
import Wide.FinOn
import PySem.Challenge.RW_uj0008_01
open PySem PySem.W PyProof.Rows PySem.Calls
set_option Elab.async false
set_option maxRecDepth 100000
set_option linter.unusedVariables false

-- M1
namespace Mine

inductive PV where
  | none
  | bool (b : Bool)
  | int (i : Int)
  | flt (b : UInt64)
  | str (s : Str)
  | tup (l : List PV)
  | lst (l : List PV)
  | hdr (l : List PV)

noncomputable def Grow (h h' : Heap) : Prop := ∀ b o, h.get? b = some o → h'.get? b = some o
theorem Grow.refl (h : Heap) : Grow h h := fun _ _ e => e
theorem Grow.trans {h₁ h₂ h₃ : Heap} (x : Grow h₁ h₂) (y : Grow h₂ h₃) : Grow h₁ h₃ := fun b o e => y b o (x b o e)

theorem keeps_refl (s : Shared) : Keeps s s := ⟨s.heap, s.toks, rfl, fun _ _ e => e⟩
theorem keeps_tok (s : Shared) (t : Nat) : Keeps s { s with toks := t } := ⟨s.heap, t, rfl, fun _ _ e => e⟩
theorem keeps_of {s : Shared} {h' : Heap} {tk : Nat} (k : Grow s.heap h') : Keeps s { s with heap := h', toks := tk } := ⟨h', tk, rfl, k⟩
theorem keeps_trans {s₁ s₂ s₃ : Shared} (x : Keeps s₁ s₂) (y : Keeps s₂ s₃) : Keeps s₁ s₃ := by
  obtain ⟨h, t, rfl, k⟩ := x
  obtain ⟨h', t', rfl, k'⟩ := y
  exact ⟨h', t', rfl, fun b o e => k' b o (k b o e)⟩
theorem keeps_grow {s s' : Shared} (x : Keeps s s') : Grow s.heap s'.heap := by
  obtain ⟨h, t, rfl, k⟩ := x; exact k

/-- which float a token was made for -/
noncomputable abbrev TM := Tok → Option UInt64
noncomputable def TExt (T T' : TM) : Prop := ∀ t b, T t = some b → T' t = some b
noncomputable def TNew (T T' : TM) (n : Nat) : Prop := ∀ t b, T' t = some b → T t = some b ∨ t < n
noncomputable def TDom (T : TM) (n : Nat) : Prop := 0 < n ∧ ∀ t b, T t = some b → t < n
theorem TExt.refl (T : TM) : TExt T T := fun _ _ e => e
theorem TExt.trans {T₁ T₂ T₃ : TM} (x : TExt T₁ T₂) (y : TExt T₂ T₃) : TExt T₁ T₃ := fun t b e => y t b (x t b e)
theorem TNew.refl (T : TM) (n : Nat) : TNew T T n := fun _ _ e => .inl e
theorem TNew.trans {T₁ T₂ T₃ : TM} {n m : Nat} (x : TNew T₁ T₂ n) (y : TNew T₂ T₃ m) (h : n ≤ m) : TNew T₁ T₃ m := fun t b e => (y t b e).elim (fun e => (x t b e).imp id fun l => Nat.lt_of_lt_of_le l h) .inr
theorem TDom.step {T T' : TM} {n m : Nat} (x : TDom T n) (h : n ≤ m) (y : TNew T T' m) : TDom T' m :=
  ⟨Nat.lt_of_lt_of_le x.1 h, fun t b e => (y t b e).elim (fun e => Nat.lt_of_lt_of_le (x.2 t b e) h) id⟩
noncomputable def TAdd (T : TM) (n : Nat) (b : UInt64) : TM := fun t => if t = n then some b else T t
theorem TAdd.ext {T : TM} {n : Nat} (x : TDom T n) (b : UInt64) : TExt T (TAdd T n b) := fun t c e => by
  have := x.2 t c e
  unfold TAdd
  rw [if_neg (Nat.ne_of_lt this)]; exact e
theorem TAdd.new (T : TM) (n : Nat) (b : UInt64) : TNew T (TAdd T n b) (n + 1) := fun t c e => by
  unfold TAdd at e
  split at e
  · rename_i q; right; rw [q]; exact Nat.lt_succ_self _
  · exact .inl e
theorem TAdd.at (T : TM) (n : Nat) (b : UInt64) : TAdd T n b n = some b := if_pos rfl

/-- a heap and what its floats' tokens stand for -/
structure GS where
  h : Heap
  T : TM
structure Le (g g' : GS) : Prop where
  h : Grow g.h g'.h
  T : TExt g.T g'.T
theorem Le.refl (g : GS) : Le g g := ⟨Grow.refl _, TExt.refl _⟩
theorem Le.trans {g₁ g₂ g₃ : GS} (x : Le g₁ g₂) (y : Le g₂ g₃) : Le g₁ g₃ := ⟨x.h.trans y.h, x.T.trans y.T⟩

noncomputable def PlainTup (h : Heap) (a : Addr) (items : Array Value) : Prop := ∃ n, h.get? a = some { cls := .type "tuple", data := .seq items n }
theorem PlainTup.isTuple {h : Heap} {a : Addr} {items : Array Value} (x : PlainTup h a items) : h.IsTuple a items := let ⟨n, e⟩ := x; ⟨_, e, rfl, n, rfl⟩
theorem PlainTup.isTup {h : Heap} {a : Addr} {items : Array Value} (x : PlainTup h a items) : IsTup h a items := let ⟨n, e⟩ := x; ⟨_, e, rfl, n, rfl⟩
theorem plainList_grow {h h' : Heap} {a : Addr} {items : Array Value} (x : h.PlainList a items) (k : Grow h h') : h'.PlainList a items := x.at fun o e => k a o e
theorem plainTup_grow {h h' : Heap} {a : Addr} {items : Array Value} (x : PlainTup h a items) (k : Grow h h') : PlainTup h' a items := let ⟨n, e⟩ := x; ⟨n, k _ _ e⟩

/-- the class Headers, where the top has laid it -/
noncomputable def HC : Addr := 182

mutual
inductive Rep (g : GS) : Value → PV → Prop
  | none : Rep g .none .none
  | bool (b : Bool) : Rep g (.bool b) (.bool b)
  | int (i : Int) (t : Tok) : Rep g (.int i t) (.int i)
  | flt (b : UInt64) (t : Tok) (ht : 0 < t) (hT : g.T t = some b) : Rep g (.float b t) (.flt b)
  | str (s : Str) (t : Tok) : Rep g (.str s t) (.str s)
  | tup {a : Addr} {vs : List Value} {l : List PV} : PlainTup g.h a vs.toArray → RepL g vs l → Rep g (.ref a) (.tup l)
  | lst {a : Addr} {vs : List Value} {l : List PV} : g.h.PlainList a vs.toArray → RepL g vs l → Rep g (.ref a) (.lst l)
  | hdr {x dx a : Addr} {hs : Int} {t : Tok} {n : Nat} {vs : List Value} {l : List PV} : g.h.get? x = some (instObj HC dx) →
      g.h.get? dx = some (dictOf [⟨hs, .str (Str.ofString "_headers") t, .ref a⟩] n) → g.h.PlainList a vs.toArray → RepL g vs l → Rep g (.ref x) (.hdr l)
inductive RepL (g : GS) : List Value → List PV → Prop
  | nil : RepL g [] []
  | cons {v : Value} {p : PV} {vs : List Value} {ps : List PV} : Rep g v p → RepL g vs ps → RepL g (v :: vs) (p :: ps)
end

mutual
theorem Rep.grow {g g' : GS} (k : Le g g') : ∀ {v : Value} {p : PV}, Rep g v p → Rep g' v p
  | _, _, .none => .none
  | _, _, .bool b => .bool b
  | _, _, .int i t => .int i t
  | _, _, .flt b t ht hT => .flt b t ht (k.T _ _ hT)
  | _, _, .str s t => .str s t
  | _, _, .tup x r => .tup (plainTup_grow x k.h) (r.grow k)
  | _, _, .lst x r => .lst (plainList_grow x k.h) (r.grow k)
  | _, _, .hdr x y z r => .hdr (k.h _ _ x) (k.h _ _ y) (plainList_grow z k.h) (r.grow k)
theorem RepL.grow {g g' : GS} (k : Le g g') : ∀ {vs : List Value} {ps : List PV}, RepL g vs ps → RepL g' vs ps
  | _, _, .nil => .nil
  | _, _, .cons a r => .cons (a.grow k) (r.grow k)
end

theorem RepL.length {g : GS} : ∀ {vs : List Value} {ps : List PV}, RepL g vs ps → vs.length = ps.length
  | _, _, .nil => rfl
  | _, _, .cons _ r => by simp [r.length]
theorem RepL.append {g : GS} : ∀ {vs ws : List Value} {ps qs : List PV}, RepL g vs ps → RepL g ws qs → RepL g (vs ++ ws) (ps ++ qs)
  | _, _, _, _, .nil, y => y
  | _, _, _, _, .cons a r, y => .cons a (r.append y)
theorem RepL.get {g : GS} : ∀ {vs : List Value} {ps : List PV}, RepL g vs ps → ∀ {i : Nat} {p : PV}, ps[i]? = some p → ∃ v, vs[i]? = some v ∧ Rep g v p
  | _, _, .nil, i, p, e => by simp at e
  | _, _, .cons a r, 0, p, e => by simp at e; subst e; exact ⟨_, by simp, a⟩
  | _, _, .cons a r, i + 1, p, e => by
    obtain ⟨v, hv, hr⟩ := r.get (i := i) (p := p) (by simpa using e)
    exact ⟨v, by simpa using hv, hr⟩
theorem RepL.getv {g : GS} : ∀ {vs : List Value} {ps : List PV}, RepL g vs ps → ∀ {i : Nat} {v : Value}, vs[i]? = some v → ∃ p, ps[i]? = some p ∧ Rep g v p
  | _, _, .nil, i, p, e => by simp at e
  | _, _, .cons a r, 0, p, e => by simp at e; subst e; exact ⟨_, by simp, a⟩
  | _, _, .cons a r, i + 1, p, e => by
    obtain ⟨v, hv, hr⟩ := r.getv (i := i) (v := p) (by simpa using e)
    exact ⟨v, by simpa using hv, hr⟩

/-- the heap without the places in H -/
noncomputable abbrev hv (H : List Addr) (g : GS) : GS := ⟨hideAll g.h H, g.T⟩
theorem hv_of {H : List Addr} {h : Heap} {b : Addr} {o : Obj} (e : (hideAll h H).get? b = some o) : h.get? b = some o := of_hideAll H e
theorem hv_notin {H : List Addr} {h : Heap} {b : Addr} {o : Obj} (e : (hideAll h H).get? b = some o) : b ∉ H := fun hb => by
  rw [hideAll_none H hb] at e; cases e
theorem hv_in {H : List Addr} {h : Heap} {b : Addr} {o : Obj} (e : h.get? b = some o) (hb : b ∉ H) : (hideAll h H).get? b = some o := hideAll_get H e hb
/-- what is not in H stays -/
noncomputable def GrowX (H : List Addr) (h h' : Heap) : Prop := ∀ b o, b ∉ H → h.get? b = some o → h'.get? b = some o
theorem Grow.toX {H : List Addr} {h h' : Heap} (k : Grow h h') : GrowX H h h' := fun b o _ e => k b o e
theorem GrowX.refl (H : List Addr) (h : Heap) : GrowX H h h := fun _ _ _ e => e
theorem GrowX.trans {H : List Addr} {h₁ h₂ h₃ : Heap} (x : GrowX H h₁ h₂) (y : GrowX H h₂ h₃) : GrowX H h₁ h₃ := fun b o n e => y b o n (x b o n e)
theorem GrowX.sub {H H' : List Addr} {h h' : Heap} (k : GrowX H h h') (s : ∀ a ∈ H, a ∈ H') : GrowX H' h h' := fun b o n e => k b o (fun q => n (s b q)) e
theorem GrowX.hv {H : List Addr} {h h' : Heap} (k : GrowX H h h') : Grow (hideAll h H) (hideAll h' H) := fun b o e => hv_in (k b o (hv_notin e) (hv_of e)) (hv_notin e)
theorem Grow.hv {H : List Addr} {h h' : Heap} (k : Grow h h') : Grow (hideAll h H) (hideAll h' H) := (Grow.toX k).hv
theorem Le.hv {H : List Addr} {g g' : GS} (k : Le g g') : Le (hv H g) (Mine.hv H g') := ⟨k.h.hv, k.T⟩
theorem hv_grow (H : List Addr) (h : Heap) : Grow (hideAll h H) h := fun _ _ e => hv_of e
theorem hv_le (H : List Addr) (g : GS) : Le (hv H g) g := ⟨hv_grow _ _, TExt.refl _⟩
theorem hv_sub {H H' : List Addr} {h : Heap} (s : ∀ a ∈ H', a ∈ H) : Grow (hideAll h H) (hideAll h H') := fun b o e => hv_in (hv_of e) fun q => hv_notin e (s b q)

/-- the hidden places are laid -/
noncomputable def Laid (H : List Addr) (h : Heap) : Prop := ∀ a ∈ H, ∃ o, h.get? a = some o
theorem Laid.grow {H : List Addr} {h h' : Heap} (x : Laid H h) (k : Grow h h') : Laid H h' := fun a ha => let ⟨o, e⟩ := x a ha; ⟨o, k _ _ e⟩
theorem Laid.new {H : List Addr} {h : Heap} (x : Laid H h) {a : Addr} (e : h.get? a = none) : a ∉ H := fun ha => by
  obtain ⟨o, q⟩ := x a ha; rw [e] at q; cases q
theorem size_none (h : Heap) : h.get? h.objs.size = none := by
  cases e : h.get? h.objs.size with
  | none => rfl
  | some o => exact absurd (Heap.lt_size e) (Nat.lt_irrefl _)

theorem Rep.lstInv {g : GS} {v : Value} {l : List PV} (x : Rep g v (.lst l)) : ∃ a vs, v = .ref a ∧ g.h.PlainList a (List.toArray vs) ∧ RepL g vs l := by
  cases x with | lst y r => exact ⟨_, _, rfl, y, r⟩
theorem Rep.tupInv {g : GS} {v : Value} {l : List PV} (x : Rep g v (.tup l)) : ∃ a vs, v = .ref a ∧ PlainTup g.h a (List.toArray vs) ∧ RepL g vs l := by
  cases x with | tup y r => exact ⟨_, _, rfl, y, r⟩

theorem Rep.intInv {g : GS} {v : Value} {a : Int} (x : Rep g v (.int a)) : ∃ t, v = .int a t := by cases x with | int _ t => exact ⟨t, rfl⟩
theorem Rep.boolInv {g : GS} {v : Value} {a : Bool} (x : Rep g v (.bool a)) : v = .bool a := by cases x; rfl
theorem Rep.noneInv {g : GS} {v : Value} (x : Rep g v .none) : v = .none := by cases x; rfl
theorem Rep.fltInv {g : GS} {v : Value} {a : UInt64} (x : Rep g v (.flt a)) : ∃ t, v = .float a t ∧ 0 < t ∧ g.T t = some a := by cases x with | flt _ t h k => exact ⟨t, rfl, h, k⟩
theorem Rep.strInv {g : GS} {v : Value} {a : Str} (x : Rep g v (.str a)) : ∃ t, v = .str a t := by cases x with | str _ t => exact ⟨t, rfl⟩
theorem RepL.nilInv {g : GS} {vs : List Value} (x : RepL g vs []) : vs = [] := by cases x; rfl
theorem RepL.consInv {g : GS} {vs : List Value} {p : PV} {ps : List PV} (x : RepL g vs (p :: ps)) : ∃ v ws, vs = v :: ws ∧ Rep g v p ∧ RepL g ws ps := by cases x with | cons a r => exact ⟨_, _, rfl, a, r⟩

noncomputable abbrev gs (s : Shared) (T : TM) : GS := ⟨s.heap, T⟩
/-- how a tree that only grows the heap may go on -/
structure Goes (s : Shared) (T : TM) (s' : Shared) (T' : TM) : Prop where
  k : Keeps s s'
  e : TExt T T'
  n : TNew T T' s'.toks
/-- a tree that only grows the heap and ends well -/
noncomputable def Ok (M : Model) (A : Around) {α : Type} (t : Sem α) (s : Shared) (T : TM) (R : α → GS → Prop) : Prop :=
  ∀ E : Value → Shared → Prop, wpAny M A t (fun v s' => ∃ T', R v (gs s' T') ∧ Goes s T s' T') E s

theorem Goes.le {s s' : Shared} {T T' : TM} (x : Goes s T s' T') : Le (gs s T) (gs s' T') := ⟨keeps_grow x.k, x.e⟩
theorem Goes.refl (s : Shared) (T : TM) : Goes s T s T := ⟨keeps_refl s, TExt.refl _, TNew.refl _ _⟩
theorem Goes.of {s s' : Shared} (T : TM) (k : Keeps s s') : Goes s T s' T := ⟨k, TExt.refl _, TNew.refl _ _⟩
theorem Goes.tok (s : Shared) (T : TM) (n : Nat) : Goes s T { s with toks := n } T := .of _ (keeps_tok _ _)
theorem Goes.flt {s : Shared} {T : TM} (d : TDom T s.toks) (b : UInt64) : Goes s T { s with toks := s.toks + 1 } (TAdd T s.toks b) := ⟨keeps_tok _ _, TAdd.ext d b, TAdd.new _ _ _⟩
theorem Goes.trans {s₁ s₂ s₃ : Shared} {T₁ T₂ T₃ : TM} (x : Goes s₁ T₁ s₂ T₂) (y : Goes s₂ T₂ s₃ T₃) (h : s₂.toks ≤ s₃.toks) : Goes s₁ T₁ s₃ T₃ := ⟨keeps_trans x.k y.k, x.e.trans y.e, x.n.trans y.n h⟩
theorem Goes.dom {s s' : Shared} {T T' : TM} (x : Goes s T s' T') (d : TDom T s.toks) (h : s.toks ≤ s'.toks) : TDom T' s'.toks := d.step h x.n

section
variable {M : Model} {A : Around} {α β : Type} {s : Shared} {T : TM}
theorem Ok.wp {t : Sem α} {R : α → GS → Prop} {Q : α → Shared → Prop} {E : Value → Shared → Prop} (x : Ok M A t s T R)
    (q : ∀ v s' T', R v (gs s' T') → Goes s T s' T' → s.toks ≤ s'.toks → Q v s') : wpAny M A t Q E s :=
  wpAny_mono (wpAny_toks (x E)) (fun v s' h => let ⟨tk, T', r, g⟩ := h; q v s' T' r g tk) fun _ _ e => e.2
theorem Ok.mono {t : Sem α} {R R' : α → GS → Prop} (x : Ok M A t s T R) (q : ∀ v g', Le (gs s T) g' → R v g' → R' v g') : Ok M A t s T R' := fun _ =>
  x.wp fun v s' T' h g _ => ⟨T', q v _ g.le h, g⟩
theorem Ok.pure {a : α} {R : α → GS → Prop} (q : R a (gs s T)) : Ok M A (Pure.pure a) s T R := fun _ => wpAny_pure ⟨T, q, Goes.refl s T⟩
theorem Ok.bind {m : Sem α} {f : α → Sem β} {R : α → GS → Prop} {R' : β → GS → Prop} (x : Ok M A m s T R)
    (y : ∀ v s' T', R v (gs s' T') → Goes s T s' T' → s.toks ≤ s'.toks → Ok M A (f v) s' T' R') : Ok M A (m >>= f) s T R' := fun E =>
  wpAny_bind (x.wp fun v s' T' r k tk => (y v s' T' r k tk).wp fun w s'' T'' r' k' tk' => ⟨T'', r', k.trans k' tk'⟩)
/-- from a rule that hands on a new state by its own hypothesis -/
theorem Ok.of {t : Sem α} {R : α → GS → Prop} (x : ∀ (Q : α → Shared → Prop) (E : Value → Shared → Prop), (∀ v s' T', R v (gs s' T') → Goes s T s' T' → Q v s') → wpAny M A t Q E s) : Ok M A t s T R :=
  fun E => x _ E fun _ _ T' r k => ⟨T', r, k⟩
theorem Ok.holding {vs : List Value} {t : Sem α} {R : α → GS → Prop} (x : Ok M A t s T R) : Ok M A (PySem.holding vs t) s T R := fun E => wpAny_holding (x E)
theorem Ok.standAt {pos : Pos} {R : Unit → GS → Prop} (q : R () (gs s T)) : Ok M A (PySem.standAt pos) s T R := fun _ => wpAny_standAt ⟨T, q, Goes.refl s T⟩
theorem Ok.operate {vs : List Value} {t : Sem Value} {R : Value → GS → Prop} (x : Ok M A t s T R) : Ok M A (PySem.operate vs t) s T R := fun E Γ p hΓ => by
  rw [Sem.wp_operate]; exact x E Γ p hΓ
theorem Ok.bindAt {pos : Pos} {t : Sem β} {R : β → GS → Prop} (x : Ok M A t s T R) : Ok M A (PySem.standAt pos >>= fun _ => t) s T R := fun E => wpAny_bind (wpAny_standAt (x E))
end
end Mine

-- M2
namespace Mine

theorem grow_push (h : Heap) (o : Obj) : Grow h (h.push o) := fun _ _ e => Heap.get?_push_of_some _ e

section
variable {s : Shared} {T : TM} {H : List Addr} {vs : List Value} {ps : List PV} {tk : Nat}
theorem le_push (s : Shared) (T : TM) (o : Obj) : Le (gs s T) ⟨s.heap.push o, T⟩ := ⟨grow_push _ _, TExt.refl _⟩
theorem new_lst (L : Laid H s.heap) (r : RepL (hv H (gs s T)) vs ps) {n : Nat} :
    Rep (hv H ⟨s.heap.push { cls := .type "list", data := .seq vs.toArray n }, T⟩) (.ref s.heap.objs.size) (.lst ps) ∧ Goes s T { s with heap := s.heap.push { cls := .type "list", data := .seq vs.toArray n }, toks := tk } T :=
  ⟨.lst ⟨n, hv_in (Heap.get?_push_size _ rfl) (L.new (size_none _))⟩ (r.grow (le_push s T _).hv), .of _ (keeps_of (grow_push _ _))⟩
theorem new_tup (L : Laid H s.heap) (r : RepL (hv H (gs s T)) vs ps) {n : Nat} :
    Rep (hv H ⟨s.heap.push { cls := .type "tuple", data := .seq vs.toArray n }, T⟩) (.ref s.heap.objs.size) (.tup ps) ∧ Goes s T { s with heap := s.heap.push { cls := .type "tuple", data := .seq vs.toArray n }, toks := tk } T :=
  ⟨.tup ⟨n, hv_in (Heap.get?_push_size _ rfl) (L.new (size_none _))⟩ (r.grow (le_push s T _).hv), .of _ (keeps_of (grow_push _ _))⟩
end

noncomputable def small (a : Int) : Bool := decide (-(2 ^ 60) < a) && decide (a < 2 ^ 60)
theorem small_iff {a : Int} (h : small a = true) : -(2 ^ 60) < a ∧ a < 2 ^ 60 := by simpa [small] using h

noncomputable def repP {α : Type} : Nat → List α → List α
  | 0, _ => []
  | k + 1, l => l ++ repP k l

noncomputable def intP (f : Int → Int → Option PV) : PV → PV → Option PV
  | .int a, .int b => f a b
  | _, _ => none
noncomputable def addP : PV → PV → Option PV
  | .int a, .int b => some (.int (a + b))
  | .flt a, .flt b => some (.flt (Float64.add a b))
  | .str x, .str y => if x.length + y.length ≤ 1000 then some (.str (x ++ y)) else none
  | .lst l, .lst m => if l.length + m.length ≤ 1000 then some (.lst (l ++ m)) else none
  | _, _ => none
noncomputable def subP : PV → PV → Option PV
  | .int a, .int b => some (.int (a - b))
  | .flt a, .flt b => some (.flt (Float64.sub a b))
  | .flt a, .int b => if Float64.isInf (Float64.ofInt b) then none else some (.flt (Float64.sub a (Float64.ofInt b)))
  | _, _ => none
noncomputable def mulP : PV → PV → Option PV
  | .int a, .int b => if small a && small b then some (.int (a * b)) else none
  | .flt a, .flt b => some (.flt (Float64.mul a b))
  | .lst l, .int k => if decide (0 ≤ k) && decide (k ≤ 1000) && decide (l.length ≤ 1000) then some (.lst (repP k.toNat l)) else none
  | _, _ => none
noncomputable def divP : PV → PV → Option PV
  | .flt a, .flt b => if Float64.isZero b then none else some (.flt (Float64.div a b))
  | .int a, .flt b => if Float64.isInf (Float64.ofInt a) || Float64.isZero b then none else some (.flt (Float64.div (Float64.ofInt a) b))
  | _, _ => none
noncomputable def modP : PV → PV → Option PV
  | .int a, .int b => if b = 0 then none else some (.int (a.fmod b))
  | .flt a, .flt b => if Float64.isZero b then none else some (.flt (Float64.divmod a b).2)
  | _, _ => none
noncomputable def binP (op : Operator) (p q : PV) : Option PV := match op with
  | .Add => addP p q
  | .Sub => subP p q
  | .Mult => mulP p q
  | .Div => divP p q
  | .Mod => modP p q
  | .FloorDiv => intP (fun a b => if b = 0 || Builtin.divisionGoesByPylong a b then none else some (.int (a.fdiv b))) p q
  | .BitAnd => intP (fun a b => some (.int (Builtin.bitAnd a b))) p q
  | .BitOr => intP (fun a b => some (.int (Builtin.bitOr a b))) p q
  | .BitXor => intP (fun a b => some (.int (Builtin.bitXor a b))) p q
  | .RShift => intP (fun a b => if 0 ≤ b then some (.int (a.fdiv (2 ^ b.toNat))) else none) p q
  | _ => none

theorem if_some {α : Type} {c : Prop} [Decidable c] {a r : α} (e : (if c then some a else none) = some r) : c ∧ a = r := by
  split at e
  · rename_i h; exact ⟨h, Option.some.inj e⟩
  · cases e
theorem if_none {α : Type} {c : Prop} [Decidable c] {a r : α} (e : (if c then none else some a) = some r) : ¬c ∧ a = r := by
  split at e
  · cases e
  · rename_i h; exact ⟨h, Option.some.inj e⟩

theorem foldl_app {xs : Array Value} : ∀ (k : Nat) (acc : Array Value), List.foldl (fun x1 x2 => x1 ++ x2) acc (List.replicate k xs) = (acc.toList ++ repP k xs.toList).toArray
  | 0, acc => by simp [repP]
  | k + 1, acc => by
    rw [List.replicate_succ, List.foldl_cons, foldl_app k]
    simp [repP]
theorem RepL.rep {h : GS} {vs : List Value} {ps : List PV} (r : RepL h vs ps) : ∀ k : Nat, RepL h (repP k vs) (repP k ps)
  | 0 => .nil
  | k + 1 => r.append (r.rep k)
theorem repP_nil {α : Type} : ∀ k : Nat, repP k ([] : List α) = []
  | 0 => rfl
  | k + 1 => by simp [repP, repP_nil k]

section
variable {prog : Program} {w : World} {A : Around} {s : Shared} {T : TM} {H : List Addr}

theorem add_lst {a b : Addr} {vs ws : List Value} {ps qs : List PV} (x : s.heap.PlainList a vs.toArray) (y : s.heap.PlainList b ws.toArray) (rx : RepL (hv H (gs s T)) vs ps) (ry : RepL (hv H (gs s T)) ws qs)
    (L : Laid H s.heap) (hz : ps.length + qs.length ≤ 1000) : Ok (model prog w) A (binaryOp .Add (.ref a) (.ref b)) s T (fun v g => Rep (hv H g) v (.lst (ps ++ qs))) := by
  obtain ⟨n, ex⟩ := x
  obtain ⟨m, ey⟩ := y
  refine Ok.of fun Q E hq => ?_
  have e : vs.toArray ++ ws.toArray = (vs ++ ws).toArray := by simp
  refine concat_meets ⟨_, ex, rfl⟩ ⟨_, ey, rfl⟩ noFill_list_add seq_list_add PySem.F.slot_list_add PySem.F.entry_list_add (PySem.F.args_list_add_2 _ _)
    (AutoSeq1.list___add___list_list_0 a vs.toArray n b ws.toArray m (by have := rx.length; have := ry.length; rw [sizeLine_eq]; simp; omega)) ⟨ex, ey, ?_⟩
  rw [e]
  have N := new_lst (s := s) (T := T) (tk := s.toks) (n := 0) L (rx.append ry)
  exact hq _ _ _ N.1 N.2

theorem mul_lst {a : Addr} {vs : List Value} {ps : List PV} {k : Int} {u : Tok} (x : s.heap.PlainList a vs.toArray) (rx : RepL (hv H (gs s T)) vs ps)
    (L : Laid H s.heap) (h0 : 0 ≤ k) (h1 : k ≤ 1000) (hz : ps.length ≤ 1000) : Ok (model prog w) A (binaryOp .Mult (.ref a) (.int k u)) s T (fun v g => Rep (hv H g) v (.lst (repP k.toNat ps))) := by
  obtain ⟨n, ex⟩ := x
  refine Ok.of fun Q E hq => ?_
  have hl := rx.length
  have hm : vs.toArray.size * k.toNat ≤ 1000 * 1000 := Nat.mul_le_mul (by rw [List.size_toArray]; omega) (by omega)
  have hm2 : vs.length * k.toNat ≤ 1000 * 1000 := Nat.mul_le_mul (by omega) (by omega)
  refine wpAny_binaryOp_repeat_ref (T := "list") (U := "int") (by decide) ⟨_, ex, rfl⟩ (fun s' => typeIs_int s' k u) noFill_list_mul F.fills_int_mul F.slot_int_rmul repeat_list F.slot_int_index.lookup
    (call_meets F.slot_int_rmul (typeIs_int s k u) F.entry_int_rmul (F.args_int_rmul_2 _ _) (int___rmul___int_list k u a vs.toArray n)
      ⟨ex, rfl, ⟨_, ex, rfl⟩, call_meets F.slot_list_mul ⟨_, ex, rfl⟩ F.entry_list_mul (F.args_list_mul_2 _ _)
        (AutoListH.list___mul___list_int_3 a vs.toArray n k u (by simp [Builtin.List.listFitsIndex]; omega) (by omega) (by simp [Builtin.List.listTooLong, sizeLine]; omega))
        ⟨ex, ?_⟩⟩)
  have e : List.foldl (fun x1 x2 => x1 ++ x2) #[] (List.replicate (if vs.toArray.isEmpty = true then 0 else k.toNat) vs.toArray) = (repP k.toNat vs).toArray := by
    rw [foldl_app]
    split
    · rename_i q
      have : vs = [] := by simpa using q
      subst this
      simp [repP, repP_nil]
    · simp
  rw [e]
  have N := new_lst (s := s) (T := T) (tk := s.toks) (n := 0) L (rx.rep k.toNat)
  exact hq _ _ _ N.1 N.2

theorem intP_ok {op : Operator} {f : Int → Int → Option PV} {p q r : PV} (e : intP f p q = some r) {a b : Value} (ra : Rep (hv H (gs s T)) a p) (rb : Rep (hv H (gs s T)) b q)
    (h : ∀ x y t u, f x y = some r → Ok (model prog w) A (binaryOp op (.int x t) (.int y u)) s T (fun v g => Rep (hv H g) v r)) : Ok (model prog w) A (binaryOp op a b) s T (fun v g => Rep (hv H g) v r) := by
  unfold intP at e
  split at e
  · obtain ⟨t, rfl⟩ := ra.intInv
    obtain ⟨u, rfl⟩ := rb.intInv
    exact h _ _ _ _ e
  · cases e
theorem add_ok {p q r : PV} (e : addP p q = some r) {a b : Value} (ra : Rep (hv H (gs s T)) a p) (rb : Rep (hv H (gs s T)) b q) (L : Laid H s.heap) (td : TDom T s.toks) :
    Ok (model prog w) A (binaryOp .Add a b) s T (fun v g => Rep (hv H g) v r) := by
  unfold addP at e
  split at e
  · obtain ⟨t, rfl⟩ := ra.intInv; obtain ⟨u, rfl⟩ := rb.intInv; obtain rfl := Option.some.inj e; exact Ok.of fun Q E hq => add_int (hq _ _ T (.int _ _) (Goes.tok _ _ _))
  · obtain ⟨t, rfl, _⟩ := ra.fltInv; obtain ⟨u, rfl, _⟩ := rb.fltInv; obtain rfl := Option.some.inj e; exact Ok.of fun Q E hq => add_float (hq _ _ _ (.flt _ _ td.1 (TAdd.at _ _ _)) (Goes.flt td _))
  · obtain ⟨hz, rfl⟩ := if_some e
    obtain ⟨t, rfl⟩ := ra.strInv; obtain ⟨u, rfl⟩ := rb.strInv; exact Ok.of fun Q E hq => add_str (fun t' tk => hq _ _ T (.str _ _) (Goes.tok _ _ _)) (by rw [sizeLine_eq]; omega)
  · obtain ⟨hz, rfl⟩ := if_some e
    obtain ⟨a, vs, rfl, xa, ra⟩ := ra.lstInv
    obtain ⟨b, ws, rfl, xb, rb⟩ := rb.lstInv
    exact add_lst (plainList_grow xa (hv_grow _ _)) (plainList_grow xb (hv_grow _ _)) ra rb L hz
  · cases e
theorem sub_ok {p q r : PV} (e : subP p q = some r) {a b : Value} (ra : Rep (hv H (gs s T)) a p) (rb : Rep (hv H (gs s T)) b q) (td : TDom T s.toks) :
    Ok (model prog w) A (binaryOp .Sub a b) s T (fun v g => Rep (hv H g) v r) := by
  unfold subP at e
  split at e
  · obtain ⟨t, rfl⟩ := ra.intInv; obtain ⟨u, rfl⟩ := rb.intInv; obtain rfl := Option.some.inj e; exact Ok.of fun Q E hq => sub_int (hq _ _ T (.int _ _) (Goes.tok _ _ _))
  · obtain ⟨t, rfl, _⟩ := ra.fltInv; obtain ⟨u, rfl, _⟩ := rb.fltInv; obtain rfl := Option.some.inj e; exact Ok.of fun Q E hq => sub_float (hq _ _ _ (.flt _ _ td.1 (TAdd.at _ _ _)) (Goes.flt td _))
  · obtain ⟨hz, rfl⟩ := if_none e
    obtain ⟨t, rfl, _⟩ := ra.fltInv; obtain ⟨u, rfl⟩ := rb.intInv; exact Ok.of fun Q E hq => AutoFloatOps.sub_fi_1 hz (hq _ _ _ (.flt _ _ td.1 (TAdd.at _ _ _)) (Goes.flt td _))
  · cases e
theorem mul_ok {p q r : PV} (e : mulP p q = some r) {a b : Value} (ra : Rep (hv H (gs s T)) a p) (rb : Rep (hv H (gs s T)) b q) (L : Laid H s.heap) (td : TDom T s.toks) :
    Ok (model prog w) A (binaryOp .Mult a b) s T (fun v g => Rep (hv H g) v r) := by
  unfold mulP at e
  split at e
  · obtain ⟨hz, rfl⟩ := if_some e
    have h1 := small_iff (Bool.and_eq_true_iff.mp hz).1
    obtain ⟨t, rfl⟩ := ra.intInv; obtain ⟨u, rfl⟩ := rb.intInv; exact Ok.of fun Q E hq => mul_int (hq _ _ T (.int _ _) (Goes.tok _ _ _)) (IntMulOk.of_left (intBits_le_64 (by omega) (by omega)))
  · obtain ⟨t, rfl, _⟩ := ra.fltInv; obtain ⟨u, rfl, _⟩ := rb.fltInv; obtain rfl := Option.some.inj e; exact Ok.of fun Q E hq => mul_float (hq _ _ _ (.flt _ _ td.1 (TAdd.at _ _ _)) (Goes.flt td _))
  · obtain ⟨hz, rfl⟩ := if_some e
    simp only [Bool.and_eq_true, decide_eq_true_eq] at hz
    obtain ⟨a, vs, rfl, xa, ra⟩ := ra.lstInv
    obtain ⟨u, rfl⟩ := rb.intInv
    exact mul_lst (plainList_grow xa (hv_grow _ _)) ra L hz.1.1 hz.1.2 hz.2
  · cases e
theorem div_ok {p q r : PV} (e : divP p q = some r) {a b : Value} (ra : Rep (hv H (gs s T)) a p) (rb : Rep (hv H (gs s T)) b q) (td : TDom T s.toks) :
    Ok (model prog w) A (binaryOp .Div a b) s T (fun v g => Rep (hv H g) v r) := by
  unfold divP at e
  split at e
  · obtain ⟨hz, rfl⟩ := if_none e
    obtain ⟨t, rfl, _⟩ := ra.fltInv; obtain ⟨u, rfl, _⟩ := rb.fltInv; exact Ok.of fun Q E hq => AutoFloatOps.truediv_1 hz (hq _ _ _ (.flt _ _ td.1 (TAdd.at _ _ _)) (Goes.flt td _))
  · obtain ⟨hz, rfl⟩ := if_none e
    simp only [Bool.or_eq_true, not_or] at hz
    obtain ⟨t, rfl⟩ := ra.intInv; obtain ⟨u, rfl, _⟩ := rb.fltInv; exact Ok.of fun Q E hq => AutoFloatOps.truediv_if_2 hz.1 hz.2 (hq _ _ _ (.flt _ _ td.1 (TAdd.at _ _ _)) (Goes.flt td _))
  · cases e
theorem mod_ok {p q r : PV} (e : modP p q = some r) {a b : Value} (ra : Rep (hv H (gs s T)) a p) (rb : Rep (hv H (gs s T)) b q) (td : TDom T s.toks) :
    Ok (model prog w) A (binaryOp .Mod a b) s T (fun v g => Rep (hv H g) v r) := by
  unfold modP at e
  split at e
  · obtain ⟨hz, rfl⟩ := if_none e
    obtain ⟨t, rfl⟩ := ra.intInv; obtain ⟨u, rfl⟩ := rb.intInv; exact Ok.of fun Q E hq => mod_int hz (hq _ _ T (.int _ _) (Goes.tok _ _ _))
  · obtain ⟨hz, rfl⟩ := if_none e
    obtain ⟨t, rfl, _⟩ := ra.fltInv; obtain ⟨u, rfl, _⟩ := rb.fltInv; exact Ok.of fun Q E hq => AutoFloatOps.mod_1 hz (hq _ _ _ (.flt _ _ td.1 (TAdd.at _ _ _)) (Goes.flt td _))
  · cases e
theorem bin_ok {op : Operator} {p q r : PV} (e : binP op p q = some r) {a b : Value} (ra : Rep (hv H (gs s T)) a p) (rb : Rep (hv H (gs s T)) b q) (L : Laid H s.heap) (td : TDom T s.toks) :
    Ok (model prog w) A (binaryOp op a b) s T (fun v g => Rep (hv H g) v r) := by
  cases op with
  | Add => exact add_ok e ra rb L td
  | Sub => exact sub_ok e ra rb td
  | Mult => exact mul_ok e ra rb L td
  | Div => exact div_ok e ra rb td
  | Mod => exact mod_ok e ra rb td
  | FloorDiv =>
    refine intP_ok e ra rb fun x y t u e => ?_
    obtain ⟨hz, rfl⟩ := if_none e
    simp only [Bool.or_eq_true, decide_eq_true_eq, not_or] at hz
    exact Ok.of fun Q E hq => floordiv_int hz.1 (hq _ _ T (.int _ _) (Goes.tok _ _ _)) (Or.inl (by simpa using hz.2))
  | BitAnd => exact intP_ok e ra rb fun x y t u e => by obtain rfl := Option.some.inj e; exact Ok.of fun Q E hq => and_int (hq _ _ T (.int _ _) (Goes.tok _ _ _))
  | BitOr => exact intP_ok e ra rb fun x y t u e => by obtain rfl := Option.some.inj e; exact Ok.of fun Q E hq => or_int (hq _ _ T (.int _ _) (Goes.tok _ _ _))
  | BitXor => exact intP_ok e ra rb fun x y t u e => by obtain rfl := Option.some.inj e; exact Ok.of fun Q E hq => xor_int (hq _ _ T (.int _ _) (Goes.tok _ _ _))
  | RShift =>
    refine intP_ok e ra rb fun x y t u e => ?_
    obtain ⟨hz, rfl⟩ := if_some e
    exact Ok.of fun Q E hq => rshift_int hz (hq _ _ T (.int _ _) (Goes.tok _ _ _))
  | _ => cases e
end
end Mine

-- M3
namespace Mine
open PySem.SeqAt

mutual
theorem Rep.det {h : GS} : ∀ {v : Value} {p q : PV}, Rep h v p → Rep h v q → p = q
  | _, _, _, .none, y => by cases y; rfl
  | _, _, _, .bool b, y => by cases y; rfl
  | _, _, _, .int i t, y => by cases y; rfl
  | _, _, _, .flt b t _ _, y => by cases y; rfl
  | _, _, _, .str s t, y => by cases y; rfl
  | _, _, _, .tup ⟨n, x⟩ r, y => by
    cases y with
    | tup z r' => obtain ⟨m, z⟩ := z; rw [x] at z; injection z with z; injection z with _ _ z _; injection z with z _; have z := congrArg Array.toList z; simp only at z; subst z; rw [r.det r']
    | lst z r' => obtain ⟨m, z⟩ := z; rw [x] at z; injection z with z; injection z with z; exact absurd z (by decide)
    | hdr z _ _ _ => rw [x] at z; injection z with z; injection z with z; exact absurd z (by decide)
  | _, _, _, .lst ⟨n, x⟩ r, y => by
    cases y with
    | lst z r' => obtain ⟨m, z⟩ := z; rw [x] at z; injection z with z; injection z with _ _ z _; injection z with z _; have z := congrArg Array.toList z; simp only at z; subst z; rw [r.det r']
    | tup z r' => obtain ⟨m, z⟩ := z; rw [x] at z; injection z with z; injection z with z; exact absurd z (by decide)
    | hdr z _ _ _ => rw [x] at z; injection z with z; injection z with z; exact absurd z (by decide)
  | _, _, _, .hdr x1 x2 ⟨n, x3⟩ r, y => by
    cases y with
    | lst z r' => obtain ⟨m, z⟩ := z; rw [x1] at z; injection z with z; injection z with z; exact absurd z (by decide)
    | tup z r' => obtain ⟨m, z⟩ := z; rw [x1] at z; injection z with z; injection z with z; exact absurd z (by decide)
    | hdr z1 z2 z3 r' =>
      rw [x1] at z1; injection z1 with z1; injection z1 with _ z1 _ _; injection z1 with z1; subst z1
      rw [x2] at z2; injection z2 with z2; injection z2 with _ _ z2 _; injection z2 with z2 _
      have z2 := congrArg Array.toList z2
      simp only [List.cons.injEq, and_true, DictEntry.mk.injEq, Value.ref.injEq] at z2
      obtain ⟨_, _, rfl⟩ := z2
      obtain ⟨m, z⟩ := z3; rw [x3] at z; injection z with z; injection z with _ _ z _; injection z with z _; have z := congrArg Array.toList z; simp only at z; subst z; rw [r.det r']
theorem RepL.det {h : GS} : ∀ {vs : List Value} {p q : List PV}, RepL h vs p → RepL h vs q → p = q
  | _, _, _, .nil, y => by cases y; rfl
  | _, _, _, .cons a r, y => by
    cases y with
    | cons b r' => rw [a.det b, r.det r']
end

/-- equality of plain values -/
noncomputable def eqS : PV → PV → Option Bool
  | .int a, .int b => some (a == b)
  | .bool a, .bool b => some (a == b)
  | .str a, .str b => some (a == b)
  | .flt a, .flt b => if a == b then (if Float64.cmp a b == some .eq then some true else none) else some (Float64.cmp a b == some .eq)
  | _, _ => none
noncomputable def eqL : List PV → List PV → Option Bool
  | [], [] => some true
  | p :: l, q :: m => match eqS p q, eqL l m with
    | some x, some y => some (x && y)
    | _, _ => none
  | _, _ => none
noncomputable def eqP : PV → PV → Option Bool
  | .lst l, .lst m => if l.length = m.length then eqL l m else some false
  | p, q => eqS p q

noncomputable def eqN (l m : List PV) (j : Nat) : Bool := match l[j]?, m[j]? with
  | some p, some q => (eqS p q).getD false
  | _, _ => false
theorem eqN_succ (p q : PV) (l m : List PV) (j : Nat) : eqN (p :: l) (q :: m) (j + 1) = eqN l m j := by simp [eqN]
theorem eqL_all : ∀ {l m : List PV} {b : Bool}, eqL l m = some b → (List.range l.length).all (eqN l m) = b
  | [], [], b, e => by cases e; rfl
  | p :: l, q :: m, b, e => by
    unfold eqL at e
    split at e
    · rename_i x y hx hy
      cases e
      rw [List.length_cons, List.range_succ_eq_map, List.all_cons, List.all_map]
      have : (eqN (p :: l) (q :: m) ∘ Nat.succ) = eqN l m := funext fun j => eqN_succ p q l m j
      rw [this, eqL_all hy]
      have : eqN (p :: l) (q :: m) 0 = x := by simp [eqN, hx]
      rw [this]
    · cases e
  | [], _ :: _, b, e => by cases e
  | _ :: _, [], b, e => by cases e
theorem eqL_get : ∀ {l m : List PV} {b : Bool}, eqL l m = some b → ∀ {j : Nat} {p q : PV}, l[j]? = some p → m[j]? = some q → eqS p q = some (eqN l m j)
  | [], [], b, e, j, p, q, hp, _ => by simp at hp
  | p :: l, q :: m, b, e, j, p', q', hp, hq => by
    unfold eqL at e
    split at e
    · rename_i x y hx hy
      cases j with
      | zero => simp at hp hq; subst hp hq; simp [eqN, hx]
      | succ j => rw [eqN_succ]; exact eqL_get hy (by simpa using hp) (by simpa using hq)
    · cases e
  | [], _ :: _, b, e, _, _, _, _, _ => by cases e
  | _ :: _, [], b, e, _, _, _, _, _ => by cases e
theorem eqS_same {p : PV} {b : Bool} (e : eqS p p = some b) : b = true := by
  cases p <;> simp only [eqS, beq_self_eq_true, if_true, Option.some.injEq, reduceCtorEq] at e
  · exact e.symm
  · exact e.symm
  · split at e
    · cases e; rfl
    · cases e
  · exact e.symm
theorem eqL_same : ∀ {l : List PV} {b : Bool}, eqL l l = some b → b = true
  | [], b, e => by cases e; rfl
  | p :: l, b, e => by
    unfold eqL at e
    split at e
    · rename_i x y hx hy; cases e; rw [eqS_same hx, eqL_same hy]; rfl
    · cases e

section
variable {A : Around} {s : Shared} {h : GS}
theorem eqAt_flt {a b : UInt64} {t u : Tok} {c : Bool} (ht : 0 < t) (hu : 0 < u) (htu' : t = u → a = b) (hb : NoneBooked s.heap) (e : eqS (.flt a) (.flt b) = some c) : EqAt A s (.float a t) (.float b u) c := fun prog w E Q hq => by
  have last : wpAny (model prog w) A (richCompare .Eq (.float a t) (.float b u) >>= fun r => truthOfDropped r) Q E s := by
    have hc : c = (Float64.cmp a b == some Ordering.eq) := by
      simp only [eqS] at e
      split at e
      · split at e
        · rename_i q; cases e; exact q.symm
        · cases e
      · cases e; rfl
    subst hc
    exact wpAny_bind (AutoFloatOps.eq_0 (w := w) (wpAny_truthy_bool hq))
  have h0 : (t == 0 || u == 0) = false := by
    have h1 : (t == 0) = false := beq_false_of_ne (Nat.ne_of_gt ht)
    have h2 : (u == 0) = false := beq_false_of_ne (Nat.ne_of_gt hu)
    rw [h1, h2]; rfl
  have yes : a = b → c = true := fun hab => by
    subst hab
    simp only [eqS, beq_self_eq_true, if_true] at e
    split at e
    · cases e; rfl
    · cases e
  unfold eqBool
  refine wpAny_holding ?_
  refine wpAny_ite_split (fun hab => ?_) (fun _ => ?_)
  · have hab := eq_of_beq hab
    injection hab with hab
    rw [yes hab] at hq
    exact wpAny_bind (wpAny_rule (wpAny_pure hq))
  · have same : ∀ r : Bool, (r = true → a = b) → wpAny (model prog w) A (if r = true then pure true else (richCompare .Eq (.float a t) (.float b u) >>= fun r => truthOfDropped r)) Q E s := fun r hr => by
      cases r with
      | true => rw [yes (hr rfl)] at hq; exact wpAny_pure hq
      | false => exact last
    show wpAny (model prog w) A (isSame (.float a t) (.float b u) >>= fun r => if r = true then pure true else (richCompare .Eq (.float a t) (.float b u) >>= fun r => truthOfDropped r)) Q E s
    refine wpAny_bind ?_
    show wpAny (model prog w) A (isSame.created (a == b && !Float64.isNaN a) t u) _ E s
    unfold isSame.created
    rw [h0]
    simp only [Bool.false_eq_true, if_false]
    show wpAny (model prog w) A (if (t == u) = true then pure true else _) _ E s
    refine wpAny_ite_split (fun htu => ?_) (fun _ => ?_)
    · exact wpAny_pure (same true fun _ => htu' (eq_of_beq htu))
    · show wpAny (model prog w) A (if (!(a == b && !Float64.isNaN a)) = true then pure false else _) _ E s
      refine wpAny_ite_split (fun _ => wpAny_pure (same false fun x => by cases x)) (fun hne => ?_)
      have hab : a = b := by
        simp only [Bool.not_eq_true', Bool.not_eq_false, Bool.and_eq_true, beq_iff_eq] at hne
        exact hne.1
      refine wpAny_bind (wpAny_sharingNotTold_none hb ?_)
      simp only [Bool.false_eq_true, if_false]
      refine wpAny_bind (wpAny_sharingNotTold_none hb ?_)
      simp only [Bool.false_eq_true, if_false]
      exact wpAny_bind (wpAny_rule (wpAny_bind (wpAny_askSetting (wpAny_pure (same _ fun _ => hab)))))
theorem eqAt_s {p q : PV} {c : Bool} (hb : NoneBooked s.heap) (e : eqS p q = some c) {v v' : Value} (x : Rep h v p) (y : Rep h v' q) : EqAt A s v v' c := by
  unfold eqS at e
  split at e
  · obtain ⟨_, rfl⟩ := x.intInv; obtain ⟨_, rfl⟩ := y.intInv; obtain rfl := Option.some.inj e; exact EqAt.int_int _ _ _ _
  · obtain rfl := x.boolInv; obtain rfl := y.boolInv; obtain rfl := Option.some.inj e; exact EqAt.bool_bool _ _
  · obtain ⟨_, rfl⟩ := x.strInv; obtain ⟨_, rfl⟩ := y.strInv; obtain rfl := Option.some.inj e; exact EqAt.str_str _ _ _ _
  · obtain ⟨_, rfl, ht, hT⟩ := x.fltInv; obtain ⟨_, rfl, hu, hU⟩ := y.fltInv; exact eqAt_flt ht hu (fun q => by subst q; rw [hT] at hU; exact Option.some.inj hU) hb (by simpa only [eqS] using e)
  · cases e
theorem rcAt_s {p q : PV} {c : Bool} (e : eqS p q = some c) {v v' : Value} (x : Rep h v p) (y : Rep h v' q) : RcAt A s v v' c := by
  unfold eqS at e
  split at e
  · obtain ⟨_, rfl⟩ := x.intInv; obtain ⟨_, rfl⟩ := y.intInv; obtain rfl := Option.some.inj e; exact RcAt.int_int _ _ _ _
  · obtain rfl := x.boolInv; obtain rfl := y.boolInv; obtain rfl := Option.some.inj e; exact RcAt.bool_bool _ _
  · obtain ⟨_, rfl⟩ := x.strInv; obtain ⟨_, rfl⟩ := y.strInv; obtain rfl := Option.some.inj e; exact RcAt.str_str _ _ _ _
  · rename_i a b
    have hc : c = (Float64.cmp a b == some Ordering.eq) := by
      split at e
      · split at e
        · rename_i q; cases e; exact q.symm
        · cases e
      · cases e; rfl
    subst hc
    obtain ⟨_, rfl, _⟩ := x.fltInv; obtain ⟨_, rfl, _⟩ := y.fltInv; exact fun prog w E Q hq => AutoFloatOps.eq_0 (w := w) hq
  · cases e
theorem rcNe_s {p q : PV} {c : Bool} (e : eqS p q = some c) {v v' : Value} (x : Rep h v p) (y : Rep h v' q) : RcNeAt A s v v' (!c) := by
  unfold eqS at e
  split at e
  · obtain ⟨_, rfl⟩ := x.intInv; obtain ⟨_, rfl⟩ := y.intInv; obtain rfl := Option.some.inj e; exact RcNeAt.int_int _ _ _ _
  · obtain rfl := x.boolInv; obtain rfl := y.boolInv; obtain rfl := Option.some.inj e; exact RcNeAt.bool_bool _ _
  · obtain ⟨_, rfl⟩ := x.strInv; obtain ⟨_, rfl⟩ := y.strInv; obtain rfl := Option.some.inj e; exact RcNeAt.str_str _ _ _ _
  · rename_i a b
    have hc : c = (Float64.cmp a b == some Ordering.eq) := by
      split at e
      · split at e
        · rename_i q; cases e; exact q.symm
        · cases e
      · cases e; rfl
    subst hc
    obtain ⟨_, rfl, _⟩ := x.fltInv; obtain ⟨_, rfl, _⟩ := y.fltInv; exact fun prog w E Q hq => AutoFloatOps.ne_0 (w := w) hq
  · cases e
theorem eqAt_l {l m : List PV} {c : Bool} (hb : NoneBooked s.heap) (e : eqL l m = some c) {vs ws : List Value} (x : RepL h vs l) (y : RepL h ws m) :
    ∀ j (h1 : j < vs.toArray.size) (h2 : j < ws.toArray.size), EqAt A s vs.toArray[j] ws.toArray[j] (eqN l m j) := fun j h1 h2 => by
  have h1' : j < vs.length := by simpa using h1
  have h2' : j < ws.length := by simpa using h2
  obtain ⟨p, hp, rp⟩ := x.getv (i := j) (v := vs[j]) (by simp [h1'])
  obtain ⟨q, hq, rq⟩ := y.getv (i := j) (v := ws[j]) (by simp [h2'])
  simpa using eqAt_s hb (eqL_get e hp hq) rp rq
theorem eqL_len : ∀ {l m : List PV} {c : Bool}, eqL l m = some c → l.length = m.length
  | [], [], _, _ => rfl
  | p :: l, q :: m, b, e => by
    unfold eqL at e
    split at e
    · rename_i x y hx hy; simp [eqL_len hy]
    · cases e
  | [], _ :: _, _, e => by cases e
  | _ :: _, [], _, e => by cases e

theorem rcAt_p {p q : PV} {c : Bool} (hb : NoneBooked s.heap) (e : eqP p q = some c) {v v' : Value} (x : Rep h v p) (y : Rep h v' q) (k : Grow h.h s.heap) (hu : A.units < cLine) : RcAt A s v v' c := by
  unfold eqP at e
  split at e
  · rename_i l m
    obtain ⟨a, vs, rfl, xa, ra⟩ := x.lstInv
    obtain ⟨b, ws, rfl, xb, rb⟩ := y.lstInv
    have la := (plainList_grow xa k).isList
    have lb := (plainList_grow xb k).isList
    split at e
    · rename_i hl
      have hsz : vs.toArray.size = ws.toArray.size := by simp [ra.length, rb.length, hl]
      have := RcAt.lists la lb hsz hu (e := eqN l m) (eqAt_l hb e ra rb)
      rwa [List.size_toArray, ra.length, eqL_all e] at this
    · rename_i hl
      cases e
      exact RcAt.lists_lengths la lb (by simp [ra.length, rb.length, hl]) hu
  · exact rcAt_s e x y
theorem rcNe_p {p q : PV} {c : Bool} (hb : NoneBooked s.heap) (e : eqP p q = some c) {v v' : Value} (x : Rep h v p) (y : Rep h v' q) (k : Grow h.h s.heap) (hu : A.units < cLine) : RcNeAt A s v v' (!c) := by
  unfold eqP at e
  split at e
  · rename_i l m
    obtain ⟨a, vs, rfl, xa, ra⟩ := x.lstInv
    obtain ⟨b, ws, rfl, xb, rb⟩ := y.lstInv
    have la := (plainList_grow xa k).isList
    have lb := (plainList_grow xb k).isList
    split at e
    · rename_i hl
      have hsz : vs.toArray.size = ws.toArray.size := by simp [ra.length, rb.length, hl]
      have := RcNeAt.lists la lb hsz hu (e := eqN l m) (eqAt_l hb e ra rb)
      rwa [List.size_toArray, ra.length, eqL_all e] at this
    · rename_i hl
      cases e
      exact RcNeAt.lists_lengths la lb (by simp [ra.length, rb.length, hl]) hu
  · exact rcNe_s e x y
theorem eqAt_p {p q : PV} {c : Bool} (hb : NoneBooked s.heap) (e : eqP p q = some c) {v v' : Value} (x : Rep h v p) (y : Rep h v' q) (k : Grow h.h s.heap) (hu : A.units < cLine) : EqAt A s v v' c := by
  unfold eqP at e
  split at e
  · rename_i l m
    have e0 : eqP (.lst l) (.lst m) = some c := by unfold eqP; exact e
    have R := rcAt_p (A := A) hb e0 x y k hu
    obtain ⟨a, vs, rfl, xa, ra⟩ := x.lstInv
    obtain ⟨b, ws, rfl, xb, rb⟩ := y.lstInv
    by_cases hab : a = b
    · subst hab
      have hc : c = true := by
        have := (Rep.lst xa ra).det (Rep.lst xb rb)
        injection this with this
        subst this
        simp only [if_true] at e
        exact eqL_same e
      subst hc
      exact EqAt.same _
    · exact EqAt.of_refs hab R
  · exact eqAt_s hb e x y
end

noncomputable def inP (q : PV) : List PV → Option Bool
  | [] => some false
  | p :: l => match eqP p q, inP q l with
    | some x, some y => some (x || y)
    | _, _ => none

open Classical in
noncomputable def hitsV (h : GS) (q : PV) (v : Value) : Bool := decide (∃ p, Rep h v p ∧ eqP p q = some true)
theorem hitsV_is {h : GS} {q p : PV} {v : Value} {c : Bool} (x : Rep h v p) (e : eqP p q = some c) : hitsV h q v = c := by
  unfold hitsV
  cases c with
  | true => simp only [decide_eq_true_eq]; exact ⟨p, x, e⟩
  | false =>
    simp only [decide_eq_false_iff_not]
    rintro ⟨p', x', e'⟩
    rw [x'.det x, e] at e'
    cases e'
theorem inP_any {h : GS} {q : PV} : ∀ {l : List PV} {vs : List Value} {c : Bool}, RepL h vs l → inP q l = some c → vs.any (hitsV h q) = c
  | _, _, c, .nil, e => by cases e; rfl
  | _, _, c, .cons a r, e => by
    unfold inP at e
    split at e
    · rename_i x y hx hy; cases e; rw [List.any_cons, hitsV_is a hx, inP_any r hy]
    · cases e
theorem inP_each {h : GS} {q : PV} : ∀ {l : List PV} {vs : List Value} {c : Bool}, RepL h vs l → inP q l = some c → ∀ v ∈ vs, ∃ p x, Rep h v p ∧ eqP p q = some x
  | _, _, c, .nil, e, v, hv => by cases hv
  | _, _, c, .cons a r, e, v, hv => by
    unfold inP at e
    split at e
    · rename_i x y hx hy
      rcases List.mem_cons.mp hv with rfl | hv
      · exact ⟨_, _, a, hx⟩
      · exact inP_each r hy v hv
    · cases e

noncomputable def intC (f : Int → Int → Bool) : PV → PV → Option Bool
  | .int a, .int b => some (f a b)
  | _, _ => none
noncomputable def numC (f : Int → Int → Bool) (g : UInt64 → UInt64 → Bool) : PV → PV → Option Bool
  | .int a, .int b => some (f a b)
  | .flt a, .flt b => some (g a b)
  | _, _ => none
noncomputable def ninC (p : PV) : PV → Option Bool
  | .str x => (match p with | .str y => some (Builtin.Str.occurrences x y 0 x.length 1).isEmpty | _ => none)
  | .lst l => (inP p l).map not
  | _ => none
noncomputable def isntC (p : PV) : PV → Option Bool
  | .none => some (match p with | .none => false | _ => true)
  | _ => none
noncomputable def cmpP (op : CmpOp) (p q : PV) : Option Bool := match op with
  | .Eq => eqP p q
  | .NotEq => (eqP p q).map not
  | .Lt => numC (fun a b => decide (a < b)) (fun a b => Float64.cmp a b == some .lt) p q
  | .LtE => intC (fun a b => decide (a ≤ b)) p q
  | .Gt => numC (fun a b => decide (b < a)) (fun a b => Float64.cmp a b == some .gt) p q
  | .GtE => intC (fun a b => decide (b ≤ a)) p q
  | .NotIn => ninC p q
  | .IsNot => isntC p q
  | _ => none

section
variable {prog : Program} {w : World} {A : Around} {s : Shared} {T : TM} {H : List Addr}
theorem intC_ok {op : CmpOp} {f : Int → Int → Bool} {p q : PV} {r : Bool} (e : intC f p q = some r) {a b : Value} (ra : Rep (hv H (gs s T)) a p) (rb : Rep (hv H (gs s T)) b q)
    (h : ∀ x y t u, Ok (model prog w) A (compareOp op (.int x t) (.int y u)) s T (fun v g => v = .bool (f x y) ∧ g = gs s T)) : Ok (model prog w) A (compareOp op a b) s T (fun v g => v = .bool r ∧ g = gs s T) := by
  unfold intC at e
  split at e
  · obtain ⟨t, rfl⟩ := ra.intInv; obtain ⟨u, rfl⟩ := rb.intInv; obtain rfl := Option.some.inj e; exact h _ _ _ _
  · cases e
theorem numC_ok {op : CmpOp} {f : Int → Int → Bool} {k : UInt64 → UInt64 → Bool} {p q : PV} {r : Bool} (e : numC f k p q = some r) {a b : Value} (ra : Rep (hv H (gs s T)) a p) (rb : Rep (hv H (gs s T)) b q)
    (h : ∀ x y t u, Ok (model prog w) A (compareOp op (.int x t) (.int y u)) s T (fun v g => v = .bool (f x y) ∧ g = gs s T))
    (h' : ∀ x y t u, Ok (model prog w) A (compareOp op (.float x t) (.float y u)) s T (fun v g => v = .bool (k x y) ∧ g = gs s T)) : Ok (model prog w) A (compareOp op a b) s T (fun v g => v = .bool r ∧ g = gs s T) := by
  unfold numC at e
  split at e
  · obtain ⟨t, rfl⟩ := ra.intInv; obtain ⟨u, rfl⟩ := rb.intInv; obtain rfl := Option.some.inj e; exact h _ _ _ _
  · obtain ⟨t, rfl, _⟩ := ra.fltInv; obtain ⟨u, rfl, _⟩ := rb.fltInv; obtain rfl := Option.some.inj e; exact h' _ _ _ _
  · cases e
theorem nin_ok {p q : PV} {r : Bool} (e : ninC p q = some r) {a b : Value} (ra : Rep (hv H (gs s T)) a p) (rb : Rep (hv H (gs s T)) b q) (hu : A.units + 5 < cLine) (hb : NoneBooked s.heap) :
    Ok (model prog w) A (compareOp .NotIn a b) s T (fun v g => v = .bool r ∧ g = gs s T) := by
  unfold ninC at e
  split at e
  · split at e
    · obtain ⟨t, rfl⟩ := ra.strInv; obtain ⟨u, rfl⟩ := rb.strInv; obtain rfl := Option.some.inj e; exact Ok.of fun Q E hq => notIn_str (hq _ _ T ⟨by rw [Bool.not_not], rfl⟩ (Goes.refl _ _))
    · cases e
  · obtain ⟨c, e', rfl⟩ := Option.map_eq_some_iff.mp e
    clear e; have e := e'; clear e'
    obtain ⟨b, ws, rfl, xb, rb⟩ := rb.lstInv
    refine Ok.of fun Q E hq => notIn_listAt (hitsV (hv H (gs s T)) p) (plainList_grow xb (hv_grow _ _)).isList (fun y hy => ?_) (hq _ _ T ⟨?_, rfl⟩ (Goes.refl _ _))
    · obtain ⟨q, x, rq, eq⟩ := inP_each rb e y (by simpa using hy)
      rw [hitsV_is rq eq]
      exact eqAt_p hb eq rq ra (hv_grow _ _) (by rw [Around.in1_units]; omega)
    · have := inP_any rb e
      simp only [List.any_toArray, this]
  · cases e
theorem cmp_ok {op : CmpOp} {p q : PV} {r : Bool} (e : cmpP op p q = some r) {a b : Value} (ra : Rep (hv H (gs s T)) a p) (rb : Rep (hv H (gs s T)) b q) (hu : A.units + 5 < cLine) (hb : NoneBooked s.heap) :
    Ok (model prog w) A (compareOp op a b) s T (fun v g => v = .bool r ∧ g = gs s T) := by
  cases op with
  | Eq => exact Ok.of fun Q E hq => rcAt_p hb e ra rb (hv_grow _ _) (by omega) prog w E Q (hq _ _ T ⟨rfl, rfl⟩ (Goes.refl _ _))
  | NotEq =>
    obtain ⟨c, e', rfl⟩ := Option.map_eq_some_iff.mp e
    exact Ok.of fun Q E hq => rcNe_p hb e' ra rb (hv_grow _ _) (by omega) prog w E Q (hq _ _ T ⟨rfl, rfl⟩ (Goes.refl _ _))
  | Lt => exact numC_ok e ra rb (fun x y t u => Ok.of fun Q E hq => lt_int (hq _ _ T ⟨rfl, rfl⟩ (Goes.refl _ _))) (fun x y t u => Ok.of fun Q E hq => AutoFloatOps.lt_0 (hq _ _ T ⟨rfl, rfl⟩ (Goes.refl _ _)))
  | LtE => exact intC_ok e ra rb (fun x y t u => Ok.of fun Q E hq => le_int (hq _ _ T ⟨rfl, rfl⟩ (Goes.refl _ _)))
  | Gt => exact numC_ok e ra rb (fun x y t u => Ok.of fun Q E hq => gt_int (hq _ _ T ⟨rfl, rfl⟩ (Goes.refl _ _))) (fun x y t u => Ok.of fun Q E hq => AutoFloatOps.gt_0 (hq _ _ T ⟨rfl, rfl⟩ (Goes.refl _ _)))
  | GtE => exact intC_ok e ra rb (fun x y t u => Ok.of fun Q E hq => ge_int (hq _ _ T ⟨rfl, rfl⟩ (Goes.refl _ _)))
  | NotIn => exact nin_ok e ra rb hu hb
  | IsNot =>
    change isntC p q = some r at e
    unfold isntC at e
    split at e
    · obtain rfl := rb.noneInv
      refine Ok.of fun Q E hq => isNot_none (hq _ _ T ⟨?_, rfl⟩ (Goes.refl _ _))
      cases ra <;> cases e <;> rfl
    · cases e
  | _ => cases e

noncomputable def truthP : PV → Option Bool
  | .none => some false
  | .bool b => some b
  | .int i => some (i != 0)
  | .str x => if x.length ≤ 1000 then some ((x.length : Int) != 0) else none
  | .lst l => if l.length ≤ 1000 then some (!l.isEmpty) else none
  | _ => none
theorem truth_ok {p : PV} {r : Bool} (e : truthP p = some r) {a : Value} (ra : Rep (hv H (gs s T)) a p) : Ok (model prog w) A (truthy a) s T (fun v g => v = r ∧ g = gs s T) := by
  unfold truthP at e
  split at e
  · obtain rfl := ra.noneInv; obtain rfl := Option.some.inj e; exact Ok.of fun Q E hq => truthy_none (hq _ _ T ⟨rfl, rfl⟩ (Goes.refl _ _))
  · obtain rfl := ra.boolInv; obtain rfl := Option.some.inj e; exact Ok.of fun Q E hq => wpAny_truthy_bool (hq _ _ T ⟨rfl, rfl⟩ (Goes.refl _ _))
  · obtain ⟨t, rfl⟩ := ra.intInv; obtain rfl := Option.some.inj e; exact Ok.of fun Q E hq => truthy_int (hq _ _ T ⟨rfl, rfl⟩ (Goes.refl _ _))
  · split at e
    · obtain ⟨t, rfl⟩ := ra.strInv; obtain rfl := Option.some.inj e; exact Ok.of fun Q E hq => P.truthy_str (by omega) (hq _ _ T ⟨rfl, rfl⟩ (Goes.tok _ _ _))
    · cases e
  · split at e
    · rename_i hz
      obtain ⟨b, ws, rfl, xb, rb⟩ := ra.lstInv
      have hl := rb.length
      cases e
      refine Ok.of fun Q E hq => wpAny_truthy_list (plainList_grow xb (hv_grow _ _)).isList (by simp; omega) (hq _ _ T ⟨?_, rfl⟩ (Goes.tok _ _ _))
      have : ∀ {l : List PV} {ws : List Value}, ws.length = l.length → (!(List.toArray ws).isEmpty) = !l.isEmpty := fun {l ws} q => by cases l <;> cases ws <;> simp_all
      exact this hl
    · cases e
  · cases e
end
end Mine

-- M4
namespace Mine
open PySem.SeqAt PySem.Flt

noncomputable def near (k : Int) : Bool := decide (-1000 ≤ k) && decide (k ≤ 1000)
theorem near_iff {k : Int} (h : near k = true) : -1000 ≤ k ∧ k ≤ 1000 := by simpa [near] using h

noncomputable def idxP : PV → PV → Option PV
  | .lst l, .int k => if near k then (if 0 ≤ k then l[k.toNat]? else if -(l.length : Int) ≤ k then l[(k + l.length).toNat]? else none) else none
  | .tup l, .int k => if near k then (seqIndex? k l.length).bind fun j => l[j]? else none
  | .str x, .int k => if near k then ((seqIndex? k x.length).bind fun j => x.cps[j]?).map fun c => .str ⟨#[c]⟩ else none
  | _, _ => none

section
variable {prog : Program} {w : World} {A : Around} {s : Shared} {T : TM} {H : List Addr}

theorem lst_at {a : Addr} {vs : List Value} (x : s.heap.PlainList a vs.toArray) : s.heap.IsList a vs.toArray := x.isList

theorem idx_ok {p q r : PV} (e : idxP p q = some r) {a b : Value} (ra : Rep (hv H (gs s T)) a p) (rb : Rep (hv H (gs s T)) b q) {value slice : Expr}
    (hs : ∀ o i, subscripted slice false o i = operate [o, i] (getItem o i)) :
    Ok (model prog w) A (subscriptTail value slice a b) s T (fun v g => Rep (hv H g) v r) := by
  unfold idxP at e
  split at e
  · rename_i l k
    obtain ⟨c, vs, rfl, xc, rc⟩ := ra.lstInv
    cases rb
    have hl := (plainList_grow xc (hv_grow _ _)).isList
    split at e
    · rename_i hk
      have hk := near_iff hk
      split at e
      · rename_i h0
        obtain ⟨v, hv', rv⟩ := rc.get e
        exact Ok.of fun Q E hq => tail_any hl.typeIs slot_list_getitem.lookup (wpAny_getItem_list hl h0 (by omega) (by simpa using hv') (hq _ _ T rv (Goes.refl _ _))) (hs _ _)
      · rename_i h0
        split at e
        · rename_i h1
          obtain ⟨v, hv', rv⟩ := rc.get e
          refine Ok.of fun Q E hq => tail_any hl.typeIs slot_list_getitem.lookup (wpAny_getItem_list_neg hl (by omega) (by have := rc.length; simp; omega) (by omega) ?_ (hq _ _ T rv (Goes.refl _ _))) (hs _ _)
          simpa [rc.length] using hv'
        · cases e
    · cases e
  · rename_i l k
    obtain ⟨c, vs, rfl, xc, rc⟩ := ra.tupInv
    cases rb
    have hl := (plainTup_grow xc (hv_grow _ _)).isTup
    split at e
    · rename_i hk
      have hk := near_iff hk
      obtain ⟨j, hj, e⟩ := Option.bind_eq_some_iff.mp e
      obtain ⟨v, hv', rv⟩ := rc.get e
      exact Ok.of fun Q E hq => item_tupleT hl (by omega) (by omega) (by rw [rc.length]; exact hj) hv' (hq _ _ T rv (Goes.refl _ _)) (hs _ _)
    · cases e
  · rename_i x k
    split at e
    · rename_i hk
      have hk := near_iff hk
      obtain ⟨c, hc, rfl⟩ := Option.map_eq_some_iff.mp e
      cases ra; cases rb
      refine Ok.of fun Q E hq => tail_any (T := "str") (typeIs_str _ _ _) F.slot_str_getitem.lookup (PyProof.Rows.getItem_str (by simp; omega) hc ?_) (hs _ _)
      exact hq _ _ T (.str _ _) (Goes.tok _ _ _)
    · cases e
  · cases e

noncomputable def partP : PV → Option (Option Int)
  | .none => some none
  | .int k => some (some k)
  | _ => none
theorem partP_is {g : GS} {p : PV} {k : Option Int} (e : partP p = some k) {v : Value} (r : Rep g v p) : ∃ u : Option (Int × Tok), v = partValue u ∧ u.map (·.1) = k ∧ IsPart v k := by
  unfold partP at e
  split at e
  · cases r; cases e; exact ⟨none, rfl, rfl, .none⟩
  · cases r; cases e; exact ⟨some (_, _), rfl, rfl, .int _ _⟩
  · cases e

noncomputable def pickL {α : Type} (l : List α) (lo hi st : Option Int) : List α :=
  (sliceRange (sliceBounds lo hi st l.length).1 (sliceBounds lo hi st l.length).2.1 (sliceBounds lo hi st l.length).2.2).filterMap (l[·]?)
noncomputable def pickS (x : Str) (lo hi st : Option Int) : Str :=
  if (st.getD 1 == 1 && (Builtin.Str.strSliceIndices lo hi (st.getD 1) x.length).length == x.length) = true then x else ⟨((Builtin.Str.strSliceIndices lo hi (st.getD 1) x.length).filterMap (x.cps[·]?)).toArray⟩

noncomputable def slcP (p lo hi st : PV) : Option PV :=
  match partP lo, partP hi, partP st with
  | some a, some b, some c =>
    if c = some 0 then none else
    match p with
    | .lst l => if l.length ≤ 1000 then some (.lst (pickL l a b c)) else none
    | .str x => if (pickS x a b c).length ≤ 1000 then some (.str (pickS x a b c)) else none
    | _ => none
  | _, _, _ => none

theorem RepL.pick {g : GS} {vs : List Value} {ps : List PV} (r : RepL g vs ps) : ∀ is : List Nat, RepL g (is.filterMap (vs.toArray[·]?)) (is.filterMap (ps[·]?))
  | [] => .nil
  | i :: is => by
    have ih := r.pick is
    rw [List.filterMap_cons, List.filterMap_cons]
    cases hp : ps[i]? with
    | none =>
      have : vs.toArray[i]? = none := by
        have h1 := List.getElem?_eq_none_iff.mp hp
        rw [List.getElem?_toArray]
        exact List.getElem?_eq_none (by rw [r.length]; exact h1)
      rw [this]; exact ih
    | some p =>
      obtain ⟨v, hv', rv⟩ := r.get hp
      have : vs.toArray[i]? = some v := by rw [List.getElem?_toArray]; exact hv'
      rw [this]; exact .cons rv ih

theorem slc_ok {p lo hi st r : PV} (e : slcP p lo hi st = some r) {a vl vu vs : Value} {b : Addr} (ra : Rep (hv H (gs s T)) a p) (rl : Rep (hv H (gs s T)) vl lo) (ru : Rep (hv H (gs s T)) vu hi) (rs : Rep (hv H (gs s T)) vs st)
    (hb : s.heap.IsSliceOf b vl vu vs) (L : Laid H s.heap) {value slice : Expr} {ops : List Value} (hs : subscripted slice false a (.ref b) = operate ops (getItem a (.ref b))) :
    Ok (model prog w) A (subscriptTail value slice a (.ref b)) s T (fun v g => Rep (hv H g) v r) := by
  unfold slcP at e
  split at e
  · rename_i x y z hx hy hz
    split at e
    · cases e
    · rename_i h0
      obtain ⟨ul, el, kl, pl⟩ := partP_is hx rl
      obtain ⟨uu, eu, ku, pu⟩ := partP_is hy ru
      obtain ⟨us, es, ks, ps⟩ := partP_is hz rs
      split at e
      · rename_i l
        split at e
        · rename_i hlen
          cases e
          obtain ⟨c, ws, rfl, xc, rc⟩ := ra.lstInv
          have hl := (plainList_grow xc (hv_grow _ _)).isList
          refine Ok.of fun Q E hq => tail_any hl.typeIs slot_list_getitem.lookup (wpAny_getItem_list_slice hl hb pl pu ps h0 ?_ (by rw [sizeLine_eq]; have := rc.length; simp; omega)) hs
          have N := new_lst (s := s) (T := T) (tk := s.toks) (n := 0) L (rc.pick (sliceRange (sliceBounds x y z l.length).1 (sliceBounds x y z l.length).2.1 (sliceBounds x y z l.length).2.2))
          have q : slicePick ws.toArray x y z = (List.filterMap (ws.toArray[·]?) (sliceRange (sliceBounds x y z l.length).1 (sliceBounds x y z l.length).2.1 (sliceBounds x y z l.length).2.2)).toArray := by
            unfold slicePick; rw [List.size_toArray, rc.length]
          rw [q]
          exact hq _ _ _ N.1 N.2
        · cases e
      · rename_i t
        split at e
        · rename_i hlen
          cases e
          cases ra
          have hb' : s.heap.IsSlice b ul uu us := by
            obtain ⟨o, h1, h2, h3⟩ := hb
            exact ⟨o, h1, h2, by rw [h3, el, eu, es]⟩
          have h1 : ((us.map (·.1)).getD 1 == 0) = false := by
            rw [ks]
            cases z with
            | none => rfl
            | some k => simp only [Option.getD_some, beq_eq_false_iff_ne, ne_eq]; intro q; exact h0 (by rw [q])
          refine Ok.of fun Q E hq => tail_any (T := "str") (typeIs_str _ _ _) F.slot_str_getitem.lookup (wpAny_getItem_str_slice hb' h1 ?_) hs
          unfold sliceMade slicePicked
          rw [kl, ku, ks]
          unfold pickS at hq
          split
          · rename_i q
            rw [if_pos q] at hq
            exact hq _ _ T (.str _ _) (Goes.refl _ _)
          · rename_i q
            rw [if_neg q] at hq
            refine ⟨?_, hq _ _ T (.str _ _) (Goes.tok _ _ _)⟩
            unfold pickS at hlen
            rw [if_neg q] at hlen
            rw [sizeLine_eq]
            exact Nat.le_trans hlen (by omega)
        · cases e
      · cases e
  · cases e

-- built-in functions
inductive BI where
  | len | max | min | int | str | sum
noncomputable def numP : PV → Bool
  | .int _ => true
  | .flt _ => true
  | _ => false
noncomputable def ltP : PV → PV → Bool
  | .int a, .int b => decide (a < b)
  | .flt a, .flt b => Float64.cmp a b == some .lt
  | .flt a, .int n => Float64.cmpInt a n == some .lt
  | .int n, .flt a => Float64.cmpInt a n == some .gt
  | _, _ => false
noncomputable def bestP (up : Bool) (l : List PV) : Option PV :=
  if l.all numP && decide (0 < l.length) && decide (l.length ≤ 1000) then
    l[argBest (fun i j => if up then ltP (l.getD j .none) (l.getD i .none) else ltP (l.getD i .none) (l.getD j .none)) (l.length - 1)]? else none
theorem ltV_is {g : GS} {v w : Value} {p q : PV} (x : Rep g v p) (y : Rep g w q) : ltV v w = ltP p q := by
  cases x with
  | int i t => cases y <;> rfl
  | flt b t h k => cases y <;> rfl
  | _ => rfl
theorem numV_is {g : GS} {v : Value} {p : PV} (x : Rep g v p) (h : numP p = true) : NumV v := by
  cases x <;> first | exact .int _ _ | exact .float _ _ | cases h
theorem RepL.numV {g : GS} : ∀ {vs : List Value} {ps : List PV}, RepL g vs ps → ps.all numP = true → ∀ v ∈ vs.toArray, NumV v
  | _, _, .nil, _, v, hv => by simp at hv
  | _, _, .cons a r, h, v, hv => by
    simp only [List.all_cons, Bool.and_eq_true] at h
    rcases (by simpa using hv : v = _ ∨ v ∈ _) with rfl | hv
    · exact numV_is a h.1
    · exact r.numV h.2 v (by simpa using hv)
theorem RepL.getD {g : GS} {vs : List Value} {ps : List PV} (r : RepL g vs ps) (i : Nat) : Rep g (vs.toArray.getD i .none) (ps.getD i .none) := by
  cases h : ps[i]? with
  | none =>
    have : vs[i]? = none := List.getElem?_eq_none (by rw [r.length]; exact List.getElem?_eq_none_iff.mp h)
    rw [Array.getD_eq_getD_getElem?, List.getElem?_toArray, this, List.getD_eq_getElem?_getD, h]
    exact .none
  | some p =>
    obtain ⟨v, hv', rv⟩ := r.get h
    rw [Array.getD_eq_getD_getElem?, List.getElem?_toArray, hv', List.getD_eq_getElem?_getD, h]
    exact rv

theorem len2 {α : Type} : ∀ {l : List α}, l.length = 2 → ∃ a b, l = [a, b]
  | [a, b], _ => ⟨a, b, rfl⟩
theorem len3 {α : Type} : ∀ {l : List α}, l.length = 3 → ∃ a b c, l = [a, b, c]
  | [a, b, c], _ => ⟨a, b, c, rfl⟩
theorem le_of {s : Shared} {h' : Heap} (T : TM) (k : Grow s.heap h') : Le (gs s T) ⟨h', T⟩ := ⟨k, TExt.refl _⟩
theorem keep_from {s : Shared} {h₂ h' : Heap} {wr : List Addr} (k : Grow s.heap h₂) (w : ∀ b ∈ wr, s.heap.get? b = none) (h : ∀ b o, b ∉ wr → h₂.get? b = some o → h'.get? b = some o) : Grow s.heap h' :=
  fun b o e => h b o (fun hb => by rw [w b hb] at e; cases e) (k b o e)

theorem best_lst {up : Bool} {l : List PV} {r : PV} (e : bestP up l = some r) {a : Addr} {vs : List Value} (x : s.heap.PlainList a vs.toArray) (rl : RepL (hv H (gs s T)) vs l) (hh : A.handled = none) :
    Ok (model prog w) A (call (.builtin (if up then "max" else "min")) [.ref a]) s T (fun v g => Rep (hv H g) v r) := by
  unfold bestP at e
  split at e
  · rename_i hc
    simp only [Bool.and_eq_true, decide_eq_true_eq] at hc
    have hne : a ≠ s.heap.objs.size := fun q => by
      obtain ⟨n, h⟩ := x
      have := Heap.lt_size h
      rw [q] at this; exact Nat.lt_irrefl _ this
    have hsz : vs.toArray.size = l.length := by rw [List.size_toArray, rl.length]
    have fin : ∀ (Q : Value → Shared → Prop) (s₂ : Shared), (∃ k, s₂ = { s with heap := k } ∧ Grow s.heap k) → (∀ v s' T', Rep (hv H (gs s' T')) v r → Goes s T s' T' → Q v s') →
        ∀ v h' tk, vs.toArray[argBest (fun i j => if up then ltP (l.getD j .none) (l.getD i .none) else ltP (l.getD i .none) (l.getD j .none)) (vs.toArray.size - 1)]? = some v →
        (∀ b o, b ∉ [s.heap.objs.size] → s₂.heap.get? b = some o → h'.get? b = some o) → Q v { s₂ with heap := h', toks := tk } := by
      rintro Q _ ⟨k, rfl, hk⟩ hq v h' tk hP hkp
      rw [hsz] at hP
      obtain ⟨p, hp, rv⟩ := rl.getv (by rw [List.getElem?_toArray] at hP; exact hP)
      rw [e] at hp
      cases hp
      have G : Grow s.heap h' := keep_from hk (by simp [size_none]) hkp
      exact hq v _ T (rv.grow (le_of T G).hv) (.of _ (keeps_of G))
    have hfp : ∀ b ∈ [s.heap.objs.size, a], b < (s.heap.push { cls := .type "list_iterator", data := .fields #[.ref a, .int 0 0] }).objs.size := fun b hb => by
      rw [Heap.size_push]
      rcases List.mem_cons.mp hb with rfl | hb
      · exact Nat.lt_succ_self _
      · obtain ⟨n, h⟩ := x
        rw [List.mem_singleton.mp hb]; exact Nat.lt_succ_of_lt (Heap.lt_size h)
    refine Ok.of fun Q E hq => ?_
    cases up with
    | true =>
      refine call_max_walk (wpAny_pyIter_list x.isList ⟨_, [_, a], [_], _, _, _, _, rfl, Walks.list (A := A.in1) hh _ a hne vs.toArray, ⟨⟨_, Heap.get?_push_size _ rfl, rfl, rfl⟩, (x.isList).push _⟩, hfp, by rw [hsz]; exact hc.1.2,
        cmpOf_gt vs.toArray (rl.numV hc.1.1), ?_⟩)
      have hb : (fun i j => ltV (vs.toArray.getD j .none) (vs.toArray.getD i .none)) = fun i j => ltP (l.getD j .none) (l.getD i .none) := funext fun i => funext fun j => ltV_is (rl.getD j) (rl.getD i)
      rw [hb]
      exact fun v h' tk hP hk => fin Q _ ⟨_, rfl, grow_push _ _⟩ hq v h' tk hP hk
    | false =>
      refine call_min_walk (wpAny_pyIter_list x.isList ⟨_, [_, a], [_], _, _, _, _, rfl, Walks.list (A := A.in1) hh _ a hne vs.toArray, ⟨⟨_, Heap.get?_push_size _ rfl, rfl, rfl⟩, (x.isList).push _⟩, hfp, by rw [hsz]; exact hc.1.2,
        cmpOf_lt vs.toArray (rl.numV hc.1.1), ?_⟩)
      have hb : (fun i j => ltV (vs.toArray.getD i .none) (vs.toArray.getD j .none)) = fun i j => ltP (l.getD i .none) (l.getD j .none) := funext fun i => funext fun j => ltV_is (rl.getD i) (rl.getD j)
      rw [hb]
      exact fun v h' tk hP hk => fin Q _ ⟨_, rfl, grow_push _ _⟩ hq v h' tk hP hk
  · cases e

theorem best_args {up : Bool} {l : List PV} {r : PV} (e : bestP up l = some r) {vs : List Value} (rl : RepL (hv H (gs s T)) vs l) (hh : A.handled = none) (h23 : vs.length = 2 ∨ vs.length = 3) :
    Ok (model prog w) A (call (.builtin (if up then "max" else "min")) vs) s T (fun v g => Rep (hv H g) v r) := by
  unfold bestP at e
  split at e
  · rename_i hc
    simp only [Bool.and_eq_true, decide_eq_true_eq] at hc
    have hsz : vs.toArray.size = l.length := by rw [List.size_toArray, rl.length]
    have hT : (s.heap.push { cls := .type "tuple", data := .seq vs.toArray }).IsTuple s.heap.objs.size vs.toArray := ⟨_, Heap.get?_push_size _ rfl, rfl, 0, rfl⟩
    have hs1 : (s.heap.push { cls := .type "tuple", data := .seq vs.toArray }).objs.size = s.heap.objs.size + 1 := Heap.size_push ..
    have hne : s.heap.objs.size ≠ (s.heap.push { cls := .type "tuple", data := .seq vs.toArray }).objs.size := by rw [hs1]; exact Nat.ne_of_lt (Nat.lt_succ_self _)
    have fin : ∀ (Q : Value → Shared → Prop) (s₂ : Shared), (∃ k, s₂ = { s with heap := k } ∧ Grow s.heap k) → (∀ v s' T', Rep (hv H (gs s' T')) v r → Goes s T s' T' → Q v s') →
        ∀ v h' tk, vs.toArray[argBest (fun i j => if up then ltP (l.getD j .none) (l.getD i .none) else ltP (l.getD i .none) (l.getD j .none)) (vs.toArray.size - 1)]? = some v →
        (∀ b o, b ∉ [(s.heap.push { cls := .type "tuple", data := .seq vs.toArray }).objs.size] → s₂.heap.get? b = some o → h'.get? b = some o) → Q v { s₂ with heap := h', toks := tk } := by
      rintro Q _ ⟨k, rfl, hk⟩ hq v h' tk hP hkp
      rw [hsz] at hP
      obtain ⟨p, hp, rv⟩ := rl.getv (by rw [List.getElem?_toArray] at hP; exact hP)
      rw [e] at hp
      cases hp
      have G : Grow s.heap h' := keep_from hk (fun b hb => by
        rw [List.mem_singleton.mp hb, hs1]
        cases q : s.heap.get? (s.heap.objs.size + 1) with
        | none => rfl
        | some o => exact absurd (Heap.lt_size q) (Nat.not_lt.mpr (Nat.le_succ _))) hkp
      exact hq v _ T (rv.grow (le_of T G).hv) (.of _ (keeps_of G))
    have hfp : ∀ b ∈ [(s.heap.push { cls := .type "tuple", data := .seq vs.toArray }).objs.size, s.heap.objs.size],
        b < ((s.heap.push { cls := .type "tuple", data := .seq vs.toArray }).push { cls := .type "tuple_iterator", data := .fields #[.ref s.heap.objs.size, .int 0 0] }).objs.size := fun b hb => by
      rw [Heap.size_push, hs1]
      rcases List.mem_cons.mp hb with rfl | hb
      · rw [hs1]; exact Nat.lt_succ_self _
      · rw [List.mem_singleton.mp hb]; exact Nat.lt_succ_of_lt (Nat.lt_succ_self _)
    have hbt : (fun i j => ltV (vs.toArray.getD j .none) (vs.toArray.getD i .none)) = fun i j => ltP (l.getD j .none) (l.getD i .none) := funext fun i => funext fun j => ltV_is (rl.getD j) (rl.getD i)
    have hbf : (fun i j => ltV (vs.toArray.getD i .none) (vs.toArray.getD j .none)) = fun i j => ltP (l.getD i .none) (l.getD j .none) := funext fun i => funext fun j => ltV_is (rl.getD i) (rl.getD j)
    refine Ok.of fun Q E hq => ?_
    have G2 := (grow_push s.heap { cls := .type "tuple", data := .seq vs.toArray }).trans (grow_push _ { cls := .type "tuple_iterator", data := .fields #[.ref s.heap.objs.size, .int 0 0] })
    have core : ∀ op : CmpOp, ∀ bt, CmpOf prog w A.in1 op (fun i v => vs.toArray[i]? = some v) bt → bt = (fun i j => if up then ltP (l.getD j .none) (l.getD i .none) else ltP (l.getD i .none) (l.getD j .none)) →
        wpAny (model prog w) A.in1 (pyIter (.ref s.heap.objs.size)) (fun it s₂ => ∃ I fp wr n P St bt, it = .ref I ∧ Walks prog w A.in1 I fp wr n P St ∧ St 0 s₂.heap ∧ (∀ b ∈ fp, b < s₂.heap.objs.size) ∧ 0 < n ∧ CmpOf prog w A.in1 op P bt ∧
      ∀ v h' tk, P (argBest bt (n - 1)) v → (∀ b o, b ∉ wr → s₂.heap.get? b = some o → h'.get? b = some o) → Q v { s₂ with heap := h', toks := tk }) E
      { s with heap := s.heap.push { cls := .type "tuple", data := .seq vs.toArray } } := fun op bt hc' hbt => by
      subst hbt
      refine wpAny_pyIter_tuple hT ⟨_, [_, s.heap.objs.size], [_], _, _, _, _, rfl, Walks.tuple (A := A.in1) hh _ s.heap.objs.size hne vs.toArray, ⟨⟨_, Heap.get?_push_size _ rfl, rfl, rfl⟩, hT.push _⟩, hfp, by rw [hsz]; exact hc.1.2, hc', ?_⟩
      exact fun v h' tk hP hk => fin Q _ ⟨_, rfl, G2⟩ hq v h' tk hP hk
    rcases h23 with h2 | h3
    · obtain ⟨a, b, rfl⟩ := len2 h2
      cases up with
      | true => exact call_max_two (core .Gt _ (cmpOf_gt _ (rl.numV hc.1.1)) hbt)
      | false => exact call_min_two (core .Lt _ (cmpOf_lt _ (rl.numV hc.1.1)) hbf)
    · obtain ⟨a, b, c, rfl⟩ := len3 h3
      cases up with
      | true => exact call_max_three (core .Gt _ (cmpOf_gt _ (rl.numV hc.1.1)) hbt)
      | false => exact call_min_three (core .Lt _ (cmpOf_lt _ (rl.numV hc.1.1)) hbf)
  · cases e

noncomputable def allInt : List PV → Option (List Int)
  | [] => some []
  | .int i :: l => (allInt l).map (i :: ·)
  | _ :: _ => none
theorem allInt_are {g : GS} : ∀ {l : List PV} {ns : List Int} {vs : List Value}, allInt l = some ns → RepL g vs l → IntsAre vs ns
  | [], ns, vs, e, r => by cases e; cases r; exact .nil
  | .int i :: l, ns, vs, e, r => by
    unfold allInt at e
    obtain ⟨ms, h, rfl⟩ := Option.map_eq_some_iff.mp e
    cases r with | cons a r => cases a; exact .cons _ _ (allInt_are h r)
  | .none :: _, _, _, e, _ => by cases e
  | .bool _ :: _, _, _, e, _ => by cases e
  | .flt _ :: _, _, _, e, _ => by cases e
  | .str _ :: _, _, _, e, _ => by cases e
  | .tup _ :: _, _, _, e, _ => by cases e
  | .lst _ :: _, _, _, e, _ => by cases e
  | .hdr _ :: _, _, _, e, _ => by cases e

noncomputable def oneP (f : PV → Option PV) : List PV → Option PV
  | [p] => f p
  | _ => none
theorem oneP_is {f : PV → Option PV} {l : List PV} {r : PV} (e : oneP f l = some r) : ∃ p, l = [p] ∧ f p = some r := by
  unfold oneP at e
  split at e
  · exact ⟨_, rfl, e⟩
  · cases e
noncomputable def onLst (f : List PV → Option PV) : PV → Option PV
  | .lst l => f l
  | _ => none
theorem onLst_is {f : List PV → Option PV} {p r : PV} (e : onLst f p = some r) : ∃ l, p = .lst l ∧ f l = some r := by
  unfold onLst at e
  split at e
  · exact ⟨_, rfl, e⟩
  · cases e
noncomputable def onStr (f : Str → Option PV) : PV → Option PV
  | .str x => f x
  | _ => none
theorem onStr_is {f : Str → Option PV} {p r : PV} (e : onStr f p = some r) : ∃ l, p = .str l ∧ f l = some r := by
  unfold onStr at e
  split at e
  · exact ⟨_, rfl, e⟩
  · cases e
noncomputable def lenP : PV → Option PV
  | .lst l => if l.length ≤ 1000 then some (.int l.length) else none
  | .str x => if x.length ≤ 1000 then some (.int x.length) else none
  | _ => none
noncomputable def bstP (up : Bool) : List PV → Option PV
  | [p] => onLst (bestP up) p
  | [a, b] => bestP up [a, b]
  | [a, b, c] => bestP up [a, b, c]
  | _ => none
noncomputable def intOf : PV → Option PV
  | .flt x => (match Float64.decode x with
    | .fin sg m e => some (.int (Float64.truncOf sg m e))
    | _ => none)
  | _ => none
noncomputable def strOf : PV → Option PV
  | .int i => if near i then some (.str (Str.ofString (toString i))) else none
  | _ => none
noncomputable def biP (b : BI) (l : List PV) : Option PV := match b with
  | .len => oneP lenP l
  | .max => bstP true l
  | .min => bstP false l
  | .int => oneP intOf l
  | .str => oneP strOf l
  | .sum => oneP (onLst fun l => (allInt l).map fun ns => .int ns.sum) l
noncomputable def biV : BI → Value
  | .len => .builtin "len"
  | .max => .builtin "max"
  | .min => .builtin "min"
  | .int => .type "int"
  | .str => .type "str"
  | .sum => .builtin "sum"

theorem sum_ok {a : Addr} {vs : List Value} {ns : List Int} (hh : A.handled = none) (x : s.heap.PlainList a vs.toArray) (hi : IntsAre vs ns) :
    Ok (model prog w) A (call (.builtin "sum") [.ref a]) s T (fun v g => Rep (hv H g) v (.int ns.sum)) := by
  refine Ok.of fun Q E hq => ?_
  have hl := x.isList
  obtain ⟨xs, hx⟩ := hi.allInts.items
  have hn : numsOf vs.toArray.toList = ns := by rw [show vs.toArray.toList = vs from rfl, hi.numsOf]
  rw [hx] at hl hn
  rw [nums_intItems] at hn
  refine sum_intListG hh hl fun h' tk t' hk => ?_
  rw [preSum_eq, List.take_of_length_le (by simp), hn]
  exact hq _ _ T (.int _ _) (.of _ (keeps_of hk))

theorem bst_ok {up : Bool} {ps : List PV} {r : PV} (e : bstP up ps = some r) {vs : List Value} (ra : RepL (hv H (gs s T)) vs ps) (hh : A.handled = none) :
    Ok (model prog w) A (call (.builtin (if up then "max" else "min")) vs) s T (fun v g => Rep (hv H g) v r) := by
  unfold bstP at e
  split at e
  · obtain ⟨l, rfl, e1⟩ := onLst_is e
    obtain ⟨v, ws, rfl, a, n⟩ := ra.consInv; obtain rfl := n.nilInv; obtain ⟨c, vs, rfl, xc, rc⟩ := a.lstInv; exact best_lst e1 (plainList_grow xc (hv_grow _ _)) rc hh
  · exact best_args e ra hh (.inl ra.length)
  · exact best_args e ra hh (.inr ra.length)
  · cases e
theorem bi_ok {b : BI} {ps : List PV} {r : PV} (e : biP b ps = some r) {vs : List Value} (ra : RepL (hv H (gs s T)) vs ps) (hh : A.handled = none) :
    Ok (model prog w) A (call (biV b) vs) s T (fun v g => Rep (hv H g) v r) := by
  cases b with
  | max => exact bst_ok (up := true) e ra hh
  | min => exact bst_ok (up := false) e ra hh
  | len =>
    obtain ⟨p, rfl, e1⟩ := oneP_is e
    obtain ⟨v, ws, rfl, a, n⟩ := ra.consInv; obtain rfl := n.nilInv
    unfold lenP at e1
    split at e1
    · obtain ⟨hz, rfl⟩ := if_some e1
      obtain ⟨c, vs, rfl, xc, rc⟩ := a.lstInv; have := rc.length; exact Ok.of fun Q E hq => call_len_list (plainList_grow xc (hv_grow _ _)).isList (by simp; omega) (hq _ _ T (by rw [List.size_toArray, this]; exact .int _ _) (Goes.tok _ _ _))
    · obtain ⟨hz, rfl⟩ := if_some e1
      obtain ⟨t, rfl⟩ := a.strInv; exact Ok.of fun Q E hq => PyProof.Rows.len_str (by omega) (hq _ _ T (.int _ _) (Goes.tok _ _ _))
    · cases e1
  | int =>
    obtain ⟨p, rfl, e1⟩ := oneP_is e
    obtain ⟨v, ws, rfl, a, n⟩ := ra.consInv; obtain rfl := n.nilInv
    unfold intOf at e1
    split at e1
    · obtain ⟨t, rfl, _⟩ := a.fltInv
      split at e1
      · rename_i hd
        obtain rfl := Option.some.inj e1
        exact Ok.of fun Q E hq => call_int_float hd (hq _ _ T (.int _ _) (Goes.tok _ _ _))
      · cases e1
    · cases e1
  | str =>
    obtain ⟨p, rfl, e1⟩ := oneP_is e
    obtain ⟨v, ws, rfl, a, n⟩ := ra.consInv; obtain rfl := n.nilInv
    unfold strOf at e1
    split at e1
    · rename_i i
      obtain ⟨t, rfl⟩ := a.intInv
      obtain ⟨hk, rfl⟩ := if_some e1
      have hk := near_iff hk
      have hl : i.natAbs.log2 < 1920 := Nat.lt_of_le_of_lt (Nat.log2_le_self _) (by omega)
      exact Ok.of fun Q E hq => P.str_of_int hl (hq _ _ T (.str _ _) (Goes.tok _ _ _))
    · cases e1
  | sum =>
    obtain ⟨p, rfl, e1⟩ := oneP_is e
    obtain ⟨v, ws, rfl, a, n⟩ := ra.consInv; obtain rfl := n.nilInv
    obtain ⟨l, rfl, e2⟩ := onLst_is e1
    obtain ⟨ns, hn, rfl⟩ := Option.map_eq_some_iff.mp e2
    obtain ⟨c, vs, rfl, xc, rc⟩ := a.lstInv; exact sum_ok hh (plainList_grow xc (hv_grow _ _)) (allInt_are hn rc)
end
end Mine

-- M5
namespace Mine
open PySem.SeqAt PySem.Flt
open Builtin Builtin.Str

inductive ME where
  | upper | lower | ends | starts | find | split | join | index | count

noncomputable def find4 (x y : Str) (i j : Int) : Int := match occurrences x y (fromIndex x.length i) (min (fromIndex x.length j) x.length) 1 with | k :: _ => (k : Int) | [] => -1
theorem gives_find4 (x y : Str) (i j : Int) (t u v z : Tok) : Gives («str.find» ⟨[.str x t, .str y u, .int i v, .int j z], []⟩) (.int (find4 x y i j)) := by
  show Gives (match occurrences x y (fromIndex x.length i) (min (fromIndex x.length j) x.length) 1 with | k :: _ => retInt k | [] => (do rule "str.find.not-found"; retInt (-1))) _
  unfold find4
  cases occurrences x y (fromIndex x.length i) (min (fromIndex x.length j) x.length) 1 with
  | nil => exact .rule (.of_eq rfl)
  | cons k r => exact .of_eq rfl

noncomputable def allStr : List PV → Option (List Str)
  | [] => some []
  | .str x :: l => (allStr l).map (x :: ·)
  | _ :: _ => none
theorem allStr_are {g : GS} : ∀ {l : List PV} {ss : List Str} {vs : List Value}, allStr l = some ss → RepL g vs l → ∃ ks : List (Str × Tok), vs = strValues ks ∧ ks.map (·.1) = ss
  | [], ss, vs, e, r => by cases e; cases r; exact ⟨[], rfl, rfl⟩
  | .str x :: l, ss, vs, e, r => by
    unfold allStr at e
    obtain ⟨ms, h, rfl⟩ := Option.map_eq_some_iff.mp e
    cases r with | cons a r => cases a with | str _ t => obtain ⟨ks, rfl, rfl⟩ := allStr_are h r; exact ⟨(x, t) :: ks, rfl, rfl⟩
  | .none :: _, _, _, e, _ => by cases e
  | .bool _ :: _, _, _, e, _ => by cases e
  | .flt _ :: _, _, _, e, _ => by cases e
  | .int _ :: _, _, _, e, _ => by cases e
  | .tup _ :: _, _, _, e, _ => by cases e
  | .lst _ :: _, _, _, e, _ => by cases e
  | .hdr _ :: _, _, _, e, _ => by cases e
theorem repStrs (g : GS) : ∀ ks : List (Str × Tok), RepL g (strValues ks) ((ks.map (·.1)).map .str)
  | [] => .nil
  | (x, t) :: ks => .cons (.str x t) (repStrs g ks)

/-- where the first equal one stands -/
noncomputable def findP (q : PV) : List PV → Option Nat
  | [] => none
  | p :: l => match eqP p q with
    | some true => some 0
    | some false => (findP q l).map (· + 1)
    | none => none
noncomputable def countP (q : PV) : List PV → Option Nat
  | [] => some 0
  | p :: l => match eqP p q, countP q l with
    | some x, some n => some (n + if x then 1 else 0)
    | _, _ => none

noncomputable def zeroP {α : Type} (f : Option α) : List PV → Option α
  | [] => f
  | _ => none
theorem zeroP_is {α : Type} {f : Option α} {l : List PV} {r : α} (e : zeroP f l = some r) : l = [] ∧ f = some r := by
  unfold zeroP at e
  split at e
  · exact ⟨rfl, e⟩
  · cases e
noncomputable def findA (x : Str) : List PV → Option PV
  | [.str y, .int i, .int j] => some (.int (find4 x y i j))
  | _ => none
noncomputable def joinA (x : Str) (l : List PV) : Option PV := match allStr l with
  | some ss => if JoinOk x ss then some (.str (Txt.join x ss)) else none
  | none => none
noncomputable def meP (m : ME) (p : PV) (l : List PV) : Option PV := match m with
  | .upper => onStr (fun x => zeroP (if tooLong (Txt.upper x).length then none else some (.str (Txt.upper x))) l) p
  | .lower => onStr (fun x => zeroP (if tooLong (Txt.lower x).length then none else some (.str (Txt.lower x))) l) p
  | .ends => onStr (fun x => oneP (onStr fun y => some (.bool (Txt.endswith x y))) l) p
  | .starts => onStr (fun x => oneP (onStr fun y => some (.bool (Txt.startswith x y))) l) p
  | .find => onStr (fun x => findA x l) p
  | .split => onStr (fun x => oneP (onStr fun y => if y.length == 0 || !decide (x.length ≤ 1000) || !decide ((partsBetween x (occurrences x y 0 x.length (x.length + 1)) y.length).length ≤ 1000) then none else some (.lst ((Txt.split x y).map .str))) l) p
  | .join => onStr (fun x => oneP (onLst (joinA x)) l) p
  | .index => onLst (fun k => oneP (fun q => if k.length ≤ 1000 && (inP q k).isSome then (findP q k).map fun (j : Nat) => .int (j : Int) else none) l) p
  | .count => onLst (fun k => oneP (fun q => if (inP q k).isSome then (countP q k).map fun (j : Nat) => .int (j : Int) else none) l) p

noncomputable def meT : ME → String
  | .index => "list"
  | .count => "list"
  | _ => "str"
noncomputable def meN : ME → Str
  | .upper => "upper"
  | .lower => "lower"
  | .ends => "endswith"
  | .starts => "startswith"
  | .find => "find"
  | .split => "split"
  | .join => "join"
  | .index => "index"
  | .count => "count"
noncomputable def meI : ME → String
  | .upper => "str.upper"
  | .lower => "str.lower"
  | .ends => "str.endswith"
  | .starts => "str.startswith"
  | .find => "str.find"
  | .split => "str.split"
  | .join => "str.join"
  | .index => "list.index"
  | .count => "list.count"
theorem mePA : ∀ m : ME, PlainAttrs (meT m)
  | .index => F.plainAttrs_list
  | .count => F.plainAttrs_list
  | .upper => F.plainAttrs_str
  | .lower => F.plainAttrs_str
  | .ends => F.plainAttrs_str
  | .starts => F.plainAttrs_str
  | .find => F.plainAttrs_str
  | .split => F.plainAttrs_str
  | .join => F.plainAttrs_str
theorem meSlot : ∀ m : ME, Slot (meT m) (meN m) (meI m)
  | .index => F.slot_list_index
  | .count => F.slot_list_count
  | .upper => F.slot_str_upper
  | .lower => F.slot_str_lower
  | .ends => F.slot_str_endswith
  | .starts => F.slot_str_startswith
  | .find => F.slot_str_find
  | .split => F.slot_str_split
  | .join => F.slot_str_join
theorem meTy : ∀ m : ME, typeOf (.builtin (meI m)) = pure (.type "method_descriptor")
  | .index => F.type_list_index
  | .count => F.type_list_count
  | .upper => F.type_str_upper
  | .lower => F.type_str_lower
  | .ends => F.type_str_endswith
  | .starts => F.type_str_startswith
  | .find => F.type_str_find
  | .split => F.type_str_split
  | .join => F.type_str_join

section
variable {prog : Program} {w : World} {A : Around} {s : Shared} {T : TM} {H : List Addr}

theorem split_ok {x y : Str} {t u : Tok} (hy : (y.length == 0) = false) (hx : x.length ≤ 1000) (hn : (partsBetween x (occurrences x y 0 x.length (x.length + 1)) y.length).length ≤ 1000) (L : Laid H s.heap) :
    Ok (model prog w) A (call (.builtin "str.split") [.str x t, .str y u]) s T (fun v g => Rep (hv H g) v (.lst ((Txt.split x y).map .str))) := by
  have hsz : x.length ≤ sizeLine := by rw [sizeLine_eq]; omega
  have hsz2 : (partsBetween x (occurrences x y 0 x.length (x.length + 1)) y.length).length ≤ sizeLine := by rw [sizeLine_eq]; omega
  have fin : ∀ (Q : Value → Shared → Prop), (∀ v s' T', Rep (hv H (gs s' T')) v (.lst ((Txt.split x y).map .str)) → Goes s T s' T' → Q v s') → ∀ (ks : List (Str × Tok)) (tk : Nat), ks.map (·.1) = Txt.split x y →
      Q (.ref s.heap.objs.size) { s with heap := s.heap.push { cls := .type "list", data := .seq (strValues ks).toArray }, toks := tk } := fun Q hq ks tk hk => by
    have N := new_lst (s := s) (T := T) (H := H) (tk := tk) (n := 0) L (repStrs (hv H (gs s T)) ks)
    rw [hk] at N
    exact hq _ _ T N.1 N.2
  refine Ok.of fun Q E hq => ?_
  cases h1 : (decide (x.length < y.length) || decide (strKind x < strKind y))
  · cases hf : (occurrences x y 0 x.length (x.length + 1)).isEmpty
    · refine call_meets F.slot_str_split (typeIs_str _ _ _) F.entry_str_split (F.args_str_split_2 _ _) (meets_str_split_sep x y t u h1 hy hf hsz hsz2) ?_
      show wants Q E _ { s with toks := _, heap := s.heap.push { cls := .type "list", data := .seq (strsFrom s.toks (partsBetween x (occurrences x y 0 x.length (x.length + 1)) y.length)).toArray } }
      rw [strsFrom_eq]
      exact fin Q hq (numbered s.toks _) _ ((numbered_texts _ _).trans ((if_neg (ne_true_of_eq_false h1)).trans (if_neg (ne_true_of_eq_false hf))).symm)
    · exact call_meets F.slot_str_split (typeIs_str _ _ _) F.entry_str_split (F.args_str_split_2 _ _) (meets_str_split_not_found x y t u h1 hy hf)
        (fin Q hq [(x, t)] _ ((if_neg (ne_true_of_eq_false h1)).trans (if_pos hf)).symm)
  · exact call_meets F.slot_str_split (typeIs_str _ _ _) F.entry_str_split (F.args_str_split_2 _ _) (meets_str_split_cannot_occur x y t u h1)
      (fin Q hq [(x, t)] _ (if_pos h1).symm)

theorem findP_get {q : PV} : ∀ {l : List PV} {j : Nat}, findP q l = some j → ∃ p, l[j]? = some p ∧ eqP p q = some true ∧ ∀ m, m < j → ∃ p', l[m]? = some p' ∧ eqP p' q = some false
  | [], j, e => by cases e
  | p :: l, j, e => by
    unfold findP at e
    split at e
    · rename_i h; cases e; exact ⟨p, rfl, h, fun m hm => absurd hm (Nat.not_lt_zero _)⟩
    · rename_i h
      obtain ⟨i, hi, rfl⟩ := Option.map_eq_some_iff.mp e
      obtain ⟨p', h1, h2, h3⟩ := findP_get hi
      refine ⟨p', by simpa using h1, h2, fun m hm => ?_⟩
      cases m with
      | zero => exact ⟨p, rfl, h⟩
      | succ m => obtain ⟨p'', a, b⟩ := h3 m (by omega); exact ⟨p'', by simpa using a, b⟩
    · cases e
theorem countP_is {g : GS} {q : PV} : ∀ {l : List PV} {vs : List Value} {n : Nat}, RepL g vs l → countP q l = some n → vs.countP (hitsV g q) = n
  | _, _, n, .nil, e => by cases e; rfl
  | _, _, n, .cons a r, e => by
    unfold countP at e
    split at e
    · rename_i x m hx hm
      cases e
      rw [List.countP_cons, countP_is r hm, hitsV_is a hx]
    · cases e

theorem index_ok {l : List PV} {p : PV} {j : Nat} {c : Bool} (e : findP p l = some j) (ei : inP p l = some c) {a : Addr} {vs : List Value} {v : Value} (hz : l.length ≤ 1000) (x : s.heap.PlainList a vs.toArray) (rl : RepL (hv H (gs s T)) vs l)
    (rp : Rep (hv H (gs s T)) v p) (hu : A.units + 5 < cLine) (hb : NoneBooked s.heap) :
    Ok (model prog w) A (call (.builtin "list.index") [.ref a, v]) s T (fun v g => Rep (hv H g) v (.int j)) := by
  obtain ⟨n, ho⟩ := x
  obtain ⟨q, hq1, hq2, hq3⟩ := findP_get e
  obtain ⟨w', hw, rw'⟩ := rl.get hq1
  have hj : j < vs.length := (List.getElem?_eq_some_iff.mp hw).1
  have hlen := rl.length
  refine Ok.of fun Q E hq => ?_
  refine call_meets PySem.F.slot_list_index ⟨_, ho, rfl⟩ PySem.F.entry_list_index (PySem.F.args_list_index_2 _ _)
    (list_indexAt a vs.toArray n none #[] v (hitsV (hv H (gs s T)) p) j (by simpa using hj) (by omega) ?_ ?_) ⟨ho, fun y hy => ?_, hq _ _ T (.int _ _) (Goes.tok _ _ _)⟩
  · have : vs.toArray[j] = w' := by rw [List.getElem?_eq_getElem hj] at hw; simpa using hw
    rw [this]; exact hitsV_is rw' hq2
  · intro m hm hmj
    obtain ⟨q', h1, h2⟩ := hq3 m hmj
    obtain ⟨w'', hw', rw''⟩ := rl.get h1
    have hm' : m < vs.length := (List.getElem?_eq_some_iff.mp hw').1
    have : vs.toArray[m] = w'' := by rw [List.getElem?_eq_getElem hm'] at hw'; simpa using hw'
    rw [this]; exact hitsV_is rw'' h2
  · obtain ⟨q, x, rq, eq⟩ := inP_each rl ei y (by simpa using hy)
    rw [hitsV_is rq eq]
    exact eqAt_p hb eq rq rp (hv_grow _ _) (by rw [Around.in1_units]; omega)

theorem count_ok {l : List PV} {p : PV} {j : Nat} {c : Bool} (e : countP p l = some j) (ei : inP p l = some c) {a : Addr} {vs : List Value} {v : Value} (x : s.heap.PlainList a vs.toArray) (rl : RepL (hv H (gs s T)) vs l)
    (rp : Rep (hv H (gs s T)) v p) (hu : A.units + 5 < cLine) (hb : NoneBooked s.heap) :
    Ok (model prog w) A (call (.builtin "list.count") [.ref a, v]) s T (fun v g => Rep (hv H g) v (.int j)) := by
  obtain ⟨n, ho⟩ := x
  refine Ok.of fun Q E hq => ?_
  refine call_meets PySem.F.slot_list_count ⟨_, ho, rfl⟩ PySem.F.entry_list_count (PySem.F.args_list_count_2 _ _) (list_countAt a vs.toArray n none #[] v (hitsV (hv H (gs s T)) p)) ⟨ho, fun y hy => ?_, ?_⟩
  · obtain ⟨q, x, rq, eq⟩ := inP_each rl ei y (by simpa using hy)
    rw [hitsV_is rq eq]
    exact eqAt_p hb eq rq rp (hv_grow _ _) (by rw [Around.in1_units]; omega)
  · have : vs.toArray.toList.countP (hitsV (hv H (gs s T)) p) = j := countP_is rl e
    rw [this]
    exact hq _ _ T (.int _ _) (Goes.tok _ _ _)

theorem if_is {α : Type} {c : Prop} [Decidable c] {a : Option α} {r : α} (e : (if c then a else none) = some r) : c ∧ a = some r := by
  split at e
  · rename_i h; exact ⟨h, e⟩
  · cases e
theorem me_ok {m : ME} {p : PV} {ps : List PV} {r : PV} (e : meP m p ps = some r) {v : Value} {vs : List Value} (rv : Rep (hv H (gs s T)) v p) (ra : RepL (hv H (gs s T)) vs ps) (hu : A.units + 5 < cLine) (hb : NoneBooked s.heap) (L : Laid H s.heap) :
    Ok (model prog w) A (call (.builtin (meI m)) (v :: vs)) s T (fun v g => Rep (hv H g) v r) := by
  cases m with
  | upper =>
    obtain ⟨x, rfl, e1⟩ := onStr_is e
    obtain ⟨t, rfl⟩ := rv.strInv
    obtain ⟨rfl, e2⟩ := zeroP_is e1
    obtain rfl := ra.nilInv
    obtain ⟨h, rfl⟩ := if_none e2
    exact Ok.of fun Q E hq => SC.upper (by simpa using h) (hq _ _ T (.str _ _) (Goes.tok _ _ _))
  | lower =>
    obtain ⟨x, rfl, e1⟩ := onStr_is e
    obtain ⟨t, rfl⟩ := rv.strInv
    obtain ⟨rfl, e2⟩ := zeroP_is e1
    obtain rfl := ra.nilInv
    obtain ⟨h, rfl⟩ := if_none e2
    exact Ok.of fun Q E hq => SC.lower (by simpa using h) (hq _ _ T (.str _ _) (Goes.tok _ _ _))
  | ends =>
    obtain ⟨x, rfl, e1⟩ := onStr_is e
    obtain ⟨t, rfl⟩ := rv.strInv
    obtain ⟨q, rfl, e2⟩ := oneP_is e1
    obtain ⟨v, ws, rfl, a, n⟩ := ra.consInv; obtain rfl := n.nilInv
    obtain ⟨y, rfl, e3⟩ := onStr_is e2
    obtain ⟨u, rfl⟩ := a.strInv
    obtain rfl := Option.some.inj e3
    exact Ok.of fun Q E hq => SC.endswith (hq _ _ T (.bool _) (Goes.refl _ _))
  | starts =>
    obtain ⟨x, rfl, e1⟩ := onStr_is e
    obtain ⟨t, rfl⟩ := rv.strInv
    obtain ⟨q, rfl, e2⟩ := oneP_is e1
    obtain ⟨v, ws, rfl, a, n⟩ := ra.consInv; obtain rfl := n.nilInv
    obtain ⟨y, rfl, e3⟩ := onStr_is e2
    obtain ⟨u, rfl⟩ := a.strInv
    obtain rfl := Option.some.inj e3
    exact Ok.of fun Q E hq => SC.startswith (hq _ _ T (.bool _) (Goes.refl _ _))
  | find =>
    obtain ⟨x, rfl, e1⟩ := onStr_is e
    obtain ⟨t, rfl⟩ := rv.strInv
    unfold findA at e1
    split at e1
    · obtain ⟨v1, ws, rfl, a1, n⟩ := ra.consInv
      obtain ⟨v2, ws, rfl, a2, n⟩ := n.consInv
      obtain ⟨v3, ws, rfl, a3, n⟩ := n.consInv
      obtain rfl := n.nilInv
      obtain ⟨_, rfl⟩ := a1.strInv
      obtain ⟨_, rfl⟩ := a2.intInv
      obtain ⟨_, rfl⟩ := a3.intInv
      obtain rfl := Option.some.inj e1
      exact Ok.of fun Q E hq => call_gives F.slot_str_find (typeIs_str _ _ _) F.entry_str_find (F.args_str_find_4 _ _ _ _) (gives_find4 _ _ _ _ _ _ _ _) (hq _ _ T (.int _ _) (Goes.tok _ _ _))
    · cases e1
  | split =>
    obtain ⟨x, rfl, e1⟩ := onStr_is e
    obtain ⟨t, rfl⟩ := rv.strInv
    obtain ⟨q, rfl, e2⟩ := oneP_is e1
    obtain ⟨v, ws, rfl, a, n⟩ := ra.consInv; obtain rfl := n.nilInv
    obtain ⟨y, rfl, e3⟩ := onStr_is e2
    obtain ⟨u, rfl⟩ := a.strInv
    obtain ⟨h, rfl⟩ := if_none e3
    simp only [Bool.or_eq_true, not_or, Bool.not_eq_true, Bool.not_eq_false', decide_eq_true_eq] at h
    exact split_ok h.1.1 h.1.2 h.2 L
  | join =>
    obtain ⟨x, rfl, e1⟩ := onStr_is e
    obtain ⟨t, rfl⟩ := rv.strInv
    obtain ⟨q, rfl, e2⟩ := oneP_is e1
    obtain ⟨v, ws, rfl, a, n⟩ := ra.consInv; obtain rfl := n.nilInv
    obtain ⟨y, rfl, e3⟩ := onLst_is e2
    unfold joinA at e3
    split at e3
    · rename_i ss hss
      obtain ⟨hj, rfl⟩ := if_some e3
      obtain ⟨c, ws, rfl, xc, rc⟩ := a.lstInv
      obtain ⟨ks, rfl, rfl⟩ := allStr_are hss rc
      exact Ok.of fun Q E hq => SC.join (plainList_grow xc (hv_grow _ _)).isList rfl hj (fun t' k => hq _ _ T (.str _ _) (Goes.tok _ _ _))
    · cases e3
  | index =>
    obtain ⟨k, rfl, e1⟩ := onLst_is e
    obtain ⟨q, rfl, e2⟩ := oneP_is e1
    obtain ⟨v, ws, rfl, a, n⟩ := ra.consInv; obtain rfl := n.nilInv
    obtain ⟨h, e3⟩ := if_is e2
    simp only [Bool.and_eq_true, decide_eq_true_eq] at h
    obtain ⟨c, hc⟩ := Option.isSome_iff_exists.mp h.2
    obtain ⟨j, hj, rfl⟩ := Option.map_eq_some_iff.mp e3
    obtain ⟨d, ws, rfl, xc, rc⟩ := rv.lstInv
    exact index_ok hj hc h.1 (plainList_grow xc (hv_grow _ _)) rc a hu hb
  | count =>
    obtain ⟨k, rfl, e1⟩ := onLst_is e
    obtain ⟨q, rfl, e2⟩ := oneP_is e1
    obtain ⟨v, ws, rfl, a, n⟩ := ra.consInv; obtain rfl := n.nilInv
    obtain ⟨h, e3⟩ := if_is e2
    obtain ⟨c, hc⟩ := Option.isSome_iff_exists.mp h
    obtain ⟨j, hj, rfl⟩ := Option.map_eq_some_iff.mp e3
    obtain ⟨d, ws, rfl, xc, rc⟩ := rv.lstInv
    exact count_ok hj hc (plainList_grow xc (hv_grow _ _)) rc a hu hb
end
end Mine

-- Z1
namespace Mine

structure Src (prog : Program) (w : World) (v : Value) (n : Nat) (P : Nat → Value → Prop) where
  o : Obj
  ax : List Addr
  cond : Heap → Prop
  St : Addr → Nat → Heap → Prop
  iter : ∀ (A : Around) (E : Value → Shared → Prop) (s : Shared) (Q : Value → Shared → Prop), cond s.heap → Q (.ref s.heap.objs.size) { s with heap := s.heap.push o } → wpAny (model prog w) A (pyIter v) Q E s
  okf : o.isFreed = false
  cframe : ∀ h h', cond h → (∀ b ∈ ax, ∀ o, h.get? b = some o → h'.get? b = some o) → cond h'
  st0 : ∀ I h, cond h → h.get? I = some o → St I 0 h
  frame : ∀ I i h h', St I i h → (∀ b ∈ I :: ax, ∀ o, h.get? b = some o → h'.get? b = some o) → St I i h'
  laid : ∀ I i h, St I i h → ∃ o, h.get? I = some o
  axlaid : ∀ h, cond h → ∀ b ∈ ax, ∃ o, h.get? b = some o
  item : ∀ (A : Around) (E : Value → Shared → Prop) (s : Shared) (Q : Value → Shared → Prop) I i, i < n → I ∉ ax → St I i s.heap →
    (∀ v h' tk, P i v → St I (i + 1) h' → Heap.SameBut I s.heap h' → Q v { s with heap := h', toks := tk }) → wpAny (model prog w) A (Builtin.SmallTypes.nextOf (.ref I)) Q E s
  stop : ∀ (A : Around) (E : Value → Shared → Prop) (s : Shared) (Q : Value → Shared → Prop) I, A.handled = none → I ∉ ax → St I n s.heap →
    (∀ h' e, Heap.ExtBut I s.heap h' → (∃ o, h'.get? e = some o ∧ o.cls = .type "StopIteration") → E (.ref e) { s with heap := h' }) → wpAny (model prog w) A (Builtin.SmallTypes.nextOf (.ref I)) Q E s

section
variable {prog : Program} {w : World}

theorem wpAny_nextOf_tuple_item {A : Around} {E : Value → Shared → Prop} {s : Shared} {it l : Addr} {i : Nat} {items} {x : Value} {Q : Value → Shared → Prop} (hit : s.heap.IsTupleIter it l i)
    (hl : s.heap.IsTuple l items) (hx : items[i]? = some x)
    (hQ : ∀ h', h'.IsTupleIter it l (i + 1) → Heap.SameBut it s.heap h' → Q x { s with heap := h' }) :
    wpAny (model prog w) A (Builtin.SmallTypes.nextOf (.ref it)) Q E s := by
  obtain ⟨o, ho, hc, hd⟩ := id hit
  obtain ⟨ol, hol, _, nl, hdl⟩ := hl
  unfold Builtin.SmallTypes.nextOf
  refine wpAny_bind (wpAny_callSpecial?_slot (name := Str.ofString "__next__") hit.typeIs F.slot_tuple_iterator_next
    (wpAny_call_entry F.slot_tuple_iterator_next hit.typeIs F.entry_tuple_iterator_next ?_ (F.args_tuple_iterator_next_1 _)))
  show wpAny _ _ (field (.ref it) 0 >>= _) _ _ s
  refine wpAny_bind (wpAny_field ho hd (x := .ref l) rfl ?_)
  show wpAny _ _ (if (Value.ref l == Value.none) = true then _ else _) _ _ s
  rw [if_neg (show ¬ ((Value.ref l == Value.none) = true) from Bool.false_ne_true)]
  show wpAny _ _ (field (.ref it) 1 >>= _) _ _ s
  refine wpAny_bind (wpAny_field ho hd (x := .int i 0) rfl ?_)
  show wpAny _ _ (seqItems? (.ref l) >>= _) _ _ s
  refine wpAny_bind (wpAny_seqItems hol hdl ?_)
  simp only [Int.toNat_natCast, hx]
  refine wpAny_bind (wpAny_setField ho hd (by simp) (wpAny_pure ⟨x, rfl, wpAny_pure (hQ _ ?_ (Heap.SameBut.update ..))⟩))
  exact ⟨_, Heap.get?_update_self _ ho (Obj.isFreed_of_fields (Obj.data_mapFields hd _)), (Obj.cls_mapFields ..).trans hc, by
    rw [Obj.data_mapFields hd]; simp [rawInt]⟩

theorem wpAny_nextOf_tuple_end {A : Around} {E : Value → Shared → Prop} {s : Shared} {it l : Addr} {i : Nat} {items} {Q : Value → Shared → Prop} (hh : A.handled = none)
    (hit : s.heap.IsTupleIter it l i) (hl : s.heap.IsTuple l items) (hx : items[i]? = none)
    (hE : ∀ h' e, Heap.ExtBut it s.heap h' → (∃ o, h'.get? e = some o ∧ o.cls = .type "StopIteration") → E (.ref e) { s with heap := h' }) :
    wpAny (model prog w) A (Builtin.SmallTypes.nextOf (.ref it)) Q E s := by
  obtain ⟨o, ho, hc, hd⟩ := id hit
  obtain ⟨ol, hol, _, nl, hdl⟩ := hl
  unfold Builtin.SmallTypes.nextOf
  refine wpAny_bind (wpAny_callSpecial?_slot (name := Str.ofString "__next__") hit.typeIs F.slot_tuple_iterator_next
    (wpAny_call_entry F.slot_tuple_iterator_next hit.typeIs F.entry_tuple_iterator_next ?_ (F.args_tuple_iterator_next_1 _)))
  show wpAny _ _ (field (.ref it) 0 >>= _) _ _ s
  refine wpAny_bind (wpAny_field ho hd (x := .ref l) rfl ?_)
  show wpAny _ _ (if (Value.ref l == Value.none) = true then _ else _) _ _ s
  rw [if_neg (show ¬ ((Value.ref l == Value.none) = true) from Bool.false_ne_true)]
  show wpAny _ _ (field (.ref it) 1 >>= _) _ _ s
  refine wpAny_bind (wpAny_field ho hd (x := .int i 0) rfl ?_)
  show wpAny _ _ (seqItems? (.ref l) >>= _) _ _ s
  refine wpAny_bind (wpAny_seqItems hol hdl ?_)
  simp only [Int.toNat_natCast, hx]
  refine wpAny_bind (wpAny_rule (wpAny_bind (wpAny_setField ho hd (by simp) ?_)))
  show wpAny _ _ (newExc (.type "StopIteration") [] >>= _) _ _ _
  refine wpAny_bind ?_
  simp only [newExc, newTuple]
  refine wpAny_bind (wpAny_newObj_type ?_ (by size_fits))
  refine wpAny_bind (m := firstArgMember _ _) (wpAny_of_eq (a := Value.none) (by first | rfl | (simp only [firstArgMember]; rfl)) ?_)
  refine wpAny_newObj_type ?_ (by size_fits)
  simp only [raiseNew]
  refine wpAny_bind (wpAny_handled ?_)
  first | rw [show A.in1.handled = none from hh] | rw [hh]
  refine wpAny_bind (wpAny_pure (wpAny_throw ?_))
  exact hE _ _ (((Heap.SameBut.update ..).extBut.push _).push _) ⟨_, Heap.get?_push_size _ rfl, rfl⟩

noncomputable def srcList (l : Addr) (xs : Array Value) : Src prog w (.ref l) xs.size (fun i v => xs[i]? = some v) where
  o := { cls := .type "list_iterator", data := .fields #[.ref l, .int 0 0] }
  ax := [l]
  cond := fun h => h.IsList l xs
  St := fun I i h => h.IsListIter I l i ∧ h.IsList l xs
  iter := fun A E s Q c q => wpAny_pyIter_list c q
  okf := rfl
  cframe := fun h h' c k => c.at fun o e => k l (by simp) o e
  st0 := fun I h c e => ⟨⟨_, e, rfl, rfl⟩, c⟩
  frame := fun I i h h' st k => ⟨st.1.at fun o e => k I (by simp) o e, st.2.at fun o e => k l (by simp) o e⟩
  laid := fun I i h st => let ⟨o, e, _⟩ := st.1; ⟨o, e⟩
  axlaid := fun h c b hb => by simp at hb; subst hb; obtain ⟨o, e, _⟩ := c; exact ⟨o, e⟩
  item := fun A E s Q I i hi hI st hQ => by
    have hne : l ≠ I := fun e => hI (by simp [e])
    exact wpAny_nextOf_list_item st.1 st.2 (x := xs[i]) (by simp [hi]) fun h' hit' hs' => hQ _ h' s.toks (by simp [hi]) ⟨hit', st.2.extBut hs'.extBut hne⟩ hs'
  stop := fun A E s Q I hh hI st hE => wpAny_nextOf_list_end hh st.1 st.2 (by simp) hE

noncomputable def srcTup (l : Addr) (xs : Array Value) : Src prog w (.ref l) xs.size (fun i v => xs[i]? = some v) where
  o := { cls := .type "tuple_iterator", data := .fields #[.ref l, .int 0 0] }
  ax := [l]
  cond := fun h => h.IsTuple l xs
  St := fun I i h => h.IsTupleIter I l i ∧ h.IsTuple l xs
  iter := fun A E s Q c q => wpAny_pyIter_tuple c q
  okf := rfl
  cframe := fun h h' c k => c.at fun o e => k l (by simp) o e
  st0 := fun I h c e => ⟨⟨_, e, rfl, rfl⟩, c⟩
  frame := fun I i h h' st k => ⟨st.1.at fun o e => k I (by simp) o e, st.2.at fun o e => k l (by simp) o e⟩
  laid := fun I i h st => let ⟨o, e, _⟩ := st.1; ⟨o, e⟩
  axlaid := fun h c b hb => by simp at hb; subst hb; obtain ⟨o, e, _⟩ := c; exact ⟨o, e⟩
  item := fun A E s Q I i hi hI st hQ => by
    have hne : l ≠ I := fun e => hI (by simp [e])
    exact wpAny_nextOf_tuple_item st.1 st.2 (x := xs[i]) (by simp [hi]) fun h' hit' hs' => hQ _ h' s.toks (by simp [hi]) ⟨hit', st.2.extBut hs'.extBut hne⟩ hs'
  stop := fun A E s Q I hh hI st hE => wpAny_nextOf_tuple_end hh st.1 st.2 (by simp) hE

noncomputable def srcStr (x : Str) (t : Tok) (ha : x.cps.all (· < 128) = true) : Src prog w (.str x t) x.cps.size (SignAt x) where
  o := { cls := .type "str_ascii_iterator", data := .fields #[.str x t, .int 0 0] }
  ax := []
  cond := fun _ => True
  St := fun I i h => h.IsStrIter I "str_ascii_iterator" x t i
  iter := fun A E s Q c q => wpAny_pyIter_ascii ha q
  okf := rfl
  cframe := fun h h' c k => trivial
  st0 := fun I h c e => ⟨_, e, rfl, rfl⟩
  frame := fun I i h h' st k => let ⟨o, ho, r⟩ := st; ⟨o, k I (by simp) o ho, r⟩
  laid := fun I i h st => let ⟨o, e, _⟩ := st; ⟨o, e⟩
  axlaid := fun h c b hb => nomatch hb
  item := fun A E s Q I i hi hI st hQ => wpAny_nextOf_ascii_item st (c := x.cps[i]) (by simp [hi]) fun h' hit' hs' => hQ _ h' (s.toks + 1) ⟨_, _, by simp [hi], rfl⟩ hit' hs'
  stop := fun A E s Q I hh hI st hE => wpAny_nextOf_ascii_end hh st (by simp) hE

variable {A : Around} {E : Value → Shared → Prop} {s : Shared} {v1 v2 : Value} {n1 n2 : Nat} {P1 P2 : Nat → Value → Prop}

structure ZApart (z TI TO i1 i2 : Addr) (ax1 ax2 : List Addr) : Prop where
  TIz : TI ≠ z
  TOz : TO ≠ z
  i1z : i1 ≠ z
  i2z : i2 ≠ z
  TITO : TI ≠ TO
  TIi1 : TI ≠ i1
  TIi2 : TI ≠ i2
  TOi1 : TO ≠ i1
  TOi2 : TO ≠ i2
  i12 : i1 ≠ i2
  l1 : ∀ b ∈ ax1, b ≠ z ∧ b ≠ TO ∧ b ≠ i1 ∧ b ≠ i2
  l2 : ∀ b ∈ ax2, b ≠ z ∧ b ≠ TO ∧ b ≠ i1 ∧ b ≠ i2

theorem znext_item (S1 : Src prog w v1 n1 P1) (S2 : Src prog w v2 n2 P2) {z TI TO i1 i2 : Addr} {k : Nat} {a b : Value} {Q : Value → Shared → Prop} (D : ZApart z TI TO i1 i2 S1.ax S2.ax)
    (hz : IsZip s.heap z TI TO .none) (hTI : IsPair s.heap TI (.ref i1) (.ref i2)) (hTO : IsPair s.heap TO a b)
    (h1 : S1.St i1 k s.heap) (h2 : S2.St i2 k s.heap) (hk1 : k < n1) (hk2 : k < n2)
    (hQ : ∀ x y h' tk, P1 k x → P2 k y → IsZip h' z TI TO (rawInt s.heap.objs.size) → IsPair h' TO x y → S1.St i1 (k + 1) h' → S2.St i2 (k + 1) h' → IsPair h' s.heap.objs.size x y → h'.objs.size = s.heap.objs.size + 1 →
      (∀ c o, c ≠ z → c ≠ TO → c ≠ i1 → c ≠ i2 → s.heap.get? c = some o → h'.get? c = some o) → Q (.ref s.heap.objs.size) { s with heap := h', toks := tk }) :
    wpAny (model prog w) A (Builtin.«zip.__next__» ⟨[.ref z], []⟩) (fun fin s' => ∃ v, fin = .done (.ret v) ∧ Q v s') E s := by
  have f1 : ∀ {i h h'}, S1.St i1 i h → (∀ c o, c ≠ z → c ≠ TO → c ≠ i2 → h.get? c = some o → h'.get? c = some o) → S1.St i1 i h' := fun st k => S1.frame _ _ _ _ st fun b hb o e => by
    rcases List.mem_cons.mp hb with rfl | hb
    · exact k _ o D.i1z D.TOi1.symm D.i12 e
    · exact k _ o (D.l1 b hb).1 (D.l1 b hb).2.1 (D.l1 b hb).2.2.2 e
  have f2 : ∀ {i h h'}, S2.St i2 i h → (∀ c o, c ≠ z → c ≠ TO → c ≠ i1 → h.get? c = some o → h'.get? c = some o) → S2.St i2 i h' := fun st k => S2.frame _ _ _ _ st fun b hb o e => by
    rcases List.mem_cons.mp hb with rfl | hb
    · exact k _ o D.i2z D.TOi2.symm D.i12.symm e
    · exact k _ o (D.l2 b hb).1 (D.l2 b hb).2.1 (D.l2 b hb).2.2.1 e
  have n1' : i1 ∉ S1.ax := fun h => (D.l1 _ h).2.2.1 rfl
  have n2' : i2 ∉ S2.ax := fun h => (D.l2 _ h).2.2.2 rfl
  show wpAny _ _ (field (.ref z) 2 >>= _) _ _ _
  refine wpAny_bind (wpAny_field hz rfl (x := .bool false) rfl ?_)
  show wpAny _ _ (field (.ref z) 3 >>= _) _ _ _
  refine wpAny_bind (wpAny_field hz rfl (x := .ref TI) rfl ?_)
  refine wpAny_bind (wpAny_seqItems hTI rfl ?_)
  show wpAny _ _ (Builtin.SmallTypes.ownedTupleIsFree (.ref z) >>= _) _ _ _
  refine wpAny_bind ?_
  unfold Builtin.SmallTypes.ownedTupleIsFree
  refine wpAny_bind (wpAny_field hz rfl (x := .none) rfl (wpAny_pure ?_))
  simp only [if_true]
  refine wpAny_bind (wpAny_rule ?_)
  refine wpAny_bind (wpAny_field hz rfl (x := .ref TO) rfl ?_)
  refine wpAny_bind (wpAny_setField_rec hz (by simp) fun h₁ hz₁ hs₁ => ?_)
  replace hz₁ : IsZip h₁ z TI TO .ellipsis := hz₁
  refine wpAny_bind ?_
  simp only [List.zipIdx_cons, List.zipIdx_nil, List.forIn_cons, List.forIn_nil]
  refine wpAny_bind (wpAny_bind (wpAny_onRaise ?_))
  show wpAny _ _ (Builtin.SmallTypes.nextOf (.ref i1) >>= _) _ _ _
  refine wpAny_bind (S1.item _ _ _ _ i1 k hk1 n1' (f1 h1 fun c o c1 _ _ e => hs₁.extBut _ _ c1 e) fun x h₂ tk₂ hx h1₂ hs₂ => wpAny_pure ?_)
  have hTO₂ : IsPair h₂ TO a b := hs₂.extBut _ _ D.TOi1 (hs₁.extBut _ _ D.TOz hTO)
  refine wpAny_bind (wpAny_seqItems hTO₂ rfl ?_)
  refine wpAny_bind (wpAny_updateSeq_pair hTO₂ fun h₃ hTO₃ hs₃ => ?_)
  replace hTO₃ : IsPair h₃ TO x b := hTO₃
  refine wpAny_bind (wpAny_letGo (wpAny_pure ?_))
  refine wpAny_bind (wpAny_bind (wpAny_onRaise ?_))
  show wpAny _ _ (Builtin.SmallTypes.nextOf (.ref i2) >>= _) _ _ _
  refine wpAny_bind (S2.item _ _ _ _ i2 k hk2 n2' (f2 h2 fun c o c1 c2 c3 e => hs₃.extBut _ _ c2 (hs₂.extBut _ _ c3 (hs₁.extBut _ _ c1 e))) fun y h₄ tk₄ hy h2₄ hs₄ => wpAny_pure ?_)
  have hTO₄ : IsPair h₄ TO x b := hs₄.extBut _ _ D.TOi2 hTO₃
  refine wpAny_bind (wpAny_seqItems hTO₄ rfl ?_)
  refine wpAny_bind (wpAny_updateSeq_pair hTO₄ fun h₅ hTO₅ hs₅ => ?_)
  replace hTO₅ : IsPair h₅ TO x y := hTO₅
  refine wpAny_bind (wpAny_letGo (wpAny_pure (wpAny_pure ?_)))
  refine wpAny_bind (wpAny_seqItems hTO₅ rfl ?_)
  refine wpAny_bind (wpAny_newTuple ?_)
  have hsz : h₅.objs.size = s.heap.objs.size := by rw [hs₅.1, hs₄.1, hs₃.1, hs₂.1, hs₁.1]
  have hz₅ : IsZip h₅ z TI TO .ellipsis := hs₅.extBut _ _ D.TOz.symm (hs₄.extBut _ _ D.i2z.symm (hs₃.extBut _ _ D.TOz.symm (hs₂.extBut _ _ D.i1z.symm hz₁)))
  have hk₅ : ∀ c o, c ≠ z → c ≠ TO → c ≠ i1 → c ≠ i2 → s.heap.get? c = some o → h₅.get? c = some o := fun c o c1 c2 c3 c4 e =>
    hs₅.extBut _ _ c2 (hs₄.extBut _ _ c4 (hs₃.extBut _ _ c2 (hs₂.extBut _ _ c3 (hs₁.extBut _ _ c1 e))))
  have h1₅ : S1.St i1 (k + 1) h₅ := f1 h1₂ fun c o c1 c2 c3 e => hs₅.extBut _ _ c2 (hs₄.extBut _ _ c3 (hs₃.extBut _ _ c2 e))
  have h2₅ : S2.St i2 (k + 1) h₅ := f2 h2₄ fun c o c1 c2 c3 e => hs₅.extBut _ _ c2 e
  have hzlt : z < h₅.objs.size := Heap.lt_size hz₅
  show wpAny _ _ (Builtin.SmallTypes.ownedTupleHandOut (.ref z) (.ref h₅.objs.size) >>= _) _ _ _
  refine wpAny_bind ?_
  unfold Builtin.SmallTypes.ownedTupleHandOut
  have hz₆ : IsZip (h₅.push { cls := .type "tuple", data := .seq #[x, y] }) z TI TO .ellipsis := Heap.get?_push_of_some _ hz₅
  refine wpAny_bind (wpAny_setField_rec hz₆ (by simp) fun h₇ hz₇ hs₇ => ?_)
  replace hz₇ : IsZip h₇ z TI TO (rawInt h₅.objs.size) := hz₇
  refine wpAny_setField_rec hz₇ (by simp) fun h₈ hz₈ hs₈ => ?_
  replace hz₈ : IsZip h₈ z TI TO (rawInt h₅.objs.size) := hz₈
  have up : ∀ c o, c ≠ z → h₅.get? c = some o → h₈.get? c = some o := fun c o c1 e => hs₈.extBut _ _ c1 (hs₇.extBut _ _ c1 (Heap.get?_push_of_some _ e))
  have hT₈ : IsPair h₈ h₅.objs.size x y := hs₈.extBut _ _ (Nat.ne_of_gt hzlt) (hs₇.extBut _ _ (Nat.ne_of_gt hzlt) (Heap.get?_push_size _ rfl))
  have hz8 : h₈.objs.size = h₅.objs.size + 1 := by rw [hs₈.1, hs₇.1, Heap.size_push]
  rw [hsz] at hz₈ hT₈ hz8
  refine wpAny_pure ⟨_, rfl, ?_⟩
  show Q (.ref h₅.objs.size) _
  rw [hsz]
  exact hQ x y h₈ _ hx hy hz₈ (up _ _ D.TOz hTO₅) (f1 h1₅ fun c o c1 _ _ e => up c o c1 e) (f2 h2₅ fun c o c1 _ _ e => up c o c1 e) hT₈ hz8 fun c o c1 c2 c3 c4 e => up c o c1 (hk₅ c o c1 c2 c3 c4 e)

theorem znext_end (S1 : Src prog w v1 n1 P1) (S2 : Src prog w v2 n2 P2) {z TI TO i1 i2 : Addr} {a b : Value} {Q : Fin → Shared → Prop} (hh : A.handled = none) (D : ZApart z TI TO i1 i2 S1.ax S2.ax)
    (hz : IsZip s.heap z TI TO .none) (hTI : IsPair s.heap TI (.ref i1) (.ref i2)) (hTO : IsPair s.heap TO a b)
    (h1 : S1.St i1 (min n1 n2) s.heap) (h2 : S2.St i2 (min n1 n2) s.heap)
    (hE : ∀ h' tk e, (∀ c o, c ≠ z → c ≠ TO → c ≠ i1 → c ≠ i2 → s.heap.get? c = some o → h'.get? c = some o) → (∃ o, h'.get? e = some o ∧ o.cls = .type "StopIteration") → E (.ref e) { s with heap := h', toks := tk }) :
    wpAny (model prog w) A (Builtin.«zip.__next__» ⟨[.ref z], []⟩) Q E s := by
  have f1 : ∀ {i h h'}, S1.St i1 i h → (∀ c o, c ≠ z → c ≠ TO → c ≠ i2 → h.get? c = some o → h'.get? c = some o) → S1.St i1 i h' := fun st k => S1.frame _ _ _ _ st fun b hb o e => by
    rcases List.mem_cons.mp hb with rfl | hb
    · exact k _ o D.i1z D.TOi1.symm D.i12 e
    · exact k _ o (D.l1 b hb).1 (D.l1 b hb).2.1 (D.l1 b hb).2.2.2 e
  have f2 : ∀ {i h h'}, S2.St i2 i h → (∀ c o, c ≠ z → c ≠ TO → c ≠ i1 → h.get? c = some o → h'.get? c = some o) → S2.St i2 i h' := fun st k => S2.frame _ _ _ _ st fun b hb o e => by
    rcases List.mem_cons.mp hb with rfl | hb
    · exact k _ o D.i2z D.TOi2.symm D.i12.symm e
    · exact k _ o (D.l2 b hb).1 (D.l2 b hb).2.1 (D.l2 b hb).2.2.1 e
  have n1' : i1 ∉ S1.ax := fun h => (D.l1 _ h).2.2.1 rfl
  have n2' : i2 ∉ S2.ax := fun h => (D.l2 _ h).2.2.2 rfl
  show wpAny _ _ (field (.ref z) 2 >>= _) _ _ _
  refine wpAny_bind (wpAny_field hz rfl (x := .bool false) rfl ?_)
  show wpAny _ _ (field (.ref z) 3 >>= _) _ _ _
  refine wpAny_bind (wpAny_field hz rfl (x := .ref TI) rfl ?_)
  refine wpAny_bind (wpAny_seqItems hTI rfl ?_)
  show wpAny _ _ (Builtin.SmallTypes.ownedTupleIsFree (.ref z) >>= _) _ _ _
  refine wpAny_bind ?_
  unfold Builtin.SmallTypes.ownedTupleIsFree
  refine wpAny_bind (wpAny_field hz rfl (x := .none) rfl (wpAny_pure ?_))
  simp only [if_true]
  refine wpAny_bind (wpAny_rule ?_)
  refine wpAny_bind (wpAny_field hz rfl (x := .ref TO) rfl ?_)
  refine wpAny_bind (wpAny_setField_rec hz (by simp) fun h₁ hz₁ hs₁ => ?_)
  replace hz₁ : IsZip h₁ z TI TO .ellipsis := hz₁
  refine wpAny_bind ?_
  simp only [List.zipIdx_cons, List.zipIdx_nil, List.forIn_cons, List.forIn_nil]
  refine wpAny_bind (wpAny_bind (wpAny_onRaise ?_))
  show wpAny _ _ (Builtin.SmallTypes.nextOf (.ref i1) >>= _) _ _ _
  by_cases hlt : n1 ≤ n2
  · rw [Nat.min_eq_left hlt] at h1
    refine wpAny_bind (S1.stop _ _ _ _ i1 hh n1' (f1 h1 fun c o c1 _ _ e => hs₁.extBut _ _ c1 e) fun h₂ e hs₂ he => ?_)
    obtain ⟨oe, hoe, hce⟩ := he
    have hz₂ : IsZip h₂ z TI TO .ellipsis := hs₂ _ _ D.i1z.symm hz₁
    have hez : e ≠ z := fun x => by subst x; rw [hz₂] at hoe; cases hoe; simp at hce
    refine wpAny_setField_rec hz₂ (by simp) fun h₃ _ hs₃ => hE h₃ _ e (fun c o c1 _ c3 _ x => hs₃.extBut _ _ c1 (hs₂ _ _ c3 (hs₁.extBut _ _ c1 x))) ⟨oe, hs₃.extBut _ _ hez hoe, hce⟩
  · have hlt' : n2 < n1 := Nat.lt_of_not_le hlt
    rw [Nat.min_eq_right (Nat.le_of_lt hlt')] at h1 h2
    refine wpAny_bind (S1.item _ _ _ _ i1 n2 hlt' n1' (f1 h1 fun c o c1 _ _ e => hs₁.extBut _ _ c1 e) fun x h₂ tk₂ hx h1₂ hs₂ => wpAny_pure ?_)
    have hTO₂ : IsPair h₂ TO a b := hs₂.extBut _ _ D.TOi1 (hs₁.extBut _ _ D.TOz hTO)
    refine wpAny_bind (wpAny_seqItems hTO₂ rfl ?_)
    refine wpAny_bind (wpAny_updateSeq_pair hTO₂ fun h₃ hTO₃ hs₃ => ?_)
    refine wpAny_bind (wpAny_letGo (wpAny_pure ?_))
    refine wpAny_bind (wpAny_bind (wpAny_onRaise ?_))
    show wpAny _ _ (Builtin.SmallTypes.nextOf (.ref i2) >>= _) _ _ _
    refine wpAny_bind (S2.stop _ _ _ _ i2 hh n2' (f2 h2 fun c o c1 c2 c3 e => hs₃.extBut _ _ c2 (hs₂.extBut _ _ c3 (hs₁.extBut _ _ c1 e))) fun h₄ e hs₄ he => ?_)
    obtain ⟨oe, hoe, hce⟩ := he
    have hz₄ : IsZip h₄ z TI TO .ellipsis := hs₄ _ _ D.i2z.symm (hs₃.extBut _ _ D.TOz.symm (hs₂.extBut _ _ D.i1z.symm hz₁))
    have hez : e ≠ z := fun x => by subst x; rw [hz₄] at hoe; cases hoe; simp at hce
    refine wpAny_setField_rec hz₄ (by simp) fun h₅ _ hs₅ => hE h₅ _ e (fun c o c1 c2 c3 c4 x => hs₅.extBut _ _ c1 (hs₄ _ _ c4 (hs₃.extBut _ _ c2 (hs₂.extBut _ _ c3 (hs₁.extBut _ _ c1 x))))) ⟨oe, hs₅.extBut _ _ hez hoe, hce⟩

theorem zpyNext_item (S1 : Src prog w v1 n1 P1) (S2 : Src prog w v2 n2 P2) {z TI TO i1 i2 : Addr} {k : Nat} {a b : Value} {Q : Option Value → Shared → Prop} (D : ZApart z TI TO i1 i2 S1.ax S2.ax)
    (hz : IsZip s.heap z TI TO .none) (hTI : IsPair s.heap TI (.ref i1) (.ref i2)) (hTO : IsPair s.heap TO a b)
    (h1 : S1.St i1 k s.heap) (h2 : S2.St i2 k s.heap) (hk1 : k < n1) (hk2 : k < n2)
    (hQ : ∀ x y h' tk, P1 k x → P2 k y → IsZip h' z TI TO (rawInt s.heap.objs.size) → IsPair h' TO x y → S1.St i1 (k + 1) h' → S2.St i2 (k + 1) h' → IsPair h' s.heap.objs.size x y → h'.objs.size = s.heap.objs.size + 1 →
      (∀ c o, c ≠ z → c ≠ TO → c ≠ i1 → c ≠ i2 → s.heap.get? c = some o → h'.get? c = some o) → Q (some (.ref s.heap.objs.size)) { s with heap := h', toks := tk }) :
    wpAny (model prog w) A (pyNext (.ref z)) Q E s := by
  have hT : s.TypeIs (.ref z) "zip" := ⟨_, hz, rfl⟩
  unfold pyNext
  exact wpAny_bind (wpAny_attempt (wpAny_callSpecial?_slot (name := Str.ofString "__next__") hT F.slot_zip_next
    (wpAny_call_entry F.slot_zip_next hT F.entry_zip_next
      (znext_item S1 S2 D hz hTI hTO h1 h2 hk1 hk2 fun x y h' tk b1 b2 a1 a2 a3 a4 a5 a6 a7 => wpAny_pure (hQ x y h' tk b1 b2 a1 a2 a3 a4 a5 a6 a7)) (F.args_zip_next_1 _))))

theorem zpyNext_end (S1 : Src prog w v1 n1 P1) (S2 : Src prog w v2 n2 P2) {z TI TO i1 i2 : Addr} {a b : Value} {Q : Option Value → Shared → Prop} (hh : A.handled = none) (D : ZApart z TI TO i1 i2 S1.ax S2.ax)
    (hz : IsZip s.heap z TI TO .none) (hTI : IsPair s.heap TI (.ref i1) (.ref i2)) (hTO : IsPair s.heap TO a b)
    (h1 : S1.St i1 (min n1 n2) s.heap) (h2 : S2.St i2 (min n1 n2) s.heap)
    (hQ : ∀ h' tk, (∀ c o, c ≠ z → c ≠ TO → c ≠ i1 → c ≠ i2 → s.heap.get? c = some o → h'.get? c = some o) → Q none { s with heap := h', toks := tk }) : wpAny (model prog w) A (pyNext (.ref z)) Q E s := by
  have hT : s.TypeIs (.ref z) "zip" := ⟨_, hz, rfl⟩
  unfold pyNext
  refine wpAny_bind (wpAny_attempt (wpAny_callSpecial?_slot (name := Str.ofString "__next__") hT F.slot_zip_next
    (wpAny_call_entry F.slot_zip_next hT F.entry_zip_next (znext_end S1 S2 hh D hz hTI hTO h1 h2 fun h' tk e hk he => ?_) (F.args_zip_next_1 _))))
  obtain ⟨o, ho, hc⟩ := he
  refine wpAny_bind (wpAny_isInstance (T := "StopIteration") (b := true) ⟨o, ho, hc⟩ isSubtype_stop ?_)
  exact wpAny_pure (hQ _ _ hk)
end
end Mine

-- Z2
namespace Mine
section
variable {prog : Program} {w : World}

noncomputable def zo (a b : Addr) : Obj := { cls := .type "tuple", data := .seq #[.ref a, .ref b] }
noncomputable abbrev zipG1 (h : Heap) (o1 : Obj) : Heap := h.push o1
noncomputable abbrev zipG2 (h : Heap) (o1 o2 : Obj) : Heap := (zipG1 h o1).push o2
noncomputable abbrev zipG3 (h : Heap) (o1 o2 : Obj) : Heap := (zipG2 h o1 o2).push { cls := .type "tuple", data := .seq #[.ref h.objs.size, .ref (zipG1 h o1).objs.size] }
noncomputable abbrev zipG4 (h : Heap) (o1 o2 : Obj) : Heap := (zipG3 h o1 o2).push { cls := .type "tuple", data := .seq #[.none, .none] }
noncomputable abbrev zipG5 (h : Heap) (o1 o2 : Obj) : Heap := (zipG4 h o1 o2).push { cls := .type "zip", data := .fields #[.none, .bool false, .bool false, .ref (zipG2 h o1 o2).objs.size, .ref (zipG3 h o1 o2).objs.size] }

theorem Src.condPush {v : Value} {n : Nat} {P : Nat → Value → Prop} (S : Src prog w v n P) {h : Heap} (c : S.cond h) (o : Obj) : S.cond (h.push o) :=
  S.cframe _ _ c fun _ _ _ e => Heap.get?_push_of_some _ e

theorem meets_zipG {v1 v2 : Value} {n1 n2 : Nat} {P1 P2 : Nat → Value → Prop} (S1 : Src prog w v1 n1 P1) (S2 : Src prog w v2 n2 P2) :
    MeetsIn prog w (Builtin.«zip.__new__» ⟨[.type "zip", v1, v2], []⟩) (fun _ R s => S1.cond s.heap ∧ S2.cond s.heap ∧
      R (.ok (.ret (.ref (zipG4 s.heap S1.o S2.o).objs.size))) { s with heap := zipG5 s.heap S1.o S2.o }) :=
  .of_wp fun A R s h => by
    obtain ⟨hp, g, d, tk, os⟩ := s; obtain ⟨hl1, hl2, h⟩ := h
    have hsub := sub_zip
    have p1 : ∀ {A : Around} {E : Value → Shared → Prop} {Q : Value → Shared → Prop}, Q (.ref hp.objs.size) ⟨hp.push S1.o, g, d, tk, os⟩ → wpAny (model prog w) A (pyIter v1) Q E ⟨hp, g, d, tk, os⟩ :=
      fun q => S1.iter _ _ _ _ hl1 q
    have p2 : ∀ {A : Around} {E : Value → Shared → Prop} {Q : Value → Shared → Prop}, Q (.ref (hp.push S1.o).objs.size) ⟨(hp.push S1.o).push S2.o, g, d, tk, os⟩ → wpAny (model prog w) A (pyIter v2) Q E ⟨hp.push S1.o, g, d, tk, os⟩ :=
      fun q => S2.iter _ _ _ _ (S2.condPush hl2 _) q
    wp_walk using p1, p2
    exact ⟨_, rfl, h⟩

theorem call_zipG {A : Around} {E : Value → Shared → Prop} {s : Shared} {v1 v2 : Value} {n1 n2 : Nat} {P1 P2 : Nat → Value → Prop} (S1 : Src prog w v1 n1 P1) (S2 : Src prog w v2 n2 P2) {Q : Value → Shared → Prop}
    (hl1 : S1.cond s.heap) (hl2 : S2.cond s.heap)
    (h : ∀ h', IsZip h' (s.heap.objs.size + 4) (s.heap.objs.size + 2) (s.heap.objs.size + 3) .none → IsPair h' (s.heap.objs.size + 2) (.ref s.heap.objs.size) (.ref (s.heap.objs.size + 1)) →
      IsPair h' (s.heap.objs.size + 3) .none .none → S1.St s.heap.objs.size 0 h' → S2.St (s.heap.objs.size + 1) 0 h' → h'.objs.size = s.heap.objs.size + 5 →
      (∀ c o, s.heap.get? c = some o → h'.get? c = some o) → Q (.ref (s.heap.objs.size + 4)) { s with heap := h' }) :
    wpAny (model prog w) A (call (.type "zip") [v1, v2]) Q E s := by
  refine callType_newIn F.called_zip (by decide) (F.typeCall_zip_2 _ _) (F.newCall_zip_2 _ _) (fun obj => F.args_object_init_3 obj _ _) F.entry_zip_new
    (meets_zipG S1 S2) ⟨hl1, hl2, ?_⟩
  generalize e1 : S1.o = o1 at *
  generalize e2 : S2.o = o2 at *
  have z1 : (zipG1 s.heap o1).objs.size = s.heap.objs.size + 1 := Heap.size_push ..
  have z2 : (zipG2 s.heap o1 o2).objs.size = s.heap.objs.size + 2 := by rw [Heap.size_push, z1]
  have z3 : (zipG3 s.heap o1 o2).objs.size = s.heap.objs.size + 3 := by rw [Heap.size_push, z2]
  have z4 : (zipG4 s.heap o1 o2).objs.size = s.heap.objs.size + 4 := by rw [Heap.size_push, z3]
  have z5 : (zipG5 s.heap o1 o2).objs.size = s.heap.objs.size + 5 := by rw [Heap.size_push, z4]
  have f1 : o1.isFreed = false := e1 ▸ S1.okf
  have f2 : o2.isFreed = false := e2 ▸ S2.okf
  have g5 : (zipG5 s.heap o1 o2).get? (zipG4 s.heap o1 o2).objs.size = some _ := Heap.get?_push_size _ rfl
  have g4 : (zipG5 s.heap o1 o2).get? (zipG3 s.heap o1 o2).objs.size = some _ := Heap.get?_push_of_some _ (Heap.get?_push_size _ rfl)
  have g3 : (zipG5 s.heap o1 o2).get? (zipG2 s.heap o1 o2).objs.size = some _ := Heap.get?_push_of_some _ (Heap.get?_push_of_some _ (Heap.get?_push_size _ rfl))
  have g2 : (zipG5 s.heap o1 o2).get? (zipG1 s.heap o1).objs.size = some o2 := Heap.get?_push_of_some _ (Heap.get?_push_of_some _ (Heap.get?_push_of_some _ (Heap.get?_push_size _ f2)))
  have g1 : (zipG5 s.heap o1 o2).get? s.heap.objs.size = some o1 := Heap.get?_push_of_some _ (Heap.get?_push_of_some _ (Heap.get?_push_of_some _ (Heap.get?_push_of_some _ (Heap.get?_push_size _ f1))))
  have up : ∀ c o, s.heap.get? c = some o → (zipG5 s.heap o1 o2).get? c = some o := fun c o x =>
    Heap.get?_push_of_some _ (Heap.get?_push_of_some _ (Heap.get?_push_of_some _ (Heap.get?_push_of_some _ (Heap.get?_push_of_some _ x))))
  show _ ∧ _
  rw [z2, z3, z4] at g5
  rw [z1, z2] at g3
  rw [z3] at g4
  rw [z1] at g2
  rw [z4]
  exact ⟨⟨_, g5, rfl⟩, h _ g5 g3 g4 (S1.st0 _ _ (S1.cframe _ _ hl1 fun b _ o e => up b o e) (e1 ▸ g1)) (S2.st0 _ _ (S2.cframe _ _ hl2 fun b _ o e => up b o e) (e2 ▸ g2)) z5 up⟩

theorem turnsZip {A : Around} (hh : A.handled = none) {v1 v2 : Value} {n1 n2 : Nat} {P1 P2 : Nat → Value → Prop} (S1 : Src prog w v1 n1 P1) (S2 : Src prog w v2 n2 P2) (z TI TO i1 i2 : Addr) (D : ZApart z TI TO i1 i2 S1.ax S2.ax) (elts : List Expr) (k : Nat) (pos : Pos) :
    KTurns prog w A (.Tuple elts k pos) z (z :: TI :: TO :: i1 :: i2 :: (S1.ax ++ S2.ax)) [z, TO, i1, i2] (min n1 n2)
      (fun i v h => ∃ T x y, v = .ref T ∧ P1 i x ∧ P2 i y ∧ h.IsTuple T #[x, y])
      (fun i v h => ∃ T x y, v = .ref T ∧ P1 i x ∧ P2 i y ∧ h.IsTuple T #[x, y] ∧ IsZip h z TI TO (rawInt T) ∧ IsPair h TI (.ref i1) (.ref i2) ∧ (∃ a b, IsPair h TO a b) ∧ S1.St i1 (i + 1) h ∧ S2.St i2 (i + 1) h ∧
        T ≠ z ∧ T ≠ TO ∧ T ≠ i1 ∧ T ≠ i2)
      (fun i h => IsZip h z TI TO .none ∧ IsPair h TI (.ref i1) (.ref i2) ∧ (∃ a b, IsPair h TO a b) ∧ S1.St i1 i h ∧ S2.St i2 i h) where
  sub := fun c hc => by simp at hc ⊢; rcases hc with rfl | rfl | rfl | rfl <;> simp
  frame := fun i h h' hst hk => by
    obtain ⟨hz, hTI, ⟨a, b, hTO⟩, h1, h2⟩ := hst
    refine ⟨hk z (by simp) _ hz, hk TI (by simp) _ hTI, ⟨a, b, hk TO (by simp) _ hTO⟩, S1.frame _ _ _ _ h1 fun b hb o e => hk b ?_ o e, S2.frame _ _ _ _ h2 fun b hb o e => hk b ?_ o e⟩
    · rcases List.mem_cons.mp hb with rfl | hb
      · simp
      · simp [hb]
    · rcases List.mem_cons.mp hb with rfl | hb
      · simp
      · simp [hb]
  item := fun i s Q E hi hst hQ => by
    obtain ⟨hz, hTI, ⟨a, b, hTO⟩, h1, h2⟩ := hst
    refine zpyNext_item S1 S2 D hz hTI hTO h1 h2 (Nat.lt_of_lt_of_le hi (Nat.min_le_left ..)) (Nat.lt_of_lt_of_le hi (Nat.min_le_right ..)) fun x y h' tk hx hy a1 a2 a3 a4 a5 a6 hk => ?_
    have lt : ∀ {c o}, s.heap.get? c = some o → s.heap.objs.size ≠ c := fun e => Nat.ne_of_gt (Heap.lt_size e)
    obtain ⟨q1, e1⟩ := S1.laid _ _ _ h1
    obtain ⟨q2, e2⟩ := S2.laid _ _ _ h2
    exact hQ _ h' tk ⟨s.heap.objs.size, x, y, rfl, hx, hy, ⟨_, a5, rfl, _, rfl⟩, a1, hk _ _ D.TIz D.TITO D.TIi1 D.TIi2 hTI, ⟨_, _, a2⟩, a3, a4, lt hz, lt hTO, lt e1, lt e2⟩
      fun c o hc e => hk c o (fun x => hc (by simp [x])) (fun x => hc (by simp [x])) (fun x => hc (by simp [x])) (fun x => hc (by simp [x])) e
  go := fun i v s Q E hm hQ => by
    obtain ⟨T, x, y, rfl, hx, hy, hT, hz, hTI, ⟨a, b, hTO⟩, h1, h2, t1, t2, t3, t4⟩ := hm
    have f1 : ∀ {h'}, Heap.SameBut z s.heap h' → S1.St i1 (i + 1) h' := fun hs' => S1.frame _ _ _ _ h1 fun b hb o e => hs'.extBut _ _ (by
      rcases List.mem_cons.mp hb with rfl | hb
      · exact D.i1z
      · exact (D.l1 b hb).1) e
    have f2 : ∀ {h'}, Heap.SameBut z s.heap h' → S2.St i2 (i + 1) h' := fun hs' => S2.frame _ _ _ _ h2 fun b hb o e => hs'.extBut _ _ (by
      rcases List.mem_cons.mp hb with rfl | hb
      · exact D.i2z
      · exact (D.l2 b hb).1) e
    exact wpAny_letOwnedTupleGo_zip hz fun h' hz' hs' => hQ h' ⟨T, x, y, rfl, hx, hy, hT.extBut hs'.extBut t1⟩ ⟨hz', hs'.extBut _ _ D.TIz hTI, ⟨a, b, hs'.extBut _ _ D.TOz hTO⟩, f1 hs', f2 hs'⟩
      fun c o hc e => hs'.extBut _ _ (fun x => hc (by simp [x])) e
  done := fun s Q E hst hQ => by
    obtain ⟨hz, hTI, ⟨a, b, hTO⟩, h1, h2⟩ := hst
    exact zpyNext_end S1 S2 hh D hz hTI hTO h1 h2 fun h' tk hk => hQ h' tk fun c o hc e =>
      hk c o (fun x => hc (by simp [x])) (fun x => hc (by simp [x])) (fun x => hc (by simp [x])) (fun x => hc (by simp [x])) e

theorem zself {A : Around} {E : Value → Shared → Prop} {s : Shared} {z TI TO : Addr} {f0 : Value} {Q : Value → Shared → Prop} (hz : IsZip s.heap z TI TO f0) (h : Q (.ref z) s) : wpAny (model prog w) A (pyIter (.ref z)) Q E s := wpAny_pyIter_zip hz h
end
end Mine

-- M6
namespace Mine

/-- the names of the program's local variables -/
noncomputable def tb : List Str := (["r", "g", "b", "maxc", "minc", "rangec", "v", "s", "rc", "gc", "bc", "h", "i", "f", "p", "q", "t", "want", "got", "ws", "w", "startpos", "endpos", "ch_a", "ch_b", "a", "max_cost", "pre", "post", "row", "result", "bindex", "bchar", "distance", "minimum", "index", "substitute", "insert_delete", "things", "unlike", "thing", "one", "other", "part", "more", "colour", "hue", "share", "value", "parts", "most", "span", "spot", "place", "at", "form", "letter", "ones", "others", "book", "highs", "lows", "high", "low", "half", "both", "x", "y", "script", "turns", "firsts", "seconds", "spots", "words", "lamps", "table", "left", "right", "above", "below", "here", "entry", "there", "start", "apart", "common", "blend", "name", "drawn", "made", "told", "shape", "taken", "lighter", "darker", "word", "self", "kv"] : List String).map Str.ofString
theorem tb_nodup : tb.Nodup := by decide +kernel
theorem tb_debug : ∀ x ∈ tb, (x == ("__debug__" : Str)) = false ∧ (x == ("__classdict__" : Str)) = false := by decide +kernel
theorem tb_inj {i j : Nat} {x : Str} (a : tb[i]? = some x) (b : tb[j]? = some x) : i = j := by
  obtain ⟨hi, ei⟩ := List.getElem?_eq_some_iff.mp a
  obtain ⟨hj, ej⟩ := List.getElem?_eq_some_iff.mp b
  exact (List.getElem_inj tb_nodup).mp (ei.trans ej.symm)
theorem tb_mem {i : Nat} {x : Str} (a : tb[i]? = some x) : x ∈ tb := List.mem_of_getElem? a

/-- the value that a name has in an environment -/
noncomputable def NmAt (env : Env) (h : Heap) (x : Str) (v : Value) : Prop :=
  (env.kindOf x = some .local ∧ ∃ m, h.Ns env.locals m ∧ m x = some v) ∨
  ((env.kindOf x = some .cell ∨ env.kindOf x = some .free) ∧ ∃ c, env.cells.lookup x = some c ∧ h.IsCell c (some v))
theorem NmAt.at {env : Env} {h h' : Heap} {x : Str} {v : Value} (n : NmAt env h x v) (kl : ∀ o, h.get? env.locals = some o → h'.get? env.locals = some o)
    (kc : ∀ y c o, env.cells.lookup y = some c → h.get? c = some o → h'.get? c = some o) : NmAt env h' x v := by
  rcases n with ⟨k, m, hn, e⟩ | ⟨k, c, hc, o, ho, hd⟩
  · exact .inl ⟨k, m, hn.at' kl, e⟩
  · exact .inr ⟨k, c, hc, o, kc x c o hc ho, hd⟩
theorem NmAt.grow {env : Env} {h h' : Heap} {x : Str} {v : Value} (n : NmAt env h x v) (k : Grow h h') : NmAt env h' x v := n.at (fun o e => k _ o e) fun _ c o _ e => k c o e
theorem NmAt.load {M : Model} {A : Around} {E : Value → Shared → Prop} {s : Shared} {env : Env} {x : Str} {v : Value} {pos : Pos} {Q : Value → Shared → Prop} (hk : env.scope.kind = .function) (n : NmAt env s.heap x v) (hx : x ∈ tb)
    (h : Q v s) : wpAny M A (eval (.Name x pos) env) Q E s := by
  refine wpAny_Name ?_ (tb_debug x hx).1
  rcases n with ⟨k, m, hn, e⟩ | ⟨k | k, c, hc, hv⟩
  · exact wpAny_loadName_local hk k hn e h
  · exact wpAny_loadName_cell hk k hc hv h
  · exact wpAny_loadName_free hk k hc hv h (tb_debug x hx).2

noncomputable abbrev Rho := Nat → Option PV
noncomputable def upd (ρ : Rho) (x : Nat) (p : Option PV) : Rho := fun i => if i = x then p else ρ i
theorem upd_at (ρ : Rho) (x : Nat) (p : Option PV) : upd ρ x p x = p := if_pos rfl
theorem upd_ne {ρ : Rho} {x i : Nat} {p : Option PV} (h : i ≠ x) : upd ρ x p i = ρ i := if_neg h

/-- what the names of an environment stand for -/
noncomputable def EnvR (env : Env) (H : List Addr) (g : GS) (ρ : Rho) : Prop :=
  ∀ i x p, tb[i]? = some x → (env.kindOf x = some .local ∨ env.kindOf x = some .cell ∨ env.kindOf x = some .free) → ρ i = some p → ∃ v, NmAt env g.h x v ∧ Rep (hv H g) v p
theorem EnvR.step {env : Env} {H H' : List Addr} {g g' : GS} {ρ : Rho} (x : EnvR env H g ρ) (k : Le (hv H g) (hv H' g')) (kl : ∀ o, g.h.get? env.locals = some o → g'.h.get? env.locals = some o)
    (kc : ∀ y c o, env.cells.lookup y = some c → g.h.get? c = some o → g'.h.get? c = some o) : EnvR env H' g' ρ := fun i y p e hk hp =>
  let ⟨v, n, r⟩ := x i y p e hk hp; ⟨v, n.at kl kc, r.grow k⟩
theorem EnvR.grow {env : Env} {H : List Addr} {g g' : GS} {ρ : Rho} (x : EnvR env H g ρ) (k : Le g g') : EnvR env H g' ρ := x.step k.hv (fun o e => k.h _ o e) fun _ c o _ e => k.h c o e

theorem SameBut.growX {a : Addr} {h h' : Heap} (x : Heap.SameBut a h h') : GrowX [a] h h' := fun b o n e => x.extBut b o (fun q => n (by simp [q])) e
theorem ExtBut.growX {a : Addr} {h h' : Heap} (x : Heap.ExtBut a h h') : GrowX [a] h h' := fun b o n e => x b o (fun q => n (by simp [q])) e

theorem ns_cell {h : Heap} {a : Addr} {m : Str → Option Value} {v : Option Value} (n : h.Ns a m) (c : h.IsCell a v) : False := by
  obtain ⟨o, es, ep, e, d, _⟩ := n
  obtain ⟨o', e', d'⟩ := c
  rw [e] at e'; cases e'; rw [d] at d'; cases d'

/-- storing a local name -/
theorem EnvR.store {env : Env} {H : List Addr} {h h' : Heap} {T : TM} {ρ : Rho} {i : Nat} {x : Str} {m : Str → Option Value} {v : Value} {p : PV} (r : EnvR env H ⟨h, T⟩ ρ) (hL : env.locals ∈ H) (hi : tb[i]? = some x)
    (hx : env.kindOf x = some .local) (hn : h.Ns env.locals m) (hn' : h'.Ns env.locals (fun y => if y = x then some v else m y)) (hs : Heap.SameBut env.locals h h') (rv : Rep (hv H ⟨h, T⟩) v p) :
    EnvR env H ⟨h', T⟩ (upd ρ i (some p)) := by
  have k : Le (hv H ⟨h, T⟩) (hv H ⟨h', T⟩) := ⟨((SameBut.growX hs).sub (by simpa using hL)).hv, TExt.refl _⟩
  intro j y q e hk hq
  by_cases hj : j = i
  · subst hj
    rw [upd_at] at hq; cases hq
    rw [hi] at e; cases e
    exact ⟨v, .inl ⟨hx, _, hn', if_pos rfl⟩, rv.grow k⟩
  · rw [upd_ne hj] at hq
    obtain ⟨u, n, ru⟩ := r j y q e hk hq
    refine ⟨u, ?_, ru.grow k⟩
    have hy : y ≠ x := fun z => hj (tb_inj e (z ▸ hi))
    rcases n with ⟨kl, m', hm', em⟩ | ⟨kc, c, hc, hcv⟩
    · refine .inl ⟨kl, _, hn', ?_⟩
      rw [if_neg hy]
      obtain ⟨o, es, ep, e1, d1, _, f1⟩ := hn
      obtain ⟨o', es', ep', e2, d2, _, f2⟩ := hm'
      rw [e1] at e2; cases e2; rw [d1] at d2; cases d2
      exact (f1 y).symm.trans ((f2 y).trans em)
    · exact .inr ⟨kc, c, hc, hcv.sameBut hs fun z => ns_cell hn (z ▸ hcv)⟩

/-- a target of a loop -/
inductive Tg | one (x : Nat) | two (x y : Nat)
noncomputable def Tg.bind : Tg → List PV → Rho → Rho
  | .one x, [p], ρ => upd ρ x (some p)
  | .two x y, [p, q], ρ => upd (upd ρ x (some p)) y (some q)
  | _, _, ρ => ρ
noncomputable def Tg.clear : Tg → Rho → Rho
  | .one x, ρ => upd ρ x none
  | .two x y, ρ => upd (upd ρ x none) y none
noncomputable def Tg.Is (K : Str → Option NameKind) : Tg → Expr → Prop
  | .one x, e => ∃ n px, e = .Name n px ∧ tb[x]? = some n ∧ K n = some .local
  | .two x y, e => ∃ n m px py k pos, e = .Tuple [.Name n px, .Name m py] k pos ∧ tb[x]? = some n ∧ tb[y]? = some m ∧ K n = some .local ∧ K m = some .local
/-- what an iterator hands to the target -/
noncomputable def BdP (g : GS) : Tg → List PV → Value → Heap → Prop
  | .one _, ps, v, _ => ∃ p, ps = [p] ∧ Rep g v p
  | .two _ _, ps, v, h => ∃ t a b p q, v = .ref t ∧ h.IsTuple t #[a, b] ∧ ps = [p, q] ∧ Rep g a p ∧ Rep g b q

section
variable {prog : Program} {w : World} {A : Around} {E : Value → Shared → Prop} {s : Shared} {T : TM} {env : Env} {H : List Addr} {ρ : Rho}

theorem assign_tg {tg : Tg} {e : Expr} {g : GS} {ps : List PV} {v : Value} {m : Str → Option Value} {Q : Unit → Shared → Prop} (hh : A.handled = none) (hk : env.scope.kind = .function) (ht : tg.Is env.kindOf e) (hL : env.locals ∈ H)
    (L : Laid H s.heap) (hn : s.heap.Ns env.locals m) (r : EnvR env H (gs s T) ρ) (k : Le g (hv H (gs s T))) (b : BdP g tg ps v s.heap)
    (hQ : ∀ h' tk m', h'.Ns env.locals m' → EnvR env H ⟨h', T⟩ (tg.bind ps ρ) → GrowX [env.locals] s.heap h' → Q () { s with heap := h', toks := tk }) : wpAny (model prog w) A (assign e env v) Q E s := by
  have hp : (env.scope.kind == .class || (env.scope.kind == .module && env.locals != env.globals)) = false := by rw [hk]; rfl
  cases tg with
  | one x =>
    obtain ⟨n, px, rfl, hi, hx⟩ := ht
    obtain ⟨p, rfl, rv⟩ := b
    refine wpAny_assign_Name (wpAny_storeName_local hx hn (fun h' hn' hs' => ?_) hp)
    exact hQ h' _ _ hn' (r.store hL hi hx hn hn' hs' (rv.grow k)) (SameBut.growX hs')
  | two x y =>
    obtain ⟨n, n', px, py, kk, pos, rfl, hi, hj, hx, hy⟩ := ht
    obtain ⟨t, a, b, p, q, rfl, hT, rfl, ra, rb⟩ := b
    refine wpAny_assign_Tuple hh hT rfl rfl fun h₁ he₁ => ?_
    have hne : env.locals ≠ s.heap.objs.size := Nat.ne_of_lt hn.lt
    have k₁ : Grow s.heap h₁ := fun b o e => he₁ b o (Nat.ne_of_lt (Heap.lt_size e)) e
    have l₁ : Le (gs s T) ⟨h₁, T⟩ := ⟨k₁, TExt.refl _⟩
    have hn₁ := hn.at' fun o e => k₁ _ o e
    show wpAny _ _ (do holding [b] (assign (.Name n px) env a); assignInOrder _ _) _ _ _
    refine wpAny_bind (wpAny_holding (wpAny_assign_Name (wpAny_storeName_local hx hn₁ (fun h₂ hn₂ hs₂ => ?_) hp)))
    show wpAny _ _ (do holding [] (assign (.Name n' py) env b); assignInOrder _ _) _ _ _
    have r₂ := (r.grow l₁).store hL hi hx hn₁ hn₂ hs₂ ((ra.grow k).grow l₁.hv)
    have k₂ : Le (hv H ⟨h₁, T⟩) (hv H ⟨h₂, T⟩) := ⟨((SameBut.growX hs₂).sub (by simpa using hL)).hv, TExt.refl _⟩
    refine wpAny_bind (wpAny_holding (wpAny_assign_Name (wpAny_storeName_local hy hn₂ (fun h₃ hn₃ hs₃ => ?_) hp)))
    refine wpAny_pure ?_
    refine hQ h₃ _ _ hn₃ (r₂.store hL hj hy hn₂ hn₃ hs₃ (((rb.grow k).grow l₁.hv).grow k₂)) ?_
    exact ((Grow.toX k₁).trans (SameBut.growX hs₂)).trans (SameBut.growX hs₃)
end

/-- an iterator over items that we know -/
noncomputable def Tn (prog : Program) (w : World) (A : Around) (e : Expr) (tg : Tg) (H : List Addr) (s : Shared) (T : TM) (psl : List (List PV)) (it : Value) (s₂ : Shared) : Prop :=
  ∃ I fp wr P Md St, it = .ref I ∧ KTurns prog w A e I fp wr psl.length P Md St ∧ St 0 s₂.heap ∧
    (∀ A' i (s' : Shared) Q E, St i s'.heap → Q (.ref I) s' → wpAny (model prog w) A' (pyIter (.ref I)) Q E s') ∧
    (∀ i h, St i h → ∀ b ∈ wr, ∃ o, h.get? b = some o) ∧
    (∀ b ∈ fp, b < s₂.heap.objs.size ∧ b ∉ H) ∧ (∀ b ∈ wr, s.heap.get? b = none) ∧
    (∀ i v h, i < psl.length → P i v h → ∃ ps, psl[i]? = some ps ∧ BdP (hv H (gs s T)) tg ps v h) ∧ Goes s T s₂ T

noncomputable def seqP : PV → Option (List PV)
  | .lst l => some l
  | .tup l => some l
  | .str x => if x.cps.all (· < 128) then some (x.cps.toList.map fun c => .str ⟨#[c]⟩) else none
  | _ => none

inductive IK | L | R | Z
noncomputable def items : IK → PV → PV → Option (List (List PV))
  | .L, .lst l, _ => some (l.map fun p => [p])
  | .R, .int n, _ => if near n then some ((List.range n.toNat).map fun (i : Nat) => [.int (i : Int)]) else none
  | .Z, p, q => match seqP p, seqP q with | some l, some m => some (List.zipWith (fun a b => [a, b]) l m) | _, _ => none
  | _, _, _ => none

section
variable {prog : Program} {w : World} {A : Around} {E : Value → Shared → Prop} {s : Shared} {T : TM} {H : List Addr}

theorem src_of {p : PV} {l : List PV} (e : seqP p = some l) {v : Value} (r : Rep (hv H (gs s T)) v p) :
    ∃ n P, ∃ S : Src prog w v n P, S.cond s.heap ∧ n = l.length ∧ (∀ i x, P i x → ∃ q, l[i]? = some q ∧ Rep (hv H (gs s T)) x q) ∧ ∀ b ∈ S.ax, b ∉ H := by
  cases r with
  | @lst a vs _ y rl =>
    cases e
    refine ⟨_, _, srcList a vs.toArray, ?_, ?_, ?_, ?_⟩
    · exact (Heap.PlainList.isList ((plainList_grow y (hv_grow H s.heap))))
    · simpa using rl.length
    · intro i x hx
      exact rl.getv (i := i) (v := x) (by simpa using hx)
    · intro b hb
      simp [srcList] at hb; subst hb
      obtain ⟨n, q⟩ := y
      exact hv_notin q
  | @tup a vs _ y rl =>
    cases e
    refine ⟨_, _, srcTup a vs.toArray, ?_, ?_, ?_, ?_⟩
    · exact PlainTup.isTuple (plainTup_grow y (hv_grow H s.heap))
    · simpa using rl.length
    · intro i x hx
      exact rl.getv (i := i) (v := x) (by simpa using hx)
    · intro b hb
      simp [srcTup] at hb; subst hb
      obtain ⟨n, q⟩ := y
      exact hv_notin q
  | str x t =>
    simp only [seqP] at e
    split at e
    · rename_i ha
      cases e
      refine ⟨_, _, srcStr x t ha, trivial, by simp, ?_, fun b hb => nomatch hb⟩
      rintro i v ⟨c, u, hc, rfl⟩
      exact ⟨.str ⟨#[c]⟩, by simp [hc], .str _ _⟩
    · cases e
  | _ => cases e

theorem iter_L {e : Expr} {x : Nat} {l : List PV} {v : Value} (hh : A.handled = none) (L : Laid H s.heap) (he : ∃ n px, e = .Name n px) (r : Rep (hv H (gs s T)) v (.lst l)) {Q : Value → Shared → Prop}
    (hQ : ∀ it s₂, Tn prog w A e (.one x) H s T (l.map fun p => [p]) it s₂ → Q it s₂) : wpAny (model prog w) A (pyIter v) Q E s := by
  obtain ⟨ax, vs, rfl, hy, rl⟩ := r.lstInv
  obtain ⟨n, px, rfl⟩ := he
  have hl : s.heap.IsList ax vs.toArray := Heap.PlainList.isList (plainList_grow hy (hv_grow H s.heap))
  refine wpAny_pyIter_list hl (hQ _ _ ?_)
  have hax : ax ∉ H := by obtain ⟨n, q⟩ := hy; exact hv_notin q
  have hlt : ax < s.heap.objs.size := by obtain ⟨o, q, _⟩ := hl; exact Heap.lt_size q
  refine ⟨_, _, _, _, _, _, rfl, KTurns.ofWalks (target := .Name n px) (n := (l.map fun p => [p]).length) (by
    have W := Walks.list (prog := prog) (w := w) hh s.heap.objs.size ax (Nat.ne_of_lt hlt) vs.toArray
    rw [show (l.map fun p => [p]).length = vs.toArray.size by simp [rl.length]]
    exact W) (fun i v s Q E _ hq => wpAny_pure hq), ?_, ?_, ?_, ?_, ?_, ?_, ?_⟩
  · exact ⟨⟨_, Heap.get?_push_size _ rfl, rfl, rfl⟩, hl.push _⟩
  · exact fun A' i s' Q E st q => wpAny_pyIter_listiter st.1 q
  · intro i h st b hb; simp only [List.mem_singleton] at hb; subst hb; obtain ⟨o, e, _⟩ := st.1; exact ⟨o, e⟩
  · intro b hb
    simp at hb
    rcases hb with rfl | rfl
    · exact ⟨by simp [Heap.size_push], L.new (size_none _)⟩
    · exact ⟨by simp only [Heap.size_push]; exact Nat.lt_succ_of_lt hlt, hax⟩
  · intro b hb; simp at hb; subst hb; exact size_none _
  · intro i v h _ hv
    obtain ⟨p, hp, rp⟩ := rl.getv (i := i) (v := v) (by simpa using hv)
    exact ⟨[p], by simp [hp], p, rfl, rp⟩
  · exact Goes.of T (keeps_of (tk := s.toks) fun b o e => Heap.get?_push_of_some _ e)

theorem iter_R' {e : Expr} {x : Nat} {n : Int} {s₁ : Shared} {r : Addr} {t u v : Tok} (hh : A.handled = none) (L : Laid H s₁.heap) (he : ∃ n px, e = .Name n px) (hn : near n = true) (hr : IsRange s₁.heap r 0 n 1 t u v)
    (k : Goes s T s₁ T) {Q : Value → Shared → Prop}
    (hQ : ∀ it s₂, Tn prog w A e (.one x) H s T ((List.range n.toNat).map fun (i : Nat) => [.int (i : Int)]) it s₂ → Q it s₂) :
    wpAny (model prog w) A (pyIter (.ref r)) Q E s₁ := by
  obtain ⟨nm, px, rfl⟩ := he
  have nn := near_iff hn
  refine wpAny_pyIter_range hr (small_one (by decide) (by decide) (by omega) (by omega)) (hQ _ _ ?_)
  have hsz : Builtin.Range.rangeSize 0 n 1 = (n.toNat : Int) := by rw [rangeSize_one]; split <;> omega
  have hlen : ((List.range n.toNat).map fun (i : Nat) => [PV.int (i : Int)]).length = n.toNat := by simp
  refine ⟨_, _, _, _, _, _, rfl, KTurns.ofWalks (target := .Name nm px) (n := ((List.range n.toNat).map fun (i : Nat) => [PV.int (i : Int)]).length) (by
    have W := Walks.range (prog := prog) (w := w) hh s₁.heap.objs.size 0 1 n.toNat
    rw [hlen]
    exact W) (fun i v s Q E _ hq => wpAny_pure hq), ?_, ?_, ?_, ?_, ?_, ?_, ?_⟩
  · have e1 : (0 + ((0 : Nat) : Int) * 1) = 0 := by simp
    have e2 : ((n.toNat : Int) - ((0 : Nat) : Int)) = Builtin.Range.rangeSize 0 n 1 := by rw [hsz]; simp
    show IsRangeIter _ _ (0 + ((0 : Nat) : Int) * 1) ((n.toNat : Int) - ((0 : Nat) : Int)) 1
    rw [e1, e2]
    exact Heap.get?_push_size _ rfl
  · exact fun A' i s' Q E st q => wpAny_pyIter_rangeiter st q
  · intro i h st b hb; simp only [List.mem_singleton] at hb; subst hb; exact ⟨_, st⟩
  · intro b hb
    simp only [List.mem_singleton] at hb
    subst hb
    exact ⟨by simp only [Heap.size_push]; exact Nat.lt_succ_self _, L.new (size_none _)⟩
  · intro b hb; simp only [List.mem_singleton] at hb; subst hb
    cases q : s.heap.get? s₁.heap.objs.size with
    | none => rfl
    | some o => have := keeps_grow k.k _ _ q; rw [size_none] at this; cases this
  · intro i v h hlt hv
    obtain ⟨t', rfl⟩ := hv
    refine ⟨[.int i], ?_, .int i, rfl, ?_⟩
    · rw [List.getElem?_map, List.getElem?_range (by simpa [hlen] using hlt)]; rfl
    · simpa using Rep.int (g := hv H (gs s T)) (i : Int) t'
  · exact ⟨keeps_trans k.k (keeps_of (tk := _) fun b o e => Heap.get?_push_of_some _ e), k.e, fun t b e => .inl e⟩

theorem iter_Z {e : Expr} {x y : Nat} {p q : PV} {l m : List PV} {a b : Value} (hh : A.handled = none) (L : Laid H s.heap) (he : ∃ elts k pos, e = .Tuple elts k pos) (ep : seqP p = some l) (eq : seqP q = some m)
    (ra : Rep (hv H (gs s T)) a p) (rb : Rep (hv H (gs s T)) b q) {Q : Value → Shared → Prop}
    (hQ : ∀ it s₂, Tn prog w A e (.two x y) H s T (List.zipWith (fun a b => [a, b]) l m) it s₂ → Q it s₂) :
    wpAny (model prog w) A (call (.type "zip") [a, b]) (fun v s₁ => wpAny (model prog w) A (pyIter v) Q E s₁) E s := by
  obtain ⟨elts, k, pos, rfl⟩ := he
  obtain ⟨n1, P1, S1, c1, z1, i1, d1⟩ := src_of (prog := prog) (w := w) ep ra
  obtain ⟨n2, P2, S2, c2, z2, i2, d2⟩ := src_of (prog := prog) (w := w) eq rb
  refine call_zipG S1 S2 c1 c2 fun h' hz hTI hTO h1 h2 hsz up => zself hz (hQ _ _ ?_)
  have old1 : ∀ b ∈ S1.ax, b < s.heap.objs.size := fun b hb => let ⟨o, e⟩ := S1.axlaid _ c1 b hb; Heap.lt_size e
  have old2 : ∀ b ∈ S2.ax, b < s.heap.objs.size := fun b hb => let ⟨o, e⟩ := S2.axlaid _ c2 b hb; Heap.lt_size e
  have new : ∀ b, s.heap.objs.size ≤ b → s.heap.get? b = none := fun b hb => by
    cases q : s.heap.get? b with
    | none => rfl
    | some o => exact absurd (Heap.lt_size q) (Nat.not_lt.mpr hb)
  have D : ZApart (s.heap.objs.size + 4) (s.heap.objs.size + 2) (s.heap.objs.size + 3) s.heap.objs.size (s.heap.objs.size + 1) S1.ax S2.ax := by
    generalize s.heap.objs.size = N at *
    refine ⟨?_, ?_, ?_, ?_, ?_, ?_, ?_, ?_, ?_, ?_, fun b hb => ?_, fun b hb => ?_⟩
    iterate 10 (show @Ne Nat _ _; omega)
    · have q := old1 b hb
      exact ⟨Nat.ne_of_lt (Nat.lt_of_lt_of_le q (Nat.le_add_right _ _)), Nat.ne_of_lt (Nat.lt_of_lt_of_le q (Nat.le_add_right _ _)), Nat.ne_of_lt q, Nat.ne_of_lt (Nat.lt_of_lt_of_le q (Nat.le_add_right _ _))⟩
    · have q := old2 b hb
      exact ⟨Nat.ne_of_lt (Nat.lt_of_lt_of_le q (Nat.le_add_right _ _)), Nat.ne_of_lt (Nat.lt_of_lt_of_le q (Nat.le_add_right _ _)), Nat.ne_of_lt q, Nat.ne_of_lt (Nat.lt_of_lt_of_le q (Nat.le_add_right _ _))⟩
  have hlen : (List.zipWith (fun a b => [a, b]) l m).length = min n1 n2 := by simp [z1, z2]
  refine ⟨_, _, _, _, _, _, rfl, hlen ▸ turnsZip hh S1 S2 _ _ _ _ _ D elts k pos, ?_, ?_, ?_, ?_, ?_, ?_, ?_⟩
  · exact ⟨hz, hTI, ⟨_, _, hTO⟩, h1, h2⟩
  · exact fun A' i s' Q E st q => zself st.1 q
  · intro i h st b hb
    obtain ⟨hz, hTI, ⟨a, b', hTO⟩, h1, h2⟩ := st
    have hb' : b = s.heap.objs.size + 4 ∨ b = s.heap.objs.size + 3 ∨ b = s.heap.objs.size ∨ b = s.heap.objs.size + 1 := by simpa using hb
    rcases hb' with rfl | rfl | rfl | rfl
    · exact ⟨_, hz⟩
    · exact ⟨_, hTO⟩
    · exact S1.laid _ _ _ h1
    · exact S2.laid _ _ _ h2
  · intro b hb
    rw [show ({ s with heap := h' } : Shared).heap.objs.size = s.heap.objs.size + 5 from hsz]
    have hb' : b = s.heap.objs.size + 4 ∨ b = s.heap.objs.size + 2 ∨ b = s.heap.objs.size + 3 ∨ b = s.heap.objs.size ∨ b = s.heap.objs.size + 1 ∨ b ∈ S1.ax ∨ b ∈ S2.ax := by simpa using hb
    have nw : ∀ k, b = s.heap.objs.size + k → b ∉ H := fun k e => L.new (new _ (by rw [e]; exact Nat.le_add_right _ _))
    rcases hb' with e | e | e | e | e | e | e
    · exact ⟨by rw [e]; exact Nat.lt_succ_self _, nw _ e⟩
    · exact ⟨by rw [e]; exact Nat.add_lt_add_left (by decide) _, nw _ e⟩
    · exact ⟨by rw [e]; exact Nat.add_lt_add_left (by decide) _, nw _ e⟩
    · exact ⟨by rw [e]; exact Nat.lt_add_of_pos_right (by decide), nw 0 e⟩
    · exact ⟨by rw [e]; exact Nat.add_lt_add_left (by decide) _, nw _ e⟩
    · exact ⟨Nat.lt_of_lt_of_le (old1 b e) (Nat.le_add_right _ _), d1 b e⟩
    · exact ⟨Nat.lt_of_lt_of_le (old2 b e) (Nat.le_add_right _ _), d2 b e⟩
  · intro b hb
    have hb' : b = s.heap.objs.size + 4 ∨ b = s.heap.objs.size + 3 ∨ b = s.heap.objs.size ∨ b = s.heap.objs.size + 1 := by simpa using hb
    rcases hb' with e | e | e | e <;> (rw [e]; exact new _ (by first | exact Nat.le_add_right _ _ | exact Nat.le_refl _))
  · rintro i v h hi ⟨t, a', b', rfl, pa, pb, ht⟩
    obtain ⟨p', e1, r1⟩ := i1 i a' pa
    obtain ⟨q', e2, r2⟩ := i2 i b' pb
    exact ⟨[p', q'], by simp [List.getElem?_zipWith, e1, e2], t, a', b', p', q', rfl, ht, rfl, r1, r2⟩
  · exact Goes.of T (keeps_of (tk := s.toks) up)
end
end Mine

-- M7
namespace Mine

theorem hv_ext {W H : List Addr} {h₁ h₂ : Heap} (f : ∀ b ∈ W, b ∈ H ∨ h₁.get? b = none) (k : GrowX W h₁ h₂) : Grow (hideAll h₁ H) (hideAll h₂ (W ++ H)) := fun b o e => by
  have hb : b ∉ H := hv_notin e
  have e₁ := hv_of e
  have hw : b ∉ W := fun q => (f b q).elim hb fun z => by rw [e₁] at z; cases z
  exact hv_in (k b o hw e₁) fun q => (List.mem_append.mp q).elim hw hb
theorem le_ext {W H : List Addr} {g₁ g₂ : GS} (f : ∀ b ∈ W, b ∈ H ∨ g₁.h.get? b = none) (k : GrowX W g₁.h g₂.h) (t : TExt g₁.T g₂.T) : Le (hv H g₁) (hv (W ++ H) g₂) := ⟨hv_ext f k, t⟩
theorem GrowX.grow {W : List Addr} {h₁ h₂ : Heap} (k : GrowX W h₁ h₂) (f : ∀ b ∈ W, h₁.get? b = none) : Grow h₁ h₂ := fun b o e => k b o (fun q => by rw [f b q] at e; cases e) e
theorem EnvR.weaken {env : Env} {H : List Addr} {g : GS} {ρ ρ' : Rho} (x : EnvR env H g ρ) (k : ∀ i p, ρ' i = some p → ρ i = some p) : EnvR env H g ρ' := fun i y p a b c => x i y p a b (k i p c)
theorem Laid.growX {H W : List Addr} {h h' : Heap} (x : Laid H h) (k : GrowX W h h') (f : ∀ b ∈ W, b ∈ H → ∃ o, h'.get? b = some o) : Laid H h' := fun a ha => by
  by_cases q : a ∈ W
  · exact f a q ha
  · obtain ⟨o, e⟩ := x a ha; exact ⟨o, k a o q e⟩

/-- how a tree may go on, of the heap nothing said -/
structure Cg (s : Shared) (T : TM) (s' : Shared) (T' : TM) : Prop where
  k : ∃ h' tk, s' = { s with heap := h', toks := tk }
  e : TExt T T'
  n : TNew T T' s'.toks
  t : s.toks ≤ s'.toks
theorem Cg.refl (s : Shared) (T : TM) : Cg s T s T := ⟨⟨s.heap, s.toks, rfl⟩, TExt.refl _, TNew.refl _ _, Nat.le_refl _⟩
theorem Cg.trans {s₁ s₂ s₃ : Shared} {T₁ T₂ T₃ : TM} (x : Cg s₁ T₁ s₂ T₂) (y : Cg s₂ T₂ s₃ T₃) : Cg s₁ T₁ s₃ T₃ := by
  refine ⟨?_, x.e.trans y.e, x.n.trans y.n y.t, Nat.le_trans x.t y.t⟩
  obtain ⟨h, t, rfl⟩ := x.k
  obtain ⟨h', t', rfl⟩ := y.k
  exact ⟨h', t', rfl⟩
theorem Cg.of {s s' : Shared} {T T' : TM} (g : Goes s T s' T') (t : s.toks ≤ s'.toks) : Cg s T s' T' := ⟨by obtain ⟨h, k, e, _⟩ := g.k; exact ⟨h, k, e⟩, g.e, g.n, t⟩
theorem Cg.mk' (s : Shared) (T : TM) (h : Heap) (tk : Nat) (t : s.toks ≤ tk) : Cg s T { s with heap := h, toks := tk } T := ⟨⟨h, tk, rfl⟩, TExt.refl _, TNew.refl _ _, t⟩
theorem Cg.dom {s s' : Shared} {T T' : TM} (x : Cg s T s' T') (d : TDom T s.toks) : TDom T' s'.toks := d.step x.t x.n
theorem Cg.goes {s s' : Shared} {T T' : TM} (x : Cg s T s' T') (g : Grow s.heap s'.heap) : Goes s T s' T' := by
  obtain ⟨h, k, rfl⟩ := x.k
  exact ⟨keeps_of g, x.e, x.n⟩

theorem RepL.hvg {H : List Addr} {h h' : Heap} {T : TM} {vs : List Value} {ps : List PV} (k : Grow (hideAll h H) (hideAll h' H)) (r : RepL (hv H ⟨h, T⟩) vs ps) : RepL (hv H ⟨h', T⟩) vs ps :=
  have l : Le (hv H ⟨h, T⟩) (hv H ⟨h', T⟩) := ⟨k, TExt.refl _⟩
  r.grow l

noncomputable def runC (F : List PV → Option (List PV)) : List (List PV) → Option (List PV)
  | [] => some []
  | i :: r => match F i, runC F r with | some a, some b => some (a ++ b) | _, _ => none
theorem runC_cons {F : List PV → Option (List PV)} {i : List PV} {r : List (List PV)} {o : List PV} (h : runC F (i :: r) = some o) : ∃ a b, F i = some a ∧ runC F r = some b ∧ o = a ++ b := by
  simp only [runC] at h
  split at h
  · rename_i a b ha hb
    cases h
    exact ⟨a, b, ha, hb, rfl⟩
  · cases h

section
variable {prog : Program} {w : World} {A : Around} {tg : Tg} {e : Expr} {cenv : Env} {H : List Addr} {s₁ s₂ s₃ : Shared} {T₁ T₃ : TM} {psl : List (List PV)} {F : List PV → Option (List PV)} {rs rs0 : List PV} {D : Addr} {ρ0 : Rho} {c : Code} {it : Value} {bw : (Unit → Shared → Prop) → (Value → Shared → Prop) → Shared → Prop}
  {R : Result → Shared → Prop}

theorem Tg.bind_clear {tg : Tg} {ps : List PV} {ρ : Rho} : ∀ i p, tg.clear ρ i = some p → (tg.bind ps (tg.clear ρ)) i = some p := by
  intro i p h
  cases tg with
  | one x =>
    rcases ps with _ | ⟨a, _ | ⟨b, r⟩⟩
    · exact h
    · by_cases hi : i = x
      · subst hi; simp [Tg.clear, upd_at] at h
      · simp only [Tg.bind, upd_ne hi]; exact h
    · exact h
  | two x y =>
    rcases ps with _ | ⟨a, _ | ⟨b, _ | ⟨d, r⟩⟩⟩
    · exact h
    · exact h
    · by_cases hi : i = y
      · subst hi; simp [Tg.clear, upd_at] at h
      · by_cases hj : i = x
        · subst hj; simp [Tg.clear, upd_at, upd_ne hi] at h
        · simp only [Tg.bind, upd_ne hi, upd_ne hj]; exact h
    · exact h

theorem comp_loop (hq : c.quiet = true) (hmono : ∀ Q Q' E s, bw Q E s → (∀ s', Q () s' → Q' () s') → bw Q' E s)
    (hden : ∀ (s : Shared) (Q : Fin → Shared → Prop) (E : Value → Shared → Prop), (∀ E', wpAny (model prog w) A (pyNext it) (fun r s₁ => match r with
        | none => Q (.done .next) s₁
        | some v => wpAny (model prog w) A (letOwnedTupleGo e it v) (fun _ s₂ => wpAny (model prog w) A (assign e cenv v) (fun _ s₃ => bw (fun _ s₄ => Q (.again c) s₄) E' s₃) E' s₂) E' s₁) E' s) →
      wpAny (model prog w) (A.under c) ((model prog w).den c) Q E s)
    (hkf : cenv.scope.kind = .function) (ht : tg.Is cenv.kindOf e) (hh : A.handled = none)
    (hCH : cenv.locals ∈ H ∨ (s₁.heap.get? cenv.locals = none ∧ s₂.heap.objs.size ≤ cenv.locals)) (hDH : D ∈ H ∨ (s₁.heap.get? D = none ∧ s₂.heap.objs.size ≤ D)) (hDC : D ≠ cenv.locals)
    (tn : Tn prog w A e tg H s₁ T₁ psl it s₂) (ct : s₁.toks ≤ s₂.toks) (k : Grow s₂.heap s₃.heap) (cg : Cg s₂ T₁ s₃ T₁)
    {ys0 : List Value} (hn : ∃ m, s₃.heap.Ns cenv.locals m) (hD : s₃.heap.PlainList D ys0.toArray) (L : Laid H s₁.heap) (dom : TDom T₁ s₁.toks)
    (hrs0 : ∀ wr : List Addr, (∀ b ∈ wr, s₁.heap.get? b = none) → RepL (hv ((cenv.locals :: D :: wr) ++ H) (gs s₃ T₁)) ys0 rs0)
    (henv : ∀ wr : List Addr, (∀ b ∈ wr, s₁.heap.get? b = none) → EnvR cenv ((cenv.locals :: D :: wr) ++ H) (gs s₃ T₁) (tg.clear ρ0))
    (hF : runC F psl = some rs) (hsz : (rs0 ++ rs).length ≤ sizeLine)
    (hcc : ∀ x c, cenv.cells.lookup x = some c → ∃ o, s₁.heap.get? c = some o ∧ c ≠ D ∧ c ≠ cenv.locals)
    (hstep : ∀ (wr : List Addr) (s : Shared) (T : TM) (ps qs : List PV) (ys : List Value) (rs' : List PV), (∀ b ∈ wr, s₁.heap.get? b = none) → ps ∈ psl → F ps = some qs → Cg s₁ T₁ s T → GrowX (cenv.locals :: D :: wr) s₁.heap s.heap →
      EnvR cenv ((cenv.locals :: D :: wr) ++ H) (gs s T) (tg.bind ps (tg.clear ρ0)) → TDom T s.toks → Laid ((cenv.locals :: D :: wr) ++ H) s.heap → (∃ m, s.heap.Ns cenv.locals m) → s.heap.PlainList D ys.toArray →
      RepL (hv ((cenv.locals :: D :: wr) ++ H) (gs s T)) ys rs' → (rs' ++ qs).length ≤ sizeLine →
      ∀ E', bw (fun _ s' => ∃ T' ys', Cg s T s' T' ∧ GrowX [cenv.locals, D] s.heap s'.heap ∧ (∃ m, s'.heap.Ns cenv.locals m) ∧ s'.heap.PlainList D (List.toArray ys') ∧
        RepL (hv ((cenv.locals :: D :: wr) ++ H) (gs s' T')) ys' (rs' ++ qs) ∧ EnvR cenv ((cenv.locals :: D :: wr) ++ H) (gs s' T') (tg.clear ρ0)) E' s)
    (hR : ∀ (wr : List Addr) (s' : Shared) (T' : TM) (ys : List Value), (∀ b ∈ wr, s₁.heap.get? b = none) → Cg s₁ T₁ s' T' → GrowX (cenv.locals :: D :: wr) s₁.heap s'.heap → (∃ m, s'.heap.Ns cenv.locals m) → s'.heap.PlainList D ys.toArray →
      RepL (hv ((cenv.locals :: D :: wr) ++ H) (gs s' T')) ys (rs0 ++ rs) → EnvR cenv ((cenv.locals :: D :: wr) ++ H) (gs s' T') (tg.clear ρ0) → R (.ok .next) s') :
    codeAny (model prog w) A c R s₃ := by
  obtain ⟨I, fp, wr, P, Md, St, rfl, W, hst, hself, hwl, hfp, hwr, hP, hg⟩ := tn
  have hL : cenv.locals ∈ (cenv.locals :: D :: wr) ++ H := by simp
  have hCf : cenv.locals ∉ fp := fun h => hCH.elim (hfp _ h).2 fun q => absurd (hfp _ h).1 (Nat.not_lt.mpr q.2)
  have hDf : D ∉ fp := fun h => hDH.elim (hfp _ h).2 fun q => absurd (hfp _ h).1 (Nat.not_lt.mpr q.2)
  have hCw : cenv.locals ∉ wr := fun h => hCf (W.sub _ h)
  have hDw : D ∉ wr := fun h => hDf (W.sub _ h)
  have hWfr : ∀ b ∈ cenv.locals :: D :: wr, b ∈ H ∨ s₁.heap.get? b = none := fun b hb => by
    rcases List.mem_cons.mp hb with rfl | hb
    · exact hCH.imp id fun q => q.1
    · rcases List.mem_cons.mp hb with rfl | hb
      · exact hDH.imp id fun q => q.1
      · exact .inr (hwr b hb)
  have base : ∀ {s : Shared} {T : TM}, Cg s₁ T₁ s T → GrowX (cenv.locals :: D :: wr) s₁.heap s.heap → Le (hv H (gs s₁ T₁)) (hv ((cenv.locals :: D :: wr) ++ H) (gs s T)) := fun cg k => le_ext hWfr k cg.e
  have wrX : ∀ {h h' : Heap}, (∀ b o, b ∉ wr → h.get? b = some o → h'.get? b = some o) → GrowX (cenv.locals :: D :: wr) h h' := fun k b o n e => k b o (fun q => n (by simp [q])) e
  have hvX : ∀ {h h' : Heap}, GrowX (cenv.locals :: D :: wr) h h' → Grow (hideAll h ((cenv.locals :: D :: wr) ++ H)) (hideAll h' ((cenv.locals :: D :: wr) ++ H)) := fun k => (k.sub fun a ha => List.mem_append_left _ ha).hv
  have celk : ∀ {h h' : Heap} {T T' : TM} {ρ : Rho}, (∀ b o, b ∉ wr → h.get? b = some o → h'.get? b = some o) → TExt T T' → EnvR cenv ((cenv.locals :: D :: wr) ++ H) ⟨h, T⟩ ρ → EnvR cenv ((cenv.locals :: D :: wr) ++ H) ⟨h', T'⟩ ρ := fun k t x =>
    x.step ⟨hvX (wrX k), t⟩ (fun o e => k _ o hCw e) fun y c o hc e => k c o (fun q => by obtain ⟨o', e', _⟩ := hcc y c hc; rw [hwr c q] at e'; cases e') e
  have kg3 : Grow s₁.heap s₃.heap := (keeps_grow hg.k).trans k
  have laid : ∀ {h : Heap} {T : TM} {i : Nat}, GrowX (cenv.locals :: D :: wr) s₁.heap h → (∃ m, h.Ns cenv.locals m) → (∃ ys : Array Value, h.PlainList D ys) → (∀ b ∈ wr, ∃ o, h.get? b = some o) → Laid ((cenv.locals :: D :: wr) ++ H) h := fun {h} _ _ k hn hD hw a ha => by
    have hC' : ∃ o, h.get? cenv.locals = some o := by obtain ⟨m, o, _, _, e, _⟩ := hn; exact ⟨o, e⟩
    have hD' : ∃ o, h.get? D = some o := by obtain ⟨ys, n, e⟩ := hD; exact ⟨_, e⟩
    have cs : ∀ b ∈ cenv.locals :: D :: wr, ∃ o, h.get? b = some o := fun b hb => by
      rcases List.mem_cons.mp hb with rfl | hb
      · exact hC'
      · rcases List.mem_cons.mp hb with rfl | hb
        · exact hD'
        · exact hw b hb
    by_cases q : a ∈ cenv.locals :: D :: wr
    · exact cs a q
    · rcases List.mem_append.mp ha with ha | ha
      · exact absurd ha q
      · obtain ⟨o, e⟩ := L a ha
        exact ⟨o, k a o q e⟩
  obtain ⟨Inv, hI⟩ : ∃ Inv : Nat → Shared → Prop, ∀ n s', Inv n s' ↔ (∃ T' i rd rr ys, Cg s₁ T₁ s' T' ∧ GrowX (cenv.locals :: D :: wr) s₁.heap s'.heap ∧ St i s'.heap ∧ (∃ m, s'.heap.Ns cenv.locals m) ∧ s'.heap.PlainList D (List.toArray ys) ∧
    RepL (hv ((cenv.locals :: D :: wr) ++ H) (gs s' T')) ys (rs0 ++ rd) ∧ EnvR cenv ((cenv.locals :: D :: wr) ++ H) (gs s' T') (tg.clear ρ0) ∧ rs = rd ++ rr ∧ runC F (psl.drop i) = some rr ∧ i ≤ psl.length ∧ n = psl.length - i) := ⟨_, fun _ _ => Iff.rfl⟩
  refine codeAny_loop hq Inv ?_ psl.length
    ((hI _ _).mpr ⟨T₁, 0, [], rs, ys0, (Cg.of hg ct).trans cg, kg3.toX, W.frame _ _ _ hst fun b _ o e => k b o e, hn, hD, by simpa using hrs0 wr hwr, henv wr hwr, rfl, by simpa using hF, Nat.zero_le _, rfl⟩)
  intro n s' hinv
  obtain ⟨T', i, rd, rr, ys, cg', k', hst', hn', hD', hr', he', hrs, hrun, hi, rfl⟩ := (hI _ _).mp hinv
  refine hden _ _ _ fun E' => ?_
  have dom' := cg'.dom dom
  by_cases hlt : i < psl.length
  · have hdrop : psl.drop i = psl[i] :: psl.drop (i + 1) := List.drop_eq_getElem_cons hlt
    rw [hdrop] at hrun
    obtain ⟨qs, rr', hq', hrun', rfl⟩ := runC_cons hrun
    refine wpAny_with_toks (n := s'.toks) (Nat.le_refl _) (W.item i _ _ _ hlt hst' fun v h₁ tk₁ hMd hk₁ htk₁ => ?_)
    refine W.go i v _ _ _ hMd fun h₂ hPv hst₂ hk₂ => ?_
    obtain ⟨ps, hps, hb⟩ := hP i v _ hlt hPv
    have hpe : psl[i] = ps := by rw [List.getElem?_eq_getElem hlt] at hps; exact Option.some.inj hps
    have hk₁₂ : ∀ b o, b ∉ wr → s'.heap.get? b = some o → h₂.get? b = some o := fun b o hb e => hk₂ b o hb (hk₁ b o hb e)
    have cg₂ : Cg s₁ T₁ { s' with heap := h₂, toks := tk₁ } T' := cg'.trans (Cg.mk' _ _ _ _ htk₁)
    have k₂ : GrowX (cenv.locals :: D :: wr) s₁.heap h₂ := k'.trans (wrX hk₁₂)
    obtain ⟨m', hm'⟩ := hn'
    have hn₂ : h₂.Ns cenv.locals m' := hm'.at' fun o e => hk₁₂ _ o hCw e
    have hD₂ : h₂.PlainList D ys.toArray := hD'.at fun o e => hk₁₂ _ o hDw e
    have e₂ : EnvR cenv ((cenv.locals :: D :: wr) ++ H) ⟨h₂, T'⟩ (tg.clear ρ0) := celk hk₁₂ (TExt.refl _) he'
    have wl : ∀ {h : Heap}, St (i + 1) h → ∀ b ∈ wr, ∃ o, h.get? b = some o := fun st => hwl _ _ st
    have L₂ := laid (T := T') (i := i) k₂ ⟨_, hn₂⟩ ⟨_, hD₂⟩ (wl hst₂)
    refine wpAny_with_toks (n := tk₁) (Nat.le_refl _) (assign_tg (s := { s' with heap := h₂, toks := tk₁ }) (T := T') hh hkf ht hL L₂ hn₂ e₂ (base cg₂ k₂) hb fun h₃ tk₃ m₃ hn₃ he₃ hk₃ htk₃ => ?_)
    have cg₃ : Cg s₁ T₁ { s' with heap := h₃, toks := tk₃ } T' := cg₂.trans (Cg.mk' { s' with heap := h₂, toks := tk₁ } T' h₃ tk₃ htk₃)
    have hk₃' : GrowX (cenv.locals :: D :: wr) h₂ h₃ := hk₃.sub fun a ha => by simp at ha; simp [ha]
    have k₃ : GrowX (cenv.locals :: D :: wr) s₁.heap h₃ := k₂.trans hk₃'
    have hD₃ : h₃.PlainList D ys.toArray := hD₂.at fun o e => hk₃ D o (by simpa using hDC) e
    have hr₃ : RepL (hv ((cenv.locals :: D :: wr) ++ H) ⟨h₃, T'⟩) ys (rs0 ++ rd) :=
      RepL.hvg (hvX hk₃') (RepL.hvg (hvX (wrX hk₁₂)) hr')
    have hst₃ : St (i + 1) h₃ := W.frame _ _ _ hst₂ fun b hb o e => hk₃ b o (fun q => hCf (by simp at q; exact q ▸ hb)) e
    have L₃ := laid (T := T') (i := i) k₃ ⟨_, hn₃⟩ ⟨_, hD₃⟩ (wl hst₃)
    have hsz₃ : ((rs0 ++ rd) ++ qs).length ≤ sizeLine := by
      rw [hrs] at hsz
      simp only [List.length_append] at hsz ⊢
      exact Nat.le_trans (by omega) hsz
    refine hmono _ _ _ _ (hstep wr { s' with heap := h₃, toks := tk₃ } T' ps qs ys (rs0 ++ rd) hwr (List.mem_of_getElem? hps) (hpe ▸ hq') cg₃ k₃ he₃ (cg₃.dom dom) L₃ ⟨_, hn₃⟩ hD₃ hr₃ hsz₃ _) (fun s₄ h₄ => ?_)
    obtain ⟨T₄, ys', cg₄, k₄, hn₄, hD₄, hr₄, he₄⟩ := h₄
    have k₄' : GrowX (cenv.locals :: D :: wr) h₃ s₄.heap := k₄.sub fun a ha => by
      rcases List.mem_cons.mp ha with rfl | ha
      · simp
      · simp at ha; simp [ha]
    refine ⟨rfl, psl.length - (i + 1), by omega, (hI _ _).mpr ⟨T₄, i + 1, rd ++ qs, rr', ys', cg₃.trans cg₄, k₃.trans k₄', ?_, hn₄, hD₄, by simpa using hr₄, he₄, by simpa using hrs, hrun', hlt, rfl⟩⟩
    refine W.frame _ _ _ hst₃ fun b hb o e => k₄ b o (fun q => ?_) e
    rcases List.mem_cons.mp q with rfl | q
    · exact hCf hb
    · simp at q; exact hDf (q ▸ hb)
  · have hin : i = psl.length := by omega
    subst hin
    refine wpAny_with_toks (n := s'.toks) (Nat.le_refl _) (W.done _ _ _ hst' fun h₁ tk₁ hk₁ htk₁ => ?_)
    rw [List.drop_length] at hrun
    cases hrun
    obtain ⟨m', hm'⟩ := hn'
    have hrs' : rs = rd := by simpa using hrs
    subst hrs'
    exact hR wr _ T' ys hwr (cg'.trans (Cg.mk' _ _ _ _ htk₁)) (k'.trans (wrX hk₁)) ⟨m', hm'.at' fun o e => hk₁ _ o hCw e⟩ (hD'.at fun o e => hk₁ _ o hDw e) (RepL.hvg (hvX (wrX hk₁)) hr') (celk hk₁ (TExt.refl _) he')
end
end Mine

-- M8
namespace Mine

/-- the cells that a comprehension takes with it -/
noncomputable def closL (cells : List (Str × Addr)) : List (Str × NameKind) → List (Str × Addr) → List (Str × Addr)
  | [], acc => acc
  | (n, k) :: r, acc => if k == .free then closL cells r ((n, (cells.lookup n).getD 0) :: acc) else closL cells r acc

theorem clos_for {cells : List (Str × Addr)} {env : Env} (he : env.cells = cells) : ∀ (names : List (Str × NameKind)) (acc : List (Str × Addr)), (∀ x ∈ names, x.2 = .free → (cells.lookup x.1).isSome = true) →
    (forIn names acc (fun (x : Str × NameKind) (cs : List (Str × Addr)) => match x with
      | (name, kind) => if kind == .free then (do let a ← cellOf env name; pure (ForInStep.yield ((name, a) :: cs))) else pure (ForInStep.yield cs)) : Sem (List (Str × Addr))) = pure (closL cells names acc)
  | [], acc, _ => rfl
  | (n, k) :: r, acc, h => by
    rw [List.forIn_cons]
    have ih := fun acc' => clos_for he r acc' fun x hx => h x (List.mem_cons_of_mem _ hx)
    cases hk : k == NameKind.free with
    | false =>
      simp only [hk, Bool.false_eq_true, if_false, pure_bind]
      rw [ih]
      simp [closL, hk]
    | true =>
      have hs := h (n, k) List.mem_cons_self (by simpa using hk)
      obtain ⟨c, hc⟩ := Option.isSome_iff_exists.mp hs
      have hcell : cellOf env n = pure c := by unfold cellOf; rw [he, hc]
      simp only [hk, if_true, hcell, pure_bind]
      rw [ih]
      simp [closL, hk, hc]

theorem closureFor_is {scope : Scope} {env : Env} (h : ∀ x ∈ scope.names, x.2 = .free → (env.cells.lookup x.1).isSome = true) : closureFor scope env = pure (closL env.cells scope.names []) := by
  have e := clos_for (cells := env.cells) (env := env) rfl scope.names [] h
  unfold closureFor
  have e2 : (forIn scope.names ([] : List (Str × Addr)) (fun (x : Str × NameKind) (cs : List (Str × Addr)) => match x with
      | (name, kind) => if kind == .free then (do let a ← cellOf env name; pure (ForInStep.yield ((name, a) :: cs))) else pure (ForInStep.yield cs)) : Sem (List (Str × Addr))) >>= pure = pure (closL env.cells scope.names []) := by rw [e, pure_bind]
  rw [← e2]

theorem closL_acc {cells : List (Str × Addr)} {y : Str} : ∀ (names : List (Str × NameKind)) (acc : List (Str × Addr)) (v : Addr), acc.lookup y = some v → cells.lookup y = some v → (closL cells names acc).lookup y = some v
  | [], acc, v, h, _ => h
  | (n, k) :: r, acc, v, h, hc => by
    unfold closL
    split
    · refine closL_acc r _ v ?_ hc
      rw [List.lookup_cons]
      split
      · rename_i q
        have : y = n := by simpa using q
        subst this
        rw [hc]; rfl
      · exact h
    · exact closL_acc r _ v h hc
theorem closL_at {cells : List (Str × Addr)} {y : Str} : ∀ (names : List (Str × NameKind)) (acc : List (Str × Addr)) (v : Addr), (y, .free) ∈ names → cells.lookup y = some v → (closL cells names acc).lookup y = some v
  | (n, k) :: r, acc, v, h, hc => by
    unfold closL
    rcases List.mem_cons.mp h with e | h
    · cases e
      simp only [beq_self_eq_true, if_true]
      exact closL_acc r _ v (by rw [List.lookup_cons]; simp [hc]) hc
    · split <;> exact closL_at r _ v h hc

/-- a comprehension's scope, seen from the kinds of the names around it -/
noncomputable def scOk (K : Str → Option NameKind) (tgs : List Str) (names : List (Str × NameKind)) : Bool :=
  names.all fun x => match x.2 with
    | .local => (tgs.contains x.1 || x.1 == (".0" : Str)) && (names.lookup x.1 == some .local)
    | .free => K x.1 == some .cell
    | .cell => false
    | _ => true
noncomputable def Tg.names : Tg → List Str
  | .one x => [(tb[x]?).getD ""]
  | .two x y => [(tb[x]?).getD "", (tb[y]?).getD ""]
/-- the kinds of the names in a comprehension -/
noncomputable def kdC (K : Str → Option NameKind) (names : List (Str × NameKind)) : Str → Option NameKind := fun x =>
  (names.map fun (n, k) => if (k == .free && K n == some .cell) then (n, NameKind.cell) else (n, k)).lookup x
theorem kdC_is {env : Env} {scope : Scope} {cl : List (Str × Addr)} {C : Addr} (hk : env.scope.kind = .function) : (compEnvC scope cl C env).kindOf = kdC env.kindOf scope.names := by
  funext x
  simp only [Env.kindOf, compEnvC, relabel, kdC, hk]
  simp

theorem kdC_look {K : Str → Option NameKind} {x : Str} {k : NameKind} : ∀ {names : List (Str × NameKind)}, kdC K names x = some k → ∃ k', (x, k') ∈ names ∧ ((k' = .free ∧ K x = some .cell ∧ k = .cell) ∨ (k' = k ∧ ¬ (k' = .free ∧ K x = some .cell)))
  | [], h => by simp [kdC] at h
  | (n, k') :: r, h => by
    have ih := @kdC_look K x k r
    simp only [kdC, List.map_cons] at h ih
    by_cases c : (k' == .free && K n == some .cell) = true
    · rw [if_pos c, List.lookup_cons] at h
      split at h
      · rename_i q
        have : x = n := by simpa using q
        subst this
        cases h
        simp at c
        exact ⟨k', List.mem_cons_self, .inl ⟨c.1, c.2, rfl⟩⟩
      · obtain ⟨k'', m, q⟩ := ih h
        exact ⟨k'', List.mem_cons_of_mem _ m, q⟩
    · rw [if_neg c, List.lookup_cons] at h
      split at h
      · rename_i q
        have : x = n := by simpa using q
        subst this
        cases h
        exact ⟨_, List.mem_cons_self, .inr ⟨rfl, fun z => c (by simp [z.1, z.2])⟩⟩
      · obtain ⟨k'', m, q⟩ := ih h
        exact ⟨k'', List.mem_cons_of_mem _ m, q⟩

/-- an environment in which we walk -/
structure EnvOk (env : Env) (H : List Addr) : Prop where
  kind : env.scope.kind = .function
  glob : env.globals = mainGlobals
  bui : env.builtins = builtinsNs
  loc : env.locals ∈ H
  cell : ∀ x c, env.cells.lookup x = some c → c ∈ H
  has : ∀ x, env.kindOf x = some .cell → (env.cells.lookup x).isSome = true

noncomputable def clearAll (tgs : List Nat) (ρ : Rho) : Rho := fun i => if tgs.contains i then none else ρ i

theorem tb_dot : (".0" : Str) ∉ tb := by decide +kernel
theorem comp_env {env : Env} {scope : Scope} {C : Addr} {H H' : List Addr} {g g' : GS} {ρ ρ' : Rho} {tgs : List Str} (ok : EnvOk env H) (hsc : scOk env.kindOf tgs scope.names = true)
    (hρ : ∀ i p, ρ' i = some p → ρ i = some p ∧ ∀ x, tb[i]? = some x → x ∉ tgs)
    (r : EnvR env H g ρ) (k : Le (hv H g) (hv H' g')) (kc : ∀ y c o, env.cells.lookup y = some c → g.h.get? c = some o → g'.h.get? c = some o) :
    EnvR (compEnvC scope (closL env.cells scope.names []) C env) H' g' ρ' := by
  intro i x p e hk hp
  obtain ⟨hp, hn⟩ := hρ i p hp
  rw [kdC_is ok.kind] at hk
  have key : ∀ k, kdC env.kindOf scope.names x = some k → (k = .local ∨ k = .cell ∨ k = .free) → k = .cell ∧ (x, NameKind.free) ∈ scope.names ∧ env.kindOf x = some .cell := fun k h3 hkk => by
    obtain ⟨k', m, q⟩ := kdC_look h3
    have hm := List.all_eq_true.mp hsc _ m
    rcases q with ⟨rfl, kx, rfl⟩ | ⟨rfl, nn⟩
    · exact ⟨rfl, m, kx⟩
    · rcases hkk with rfl | rfl | rfl
      · simp at hm
        rcases hm.1 with h | h
        · exact absurd h (hn x e)
        · exact absurd (tb_mem e) (h ▸ tb_dot)
      · simp at hm
      · simp at hm
        exact absurd ⟨rfl, hm⟩ nn
  have key' : kdC env.kindOf scope.names x = some .cell ∧ (x, NameKind.free) ∈ scope.names ∧ env.kindOf x = some .cell := by
    rcases hk with hk | hk | hk
    · obtain ⟨q, _⟩ := key _ hk (by simp); cases q
    · exact ⟨hk, (key _ hk (by simp)).2⟩
    · obtain ⟨q, _⟩ := key _ hk (by simp); cases q
  obtain ⟨kx, hm, kc'⟩ := key'
  obtain ⟨v, n, rv⟩ := r i x p e (.inr (.inl kc')) hp
  refine ⟨v, .inr ⟨.inl (by rw [kdC_is ok.kind]; exact kx), ?_⟩, rv.grow k⟩
  rcases n with ⟨kl, _⟩ | ⟨_, c, hc, o, ho, hd⟩
  · rw [kc'] at kl; cases kl
  · exact ⟨c, closL_at _ _ _ hm hc, o, kc x c o hc ho, hd⟩

section
variable {prog : Program} {w : World} {A : Around}

theorem turn1 (elt target iter : Expr) (ifs : List Expr) (scope : Scope) (pos : Pos) (it acc : Value) (env : Env) (s : Shared) (Q : Fin → Shared → Prop) (E : Value → Shared → Prop)
    (h : ∀ E', wpAny (model prog w) A (pyNext it) (fun r s₁ => match r with
      | none => Q (.done .next) s₁
      | some v => wpAny (model prog w) A (letOwnedTupleGo target it v) (fun _ s₂ => wpAny (model prog w) A (assign target env v) (fun _ s₃ =>
          wpAny (model prog w) A (forIn ifs true fun c r => if r = true then do let ok ← isTrue c env (eval c env); pure (ForInStep.yield ok) else pure (ForInStep.yield r)) (fun ok s₃ =>
            if ok = true then wpAny (model prog w) A (eval elt env) (fun x s₄ => wpAny (model prog w) A (call (.builtin "list.append") [acc, x]) (fun _ s₅ => Q (.again (.compLoop (.ListComp elt [⟨target, iter, ifs, 0⟩] scope pos) 0 it acc env)) s₅) E' s₄) E' s₃
            else Q (.again (.compLoop (.ListComp elt [⟨target, iter, ifs, 0⟩] scope pos) 0 it acc env)) s₃) E' s₃) E' s₂) E' s₁) E' s) :
    wpAny (model prog w) (A.under (.compLoop (.ListComp elt [⟨target, iter, ifs, 0⟩] scope pos) 0 it acc env)) ((model prog w).den (.compLoop (.ListComp elt [⟨target, iter, ifs, 0⟩] scope pos) 0 it acc env)) Q E s := by
  show wpAny _ A ((compTurn (.ListComp elt [⟨target, iter, ifs, 0⟩] scope pos) 0 it acc env).onRaise (fun x => do noteFrame x env; theTreesLotGoes x)) _ _ s
  refine wpAny_noted ?_
  rw [compTurn_list]
  refine wpAny_bind (wpAny_standAt (wpAny_bind (wpAny_mono (h _) (fun r s₁ h₁ => ?_) fun _ _ h' => h')))
  cases r with
  | none => exact wpAny_pure h₁
  | some v =>
    refine wpAny_bind (wpAny_mono h₁ (fun _ s₁' h₁' => ?_) fun _ _ h' => h')
    refine wpAny_bind (wpAny_mono h₁' (fun _ s₂ h₂ => wpAny_bind (wpAny_mono h₂ (fun ok s₃ h₃ => ?_) fun _ _ h' => h')) fun _ _ h' => h')
    cases ok with
    | false => exact wpAny_pure h₃
    | true =>
      exact wpAny_bind (wpAny_bind (wpAny_mono h₃ (fun x s₄ h₄ => wpAny_bind (wpAny_mono h₄ (fun _ s₅ h₅ => wpAny_pure (wpAny_pure h₅)) fun _ _ h' => h')) fun _ _ h' => h'))

theorem compTurn_in (elt t1 i1 t2 i2 : Expr) (ifs1 ifs2 : List Expr) (scope : Scope) (pos : Pos) (it acc : Value) (env : Env) :
    compTurn (.ListComp elt [⟨t1, i1, ifs1, 0⟩, ⟨t2, i2, ifs2, 0⟩] scope pos) 1 it acc env = (do
      standAt i2.pos
      match ← pyNext it with
      | none => pure (.done .next)
      | some v =>
        letOwnedTupleGo t2 it v
        assign t2 env v
        let mut ok := true
        for c in ifs2 do
          if ok then ok ← isTrue c env (eval c env)
        if ok then
          (do let _ ← call (.builtin "list.append") [acc, ← eval elt env])
        again (.compLoop (.ListComp elt [⟨t1, i1, ifs1, 0⟩, ⟨t2, i2, ifs2, 0⟩] scope pos) 1 it acc env)) := by rfl

theorem turn2in (elt t1 i1 t2 i2 : Expr) (ifs1 ifs2 : List Expr) (scope : Scope) (pos : Pos) (it acc : Value) (env : Env) (s : Shared) (Q : Fin → Shared → Prop) (E : Value → Shared → Prop)
    (h : ∀ E', wpAny (model prog w) A (pyNext it) (fun r s₁ => match r with
      | none => Q (.done .next) s₁
      | some v => wpAny (model prog w) A (letOwnedTupleGo t2 it v) (fun _ s₂ => wpAny (model prog w) A (assign t2 env v) (fun _ s₃ =>
          wpAny (model prog w) A (forIn ifs2 true fun c r => if r = true then do let ok ← isTrue c env (eval c env); pure (ForInStep.yield ok) else pure (ForInStep.yield r)) (fun ok s₃ =>
            if ok = true then wpAny (model prog w) A (eval elt env) (fun x s₄ => wpAny (model prog w) A (call (.builtin "list.append") [acc, x]) (fun _ s₅ => Q (.again (.compLoop (.ListComp elt [⟨t1, i1, ifs1, 0⟩, ⟨t2, i2, ifs2, 0⟩] scope pos) 1 it acc env)) s₅) E' s₄) E' s₃
            else Q (.again (.compLoop (.ListComp elt [⟨t1, i1, ifs1, 0⟩, ⟨t2, i2, ifs2, 0⟩] scope pos) 1 it acc env)) s₃) E' s₃) E' s₂) E' s₁) E' s) :
    wpAny (model prog w) (A.under (.compLoop (.ListComp elt [⟨t1, i1, ifs1, 0⟩, ⟨t2, i2, ifs2, 0⟩] scope pos) 1 it acc env)) ((model prog w).den (.compLoop (.ListComp elt [⟨t1, i1, ifs1, 0⟩, ⟨t2, i2, ifs2, 0⟩] scope pos) 1 it acc env)) Q E s := by
  show wpAny _ A ((compTurn (.ListComp elt [⟨t1, i1, ifs1, 0⟩, ⟨t2, i2, ifs2, 0⟩] scope pos) 1 it acc env).onRaise (fun x => do noteFrame x env; theTreesLotGoes x)) _ _ s
  refine wpAny_noted ?_
  rw [compTurn_in]
  refine wpAny_bind (wpAny_standAt (wpAny_bind (wpAny_mono (h _) (fun r s₁ h₁ => ?_) fun _ _ h' => h')))
  cases r with
  | none => exact wpAny_pure h₁
  | some v =>
    refine wpAny_bind (wpAny_mono h₁ (fun _ s₁' h₁' => ?_) fun _ _ h' => h')
    refine wpAny_bind (wpAny_mono h₁' (fun _ s₂ h₂ => wpAny_bind (wpAny_mono h₂ (fun ok s₃ h₃ => ?_) fun _ _ h' => h')) fun _ _ h' => h')
    cases ok with
    | false => exact wpAny_pure h₃
    | true =>
      exact wpAny_bind (wpAny_bind (wpAny_mono h₃ (fun x s₄ h₄ => wpAny_bind (wpAny_mono h₄ (fun _ s₅ h₅ => wpAny_pure (wpAny_pure h₅)) fun _ _ h' => h')) fun _ _ h' => h'))

theorem compTurn_out (elt t1 i1 t2 i2 : Expr) (ifs2 : List Expr) (scope : Scope) (pos : Pos) (it acc : Value) (env : Env) :
    compTurn (.ListComp elt [⟨t1, i1, [], 0⟩, ⟨t2, i2, ifs2, 0⟩] scope pos) 0 it acc env = (do
      standAt i1.pos
      match ← pyNext it with
      | none => pure (.done .next)
      | some v =>
        letOwnedTupleGo t1 it v
        assign t1 env v
        let x ← eval i2 env
        standAt i2.pos
        let x ← foldedSetIterable i2 env x
        let _ ← runOwn (.compStart (.ListComp elt [⟨t1, i1, [], 0⟩, ⟨t2, i2, ifs2, 0⟩] scope pos) 1 (← holding [x] (pyIter x)) acc env) env
        again (.compLoop (.ListComp elt [⟨t1, i1, [], 0⟩, ⟨t2, i2, ifs2, 0⟩] scope pos) 0 it acc env)) := by rfl

theorem turn2out (elt t1 i1 t2 i2 : Expr) (ifs2 : List Expr) (scope : Scope) (pos : Pos) (it acc : Value) (env : Env) (s : Shared) (Q : Fin → Shared → Prop) (E : Value → Shared → Prop)
    (hs : ∀ x, foldedSetIterable i2 env x = pure x)
    (h : ∀ E', wpAny (model prog w) A (pyNext it) (fun r s₁ => match r with
      | none => Q (.done .next) s₁
      | some v => wpAny (model prog w) A (letOwnedTupleGo t1 it v) (fun _ s₂ => wpAny (model prog w) A (assign t1 env v) (fun _ s₃ =>
          wpAny (model prog w) A (eval i2 env) (fun x s₄ => wpAny (model prog w) A (pyIter x) (fun it2 s₅ =>
            codeAny (model prog w) A (.compStart (.ListComp elt [⟨t1, i1, [], 0⟩, ⟨t2, i2, ifs2, 0⟩] scope pos) 1 it2 acc env) (fun r s' => match r with
              | .ok _ => Q (.again (.compLoop (.ListComp elt [⟨t1, i1, [], 0⟩, ⟨t2, i2, ifs2, 0⟩] scope pos) 0 it acc env)) s'
              | .error e => cameBackBy (model prog w) A env E' e s') s₅) E' s₄) E' s₃) E' s₂) E' s₁) E' s) :
    wpAny (model prog w) (A.under (.compLoop (.ListComp elt [⟨t1, i1, [], 0⟩, ⟨t2, i2, ifs2, 0⟩] scope pos) 0 it acc env)) ((model prog w).den (.compLoop (.ListComp elt [⟨t1, i1, [], 0⟩, ⟨t2, i2, ifs2, 0⟩] scope pos) 0 it acc env)) Q E s := by
  show wpAny _ A ((compTurn (.ListComp elt [⟨t1, i1, [], 0⟩, ⟨t2, i2, ifs2, 0⟩] scope pos) 0 it acc env).onRaise (fun x => do noteFrame x env; theTreesLotGoes x)) _ _ s
  refine wpAny_noted ?_
  rw [compTurn_out]
  refine wpAny_bind (wpAny_standAt (wpAny_bind (wpAny_mono (h _) (fun r s₁ h₁ => ?_) fun _ _ h' => h')))
  cases r with
  | none => exact wpAny_pure h₁
  | some v =>
    refine wpAny_bind (wpAny_mono h₁ (fun _ s₁' h₁' => ?_) fun _ _ h' => h')
    refine wpAny_bind (wpAny_mono h₁' (fun _ s₂ h₂ => wpAny_bind (wpAny_mono h₂ (fun x s₃ h₃ => ?_) fun _ _ h' => h')) fun _ _ h' => h')
    refine wpAny_bind (wpAny_standAt (wpAny_bind (wpAny_of_eq (hs x) (wpAny_bind (wpAny_holding (wpAny_mono h₃ (fun it2 s₅ h₅ => ?_) fun _ _ h' => h'))))))
    exact wpAny_bind (wpAny_runOwn (codeAny_mono h₅ fun r s' hr => by
      cases r with
      | ok f => exact wpAny_pure hr
      | error e => exact hr))

theorem start_in {elt t1 i1 t2 i2 ifs1 ifs2 scope pos it acc env} {R : Result → Shared → Prop} {s : Shared}
    (h0 : codeAny (model prog w) A (.compLoop (.ListComp elt [⟨t1, i1, ifs1, 0⟩, ⟨t2, i2, ifs2, 0⟩] scope pos) 1 it acc env) R s)
    (h : wpAny (model prog w) A (pyIter it) (fun it' s' => codeAny (model prog w) A (.compLoop (.ListComp elt [⟨t1, i1, ifs1, 0⟩, ⟨t2, i2, ifs2, 0⟩] scope pos) 1 it' acc env) R s')
      (notedBy (model prog w) A env fun x s' => R (.error x) s') s) :
    codeAny (model prog w) A (.compStart (.ListComp elt [⟨t1, i1, ifs1, 0⟩, ⟨t2, i2, ifs2, 0⟩] scope pos) 1 it acc env) R s := by
  refine codeAny_of_tree ?_
  show wpAny _ _ ((compStart (.ListComp elt [⟨t1, i1, ifs1, 0⟩, ⟨t2, i2, ifs2, 0⟩] scope pos) 1 it acc env).onRaise (fun x => do noteFrame x env; standAt theWindowsPlace)) _ _ s
  refine wpAny_notedAt ?_
  unfold compStart
  show wpAny _ _ (ask >>= _) _ _ s
  refine wpAny_bind (wpAny_askSetting (wpAny_ite ?_))
  split
  · first
      | exact wpAny_bind (wpAny_pure (wpAny_pure (And.intro rfl h0)))
      | exact wpAny_pure (And.intro rfl h0)
  · first
      | exact wpAny_bind (wpAny_rule (wpAny_bind (wpAny_standAt (wpAny_bind (wpAny_mono h (fun it' s' h' => wpAny_pure (And.intro rfl h')) fun _ _ x => x)))))
      | (refine wpAny_bind (wpAny_rule ?_); show wpAny _ _ (standAt i2.pos >>= _) _ _ s; exact wpAny_bind (wpAny_standAt (wpAny_bind (wpAny_mono h (fun it' s' h' => wpAny_pure (And.intro rfl h')) fun _ _ x => x))))
end
end Mine

-- M9
namespace Mine

theorem closL_in {env : Env} {H : List Addr} (ok : EnvOk env H) : ∀ (names : List (Str × NameKind)) (acc : List (Str × Addr)) x c, (∀ x c, acc.lookup x = some c → c ∈ H) → (∀ y ∈ names, y.2 = .free → (env.cells.lookup y.1).isSome = true) → (closL env.cells names acc).lookup x = some c → c ∈ H := by
    intro names
    induction names with
    | nil => intro acc x c h _ e; exact h x c e
    | cons a r ih =>
      intro acc x c h hn e
      obtain ⟨n, k⟩ := a
      unfold closL at e
      split at e
      · rename_i hk
        refine ih _ x c (fun x' c' e' => ?_) (fun y hy => hn y (List.mem_cons_of_mem _ hy)) e
        rw [List.lookup_cons] at e'
        split at e'
        · cases e'
          have := hn (n, k) List.mem_cons_self (by simpa using hk)
          obtain ⟨c0, hc0⟩ := Option.isSome_iff_exists.mp this
          have hc0' : env.cells.lookup n = some c0 := hc0
          rw [hc0']; exact ok.cell _ _ hc0'
        · exact h _ _ e'
      · exact ih _ x c h (fun y hy => hn y (List.mem_cons_of_mem _ hy)) e
theorem envOk_comp {env : Env} {H H' : List Addr} {scope : Scope} {C : Addr} (ok : EnvOk env H) (hks : scope.kind = .function) (hsc : ∃ tgs, scOk env.kindOf tgs scope.names = true) (hC : C ∈ H') (hs : ∀ a ∈ H, a ∈ H') :
    EnvOk (compEnvC scope (closL env.cells scope.names []) C env) H' := by
  obtain ⟨tgs, hsc⟩ := hsc
  have look : ∀ x k, kdC env.kindOf scope.names x = some k → k = .cell → (x, NameKind.free) ∈ scope.names ∧ env.kindOf x = some .cell := fun x k h e => by
    subst e
    obtain ⟨k', m, q⟩ := kdC_look h
    have hm := List.all_eq_true.mp hsc _ m
    rcases q with ⟨rfl, kx, _⟩ | ⟨rfl, nn⟩
    · exact ⟨m, kx⟩
    · simp at hm
  have hfree : ∀ y ∈ scope.names, y.2 = .free → (env.cells.lookup y.1).isSome = true := fun y hy e => by
    have hm := List.all_eq_true.mp hsc _ hy
    rw [e] at hm
    exact ok.has _ (by simpa using hm)
  refine ⟨by show (relabel scope env).kind = _; exact hks, ok.glob, ok.bui, hC, fun x c h => hs _ (closL_in ok _ _ x c (fun _ _ e => by simp at e) hfree h), fun x h => ?_⟩
  rw [kdC_is ok.kind] at h
  obtain ⟨hm, hx⟩ := look x _ h rfl
  obtain ⟨c, hc⟩ := Option.isSome_iff_exists.mp (ok.has x hx)
  exact Option.isSome_iff_exists.mpr ⟨c, closL_at _ _ _ hm hc⟩

theorem sc_parts {K : Str → Option NameKind} {tgs : List Str} {names : List (Str × NameKind)} (h : scOk K tgs names = true) : (∀ y ∈ names, y.2 ≠ .cell) ∧ (∀ y ∈ names, y.2 = .local → names.lookup y.1 = some .local) ∧ ∀ y ∈ names, y.2 = .free → K y.1 = some .cell := by
  have hm := List.all_eq_true.mp h
  refine ⟨fun y hy e => ?_, fun y hy e => ?_, fun y hy e => ?_⟩
  · have := hm y hy; rw [e] at this; simp at this
  · have := hm y hy; rw [e] at this; simp at this; exact this.2
  · have := hm y hy; rw [e] at this; simpa using this

theorem free_has {env : Env} {H : List Addr} {scope : Scope} {tgs : List Str} (ok : EnvOk env H) (h : scOk env.kindOf tgs scope.names = true) : ∀ x ∈ scope.names, x.2 = .free → (env.cells.lookup x.1).isSome = true := fun x hx e =>
  ok.has _ ((sc_parts h).2.2 x hx e)

theorem Tg.names_is {K : Str → Option NameKind} {tg : Tg} {e : Expr} (t : tg.Is K e) : ∀ i p x, ∀ ρ : Rho, tg.clear ρ i = some p → tb[i]? = some x → x ∉ tg.names := by
  intro i p x ρ h hx hm
  cases tg with
  | one a =>
    obtain ⟨n, px, _, hn, _⟩ := t
    simp only [Tg.names, hn, Option.getD_some, List.mem_singleton] at hm
    subst hm
    have := tb_inj hx hn
    subst this
    simp [Tg.clear, upd_at] at h
  | two a b =>
    obtain ⟨n, m, px, py, k, pos, _, hn, hm', _, _⟩ := t
    simp only [Tg.names, hn, hm', Option.getD_some, List.mem_cons, List.not_mem_nil, or_false] at hm
    rcases hm with rfl | rfl
    · have := tb_inj hx hn
      subst this
      by_cases q : i = b
      · subst q; simp [Tg.clear, upd_at] at h
      · simp [Tg.clear, upd_ne q, upd_at] at h
    · have := tb_inj hx hm'
      subst this
      simp [Tg.clear, upd_at] at h
theorem Tg.clear_le {tg : Tg} {ρ : Rho} : ∀ i p, tg.clear ρ i = some p → ρ i = some p := by
  intro i p h
  cases tg with
  | one a =>
    by_cases q : i = a
    · subst q; simp [Tg.clear, upd_at] at h
    · simpa [Tg.clear, upd_ne q] using h
  | two a b =>
    by_cases q : i = b
    · subst q; simp [Tg.clear, upd_at] at h
    · by_cases q' : i = a
      · subst q'; simp [Tg.clear, upd_ne q, upd_at] at h
      · simpa [Tg.clear, upd_ne q, upd_ne q'] using h

section
variable {prog : Program} {w : World} {A : Around} {E : Value → Shared → Prop} {env : Env} {H : List Addr} {ρ : Rho} {s s₁ s₂ : Shared} {T T₁ : TM} {tg : Tg} {psl : List (List PV)} {F : List PV → Option (List PV)} {rs : List PV} {it : Value}

/-- what a comprehension's element has to answer -/
noncomputable def EltOk (prog : Program) (w : World) (A : Around) (env : Env) (scope : Scope) (H : List Addr) (h₀ : Heap) (tg : Tg) (ρ : Rho) (psl : List (List PV)) (F : List PV → Option (List PV)) (ifs : List Expr) (elt : Expr) : Prop :=
  ∀ (C : Addr) (H' : List Addr) (s' : Shared) (T' : TM) (ps qs : List PV), ps ∈ psl → F ps = some qs → EnvOk (compEnvC scope (closL env.cells scope.names []) C env) H' →
    EnvR (compEnvC scope (closL env.cells scope.names []) C env) H' (gs s' T') (tg.bind ps (tg.clear ρ)) → TDom T' s'.toks → Laid H' s'.heap → Grow h₀ s'.heap →
    ∀ E', wpAny (model prog w) A (forIn ifs true fun c r => if r = true then do let ok ← isTrue c (compEnvC scope (closL env.cells scope.names []) C env) (eval c (compEnvC scope (closL env.cells scope.names []) C env)); pure (ForInStep.yield ok) else pure (ForInStep.yield r))
      (fun ok s₄ => ∃ T₄, Goes s' T' s₄ T₄ ∧ s'.toks ≤ s₄.toks ∧ ((ok = false ∧ qs = []) ∨ (ok = true ∧ ∃ q, qs = [q] ∧ Ok (model prog w) A (eval elt (compEnvC scope (closL env.cells scope.names []) C env)) s₄ T₄ (fun v g => Rep (hv H' g) v q)))) E' s'

theorem Rep.hvg {H H' : List Addr} {h h' : Heap} {T : TM} {v : Value} {p : PV} (k : Grow (hideAll h H) (hideAll h' H')) (r : Rep (hv H ⟨h, T⟩) v p) : Rep (hv H' ⟨h', T⟩) v p :=
  have l : Le (hv H ⟨h, T⟩) (hv H' ⟨h', T⟩) := ⟨k, TExt.refl _⟩
  r.grow l
theorem hv_drop {C : Addr} {H : List Addr} {h h' : Heap} (hs : Heap.SameBut C h h') : Grow (hideAll h (C :: H)) (hideAll h' H) := fun b o e => by
  have n := hv_notin e
  exact hv_in (hs.extBut b o (fun q => n (by simp [q])) (hv_of e)) fun q => n (by simp [q])

theorem comp1_core {elt target iter : Expr} {ifs : List Expr} {scope : Scope} {pos : Pos} {RR : Value → Addr → Result → Shared → Prop}
    (hh : A.handled = none) (ok : EnvOk env H) (hks : scope.kind = .function) (hsc : scOk env.kindOf tg.names scope.names = true) (ht : tg.Is (kdC env.kindOf scope.names) target)
    (tn : Tn prog w A target tg H s₁ T₁ psl it s₂) (ct : s₁.toks ≤ s₂.toks) (L : Laid H s₁.heap) (dom : TDom T₁ s₁.toks) (r : EnvR env H (gs s₁ T₁) ρ)
    (hF : runC F psl = some rs) (hsz : rs.length ≤ sizeLine) (helt : EltOk prog w A env scope H s₁.heap tg ρ psl F ifs elt)
    (hRR : ∀ D C s' T', s₁.heap.get? C = none → Cg s₁ T₁ s' T' → Grow s₁.heap s'.heap → (∃ m, s'.heap.Ns C m) → Rep (hv (C :: H) (gs s' T')) (.ref D) (.lst rs) → RR (.ref D) C (.ok .next) s') :
    wpAny (model prog w) A (newList []) (fun acc s₃ => wpAny (model prog w) A (newFunctionEnv scope env.globals (closL env.cells scope.names []) [] env.qual none .none (some env)) (fun cenv s₄ =>
      codeAny (model prog w) A (.compStart (.ListComp elt [⟨target, iter, ifs, 0⟩] scope pos) 0 it acc { cenv with scope := relabel scope env }) (RR acc cenv.locals) s₄) E s₃) E s₂ := by
  have k12 : Grow s₁.heap s₂.heap := by obtain ⟨_, _, _, _, _, _, _, _, _, _, _, _, _, _, hg⟩ := tn; exact keeps_grow hg.k
  refine wpAny_newObj_type (wpAny_newFunctionEnv (sc_parts hsc).1 (by intro y hy; simp at hy) (fun h₁ hns₁ hsb₁ => ?_) hks)
  dsimp only at hns₁ hsb₁ ⊢
  generalize hH2 : s₂.heap.push { cls := .type "list", dict := none, data := .seq ([] : List Value).toArray } = H2 at hns₁ hsb₁ ⊢
  have hC : H2.objs.size = s₂.heap.objs.size + 1 := by rw [← hH2, Heap.size_push]
  have hDC : s₂.heap.objs.size ≠ H2.objs.size := by rw [hC]; exact Nat.ne_of_lt (Nat.lt_succ_self _)
  have hCle : s₂.heap.objs.size ≤ H2.objs.size := by rw [hC]; exact Nat.le_succ _
  have below : ∀ b, b < s₂.heap.objs.size → b ≠ H2.objs.size ∧ b ≠ s₂.heap.objs.size := fun b hb => ⟨by rw [hC]; exact Nat.ne_of_lt (Nat.lt_succ_of_lt hb), Nat.ne_of_lt hb⟩
  have old : Grow s₂.heap h₁ := fun b o e => hsb₁.extBut b o (below b (Heap.lt_size e)).1 (Heap.get?_push_of_some _ (hH2 ▸ Heap.get?_push_of_some _ e))
  have hacc : h₁.PlainList s₂.heap.objs.size #[] := ⟨_, hsb₁.extBut _ _ hDC (Heap.get?_push_of_some _ (hH2 ▸ Heap.get?_push_size _ rfl))⟩
  have fresh₂ : ∀ a, s₂.heap.objs.size ≤ a → s₂.heap.get? a = none := fun a ha => by
    cases e : s₂.heap.get? a with
    | none => rfl
    | some o' => exact absurd (Heap.lt_size e) (Nat.not_lt.mpr ha)
  have fresh : ∀ a, s₂.heap.objs.size ≤ a → s₁.heap.get? a = none := fun a ha => by
    cases e : s₁.heap.get? a with
    | none => rfl
    | some o' => have := k12 _ _ e; rw [fresh₂ a ha] at this; cases this
  have loop : ∀ s₃ : Shared, s₃ = { s₂ with heap := h₁, toks := s₂.toks + ([] : List (Str × Value)).length } →
      codeAny (model prog w) A (.compLoop (.ListComp elt [⟨target, iter, ifs, 0⟩] scope pos) 0 it (.ref s₂.heap.objs.size) (compEnvC scope (closL env.cells scope.names []) H2.objs.size env))
        (RR (.ref s₂.heap.objs.size) H2.objs.size) s₃ := by
    rintro s₃ rfl
    refine comp_loop (tg := tg) (e := target) (cenv := compEnvC scope (closL env.cells scope.names []) H2.objs.size env) (H := H) (s₁ := s₁) (T₁ := T₁) (s₂ := s₂) (psl := psl) (F := F) (rs := rs) (rs0 := []) (D := s₂.heap.objs.size) (ρ0 := ρ) (ys0 := [])
      (bw := fun Q E s => wpAny (model prog w) A (forIn ifs true fun c r => if r = true then do let ok ← isTrue c (compEnvC scope (closL env.cells scope.names []) H2.objs.size env) (eval c (compEnvC scope (closL env.cells scope.names []) H2.objs.size env)); pure (ForInStep.yield ok) else pure (ForInStep.yield r)) (fun ok s₃ =>
            if ok = true then wpAny (model prog w) A (eval elt (compEnvC scope (closL env.cells scope.names []) H2.objs.size env)) (fun x s₄ => wpAny (model prog w) A (call (.builtin "list.append") [.ref s₂.heap.objs.size, x]) (fun _ s₅ => Q () s₅) E s₄) E s₃
            else Q () s₃) E s)
      rfl (fun Q Q' E s h hq => wpAny_mono h (fun ok s' hb => ?_) fun _ _ x => x) (fun s Q E h => turn1 _ _ _ _ _ _ _ _ _ _ _ _ h) hks (by rw [kdC_is ok.kind]; exact ht) hh
      (.inr ⟨fresh _ hCle, hCle⟩) (.inr ⟨fresh _ (Nat.le_refl _), Nat.le_refl _⟩) hDC tn ct old (Cg.mk' s₂ T₁ h₁ _ (Nat.le_add_right _ _)) ⟨_, hns₁⟩ hacc L dom (fun _ _ => .nil) (fun wr hwr => ?_) hF (by simpa using hsz) (fun x c hc => ?_)
      (fun wr s T ps qs ys rs' hwr hps hq cg k he hd hL hn hD hr hsz' E' => ?_) (fun wr s' T' ys hwr cg k hn hD hr he => ?_)
    · split at hb
      · rename_i hok
        rw [if_pos hok]
        exact wpAny_mono hb (fun x s₄ h₄ => wpAny_mono h₄ (fun _ s₅ h₅ => hq _ h₅) fun _ _ x => x) fun _ _ x => x
      · rename_i hok
        rw [if_neg hok]
        exact hq _ hb
    · have hf : ∀ b ∈ H2.objs.size :: s₂.heap.objs.size :: wr, b ∈ H ∨ s₁.heap.get? b = none := fun b hb => by
        rcases List.mem_cons.mp hb with rfl | hb
        · exact .inr (fresh _ hCle)
        · rcases List.mem_cons.mp hb with rfl | hb
          · exact .inr (fresh _ (Nat.le_refl _))
          · exact .inr (hwr b hb)
      exact comp_env ok hsc (fun i p h => ⟨Tg.clear_le i p h, fun x hx => Tg.names_is ht i p x ρ h hx⟩) r
        (le_ext (g₁ := gs s₁ T₁) (g₂ := ⟨h₁, T₁⟩) hf (k12.trans old).toX (TExt.refl _)) fun y c o _ e => (k12.trans old) c o e
    · have hc' : c ∈ H := closL_in ok _ _ x c (fun _ _ e => by simp at e) (free_has ok hsc) hc
      obtain ⟨o, e⟩ := L c hc'
      have hlt := Heap.lt_size (k12 _ _ e)
      exact ⟨o, e, (below c hlt).2, (below c hlt).1⟩
    · have hf : ∀ b ∈ H2.objs.size :: s₂.heap.objs.size :: wr, s₁.heap.get? b = none := fun b hb => by
        rcases List.mem_cons.mp hb with rfl | hb
        · exact fresh _ hCle
        · rcases List.mem_cons.mp hb with rfl | hb
          · exact fresh _ (Nat.le_refl _)
          · exact hwr b hb
      have ok' := envOk_comp (C := H2.objs.size) (H' := (H2.objs.size :: s₂.heap.objs.size :: wr) ++ H) ok hks ⟨_, hsc⟩ (by simp) fun a ha => List.mem_append_right _ ha
      refine wpAny_mono (helt H2.objs.size _ s T ps qs hps hq ok' he hd hL (k.grow hf) E') (fun okk s₄ h₄ => ?_) fun _ _ x => x
      obtain ⟨T₄, g₄, t₄, hcase⟩ := h₄
      have kg₄ := keeps_grow g₄.k
      rcases hcase with ⟨rfl, rfl⟩ | ⟨rfl, q, rfl, hok⟩
      · simp only [Bool.false_eq_true, if_false]
        obtain ⟨m, hm⟩ := hn
        exact ⟨T₄, ys, Cg.of g₄ t₄, kg₄.toX, ⟨m, hm.at' fun o e => kg₄ _ o e⟩, hD.at fun o e => kg₄ _ o e, by rw [List.append_nil]; exact hr.grow g₄.le.hv, (he.grow g₄.le).weaken Tg.bind_clear⟩
      · simp only [if_true]
        refine hok.wp fun x s₅ T₅ hx g₅ t₅ => ?_
        have kg₅ := keeps_grow g₅.k
        have hD₅ : s₅.heap.PlainList s₂.heap.objs.size ys.toArray := (hD.at fun o e => kg₄ _ o e).at fun o e => kg₅ _ o e
        have hlen : ys.toArray.size ≤ sizeLine := by
          have := hr.length
          simp only [List.size_toArray, this]
          simp only [List.length_append, List.length_singleton] at hsz'
          exact Nat.le_trans (Nat.le_succ _) hsz'
        refine wpAny_list_append_plain (hsz := hlen) hD₅ fun h₆ hl₆ hs₆ => ?_
        have kX : GrowX (H2.objs.size :: s₂.heap.objs.size :: wr) s₅.heap h₆ := (SameBut.growX hs₆).sub fun a ha => by simp at ha; simp [ha]
        have le₆ : Le (hv ((H2.objs.size :: s₂.heap.objs.size :: wr) ++ H) (gs s₅ T₅)) (hv ((H2.objs.size :: s₂.heap.objs.size :: wr) ++ H) ⟨h₆, T₅⟩) := ⟨(kX.sub fun a ha => List.mem_append_left _ ha).hv, TExt.refl _⟩
        obtain ⟨m, hm⟩ := hn
        refine ⟨T₅, ys ++ [x], ((Cg.of g₄ t₄).trans (Cg.of g₅ t₅)).trans (Cg.mk' s₅ T₅ h₆ s₅.toks (Nat.le_refl _)), ?_, ⟨m, ?_⟩, by simpa using hl₆, ?_, ?_⟩
        · exact ((kg₄.trans kg₅).toX.trans (SameBut.growX hs₆)).sub fun a ha => by simp at ha; simp [ha]
        · exact ((hm.at' fun o e => kg₄ _ o e).at' fun o e => kg₅ _ o e).sameBut hs₆ (Ne.symm hDC)
        · exact RepL.append (((hr.grow g₄.le.hv).grow g₅.le.hv).grow le₆) (.cons (hx.grow le₆) .nil)
        · refine EnvR.weaken (ρ := tg.bind ps (tg.clear ρ)) ?_ Tg.bind_clear
          refine ((he.grow g₄.le).grow g₅.le).step le₆ (fun o e => hs₆.extBut _ _ (Ne.symm hDC) e) fun y c o hc e => hs₆.extBut _ _ (fun z => ?_) e
          have hc' : c ∈ H := closL_in ok _ _ y c (fun _ _ e => by simp at e) (free_has ok hsc) hc
          obtain ⟨o', e'⟩ := L c hc'
          exact (below c (Heap.lt_size (k12 _ _ e'))).2 z
    · have hf : ∀ b ∈ H2.objs.size :: s₂.heap.objs.size :: wr, s₁.heap.get? b = none := fun b hb => by
        rcases List.mem_cons.mp hb with rfl | hb
        · exact fresh _ hCle
        · rcases List.mem_cons.mp hb with rfl | hb
          · exact fresh _ (Nat.le_refl _)
          · exact hwr b hb
      refine hRR _ _ s' T' (fresh _ hCle) cg (k.grow hf) hn (.lst (vs := ys) ?_ ?_)
      · obtain ⟨n, e⟩ := hD
        exact ⟨n, hv_in e fun z => by
          rcases List.mem_cons.mp z with z | z
          · exact hDC z
          · exact L.new (fresh _ (Nat.le_refl _)) z⟩
      · have l : Le (hv ((H2.objs.size :: s₂.heap.objs.size :: wr) ++ H) (gs s' T')) (hv (H2.objs.size :: H) (gs s' T')) := ⟨hv_sub fun a ha => by
          rcases List.mem_cons.mp ha with rfl | ha
          · simp
          · exact List.mem_append_right _ ha, TExt.refl _⟩
        exact RepL.grow l (show RepL _ ys ([] ++ rs) from hr)
  obtain ⟨I, fp, wr, P, Md, St, rfl, W, hst, hself, hwl, hfp, hwr, hP, hg⟩ := id tn
  exact codeAny_compStart_list (loop _ rfl) (hself _ 0 _ _ _ (W.frame _ _ _ hst fun b _ o e => old b o e) (loop _ rfl))

theorem comp_iter {iter : Expr} (h : ∃ s₁ T₁, Goes s T s₁ T₁ ∧ s.toks ≤ s₁.toks ∧ s₁.toks ≤ s₂.toks ∧ Tn prog w A iter tg H s₁ T₁ psl it s₂) : True := trivial

/-- the iterable of a loop -/
noncomputable def ItOk (prog : Program) (w : World) (A : Around) (env : Env) (H : List Addr) (s : Shared) (T : TM) (target iter : Expr) (tg : Tg) (psl : List (List PV)) : Prop :=
  ∀ E : Value → Shared → Prop, wpAny (model prog w) A (eval iter env) (fun xv s' => wpAny (model prog w) A (pyIter xv) (fun it s₂ => ∃ s₁ T₁, Goes s T s₁ T₁ ∧ s.toks ≤ s₁.toks ∧ s₁.toks ≤ s₂.toks ∧ Tn prog w A target tg H s₁ T₁ psl it s₂) E s') E s

theorem EltOk.grow {scope : Scope} {h h' : Heap} {ifs : List Expr} {elt : Expr} (x : EltOk prog w A env scope H h tg ρ psl F ifs elt) (k : Grow h h') : EltOk prog w A env scope H h' tg ρ psl F ifs elt :=
  fun C H' s' T' ps qs a b c d e f g => x C H' s' T' ps qs a b c d e f (k.trans g)

theorem ListComp1_ok {elt target iter : Expr} {ifs : List Expr} {scope : Scope} {pos : Pos}
    (hh : A.handled = none) (ok : EnvOk env H) (hks : scope.kind = .function) (hsc : scOk env.kindOf tg.names scope.names = true) (ht : tg.Is (kdC env.kindOf scope.names) target)
    (hs : ∀ x, foldedSetIterable iter env x = pure x) (hit : ItOk prog w A env H s T target iter tg psl) (L : Laid H s.heap) (dom : TDom T s.toks) (r : EnvR env H (gs s T) ρ)
    (hF : runC F psl = some rs) (hsz : rs.length ≤ sizeLine) (helt : EltOk prog w A env scope H s.heap tg ρ psl F ifs elt) :
    Ok (model prog w) A (eval (.ListComp elt [⟨target, iter, ifs, 0⟩] scope pos) env) s T (fun v g => Rep (hv H g) v (.lst rs)) := fun E => by
  rw [eval_ListComp]
  refine wpAny_comprehension_free (use := none) rfl hs (closureFor_is (free_has ok hsc)) hks (sc_parts hsc).2.1 (wpAny_mono (hit E) (fun xv s₁' h₁ => wpAny_mono h₁ (fun it s₂ h₂ => ?_) fun _ _ e => e) fun _ _ e => e)
  obtain ⟨s₁, T₁, g₁, t₁, ct, tn⟩ := h₂
  refine comp1_core (RR := fun acc C => compPost (model prog w) A E none _ acc C) hh ok hks hsc ht tn ct (L.grow (keeps_grow g₁.k)) (g₁.dom dom t₁) (r.grow g₁.le) hF hsz (helt.grow (keeps_grow g₁.k)) ?_
  intro D C s' T' hC cg k hn hr
  obtain ⟨m, hm⟩ := hn
  refine ⟨m, hm, fun h' hs' => ⟨T', Rep.hvg (hv_drop hs') hr, ?_⟩⟩
  have k' : Grow s₁.heap h' := fun b o e => hs'.extBut b o (fun z => by rw [z, hC] at e; cases e) (k b o e)
  have cg' : Cg s T { s' with heap := h' } T' := ((Cg.of g₁ t₁).trans cg).trans (Cg.mk' s' T' h' s'.toks (Nat.le_refl _))
  exact cg'.goes ((keeps_grow g₁.k).trans k')

/-- a comprehension that goes to a name at once -/
theorem Assign1_ok {elt target iter : Expr} {ifs : List Expr} {scope : Scope} {pos spos py : Pos} {y : Str} {iy : Nat} {Q : Flow → Shared → Prop}
    (hh : A.handled = none) (ok : EnvOk env H) (hks : scope.kind = .function) (hsc : scOk env.kindOf tg.names scope.names = true) (ht : tg.Is (kdC env.kindOf scope.names) target)
    (hs : ∀ x, foldedSetIterable iter env x = pure x) (hit : ItOk prog w A env H s T target iter tg psl) (L : Laid H s.heap) (dom : TDom T s.toks) (r : EnvR env H (gs s T) ρ)
    (hF : runC F psl = some rs) (hsz : rs.length ≤ sizeLine) (helt : EltOk prog w A env scope H s.heap tg ρ psl F ifs elt)
    (hsw : swapsWith (.ListComp elt [⟨target, iter, ifs, 0⟩] scope pos) (some (.Name y py)) spos.line env = pure true) (hy : env.kindOf y = some .local) (hiy : tb[iy]? = some y) {m : Str → Option Value} (hn : s.heap.Ns env.locals m)
    (hQ : ∀ s' T', Cg s T s' T' → GrowX [env.locals] s.heap s'.heap → (∃ v, s'.heap.Ns env.locals (fun z => if z = y then some v else m z)) → EnvR env H (gs s' T') (upd ρ iy (some (.lst rs))) → Q .next s') :
    wpAny (model prog w) A (exec (.Assign [.Name y py] (.ListComp elt [⟨target, iter, ifs, 0⟩] scope pos) spos) env) Q E s := by
  have hp : (env.scope.kind == .class || (env.scope.kind == .module && env.locals != env.globals)) = false := by rw [ok.kind]; rfl
  rw [exec_Assign_Name_used _ _ _ _ hsw]
  refine wpAny_bind (wpAny_standAt (wpAny_bind ?_))
  show wpAny _ A (do let _ ← comprehension (.ListComp elt [⟨target, iter, ifs, 0⟩] scope pos) scope env _ (newList []) false (eval iter env) (some (assign (.Name y py) env))) _ _ s
  refine wpAny_bind (wpAny_mono (wpAny_comprehension_free (use := some (assign (.Name y py) env)) (Q := fun _ s' => Q .next s') rfl hs (closureFor_is (free_has ok hsc)) hks (sc_parts hsc).2.1
    (wpAny_mono (hit E) (fun xv s₁' h₁ => wpAny_mono h₁ (fun it s₂ h₂ => ?_) fun _ _ e => e) fun _ _ e => e)) (fun _ s' hq => wpAny_pure (wpAny_pure hq)) fun _ _ e => e)
  obtain ⟨s₁, T₁, g₁, t₁, ct, tn⟩ := h₂
  refine comp1_core (RR := fun acc C => compPost (model prog w) A E (some (assign (.Name y py) env)) (fun _ s' => Q .next s') acc C) hh ok hks hsc ht tn ct (L.grow (keeps_grow g₁.k)) (g₁.dom dom t₁) (r.grow g₁.le) hF hsz (helt.grow (keeps_grow g₁.k)) ?_
  intro D C s' T' hC cg k hnC hr
  have hm := hn
  obtain ⟨mC, hmC⟩ := hnC
  have hLC : env.locals ≠ C := by
    rintro rfl
    obtain ⟨o, _, _, ho, _⟩ := hm.at' (h' := s₁.heap) fun o e => keeps_grow g₁.k _ _ e
    rw [hC] at ho; cases ho
  have kk : Grow s.heap s'.heap := (keeps_grow g₁.k).trans k
  have hm' := hm.at' fun o e => kk _ o e
  have hf : ∀ b ∈ [C], b ∈ H ∨ s₁.heap.get? b = none := fun b hb => by simp at hb; subst hb; exact .inr hC
  have r' : EnvR env (C :: H) (gs s' T') ρ := (r.grow g₁.le).step (le_ext (W := [C]) (g₁ := gs s₁ T₁) (g₂ := gs s' T') hf k.toX cg.e) (fun o e => k _ o e) fun y c o _ e => k c o e
  show wpAny _ A (assign (.Name y py) env (.ref D)) _ _ _
  refine wpAny_with_toks (n := s'.toks) (Nat.le_refl _) (wpAny_assign_Name (wpAny_storeName_local hy hm' (fun h₂ hn₂ hs₂ ht₂ => ?_) hp))
  have r₂ := r'.store (List.mem_cons_of_mem _ ok.loc) hiy hy hm' hn₂ hs₂ hr
  refine ⟨mC, hmC.sameBut hs₂ (Ne.symm hLC), fun h₃ hs₃ => ?_⟩
  refine hQ _ T' (((Cg.of g₁ t₁).trans cg).trans (Cg.mk' s' T' h₃ _ ht₂)) ?_ ⟨_, hn₂.sameBut hs₃ hLC⟩ ?_
  · intro b o hb e
    have hbC : b ≠ C := fun z => by have := keeps_grow g₁.k _ _ e; rw [z, hC] at this; cases this
    exact hs₃.extBut b o hbC (hs₂.extBut b o (by simpa using hb) (kk b o e))
  · have l₃ : Le (hv (C :: H) ⟨h₂, T'⟩) (hv H ⟨h₃, T'⟩) := ⟨hv_drop hs₃, TExt.refl _⟩
    refine EnvR.step (g' := ⟨h₃, T'⟩) r₂ l₃ (fun o e => hs₃.extBut _ o hLC e) fun y c o hc e => hs₃.extBut _ o (fun z => ?_) e
    obtain ⟨o', e'⟩ := (L.grow (keeps_grow g₁.k)) c (ok.cell y c hc)
    rw [z, hC] at e'; cases e'
end
end Mine

-- M10
namespace Mine

theorem Tg.clear_at {tg : Tg} {ρ : Rho} {i : Nat} {p : PV} (h : tg.clear ρ i = some p) (ρ' : Rho) : tg.clear ρ' i = ρ' i := by
  cases tg with
  | one a =>
    by_cases q : i = a
    · subst q; simp [Tg.clear, upd_at] at h
    · simp [Tg.clear, upd_ne q]
  | two a b =>
    by_cases q : i = b
    · subst q; simp [Tg.clear, upd_at] at h
    · by_cases q' : i = a
      · subst q'; simp [Tg.clear, upd_ne q, upd_at] at h
      · simp [Tg.clear, upd_ne q, upd_ne q']

section
variable {prog : Program} {w : World} {A : Around} {E : Value → Shared → Prop} {env : Env} {H : List Addr} {ρ : Rho} {s s₁ s₂ : Shared} {T T₁ : TM} {tg tg2 : Tg} {psl : List (List PV)} {rs : List PV} {it : Value}

/-- an inner element: one turn of a loop that ends with an append -/
theorem elt_step {cenv : Env} {H' : List Addr} {ifs : List Expr} {elt : Expr} {D : Addr} {s' : Shared} {T' : TM} {qs rs' : List PV} {ys : List Value} {ρ' : Rho} (hDC : D ≠ cenv.locals)
    (h : wpAny (model prog w) A (forIn ifs true fun c r => if r = true then do let ok ← isTrue c cenv (eval c cenv); pure (ForInStep.yield ok) else pure (ForInStep.yield r))
      (fun ok s₄ => ∃ T₄, Goes s' T' s₄ T₄ ∧ s'.toks ≤ s₄.toks ∧ ((ok = false ∧ qs = []) ∨ (ok = true ∧ ∃ q, qs = [q] ∧ Ok (model prog w) A (eval elt cenv) s₄ T₄ (fun v g => Rep (hv H' g) v q)))) E s')
    (he : EnvR cenv H' (gs s' T') ρ') (hDH : D ∈ H') (hn : ∃ m, s'.heap.Ns cenv.locals m) (hD : s'.heap.PlainList D ys.toArray) (hr : RepL (hv H' (gs s' T')) ys rs') (hsz' : (rs' ++ qs).length ≤ sizeLine)
    (hcc : ∀ y c, cenv.cells.lookup y = some c → c ≠ D) :
    wpAny (model prog w) A (forIn ifs true fun c r => if r = true then do let ok ← isTrue c cenv (eval c cenv); pure (ForInStep.yield ok) else pure (ForInStep.yield r)) (fun ok s₃ =>
            if ok = true then wpAny (model prog w) A (eval elt cenv) (fun x s₄ => wpAny (model prog w) A (call (.builtin "list.append") [.ref D, x]) (fun _ s₅ =>
              ∃ T₅ ys', Cg s' T' s₅ T₅ ∧ GrowX [cenv.locals, D] s'.heap s₅.heap ∧ (∃ m, s₅.heap.Ns cenv.locals m) ∧ s₅.heap.PlainList D (List.toArray ys') ∧ RepL (hv H' (gs s₅ T₅)) ys' (rs' ++ qs) ∧ EnvR cenv H' (gs s₅ T₅) ρ') E s₄) E s₃
            else ∃ T₅ ys', Cg s' T' s₃ T₅ ∧ GrowX [cenv.locals, D] s'.heap s₃.heap ∧ (∃ m, s₃.heap.Ns cenv.locals m) ∧ s₃.heap.PlainList D (List.toArray ys') ∧ RepL (hv H' (gs s₃ T₅)) ys' (rs' ++ qs) ∧ EnvR cenv H' (gs s₃ T₅) ρ') E s' := by
  refine wpAny_mono h (fun okk s₄ h₄ => ?_) fun _ _ x => x
  obtain ⟨T₄, g₄, t₄, hcase⟩ := h₄
  have kg₄ := keeps_grow g₄.k
  rcases hcase with ⟨rfl, rfl⟩ | ⟨rfl, q, rfl, hok⟩
  · simp only [Bool.false_eq_true, if_false]
    obtain ⟨m, hm⟩ := hn
    exact ⟨T₄, ys, Cg.of g₄ t₄, kg₄.toX, ⟨m, hm.at' fun o e => kg₄ _ o e⟩, hD.at fun o e => kg₄ _ o e, by rw [List.append_nil]; exact hr.grow g₄.le.hv, he.grow g₄.le⟩
  · simp only [if_true]
    refine hok.wp fun x s₅ T₅ hx g₅ t₅ => ?_
    have kg₅ := keeps_grow g₅.k
    have hD₅ : s₅.heap.PlainList D ys.toArray := (hD.at fun o e => kg₄ _ o e).at fun o e => kg₅ _ o e
    have hlen : ys.toArray.size ≤ sizeLine := by
      have := hr.length
      simp only [List.size_toArray, this]
      simp only [List.length_append, List.length_singleton] at hsz'
      exact Nat.le_trans (Nat.le_succ _) hsz'
    refine wpAny_list_append_plain (hsz := hlen) hD₅ fun h₆ hl₆ hs₆ => ?_
    have le₆ : Le (hv H' (gs s₅ T₅)) (hv H' ⟨h₆, T₅⟩) := ⟨((SameBut.growX hs₆).sub fun a ha => by simp at ha; subst ha; exact hDH).hv, TExt.refl _⟩
    obtain ⟨m, hm⟩ := hn
    refine ⟨T₅, ys ++ [x], ((Cg.of g₄ t₄).trans (Cg.of g₅ t₅)).trans (Cg.mk' s₅ T₅ h₆ s₅.toks (Nat.le_refl _)), ?_, ⟨m, ?_⟩, by simpa using hl₆, ?_, ?_⟩
    · exact ((kg₄.trans kg₅).toX.trans (SameBut.growX hs₆)).sub fun a ha => by simp at ha; simp [ha]
    · exact ((hm.at' fun o e => kg₄ _ o e).at' fun o e => kg₅ _ o e).sameBut hs₆ (Ne.symm hDC)
    · exact RepL.append (((hr.grow g₄.le.hv).grow g₅.le.hv).grow le₆) (.cons (hx.grow le₆) .nil)
    · exact ((he.grow g₄.le).grow g₅.le).step le₆ (fun o e => hs₆.extBut _ _ (Ne.symm hDC) e) fun y c o hc e => hs₆.extBut _ _ (hcc y c hc) e

/-- what the inner loop of a comprehension has to answer -/
structure EltOk2 (prog : Program) (w : World) (A : Around) (env : Env) (scope : Scope) (H : List Addr) (h₀ : Heap) (tg tg2 : Tg) (ρ : Rho) (psl : List (List PV)) (G : List PV → Option (List (List PV))) (F : List PV → List PV → Option (List PV))
    (t2 i2 : Expr) (ifs : List Expr) (elt : Expr) : Prop where
  it : ∀ (C : Addr) (H' : List Addr) (s' : Shared) (T' : TM) (ps : List PV) (psl2 : List (List PV)), ps ∈ psl → G ps = some psl2 → EnvOk (compEnvC scope (closL env.cells scope.names []) C env) H' →
    EnvR (compEnvC scope (closL env.cells scope.names []) C env) H' (gs s' T') (tg.bind ps (tg.clear (tg2.clear ρ))) → TDom T' s'.toks → Laid H' s'.heap → Grow h₀ s'.heap →
    ItOk prog w A (compEnvC scope (closL env.cells scope.names []) C env) H' s' T' t2 i2 tg2 psl2
  elt : ∀ (C : Addr) (H' : List Addr) (s' : Shared) (T' : TM) (ps ps2 qs : List PV) (psl2 : List (List PV)), ps ∈ psl → G ps = some psl2 → ps2 ∈ psl2 → F ps ps2 = some qs → EnvOk (compEnvC scope (closL env.cells scope.names []) C env) H' →
    EnvR (compEnvC scope (closL env.cells scope.names []) C env) H' (gs s' T') (tg2.bind ps2 (tg2.clear (tg.bind ps (tg.clear (tg2.clear ρ))))) → TDom T' s'.toks → Laid H' s'.heap → Grow h₀ s'.heap →
    ∀ E', wpAny (model prog w) A (forIn ifs true fun c r => if r = true then do let ok ← isTrue c (compEnvC scope (closL env.cells scope.names []) C env) (eval c (compEnvC scope (closL env.cells scope.names []) C env)); pure (ForInStep.yield ok) else pure (ForInStep.yield r))
      (fun ok s₄ => ∃ T₄, Goes s' T' s₄ T₄ ∧ s'.toks ≤ s₄.toks ∧ ((ok = false ∧ qs = []) ∨ (ok = true ∧ ∃ q, qs = [q] ∧ Ok (model prog w) A (eval elt (compEnvC scope (closL env.cells scope.names []) C env)) s₄ T₄ (fun v g => Rep (hv H' g) v q)))) E' s'

noncomputable def run2 (G : List PV → Option (List (List PV))) (F : List PV → List PV → Option (List PV)) (ps : List PV) : Option (List PV) := match G ps with | some psl2 => runC (F ps) psl2 | none => none

theorem comp2_core {G : List PV → Option (List (List PV))} {F : List PV → List PV → Option (List PV)} {elt target iter t2 i2 : Expr} {ifs : List Expr} {scope : Scope} {pos : Pos} {RR : Value → Addr → Result → Shared → Prop}
    (hh : A.handled = none) (ok : EnvOk env H) (hks : scope.kind = .function) (hsc : scOk env.kindOf (tg.names ++ tg2.names) scope.names = true) (ht : tg.Is (kdC env.kindOf scope.names) target) (ht2 : tg2.Is (kdC env.kindOf scope.names) t2)
    (hs2 : ∀ env x, foldedSetIterable i2 env x = pure x)
    (tn : Tn prog w A target tg H s₁ T₁ psl it s₂) (ct : s₁.toks ≤ s₂.toks) (L : Laid H s₁.heap) (dom : TDom T₁ s₁.toks) (r : EnvR env H (gs s₁ T₁) ρ)
    (hF : runC (run2 G F) psl = some rs) (hsz : rs.length ≤ sizeLine) (helt : EltOk2 prog w A env scope H s₁.heap tg tg2 ρ psl G F t2 i2 ifs elt)
    (hRR : ∀ D C s' T', s₁.heap.get? C = none → Cg s₁ T₁ s' T' → Grow s₁.heap s'.heap → (∃ m, s'.heap.Ns C m) → Rep (hv (C :: H) (gs s' T')) (.ref D) (.lst rs) → RR (.ref D) C (.ok .next) s') :
    wpAny (model prog w) A (newList []) (fun acc s₃ => wpAny (model prog w) A (newFunctionEnv scope env.globals (closL env.cells scope.names []) [] env.qual none .none (some env)) (fun cenv s₄ =>
      codeAny (model prog w) A (.compStart (.ListComp elt [⟨target, iter, [], 0⟩, ⟨t2, i2, ifs, 0⟩] scope pos) 0 it acc { cenv with scope := relabel scope env }) (RR acc cenv.locals) s₄) E s₃) E s₂ := by
  have k12 : Grow s₁.heap s₂.heap := by obtain ⟨_, _, _, _, _, _, _, _, _, _, _, _, _, _, hg⟩ := tn; exact keeps_grow hg.k
  refine wpAny_newObj_type (wpAny_newFunctionEnv (sc_parts hsc).1 (by intro y hy; simp at hy) (fun h₁ hns₁ hsb₁ => ?_) hks)
  dsimp only at hns₁ hsb₁ ⊢
  generalize hH2 : s₂.heap.push { cls := .type "list", dict := none, data := .seq ([] : List Value).toArray } = H2 at hns₁ hsb₁ ⊢
  have hC : H2.objs.size = s₂.heap.objs.size + 1 := by rw [← hH2, Heap.size_push]
  have hDC : s₂.heap.objs.size ≠ H2.objs.size := by rw [hC]; exact Nat.ne_of_lt (Nat.lt_succ_self _)
  have hCle : s₂.heap.objs.size ≤ H2.objs.size := by rw [hC]; exact Nat.le_succ _
  have below : ∀ b, b < s₂.heap.objs.size → b ≠ H2.objs.size ∧ b ≠ s₂.heap.objs.size := fun b hb => ⟨by rw [hC]; exact Nat.ne_of_lt (Nat.lt_succ_of_lt hb), Nat.ne_of_lt hb⟩
  have old : Grow s₂.heap h₁ := fun b o e => hsb₁.extBut b o (below b (Heap.lt_size e)).1 (Heap.get?_push_of_some _ (hH2 ▸ Heap.get?_push_of_some _ e))
  have hacc : h₁.PlainList s₂.heap.objs.size #[] := ⟨_, hsb₁.extBut _ _ hDC (Heap.get?_push_of_some _ (hH2 ▸ Heap.get?_push_size _ rfl))⟩
  have fresh₂ : ∀ a, s₂.heap.objs.size ≤ a → s₂.heap.get? a = none := fun a ha => by
    cases e : s₂.heap.get? a with
    | none => rfl
    | some o' => exact absurd (Heap.lt_size e) (Nat.not_lt.mpr ha)
  have fresh : ∀ a, s₂.heap.objs.size ≤ a → s₁.heap.get? a = none := fun a ha => by
    cases e : s₁.heap.get? a with
    | none => rfl
    | some o' => have := k12 _ _ e; rw [fresh₂ a ha] at this; cases this
  have hcells : ∀ y c, (closL env.cells scope.names []).lookup y = some c → c ∈ H := fun y c hc => closL_in ok _ _ y c (fun _ _ e => by simp at e) (free_has ok hsc) hc
  have hcellD : ∀ y c, (closL env.cells scope.names []).lookup y = some c → (∃ o, s₁.heap.get? c = some o) ∧ c ≠ s₂.heap.objs.size ∧ c ≠ H2.objs.size := fun y c hc => by
    obtain ⟨o, e⟩ := L c (hcells y c hc)
    have hlt := Heap.lt_size (k12 _ _ e)
    exact ⟨⟨o, e⟩, (below c hlt).2, (below c hlt).1⟩
  have loop : ∀ s₃ : Shared, s₃ = { s₂ with heap := h₁, toks := s₂.toks + ([] : List (Str × Value)).length } →
      codeAny (model prog w) A (.compLoop (.ListComp elt [⟨target, iter, [], 0⟩, ⟨t2, i2, ifs, 0⟩] scope pos) 0 it (.ref s₂.heap.objs.size) (compEnvC scope (closL env.cells scope.names []) H2.objs.size env))
        (RR (.ref s₂.heap.objs.size) H2.objs.size) s₃ := by
    rintro s₃ rfl
    refine comp_loop (tg := tg) (e := target) (cenv := compEnvC scope (closL env.cells scope.names []) H2.objs.size env) (H := H) (s₁ := s₁) (T₁ := T₁) (s₂ := s₂) (psl := psl) (F := run2 G F) (rs := rs) (rs0 := []) (D := s₂.heap.objs.size) (ρ0 := tg2.clear ρ) (ys0 := [])
      (bw := fun Q E s => wpAny (model prog w) A (eval i2 (compEnvC scope (closL env.cells scope.names []) H2.objs.size env)) (fun x s₄ => wpAny (model prog w) A (pyIter x) (fun it2 s₅ =>
            codeAny (model prog w) A (.compStart (.ListComp elt [⟨target, iter, [], 0⟩, ⟨t2, i2, ifs, 0⟩] scope pos) 1 it2 (.ref s₂.heap.objs.size) (compEnvC scope (closL env.cells scope.names []) H2.objs.size env)) (fun r s' => match r with
              | .ok _ => Q () s'
              | .error e => cameBackBy (model prog w) A (compEnvC scope (closL env.cells scope.names []) H2.objs.size env) E e s') s₅) E s₄) E s)
      rfl (fun Q Q' E s h hq => wpAny_mono h (fun x s₄ hb => wpAny_mono hb (fun it2 s₅ hc => codeAny_mono hc fun r s' hr => ?_) fun _ _ x => x) fun _ _ x => x)
      (fun s Q E h => turn2out _ _ _ _ _ _ _ _ _ _ _ _ _ _ (hs2 _) h) hks (by rw [kdC_is ok.kind]; exact ht) hh
      (.inr ⟨fresh _ hCle, hCle⟩) (.inr ⟨fresh _ (Nat.le_refl _), Nat.le_refl _⟩) hDC tn ct old (Cg.mk' s₂ T₁ h₁ _ (Nat.le_add_right _ _)) ⟨_, hns₁⟩ hacc L dom (fun _ _ => .nil) (fun wr hwr => ?_) hF (by simpa using hsz) (fun x c hc => ?_)
      (fun wr s T ps qs ys rs' hwr hps hq cg k he hd hL hn hD hr hsz' E' => ?_) (fun wr s' T' ys hwr cg k hn hD hr he => ?_)
    · cases r with
      | ok f => exact hq _ hr
      | error e => exact hr
    · have hf : ∀ b ∈ H2.objs.size :: s₂.heap.objs.size :: wr, b ∈ H ∨ s₁.heap.get? b = none := fun b hb => by
        rcases List.mem_cons.mp hb with rfl | hb
        · exact .inr (fresh _ hCle)
        · rcases List.mem_cons.mp hb with rfl | hb
          · exact .inr (fresh _ (Nat.le_refl _))
          · exact .inr (hwr b hb)
      refine comp_env ok hsc (fun i p h => ?_) r
        (le_ext (g₁ := gs s₁ T₁) (g₂ := ⟨h₁, T₁⟩) hf (k12.trans old).toX (TExt.refl _)) fun y c o _ e => (k12.trans old) c o e
      have h' := Tg.clear_le i p h
      refine ⟨Tg.clear_le i p h', fun x hx hm => ?_⟩
      rcases List.mem_append.mp hm with hm | hm
      · exact Tg.names_is ht i p x _ h hx hm
      · exact Tg.names_is ht2 i p x _ h' hx hm
    · have := hcellD x c hc
      exact ⟨this.1.choose, this.1.choose_spec, this.2⟩
    · have hf : ∀ b ∈ H2.objs.size :: s₂.heap.objs.size :: wr, s₁.heap.get? b = none := fun b hb => by
        rcases List.mem_cons.mp hb with rfl | hb
        · exact fresh _ hCle
        · rcases List.mem_cons.mp hb with rfl | hb
          · exact fresh _ (Nat.le_refl _)
          · exact hwr b hb
      have ok' := envOk_comp (C := H2.objs.size) (H' := (H2.objs.size :: s₂.heap.objs.size :: wr) ++ H) ok hks ⟨_, hsc⟩ (by simp) fun a ha => List.mem_append_right _ ha
      have hCm : H2.objs.size ∈ (H2.objs.size :: s₂.heap.objs.size :: wr) ++ H := by simp
      have hDm : s₂.heap.objs.size ∈ (H2.objs.size :: s₂.heap.objs.size :: wr) ++ H := by simp
      have hHm : ∀ a ∈ H, a ∈ (H2.objs.size :: s₂.heap.objs.size :: wr) ++ H := fun a ha => List.mem_append_right _ ha
      dsimp only [compEnvC] at he hL hr ⊢
      generalize (H2.objs.size :: s₂.heap.objs.size :: wr) ++ H = H' at *
      unfold run2 at hq
      split at hq
      case h_2 => cases hq
      rename_i psl2 hG
      have kg : Grow s₁.heap s.heap := k.grow hf
      refine wpAny_mono (helt.it H2.objs.size H' s T ps psl2 hps hG ok' he hd hL kg E') (fun xv s₄ h₄ => wpAny_mono h₄ (fun it2 s₅ h₅ => ?_) fun _ _ x => x) fun _ _ x => x
      obtain ⟨sb, Tb, gb, tb', tb5, tn2⟩ := h₅
      have kb : Grow sb.heap s₅.heap := by obtain ⟨_, _, _, _, _, _, _, _, _, _, _, _, _, _, hg⟩ := tn2; exact keeps_grow hg.k
      have ksb : Grow s.heap sb.heap := keeps_grow gb.k
      have loop2 : ∀ R' : Result → Shared → Prop, (∀ s' T' ys', Cg s T s' T' → GrowX [H2.objs.size, s₂.heap.objs.size] s.heap s'.heap → (∃ m, s'.heap.Ns H2.objs.size m) → s'.heap.PlainList s₂.heap.objs.size (List.toArray ys') →
          RepL (hv H' (gs s' T')) ys' (rs' ++ qs) → EnvR (compEnvC scope (closL env.cells scope.names []) H2.objs.size env) H' (gs s' T') (tg.clear (tg2.clear ρ)) → R' (.ok .next) s') →
          codeAny (model prog w) A (.compLoop (.ListComp elt [⟨target, iter, [], 0⟩, ⟨t2, i2, ifs, 0⟩] scope pos) 1 it2 (.ref s₂.heap.objs.size) (compEnvC scope (closL env.cells scope.names []) H2.objs.size env)) R' s₅ := fun R' hR' => by
        have hn5 : ∃ m, s₅.heap.Ns H2.objs.size m := let ⟨m, hm⟩ := hn; ⟨m, (hm.at' fun o e => ksb _ o e).at' fun o e => kb _ o e⟩
        have leW : ∀ wr2 : List Addr, (∀ b ∈ wr2, sb.heap.get? b = none) → Le (hv H' (gs sb Tb)) (hv ((H2.objs.size :: s₂.heap.objs.size :: wr2) ++ H') (gs s₅ Tb)) := fun wr2 h2 => le_ext (g₁ := gs sb Tb) (g₂ := gs s₅ Tb) (fun b hb => by
          rcases List.mem_cons.mp hb with rfl | hb
          · exact .inl hCm
          · rcases List.mem_cons.mp hb with rfl | hb
            · exact .inl hDm
            · exact .inr (h2 b hb)) kb.toX (TExt.refl _)
        have hes : EnvR (compEnvC scope (closL env.cells scope.names []) H2.objs.size env) H' (gs sb Tb) (tg.bind ps (tg.clear (tg2.clear ρ))) := EnvR.grow he gb.le
        refine comp_loop (tg := tg2) (e := t2) (cenv := compEnvC scope (closL env.cells scope.names []) H2.objs.size env) (H := H') (s₁ := sb) (T₁ := Tb) (s₂ := s₅) (psl := psl2) (F := F ps) (rs := qs) (rs0 := rs') (D := s₂.heap.objs.size) (ρ0 := tg.bind ps (tg.clear (tg2.clear ρ))) (ys0 := ys)
          (bw := fun Q E s => wpAny (model prog w) A (forIn ifs true fun c r => if r = true then do let ok ← isTrue c (compEnvC scope (closL env.cells scope.names []) H2.objs.size env) (eval c (compEnvC scope (closL env.cells scope.names []) H2.objs.size env)); pure (ForInStep.yield ok) else pure (ForInStep.yield r)) (fun ok s₃ =>
            if ok = true then wpAny (model prog w) A (eval elt (compEnvC scope (closL env.cells scope.names []) H2.objs.size env)) (fun x s₄ => wpAny (model prog w) A (call (.builtin "list.append") [.ref s₂.heap.objs.size, x]) (fun _ s₅ => Q () s₅) E s₄) E s₃
            else Q () s₃) E s)
          rfl (fun Q Q' E s h hq => wpAny_mono h (fun ok s' hb => ?_) fun _ _ x => x) (fun s Q E h => turn2in _ _ _ _ _ _ _ _ _ _ _ _ _ _ _ h) hks (by rw [kdC_is ok.kind]; exact ht2) hh
          (.inl hCm) (.inl hDm) hDC tn2 tb5 (Grow.refl _) (Cg.refl _ _) hn5 ((hD.at fun o e => ksb _ o e).at fun o e => kb _ o e) (Laid.grow hL ksb) (gb.dom hd tb')
          (fun wr2 h2 => (RepL.grow gb.le.hv hr).grow (leW wr2 h2)) (fun wr2 h2 => ?_) hq (by simpa using hsz') (fun x c hc => ?_)
          (fun wr2 s6 T6 ps2 qs2 ys2 rs2 hwr2 hps2 hq2 cg2 k2 he2 hd2 hL2 hn2 hD2 hr2 hsz2 E2 => ?_) (fun wr2 s6 T6 ys2 hwr2 cg2 k2 hn2 hD2 hr2 he2 => ?_)
        · split at hb
          · rename_i hok
            rw [if_pos hok]
            exact wpAny_mono hb (fun x s₄ h₄ => wpAny_mono h₄ (fun _ s₅ h₅ => hq _ h₅) fun _ _ x => x) fun _ _ x => x
          · rename_i hok
            rw [if_neg hok]
            exact hq _ hb
        · exact (hes.step (leW wr2 h2) (fun o e => kb _ o e) fun y c o _ e => kb c o e).weaken Tg.clear_le
        · have := hcellD x c hc
          obtain ⟨o, e⟩ := this.1
          exact ⟨o, ksb _ _ (kg _ _ e), this.2⟩
        · have kg6 : Grow s₁.heap s6.heap := fun b o e => k2 b o (fun z => by
            rcases List.mem_cons.mp z with z | z
            · rw [show b = H2.objs.size from z, fresh _ hCle] at e; cases e
            · rcases List.mem_cons.mp z with z | z
              · rw [show b = s₂.heap.objs.size from z, fresh _ (Nat.le_refl _)] at e; cases e
              · have := ksb _ _ (kg _ _ e); rw [hwr2 b z] at this; cases this) (ksb _ _ (kg _ _ e))
          have ok6 := envOk_comp (C := H2.objs.size) (H' := (H2.objs.size :: s₂.heap.objs.size :: wr2) ++ H') ok hks ⟨_, hsc⟩ (by simp) fun a ha => List.mem_append_right _ (hHm a ha)
          exact elt_step (cenv := compEnvC scope (closL env.cells scope.names []) H2.objs.size env) hDC (helt.elt H2.objs.size _ s6 T6 ps ps2 qs2 psl2 hps hG hps2 hq2 ok6 he2 hd2 hL2 kg6 E2) (he2.weaken Tg.bind_clear) (by simp) hn2 hD2 hr2 hsz2
            fun y c hc => (hcellD y c hc).2.1
        · have l6 : Le (hv ((H2.objs.size :: s₂.heap.objs.size :: wr2) ++ H') (gs s6 T6)) (hv H' (gs s6 T6)) := ⟨hv_sub fun a ha => List.mem_append_right _ ha, TExt.refl _⟩
          refine hR' s6 T6 ys2 ((Cg.of gb tb').trans cg2) ?_ hn2 hD2 (RepL.grow l6 hr2) ?_
          · intro b o hb e
            have e' := ksb _ _ e
            refine k2 b o (fun z => ?_) e'
            rcases List.mem_cons.mp z with z | z
            · exact hb (by rw [show b = H2.objs.size from z]; simp)
            · rcases List.mem_cons.mp z with z | z
              · exact hb (by rw [z]; simp)
              · rw [hwr2 b z] at e'; cases e'
          · refine EnvR.weaken (ρ := tg2.clear (tg.bind ps (tg.clear (tg2.clear ρ)))) (EnvR.step he2 l6 (fun _ e => e) fun _ _ _ _ e => e) fun i p hp => ?_
            rw [Tg.clear_at (Tg.clear_le i p hp)]
            exact Tg.bind_clear i p hp
      refine start_in (loop2 _ fun s' T' ys' a b c d e f => ⟨T', ys', a, b, c, d, e, f⟩) ?_
      obtain ⟨I, fp, wr2, P, Md, St, rfl, W, hst, hself, _⟩ := id tn2
      exact hself _ 0 _ _ _ hst (loop2 _ fun s' T' ys' a b c d e f => ⟨T', ys', a, b, c, d, e, f⟩)
    · have hf : ∀ b ∈ H2.objs.size :: s₂.heap.objs.size :: wr, s₁.heap.get? b = none := fun b hb => by
        rcases List.mem_cons.mp hb with rfl | hb
        · exact fresh _ hCle
        · rcases List.mem_cons.mp hb with rfl | hb
          · exact fresh _ (Nat.le_refl _)
          · exact hwr b hb
      refine hRR _ _ s' T' (fresh _ hCle) cg (k.grow hf) hn (.lst (vs := ys) ?_ ?_)
      · obtain ⟨n, e⟩ := hD
        exact ⟨n, hv_in e fun z => by
          rcases List.mem_cons.mp z with z | z
          · exact hDC z
          · exact L.new (fresh _ (Nat.le_refl _)) z⟩
      · have l : Le (hv ((H2.objs.size :: s₂.heap.objs.size :: wr) ++ H) (gs s' T')) (hv (H2.objs.size :: H) (gs s' T')) := ⟨hv_sub fun a ha => by
          rcases List.mem_cons.mp ha with rfl | ha
          · simp
          · exact List.mem_append_right _ ha, TExt.refl _⟩
        exact RepL.grow l (show RepL _ ys ([] ++ rs) from hr)
  obtain ⟨I, fp, wr, P, Md, St, rfl, W, hst, hself, hwl, hfp, hwr, hP, hg⟩ := id tn
  exact codeAny_compStart_list (loop _ rfl) (hself _ 0 _ _ _ (W.frame _ _ _ hst fun b _ o e => old b o e) (loop _ rfl))

theorem ListComp2_ok {G : List PV → Option (List (List PV))} {F : List PV → List PV → Option (List PV)} {elt target iter t2 i2 : Expr} {ifs : List Expr} {scope : Scope} {pos : Pos}
    (hh : A.handled = none) (ok : EnvOk env H) (hks : scope.kind = .function) (hsc : scOk env.kindOf (tg.names ++ tg2.names) scope.names = true) (ht : tg.Is (kdC env.kindOf scope.names) target) (ht2 : tg2.Is (kdC env.kindOf scope.names) t2)
    (hs : ∀ x, foldedSetIterable iter env x = pure x) (hs2 : ∀ env x, foldedSetIterable i2 env x = pure x) (hit : ItOk prog w A env H s T target iter tg psl) (L : Laid H s.heap) (dom : TDom T s.toks) (r : EnvR env H (gs s T) ρ)
    (hF : runC (run2 G F) psl = some rs) (hsz : rs.length ≤ sizeLine) (helt : ∀ h, Grow s.heap h → EltOk2 prog w A env scope H h tg tg2 ρ psl G F t2 i2 ifs elt) :
    Ok (model prog w) A (eval (.ListComp elt [⟨target, iter, [], 0⟩, ⟨t2, i2, ifs, 0⟩] scope pos) env) s T (fun v g => Rep (hv H g) v (.lst rs)) := fun E => by
  rw [eval_ListComp]
  refine wpAny_comprehension_free (use := none) rfl hs (closureFor_is (free_has ok hsc)) hks (sc_parts hsc).2.1 (wpAny_mono (hit E) (fun xv s₁' h₁ => wpAny_mono h₁ (fun it s₂ h₂ => ?_) fun _ _ e => e) fun _ _ e => e)
  obtain ⟨s₁, T₁, g₁, t₁, ct, tn⟩ := h₂
  refine comp2_core (RR := fun acc C => compPost (model prog w) A E none _ acc C) hh ok hks hsc ht ht2 hs2 tn ct (L.grow (keeps_grow g₁.k)) (g₁.dom dom t₁) (r.grow g₁.le) hF hsz (helt _ (keeps_grow g₁.k)) ?_
  intro D C s' T' hC cg k hn hr
  obtain ⟨m, hm⟩ := hn
  refine ⟨m, hm, fun h' hs' => ⟨T', Rep.hvg (hv_drop hs') hr, ?_⟩⟩
  have k' : Grow s₁.heap h' := fun b o e => hs'.extBut b o (fun z => by rw [z, hC] at e; cases e) (k b o e)
  have cg' : Cg s T { s' with heap := h' } T' := ((Cg.of g₁ t₁).trans cg).trans (Cg.mk' s' T' h' s'.toks (Nat.le_refl _))
  exact cg'.goes ((keeps_grow g₁.k).trans k')
end
end Mine

-- M11
namespace Mine

/-- the program's functions -/
inductive FN | rgb | hsv | ell | sub | lev | unl | mix | cal | due | wri | boo | oft | geta
noncomputable def FN.nm : FN → Str
  | .rgb => "rgb_to_hsv" | .hsv => "hsv_to_rgb" | .ell => "_ellipsis_match" | .sub => "_substitution_cost" | .lev => "_levenshtein_distance" | .unl => "_law_unlike" | .mix => "_law_mix"
  | .cal => "_law_called" | .due => "_law_due" | .wri => "_law_written" | .boo => "_law_book" | .oft => "_law_often" | .geta => "get_all"
noncomputable def FN.at : FN → Addr
  | .rgb => 193 | .hsv => 200 | .ell => 207 | .sub => 214 | .lev => 221 | .unl => 228 | .mix => 233 | .cal => 240 | .due => 245 | .wri => 252 | .boo => 257 | .oft => 262 | .geta => 121
/-- the names of the top that stand for plain values -/
noncomputable def gcon : List (Str × Value × PV) := [("ELLIPSIS_MARKER", .str "..." 588, .str "..."), ("_MAX_STRING_SIZE", .int 40 604, .int 40), ("_MOVE_COST", .int 2 606, .int 2), ("_CASE_COST", .int 1 608, .int 1)]
noncomputable def gbui : List (Str × Value) := [("len", biV .len), ("max", biV .max), ("min", biV .min), ("int", biV .int), ("str", biV .str), ("sum", biV .sum), ("range", .type "range"), ("zip", .type "zip"), ("list", .type "list"), ("type", .type "type")]
noncomputable def BI.nm : BI → Str
  | .len => "len" | .max => "max" | .min => "min" | .int => "int" | .str => "str" | .sum => "sum"

/-- the functions' texts, out of the given program -/
noncomputable def fnIn : Option Stmt → Arguments × List Stmt × Scope
  | some (.FunctionDef _ args body _ _ _ scope _ _ _) => (args, body, scope)
  | _ => default
noncomputable def clsIn (i : Nat) : Option Stmt → Option Stmt
  | some (.ClassDef _ _ _ body _ _ _ _ _ _ _) => body[i]?
  | _ => none
noncomputable def topAt (i : Nat) : Option Stmt := PySem.Challenge.pw_uj0008_01.main.body[i]?
noncomputable def fnOf : FN → Arguments × List Stmt × Scope
  | .rgb => fnIn (topAt 9) | .hsv => fnIn (topAt 10) | .ell => fnIn (topAt 13) | .sub => fnIn (topAt 18) | .lev => fnIn (topAt 19) | .unl => fnIn (topAt 21) | .mix => fnIn (topAt 22)
  | .cal => fnIn (topAt 23) | .due => fnIn (topAt 24) | .wri => fnIn (topAt 25) | .boo => fnIn (topAt 26) | .oft => fnIn (topAt 27) | .geta => fnIn (clsIn 7 (topAt 7))

/-- a function where the top laid it -/
noncomputable def FnAt (h : Heap) (a : Addr) (t : Arguments × List Stmt × Scope) : Prop := ∃ o fd, h.get? a = some o ∧ o.data = .func fd ∧ fd.params = t.1 ∧ fd.body = .stmts t.2.1 ∧ fd.scope = t.2.2 ∧ fd.globals = mainGlobals ∧ fd.builtins = builtinsNs ∧ fd.closure = [] ∧ fd.defaults = .none ∧ h.CodeRec fd.code fd.qualname
theorem FnAt.grow {h h' : Heap} {a : Addr} {t : Arguments × List Stmt × Scope} (x : FnAt h a t) (k : Grow h h') : FnAt h' a t := by
  obtain ⟨o, fd, e, d, p, b, s, g, bu, c, df, cd⟩ := x
  obtain ⟨cc, co, vs, t, q, ce, r⟩ := cd
  exact ⟨o, fd, k _ _ e, d, p, b, s, g, bu, c, df, cc, co, vs, t, q, k _ _ ce, r⟩

noncomputable def codeN : Array Nat := #[14, 10, 4, 1, 1, 22, 0, 31, 16, 127, 0, 13, 7, 22, 0, 31, 16, 127, 0, 1]
noncomputable def codeV : Array Nat := #[14, 14, 4, 1, 1, 9, 4294966783, 0, 0, 2147483648, 0, 0, 0, 0, 0, 13, 11, 9, 4294966783, 0, 0, 2147483648, 0, 0, 0, 0, 0, 1]

/-- the places of the top that are no functions -/
noncomputable def gref : List (Str × Addr) := [("_name_disallowed_re", 48), ("_value_disallowed_re", 53), ("Headers", 182)]
/-- a compiled pattern -/
noncomputable def PatAt (h : Heap) (p : Addr) (code : Array Nat) : Prop := ∃ o oc fs c items n, h.get? p = some o ∧ o.cls = .type "re.Pattern" ∧ o.dict = none ∧ o.data = .fields fs ∧ Builtin.Re.reRawNat (fs.getD 2 .none) = 0 ∧ Builtin.Re.reRawNat (fs.getD 6 .none) = 0 ∧
  fs.getD 5 .none = .ref c ∧ h.get? c = some oc ∧ oc.data = .seq items n ∧ (items.map Builtin.Re.reRawOf).map (·.toNat) = code
theorem PatAt.grow {h h' : Heap} {p : Addr} {code : Array Nat} (x : PatAt h p code) (k : Grow h h') : PatAt h' p code := by
  obtain ⟨o, oc, fs, c, items, n, a, b, d, e, f, g, i, j, r⟩ := x
  exact ⟨o, oc, fs, c, items, n, k _ _ a, b, d, e, f, g, i, k _ _ j, r⟩

/-- what of the top stays -/
structure Gb (KK : Frag) (h : Heap) : Prop where
  inn : KK.In h
  nb : NoneBooked h
  nl : h.NoLimit
  ns : ∃ mg mb, h.Ns mainGlobals mg ∧ h.Ns builtinsNs mb ∧ (∀ f : FN, f ≠ .geta → mg f.nm = some (.ref f.at)) ∧ (∀ x ∈ gcon, mg x.1 = some x.2.1) ∧ (∀ x ∈ gbui, mg x.1 = none ∧ mb x.1 = some x.2) ∧ (∀ x ∈ gref, mg x.1 = some (.ref x.2))
  pn : PatAt h 48 codeN
  pv : PatAt h 53 codeV
  cv : FnAt h 83 (fnIn (clsIn 1 (topAt 7)))
  ad : FnAt h 179 (fnIn (clsIn 16 (topAt 7)))
  fo : ∀ f : FN, FnAt h f.at (fnOf f)

/-- a small language of expressions -/
inductive X where
  | nm (i : Nat)
  | cst (p : PV)
  | bin (op : Operator) (a b : X)
  | cmp (op : CmpOp) (a b : X)
  | chn (o1 o2 : CmpOp) (a b c : X)
  | not (a : X)
  | neg (a : X)
  | and (a b : X)
  | or (a b : X)
  | ite (c a b : X)
  | idx (a i : X)
  | slc (a l u s : X)
  | nil
  | cons (a b : X)
  | tup (a : X)
  | lst (a : X)
  | fn (f : FN) (a : X)
  | star (f : FN) (a : X)
  | bi (b : BI) (a : X)
  | me (m : ME) (o a : X)
  | ga (o a : X)
  | comp (k : IK) (a b : X) (tg : Tg) (c e : X)
  | comp2 (a : X) (tg : Tg) (b : X) (tg2 : Tg) (c e : X)

noncomputable abbrev SG := FN → List PV → Option PV

noncomputable def okLen (l : List PV) : Option PV := if l.length ≤ 1000 then some (.lst l) else none
noncomputable def condV (t e : Option PV) : Option (List PV) := match t with
  | some p => match truthP p with
    | some true => match e with | some q => some [q] | none => none
    | some false => some []
    | none => none
  | none => none

noncomputable def ev (S : SG) : X → Rho → Option PV
  | .nm i, ρ => ρ i
  | .cst p, _ => some p
  | .bin op a b, ρ => match ev S a ρ, ev S b ρ with | some p, some q => binP op p q | _, _ => none
  | .cmp op a b, ρ => match ev S a ρ, ev S b ρ with | some p, some q => (cmpP op p q).map .bool | _, _ => none
  | .chn o1 o2 a b c, ρ => match ev S a ρ, ev S b ρ with
    | some p, some q => match cmpP o1 p q with
      | some true => match ev S c ρ with | some r => (cmpP o2 q r).map .bool | none => none
      | some false => some (.bool false)
      | none => none
    | _, _ => none
  | .not a, ρ => match ev S a ρ with | some p => (truthP p).map fun b => .bool (!b) | none => none
  | .neg a, ρ => match ev S a ρ with | some (.int i) => some (.int (-i)) | _ => none
  | .and a b, ρ => match ev S a ρ with | some p => (match truthP p with | some true => ev S b ρ | some false => some p | none => none) | none => none
  | .or a b, ρ => match ev S a ρ with | some p => (match truthP p with | some true => some p | some false => ev S b ρ | none => none) | none => none
  | .ite c a b, ρ => match ev S c ρ with | some p => (match truthP p with | some true => ev S a ρ | some false => ev S b ρ | none => none) | none => none
  | .idx a i, ρ => match ev S a ρ, ev S i ρ with | some p, some q => idxP p q | _, _ => none
  | .slc a l u s, ρ => match ev S a ρ, ev S l ρ, ev S u ρ, ev S s ρ with | some p, some q, some r, some t => slcP p q r t | _, _, _, _ => none
  | .nil, _ => some (.tup [])
  | .cons a b, ρ => match ev S a ρ, ev S b ρ with | some p, some (.tup l) => some (.tup (p :: l)) | _, _ => none
  | .tup a, ρ => match ev S a ρ with | some (.tup l) => if l.length ≤ 1000 then some (.tup l) else none | _ => none
  | .lst a, ρ => match ev S a ρ with | some (.tup l) => okLen l | _ => none
  | .fn f a, ρ => match ev S a ρ with | some (.tup l) => S f l | _ => none
  | .star f a, ρ => match ev S a ρ with | some (.tup l) => if l.length ≤ 1000 then S f l else none | some (.lst l) => if l.length ≤ 1000 then S f l else none | _ => none
  | .bi b a, ρ => match ev S a ρ with | some (.tup l) => biP b l | _ => none
  | .me m o a, ρ => match ev S o ρ, ev S a ρ with | some p, some (.tup l) => meP m p l | _, _ => none
  | .ga o a, ρ => match ev S o ρ, ev S a ρ with | some (.hdr l), some q => S .geta [.hdr l, q] | _, _ => none
  | .comp k a b tg c e, ρ => match ev S a ρ, ev S b ρ with
    | some p, some q => match items k p q with
      | some psl => match runC (fun ps => condV (ev S c (tg.bind ps (tg.clear ρ))) (ev S e (tg.bind ps (tg.clear ρ)))) psl with
        | some rs => okLen rs
        | none => none
      | none => none
    | _, _ => none
  | .comp2 a tg b tg2 c e, ρ => match ev S a ρ with
    | some p => match items .L p .none with
      | some psl => match runC (run2 (fun ps => match ev S b (tg.bind ps (tg.clear (tg2.clear ρ))) with | some q => items .L q .none | none => none)
          (fun ps ps2 => condV (ev S c (tg2.bind ps2 (tg2.clear (tg.bind ps (tg.clear (tg2.clear ρ)))))) (ev S e (tg2.bind ps2 (tg2.clear (tg.bind ps (tg.clear (tg2.clear ρ)))))))) psl with
        | some rs => okLen rs
        | none => none
      | none => none
    | none => none

noncomputable def cstP : Const → Option PV
  | .none => some .none
  | .bool b => some (.bool b)
  | .int i => some (.int i)
  | .float b => some (.flt b)
  | .str s => some (.str s)
  | _ => none

noncomputable abbrev KD := Str → Option NameKind
noncomputable def glob (K : KD) (x : Str) : Prop := K x = some .globalImplicit
noncomputable def noStar : Expr → Bool
  | .Starred .. => false
  | _ => true

noncomputable def ikOk : IK → Tg → Bool
  | .Z, .two _ _ => true
  | .L, .one _ => true
  | .R, .one _ => true
  | _, _ => false

end Mine

-- M12
namespace Mine

theorem Gb.grow {KK : Frag} {h h' : Heap} (x : Gb KK h) (k : Grow h h') : Gb KK h' := by
  obtain ⟨mg, mb, a, b, c⟩ := x.ns
  exact ⟨x.inn.keeps k, (let ⟨mc, y, z⟩ := x.nb; ⟨mc, y.keeps k, z⟩), x.nl.keeps k, ⟨mg, mb, a.keeps k, b.keeps k, c⟩, x.pn.grow k, x.pv.grow k, x.cv.grow k, x.ad.grow k, fun f => (x.fo f).grow k⟩

/-- what the calls of an activation answer -/
structure Wd (prog : Program) (w : World) (A : Around) (S : SG) (KK : Frag) : Prop where
  hh : A.handled = none
  hu : A.units + 5 < cLine
  ct : ∀ (f : FN) (s : Shared) (T : TM) (H : List Addr) (vs : List Value) (ps : List PV) (r : PV), Gb KK s.heap → TDom T s.toks → Laid H s.heap → RepL (hv H (gs s T)) vs ps → S f ps = some r →
    Ok (model prog w) A (call (.ref f.at) vs) s T (fun v g => Rep (hv H g) v r)
  hm : ∀ (E : Value → Shared → Prop) (s : Shared) (T : TM) (H : List Addr) (Q : Value × List Value → Shared → Prop) (v : Value) (l : List PV) (pl : Sem Bool), Gb KK s.heap → Rep (hv H (gs s T)) v (.hdr l) →
    Q (.ref FN.geta.at, [v]) s → wpAny (model prog w) A (getMethod v "get_all" pl) Q E s

/-- where we walk -/
structure Cx (KK : Frag) (K : KD) (env : Env) (H : List Addr) (s : Shared) (T : TM) (ρ : Rho) : Prop where
  k : env.kindOf = K
  ok : EnvOk env H
  gb : Gb KK s.heap
  r : EnvR env H (gs s T) ρ
  d : TDom T s.toks
  l : Laid H s.heap
theorem Cx.step {KK : Frag} {K : KD} {env : Env} {H : List Addr} {s s' : Shared} {T T' : TM} {ρ : Rho} (x : Cx KK K env H s T ρ) (g : Goes s T s' T') (t : s.toks ≤ s'.toks) : Cx KK K env H s' T' ρ :=
  ⟨x.k, x.ok, x.gb.grow (keeps_grow g.k), x.r.grow g.le, g.dom x.d t, x.l.grow (keeps_grow g.k)⟩

section
variable (prog : Program) (w : World) (A : Around) (S : SG) (KK : Frag)
noncomputable def Pe (K : KD) (e : Expr) (x : X) : Prop := ∀ (env : Env) (H : List Addr) (s : Shared) (T : TM) (ρ : Rho) (p : PV), Cx KK K env H s T ρ → ev S x ρ = some p → Ok (model prog w) A (eval e env) s T (fun v g => Rep (hv H g) v p)
noncomputable def Pt (K : KD) (e : Expr) (x : X) : Prop := ∀ (env : Env) (H : List Addr) (s : Shared) (T : TM) (ρ : Rho) (p : PV) (b : Bool), Cx KK K env H s T ρ → ev S x ρ = some p → truthP p = some b → Ok (model prog w) A (isTrue e env (eval e env)) s T (fun c g => c = b)
noncomputable def PL (K : KD) (es : List Expr) (x : X) : Prop := ∀ (env : Env) (H : List Addr) (s : Shared) (T : TM) (ρ : Rho) (l : List PV) (pos : Pos), Cx KK K env H s T ρ → ev S x ρ = some (.tup l) → Ok (model prog w) A (spliced (backTo pos (starEach es env))) s T (fun vs g => RepL (hv H g) vs l)
noncomputable def PO (K : KD) (e : Option Expr) (x : X) : Prop := ∀ (env : Env) (H : List Addr) (s : Shared) (T : TM) (ρ : Rho) (p : PV), Cx KK K env H s T ρ → ev S x ρ = some p → Ok (model prog w) A (valueOrNone (evalOpt e env)) s T (fun v g => Rep (hv H g) v p)
noncomputable def PC (K : KD) (ifs : List Expr) (x : X) : Prop := ∀ (env : Env) (H : List Addr) (s : Shared) (T : TM) (ρ : Rho) (p : PV) (b : Bool), Cx KK K env H s T ρ → ev S x ρ = some p → truthP p = some b →
  Ok (model prog w) A (forIn ifs true fun c r => if r = true then do let ok ← isTrue c env (eval c env); pure (ForInStep.yield ok) else pure (ForInStep.yield r)) s T (fun c g => c = b)
noncomputable def PI (K : KD) (k : IK) (it : Expr) (x y : X) : Prop := ∀ (env : Env) (H : List Addr) (s : Shared) (T : TM) (ρ : Rho) (p q : PV) (psl : List (List PV)) (tg : Tg) (t : Expr) (Kt : KD), Cx KK K env H s T ρ → ev S x ρ = some p → ev S y ρ = some q → items k p q = some psl → ikOk k tg = true → tg.Is Kt t →
  ItOk prog w A env H s T t it tg psl ∧ ∀ v, foldedSetIterable it env v = pure v
end

/-- an expression of the program, read as one of the small language -/
structure Tr (K : KD) (e : Expr) (x : X) : Prop where
  s : ∀ {prog : Program} {w : World} {A : Around} {S : SG} {KK : Frag}, Wd prog w A S KK → Pe prog w A S KK K e x ∧ Pt prog w A S KK K e x
structure TrL (K : KD) (es : List Expr) (x : X) : Prop where
  n : es.all noStar = true
  z : es = [] → x = .nil
  s : ∀ {prog : Program} {w : World} {A : Around} {S : SG} {KK : Frag}, Wd prog w A S KK → PL prog w A S KK K es x
structure TrO (K : KD) (e : Option Expr) (x : X) : Prop where
  s : ∀ {prog : Program} {w : World} {A : Around} {S : SG} {KK : Frag}, Wd prog w A S KK → PO prog w A S KK K e x
/-- the tests of a comprehension -/
structure TrC (K : KD) (ifs : List Expr) (x : X) : Prop where
  s : ∀ {prog : Program} {w : World} {A : Around} {S : SG} {KK : Frag}, Wd prog w A S KK → PC prog w A S KK K ifs x
/-- the iterable of a loop -/
structure TrI (K : KD) (k : IK) (it : Expr) (x y : X) : Prop where
  s : ∀ {prog : Program} {w : World} {A : Around} {S : SG} {KK : Frag}, Wd prog w A S KK → PI prog w A S KK K k it x y

section
variable {prog : Program} {w : World} {A : Around} {S : SG} {KK : Frag} {E : Value → Shared → Prop} {s : Shared} {T : TM} {env : Env} {H : List Addr} {ρ : Rho} {K : KD}

theorem pt_plain {e : Expr} {x : X} (h : Pe prog w A S KK K e x) (he : ∀ env whole, isTrue e env whole = (do let v ← whole; standAt e.pos; holding [v] (truthy v))) : Pt prog w A S KK K e x :=
  fun env H s T ρ p b cx hx hb E => isTrue_plain ((h env H s T ρ p cx hx).wp fun v s' T' rv g t => (truth_ok hb rv).wp fun c s'' T'' q g' t' => by
    obtain ⟨rfl, _⟩ := q
    exact ⟨T'', rfl, g.trans g' t'⟩) (he _ _)

theorem glob_fn (gb : Gb KK s.heap) (ok : EnvOk env H) {f : FN} {n : Str} {pos : Pos} (hf : f ≠ .geta) (hn : f.nm = n) (hk : env.kindOf n = some .globalImplicit) (hd : (n == ("__debug__" : Str)) = false) {Q : Value → Shared → Prop} (h : Q (.ref f.at) s) :
    wpAny (model prog w) A (eval (.Name n pos) env) Q E s := by
  obtain ⟨mg, mb, a, b, c, _⟩ := gb.ns
  exact Name_function_global ok.kind hk (loadGlobal_global (ok.glob ▸ a) (hn ▸ c f hf) h) hd
theorem glob_con (gb : Gb KK s.heap) (ok : EnvOk env H) {n : Str} {v : Value} {p : PV} {pos : Pos} (hm : (n, v, p) ∈ gcon) (hk : env.kindOf n = some .globalImplicit) (hd : (n == ("__debug__" : Str)) = false) {Q : Value → Shared → Prop} (h : Q v s) :
    wpAny (model prog w) A (eval (.Name n pos) env) Q E s := by
  obtain ⟨mg, mb, a, b, c, d, _⟩ := gb.ns
  exact Name_function_global ok.kind hk (loadGlobal_global (ok.glob ▸ a) (d _ hm) h) hd
theorem glob_bui (gb : Gb KK s.heap) (ok : EnvOk env H) {n : Str} {v : Value} {pos : Pos} (hm : (n, v) ∈ gbui) (hk : env.kindOf n = some .globalImplicit) (hd : (n == ("__debug__" : Str)) = false) {Q : Value → Shared → Prop} (h : Q v s) :
    wpAny (model prog w) A (eval (.Name n pos) env) Q E s := by
  obtain ⟨mg, mb, a, b, c, d, e, _⟩ := gb.ns
  exact Name_function_global ok.kind hk (loadGlobal_builtin (ok.glob ▸ a) (e _ hm).1 (ok.bui ▸ b) (e _ hm).2 h) hd
theorem glob_ref (gb : Gb KK s.heap) (ok : EnvOk env H) {n : Str} {v : Addr} {pos : Pos} (hm : (n, v) ∈ gref) (hk : env.kindOf n = some .globalImplicit) (hd : (n == ("__debug__" : Str)) = false) {Q : Value → Shared → Prop} (h : Q (.ref v) s) :
    wpAny (model prog w) A (eval (.Name n pos) env) Q E s := by
  obtain ⟨mg, mb, a, b, c, d, e, f⟩ := gb.ns
  exact Name_function_global ok.kind hk (loadGlobal_global (ok.glob ▸ a) (f _ hm) h) hd
theorem fn_dbg : ∀ f : FN, (f.nm == ("__debug__" : Str)) = false := by intro f; cases f <;> decide +kernel
theorem con_dbg : ∀ x ∈ gcon, (x.1 == ("__debug__" : Str)) = false := by decide +kernel
theorem bui_dbg : ∀ x ∈ gbui, (x.1 == ("__debug__" : Str)) = false := by
  intro x hx
  simp only [gbui, List.mem_cons, List.not_mem_nil, or_false] at hx
  rcases hx with rfl | rfl | rfl | rfl | rfl | rfl | rfl | rfl | rfl | rfl <;> decide +kernel
theorem in_list : (("list" : Str), Value.type "list") ∈ gbui := by simp [gbui]
theorem in_range : (("range" : Str), Value.type "range") ∈ gbui := by simp [gbui]
theorem in_zip : (("zip" : Str), Value.type "zip") ∈ gbui := by simp [gbui]
theorem in_type : (("type" : Str), Value.type "type") ∈ gbui := by simp [gbui]
theorem bi_in : ∀ b : BI, (b.nm, biV b) ∈ gbui := by intro b; cases b <;> simp [gbui, BI.nm]
theorem con_rep {g : GS} {x : Str × Value × PV} (h : x ∈ gcon) : Rep g x.2.1 x.2.2 := by
  simp only [gcon, List.mem_cons, List.not_mem_nil, or_false] at h
  rcases h with rfl | rfl | rfl | rfl
  · exact .str _ _
  · exact .int _ _
  · exact .int _ _
  · exact .int _ _

theorem starEach_cons {e : Expr} {r : List Expr} (h : noStar e = true) : starEach (e :: r) env = (false, eval e env) :: starEach r env := by
  cases e <;> first | rfl | (simp [noStar] at h)

theorem cst_ok {c : Const} {p : PV} {k : Nat} {pos : Pos} (h : cstP c = some p) (d : TDom T s.toks) : Ok (model prog w) A (eval (.Constant c k pos) env) s T (fun v g => Rep (hv H g) v p) := by
  cases c with
  | none => cases h; exact Ok.of fun Q E hq => Constant_none (hq _ _ T .none (Goes.refl _ _))
  | bool b => cases h; exact Ok.of fun Q E hq => Constant_bool (hq _ _ T (.bool _) (Goes.refl _ _))
  | int i => cases h; exact Ok.of fun Q E hq => wpAny_Constant_int (hq _ _ T (.int _ _) (Goes.tok _ _ _))
  | float b => cases h; exact Ok.of fun Q E hq => PySem.wpAny_Constant_float (hq _ _ (TAdd T s.toks b) (.flt _ _ d.1 (TAdd.at ..)) (Goes.flt d b))
  | str x => cases h; exact Ok.of fun Q E hq => Constant_str (hq _ _ T (.str _ _) (Goes.tok _ _ _))
  | _ => cases h

theorem lst_new {l : List PV} {vs : List Value} (r : RepL (hv H (gs s T)) vs l) (L : Laid H s.heap) (hz : l.length ≤ 1000) : Ok (model prog w) A (newList vs) s T (fun v g => Rep (hv H g) v (.lst l)) := Ok.of fun Q E hq => by
  have z := new_lst (n := 0) (tk := s.toks) L r
  exact wpAny_newObj_type (hq _ _ T z.1 z.2) (by have := r.length; show vs.length ≤ sizeLine; rw [this]; exact Nat.le_trans hz (by decide))
theorem tup_new {l : List PV} {vs : List Value} (r : RepL (hv H (gs s T)) vs l) (L : Laid H s.heap) (hz : l.length ≤ 1000) : Ok (model prog w) A (newTuple vs) s T (fun v g => Rep (hv H g) v (.tup l)) := Ok.of fun Q E hq => by
  have z := new_tup (n := 0) (tk := s.toks) L r
  exact wpAny_newObj_type (hq _ _ T z.1 z.2) (by have := r.length; show vs.length ≤ sizeLine; rw [this]; exact Nat.le_trans hz (by decide))

theorem slice_ok {l u st : Option Expr} {pos : Pos} {vl vu vs : PV} (L : ∀ s' T', Goes s T s' T' → s.toks ≤ s'.toks → Laid H s'.heap) (hl : Ok (model prog w) A (valueOrNone (evalOpt l env)) s T (fun v g => Rep (hv H g) v vl))
    (hu : ∀ s' T', Goes s T s' T' → s.toks ≤ s'.toks → Ok (model prog w) A (valueOrNone (evalOpt u env)) s' T' (fun v g => Rep (hv H g) v vu)) (hs : ∀ s' T', Goes s T s' T' → s.toks ≤ s'.toks → Ok (model prog w) A (valueOrNone (evalOpt st env)) s' T' (fun v g => Rep (hv H g) v vs)) :
    Ok (model prog w) A (eval (.Slice l u st pos) env) s T (fun v g => ∃ b a c d, v = .ref b ∧ g.h.IsSliceOf b a c d ∧ Rep (hv H g) a vl ∧ Rep (hv H g) c vu ∧ Rep (hv H g) d vs) := fun E => by
  rw [arm_eval_Slice]
  refine wpAny_bind (hl.wp fun a s₁ T₁ ra g₁ t₁ => wpAny_bind (wpAny_holding ((hu s₁ T₁ g₁ t₁).wp fun c s₂ T₂ rc g₂ t₂ => wpAny_bind (wpAny_holding ((hs s₂ T₂ (g₁.trans g₂ t₂) (Nat.le_trans t₁ t₂)).wp fun d s₃ T₃ rd g₃ t₃ => ?_)))))
  show wpAny _ _ (newFields "slice" [a, c, d]) _ _ _
  refine wpAny_newObj_type ⟨T₃, ?_, ((g₁.trans g₂ t₂).trans g₃ t₃).trans (Goes.of T₃ (keeps_of (tk := s₃.toks) fun b o e => Heap.get?_push_of_some _ e)) (Nat.le_refl _)⟩
  have k₃ : Le (gs s₃ T₃) ⟨s₃.heap.push { cls := .type "slice", data := .fields #[a, c, d] }, T₃⟩ := ⟨fun b o e => Heap.get?_push_of_some _ e, TExt.refl _⟩
  exact ⟨_, a, c, d, rfl, Heap.IsSliceOf.new _ _ _ _, ((ra.grow g₂.le.hv).grow g₃.le.hv).grow k₃.hv, (rc.grow g₃.le.hv).grow k₃.hv, rd.grow k₃.hv⟩

theorem ty_str {v : Value} {x : Str} (rv : Rep (hv H (gs s T)) v (.str x)) : s.TypeIs v "str" ∧ ∀ a, v = .ref a → ∃ ob, s.heap.get? a = some ob ∧ ob.dict = none := by
  obtain ⟨t, rfl⟩ := rv.strInv
  exact ⟨typeIs_str _ _ _, fun a ha => by cases ha⟩
theorem ty_lst {v : Value} {l : List PV} (rv : Rep (hv H (gs s T)) v (.lst l)) : s.TypeIs v "list" ∧ ∀ a, v = .ref a → ∃ ob, s.heap.get? a = some ob ∧ ob.dict = none := by
  obtain ⟨a, vs, rfl, ⟨n, y⟩, _⟩ := rv.lstInv
  have y' := hv_of y
  exact ⟨⟨_, y', rfl⟩, fun b hb => by cases hb; exact ⟨_, y', rfl⟩⟩
theorem me_type {m : ME} {p r : PV} {ps : List PV} (e : meP m p ps = some r) {v : Value} (rv : Rep (hv H (gs s T)) v p) : s.TypeIs v (meT m) ∧ ∀ a, v = .ref a → ∃ ob, s.heap.get? a = some ob ∧ ob.dict = none := by
  cases m <;> first | (obtain ⟨l, rfl, _⟩ := onStr_is e; exact ty_str rv) | (obtain ⟨l, rfl, _⟩ := onLst_is e; exact ty_lst rv)

theorem args_any (env : Env) (pos : Pos) : ∀ {es : List Expr}, es.all noStar = true → (backTo pos (starEach es env)).any (·.1) = false ∧ ((backTo pos (starEach es env)).all fun x => !x.1) = true
  | [], _ => ⟨rfl, rfl⟩
  | e :: es, h => by
    rw [List.all_cons, Bool.and_eq_true] at h
    rw [starEach_cons h.1]
    exact args_any env pos h.2

/-- a call of a function or a builtin by its value -/
theorem callB_ok {es : List Expr} {pos : Pos} {id : String} {first : List Value} {l : List PV} {r : PV} (tl : es.all noStar = true) (hl : es = [] → l = []) (h : Ok (model prog w) A (spliced (backTo pos (starEach es env))) s T (fun vs g => RepL (hv H g) vs l))
    (hc : ∀ s' T' vs, Goes s T s' T' → s.toks ≤ s'.toks → RepL (hv H (gs s' T')) vs l → Ok (model prog w) A (call (.builtin id) (first ++ vs)) s' T' (fun v g => Rep (hv H g) v r)) :
    Ok (model prog w) A (callWith pos (.builtin id) first (backTo pos (starEach es env)) []) s T (fun v g => Rep (hv H g) v r) := fun E => by
  refine callWith_builtin (args_any env pos tl).1 ?_
  have fin : ∀ vs s' T', RepL (hv H (gs s' T')) vs l → Goes s T s' T' → s.toks ≤ s'.toks → wpAny (model prog w) A (call (.builtin id) (first ++ vs)) (fun v s' => ∃ T', Rep (hv H (gs s' T')) v r ∧ Goes s T s' T') E s' := fun vs s' T' rv g t =>
    (hc s' T' vs g t rv).wp fun v s'' T'' rr g' t' => ⟨T'', rr, g.trans g' t'⟩
  cases es with
  | nil =>
    refine PySem.evalArgs_none ?_
    have e0 := hl rfl
    subst e0
    exact fin [] s T .nil (Goes.refl _ _) (Nat.le_refl _)
  | cons e es =>
    have hs := (Bool.and_eq_true_iff.mp tl).1
    rw [starEach_cons hs]
    refine evalArgs_plain ?_
    rw [starEach_cons hs] at h
    exact h.wp fun vs s' T' rv g t => fin vs s' T' rv g t

theorem cut3 {α : Type} {a b : Option α} {x y : α} (ha : a = some x) (hb : b = some y) : a = some x ∧ b = some y := ⟨ha, hb⟩

/-- a call of one of the program's functions -/
theorem callF_ok {f : FN} {es : List Expr} {pos : Pos} {first : List Value} {l : List PV} {r : PV} (tl : es.all noStar = true) (hne : es ≠ []) (gb : Gb KK s.heap) (h : Ok (model prog w) A (spliced (backTo pos (starEach es env))) s T (fun vs g => RepL (hv H g) vs l))
    (hc : ∀ s' T' vs, Goes s T s' T' → s.toks ≤ s'.toks → RepL (hv H (gs s' T')) vs l → Ok (model prog w) A (call (.ref f.at) (first ++ vs)) s' T' (fun v g => Rep (hv H g) v r)) :
    Ok (model prog w) A (callWith pos (.ref f.at) first (backTo pos (starEach es env)) []) s T (fun v g => Rep (hv H g) v r) := fun E => by
  obtain ⟨o, fd, ho, hd, _⟩ := gb.fo f
  refine callWith_function (o := o) (fd := fd) ?_
  cases es with
  | nil => exact absurd rfl hne
  | cons e es =>
    have hs := (Bool.and_eq_true_iff.mp tl).1
    rw [starEach_cons hs] at h ⊢
    refine evalArgs_plain (h.wp fun vs s' T' rv g tt => ⟨⟨keeps_grow g.k _ _ ho, hd⟩, (hc s' T' vs g tt rv).wp fun v s'' T'' rr g' t' => ⟨T'', rr, g.trans g' t'⟩⟩)

theorem looks_fn {M : Model} {h : Heap} {a : Addr} {o : Obj} {fd : FuncData} (x : h.get? a = some o ∧ o.data = .func fd) : ∃ k, (k = Keeper.frame ∨ k = Keeper.machine ∨ k = Keeper.boundFrame) ∧ Looks M h (keeperOf (.ref a)) k := by
  refine ⟨.frame, .inl rfl, (Looks.ld (part := none) x.1).andThen ?_⟩
  rw [x.2]
  exact .now

theorem callStar_ok {f : FN} {e : Expr} {pos p : Pos} {pv : PV} {l : List PV} {r : PV} (gb : Gb KK s.heap) (h : Ok (model prog w) A (eval e env) s T (fun v g => Rep (hv H g) v pv)) (hp : pv = .lst l ∨ pv = .tup l) (hz : l.length ≤ 1000)
    (hc : ∀ s' T' vs, Goes s T s' T' → s.toks ≤ s'.toks → RepL (hv H (gs s' T')) vs l → Ok (model prog w) A (call (.ref f.at) vs) s' T' (fun v g => Rep (hv H g) v r)) :
    Ok (model prog w) A (callWith pos (.ref f.at) [] (backTo pos (starEach [.Starred e p] env)) []) s T (fun v g => Rep (hv H g) v r) := fun E => by
  obtain ⟨o, fd, ho, hd, _⟩ := gb.fo f
  refine ks_call (P := fun h => h.get? f.at = some o ∧ o.data = .func fd) rfl (fun h x => looks_fn x) (ks_lone (h.wp fun v s₁ T₁ rv g₁ t₁ => ?_))
  have fin : ∀ (a : Addr) (vs : List Value) (ob : Obj) (n : Nat) (Ty : String), v = .ref a → RepL (hv H (gs s₁ T₁)) vs l → s₁.heap.get? a = some ob → ob.cls = .type Ty → ob.data = .seq vs.toArray n → (Ty = "list" ∨ Ty = "tuple") →
      StarOf (model prog w) A E v (fun vs s₂ => (s₂.heap.get? f.at = some o ∧ o.data = .func fd) ∧ wpAny (model prog w) A (call (.ref f.at) ([] ++ vs)) (fun v s' => ∃ T', Rep (hv H (gs s' T')) v r ∧ Goes s T s' T') E s₂) s₁ := by
    rintro a vs ob n Ty rfl rl e hcl hdat hT
    have hT' : s₁.TypeIs (.ref a) Ty := ⟨ob, e, hcl⟩
    have hsz : vs.toArray.size ≤ sizeLine := by rw [List.size_toArray, rl.length]; exact Nat.le_trans hz (by decide)
    have z := wpAny_collect_seq (prog := prog) (w := w) (A := A) (E := E) (s := s₁) (Q := fun vs s₂ => (s₂.heap.get? f.at = some o ∧ o.data = .func fd) ∧ wpAny (model prog w) A (call (.ref f.at) ([] ++ vs)) (fun v s' => ∃ T', Rep (hv H (gs s' T')) v r ∧ Goes s T s' T') E s₂)
      a hT e hcl hdat (fun h' hk => by
        have g₂ : Goes s₁ T₁ { s₁ with heap := h' } T₁ := Goes.of T₁ (keeps_of (tk := s₁.toks) hk)
        exact ⟨⟨hk _ _ (keeps_grow g₁.k _ _ ho), hd⟩, (hc _ T₁ vs (g₁.trans g₂ (Nat.le_refl _)) t₁ (rl.grow g₂.le.hv)).wp fun v s'' T'' rr g' t' => ⟨T'', rr, (g₁.trans g₂ (Nat.le_refl _)).trans g' t'⟩⟩) hsz
    unfold StarOf notIterableAtAll
    rcases hT with rfl | rfl
    · exact wpAny_bind (wpAny_specialOf hT' PySem.F.slot_list_iter.lookup (wpAny_pure ⟨rfl, z⟩))
    · exact wpAny_bind (wpAny_specialOf hT' PySem.F.slot_tuple_iter.lookup (wpAny_pure ⟨rfl, z⟩))
  rcases hp with rfl | rfl
  · obtain ⟨a, vs, rfl, ⟨n, y⟩, rl⟩ := rv.lstInv
    exact fin a vs _ n "list" rfl rl (hv_of y) rfl rfl (.inl rfl)
  · obtain ⟨a, vs, rfl, ⟨n, y⟩, rl⟩ := rv.tupInv
    exact fin a vs _ n "tuple" rfl rl (hv_of y) rfl rfl (.inr rfl)

/-- a call of a method of an object -/
theorem callM_rule {o : Expr} {name : Str} {apos pos : Pos} {args : List Expr} {Q : Value → Shared → Prop}
    (hbase : attributeBase o name env (eval o env) = eval o env)
    (hfew : ((backTo pos (starEach args env)).all (fun x => !x.1) && (backToKw pos (keywordEach [] env)).all (fun x => x.1.isSome)
      && decide (args.length + ([] : List Keyword).length + (if ([] : List Keyword).isEmpty then 0 else 1) < 30)) = true)
    (hline : (apos.endLine == pos.line) = true)
    (h : wpAny (model prog w) A (eval o env) (fun ov s₁ => ∀ pl, wpAny (model prog w) A (getMethod ov name pl) (fun fx s₂ => wpAny (model prog w) A (callWith pos fx.1 fx.2 (backTo pos (starEach args env)) []) Q E s₂) E s₁) E s) :
    wpAny (model prog w) A (eval (.Call (.Attribute o name apos) args [] pos) env) Q E s := by
  rw [arm_eval_Call, hbase]
  refine wpAny_bind (wpAny_mono h (fun ov s₁ h₁ => ?_) fun _ _ e => e)
  refine wpAny_bind (wpAny_standAt ?_)
  first
    | (
       have hform : methodCallForm (args.length + ([] : List Keyword).length) (backTo pos (starEach args env)) (backToKw pos (keywordEach [] env)) = true := hfew
       have hpos : methodCallPos true o env apos pos = pure pos := by unfold methodCallPos; simp [hline]
       unfold methodCall
       rw [hform]
       refine wpAny_bind (wpAny_holding (wpAny_mono (h₁ _) (fun fx s₂ h₂ => ?_) fun _ _ e => e))
       exact wpAny_bind (wpAny_of_eq hpos h₂))
    | (
       unfold methodCall calleeOf methodCallPos methodCallForm
       simp only [hfew, hline, if_true, Bool.not_true, Bool.or_true]
       refine wpAny_bind (wpAny_holding (wpAny_mono (h₁ _) (fun fx s₂ h₂ => ?_) fun _ _ e => e))
       exact wpAny_bind (wpAny_pure h₂))
    | (
       simp only [hfew, hline, if_true, Bool.not_true, Bool.or_true]
       refine wpAny_bind (wpAny_holding (wpAny_mono (h₁ _) (fun fx s₂ h₂ => ?_) fun _ _ e => e))
       exact wpAny_bind (wpAny_pure h₂))
end
end Mine

-- M13
namespace Mine

theorem cmp_true {prog : Program} {w : World} {A : Around} {s : Shared} {T : TM} {H : List Addr} {KK : Frag} {S : SG} (W : Wd prog w A S KK) {op : CmpOp} {p q : PV} {r : Bool} (e : cmpP op p q = some r) {a b : Value} (ra : Rep (hv H (gs s T)) a p) (rb : Rep (hv H (gs s T)) b q) (gb : Gb KK s.heap) {E : Value → Shared → Prop} {Q : Bool → Shared → Prop}
    (h : ∀ s' T', Goes s T s' T' → s.toks ≤ s'.toks → Q r s') : wpAny (model prog w) A (compareOp op a b) (fun c s₂ => wpAny (model prog w) A (truthy c) Q E s₂) E s :=
  (cmp_ok e ra rb W.hu gb.nb).wp fun v s' T' q g t => by
    obtain ⟨rfl, _⟩ := q
    exact wpAny_truthy_bool (h s' T' g t)

theorem okLen_is {l : List PV} {p : PV} (h : okLen l = some p) : p = .lst l ∧ l.length ≤ 1000 := by
  unfold okLen at h
  split at h
  · cases h; exact ⟨rfl, by assumption⟩
  · cases h

theorem condV_is {t e : Option PV} {qs : List PV} (h : condV t e = some qs) : ∃ p, t = some p ∧ ((truthP p = some false ∧ qs = []) ∨ (truthP p = some true ∧ ∃ q, e = some q ∧ qs = [q])) := by
  unfold condV at h
  split at h
  · rename_i p
    refine ⟨p, rfl, ?_⟩
    split at h
    · rename_i ht
      split at h
      · cases h; exact .inr ⟨ht, _, rfl, rfl⟩
      · cases h
    · rename_i ht; cases h; exact .inl ⟨ht, rfl⟩
    · cases h
  · cases h

section
variable {prog : Program} {w : World} {A : Around} {S : SG} {KK : Frag}

/-- the element of a comprehension, from what its tests and its value answer -/
theorem elt_of {K : KD} {env : Env} {H : List Addr} {s : Shared} {T : TM} {ρ : Rho} {scope : Scope} {ifs : List Expr} {elt : Expr} {xc xe : X} {tgs : List Str} (cx : Cx KK K env H s T ρ) (hks : scope.kind = .function) (hsc : scOk K tgs scope.names = true)
    (pc : PC prog w A S KK (kdC K scope.names) ifs xc) (pe : Pe prog w A S KK (kdC K scope.names) elt xe) {C : Addr} {H' : List Addr} {s' : Shared} {T' : TM} {ρ' : Rho} {qs : List PV} (hF : condV (ev S xc ρ') (ev S xe ρ') = some qs)
    (ok : EnvOk (compEnvC scope (closL env.cells scope.names []) C env) H') (r : EnvR (compEnvC scope (closL env.cells scope.names []) C env) H' (gs s' T') ρ') (d : TDom T' s'.toks) (l : Laid H' s'.heap) (k : Grow s.heap s'.heap) (E' : Value → Shared → Prop) :
    wpAny (model prog w) A (forIn ifs true fun c r => if r = true then do let ok ← isTrue c (compEnvC scope (closL env.cells scope.names []) C env) (eval c (compEnvC scope (closL env.cells scope.names []) C env)); pure (ForInStep.yield ok) else pure (ForInStep.yield r))
      (fun ok s₄ => ∃ T₄, Goes s' T' s₄ T₄ ∧ s'.toks ≤ s₄.toks ∧ ((ok = false ∧ qs = []) ∨ (ok = true ∧ ∃ q, qs = [q] ∧ Ok (model prog w) A (eval elt (compEnvC scope (closL env.cells scope.names []) C env)) s₄ T₄ (fun v g => Rep (hv H' g) v q)))) E' s' := by
  have cx' : Cx KK (kdC K scope.names) (compEnvC scope (closL env.cells scope.names []) C env) H' s' T' ρ' := ⟨by rw [kdC_is cx.ok.kind, cx.k], ok, cx.gb.grow k, r, d, l⟩
  obtain ⟨p, et, hc⟩ := condV_is hF
  rcases hc with ⟨ht, rfl⟩ | ⟨ht, q, eq, rfl⟩
  · exact (pc _ _ _ _ _ _ _ cx' et ht).wp fun c s₄ T₄ hc g t => ⟨T₄, g, t, .inl ⟨hc, rfl⟩⟩
  · exact (pc _ _ _ _ _ _ _ cx' et ht).wp fun c s₄ T₄ hc g t => ⟨T₄, g, t, .inr ⟨hc, q, rfl, pe _ _ _ _ _ _ (cx'.step g t) eq⟩⟩

theorem pp {K : KD} {e : Expr} {x : X} (h : Pe prog w A S KK K e x) (he : ∀ env whole, isTrue e env whole = (do let v ← whole; standAt e.pos; holding [v] (truthy v))) : Pe prog w A S KK K e x ∧ Pt prog w A S KK K e x := ⟨h, pt_plain h he⟩

theorem isTrue_cmp1 {M : Model} {env : Env} {E : Value → Shared → Prop} {s : Shared} {l r : Expr} {op : CmpOp} {pos : Pos} {whole : Sem Value} {Q : Bool → Shared → Prop}
    (h : wpAny M A (eval l env) (fun a s₁ => wpAny M A (testChain pos a [op] [eval r env]) Q E s₁) E s) (hm : behindInMarks op r = false) : wpAny M A (isTrue (.Compare l [op] [r] pos) env whole) Q E s := by
  show wpAny M A (do testChain pos (← eval l env) [op] (markedEach [op] [r] [eval r env])) Q E s
  rw [markedEach_of_false [op] [r] _ hm]
  exact wpAny_bind h

theorem callV_ok {env : Env} {H : List Addr} {s : Shared} {T : TM} {es : List Expr} {pos : Pos} {f : Value} {l : List PV} {r : PV} (hf : (∃ id, f = .builtin id) ∨ ∃ id, f = .type id) (tl : es.all noStar = true) (hne : es ≠ []) (h : Ok (model prog w) A (spliced (backTo pos (starEach es env))) s T (fun vs g => RepL (hv H g) vs l))
    (hc : ∀ s' T' vs, Goes s T s' T' → s.toks ≤ s'.toks → RepL (hv H (gs s' T')) vs l → Ok (model prog w) A (call f vs) s' T' (fun v g => Rep (hv H g) v r)) :
    Ok (model prog w) A (callWith pos f [] (backTo pos (starEach es env)) []) s T (fun v g => Rep (hv H g) v r) := fun E => by
  have fin : ∀ vs s' T', RepL (hv H (gs s' T')) vs l → Goes s T s' T' → s.toks ≤ s'.toks → wpAny (model prog w) A (call f ([] ++ vs)) (fun v s' => ∃ T', Rep (hv H (gs s' T')) v r ∧ Goes s T s' T') E s' := fun vs s' T' rv g t =>
    (hc s' T' vs g t rv).wp fun v s'' T'' rr g' t' => ⟨T'', rr, g.trans g' t'⟩
  cases es with
  | nil => exact absurd rfl hne
  | cons e es =>
    have ha := (args_any env pos tl).1
    have hs := (Bool.and_eq_true_iff.mp tl).1
    rw [starEach_cons hs] at h ha ⊢
    rcases hf with ⟨id, rfl⟩ | ⟨id, rfl⟩
    · exact callWith_builtin ha (evalArgs_plain (h.wp fun vs s' T' rv g t => fin vs s' T' rv g t))
    · exact PySem.callWith_type ha (evalArgs_plain (h.wp fun vs s' T' rv g t => fin vs s' T' rv g t))
theorem biV_is (b : BI) : (∃ id, biV b = .builtin id) ∨ ∃ id, biV b = .type id := by cases b <;> first | exact .inl ⟨_, rfl⟩ | exact .inr ⟨_, rfl⟩
theorem few_ok {env : Env} {es : List Expr} (tl : es.all noStar = true) (hlen : es.length < 5) (pos : Pos) : ((backTo pos (starEach es env)).all (fun x => !x.1) && (backToKw pos (keywordEach [] env)).all (fun x => x.1.isSome)
      && decide (es.length + ([] : List Keyword).length + (if ([] : List Keyword).isEmpty then 0 else 1) < 30)) = true := by
  rw [(args_any env pos tl).2]
  have : es.length + ([] : List Keyword).length + (if ([] : List Keyword).isEmpty then 0 else 1) < 30 := by simp; omega
  rw [decide_eq_true this]
  rfl

theorem itL_ok {K : KD} {e t : Expr} {x : X} {env : Env} {H : List Addr} {s : Shared} {T : TM} {ρ : Rho} {p q : PV} {psl : List (List PV)} {i : Nat} {Kt : KD} (W : Wd prog w A S KK) (pe : Pe prog w A S KK K e x) (cx : Cx KK K env H s T ρ) (hx : ev S x ρ = some p)
    (hi : items .L p q = some psl) (ht : (Tg.one i).Is Kt t) : ItOk prog w A env H s T t e (.one i) psl := fun E => by
  obtain ⟨n, px, rfl, _⟩ := ht
  refine (pe _ _ _ _ _ _ cx hx).wp fun v s₁ T₁ rv g₁ t₁ => ?_
  unfold items at hi
  split at hi
  all_goals first | (cases hi; done) | skip
  · cases hi
    exact wpAny_with_toks (Nat.le_refl _) (iter_L W.hh (cx.step g₁ t₁).l ⟨n, px, rfl⟩ rv fun it s₂ tn tk => ⟨s₁, T₁, g₁, t₁, tk, tn⟩)
  all_goals rename_i h; cases h

theorem sub_slice (l u st : Option Expr) (p : Pos) (a : Value) (b : Addr) : ∃ ops, subscripted (.Slice l u st p) false a (.ref b) = operate ops (getItem a (.ref b)) := by cases st <;> exact ⟨_, rfl⟩

end
theorem sound {prog : Program} {w : World} {A : Around} {S : SG} {KK : Frag} (W : Wd prog w A S KK) {K : KD} {e : Expr} {x : X} (h : Tr K e x) : Pe prog w A S KK K e x ∧ Pt prog w A S KK K e x := h.s W
theorem soundL {prog : Program} {w : World} {A : Around} {S : SG} {KK : Frag} (W : Wd prog w A S KK) {K : KD} {es : List Expr} {x : X} (h : TrL K es x) : PL prog w A S KK K es x := h.s W
theorem soundO {prog : Program} {w : World} {A : Around} {S : SG} {KK : Frag} (W : Wd prog w A S KK) {K : KD} {e : Option Expr} {x : X} (h : TrO K e x) : PO prog w A S KK K e x := h.s W
theorem soundC {prog : Program} {w : World} {A : Around} {S : SG} {KK : Frag} (W : Wd prog w A S KK) {K : KD} {ifs : List Expr} {x : X} (h : TrC K ifs x) : PC prog w A S KK K ifs x := h.s W
theorem soundI {prog : Program} {w : World} {A : Around} {S : SG} {KK : Frag} (W : Wd prog w A S KK) {K : KD} {k : IK} {e : Expr} {x y : X} (h : TrI K k e x y) : PI prog w A S KK K k e x y := h.s W

theorem TrO.none {K : KD} : TrO K none (.cst .none) := ⟨fun W => fun env H s T ρ p cx hx E => by
  cases hx
  exact wpAny_pure ⟨T, .none, Goes.refl _ _⟩⟩
theorem TrO.some {K : KD} {e : Expr} {x : X} (h : Tr K e x) : TrO K (some e) x := ⟨fun W => fun env H s T ρ p cx hx E => (sound W h).1 env H s T ρ p cx hx E⟩
theorem TrC.nil {K : KD} : TrC K [] (.cst (.bool true)) := ⟨fun W => fun env H s T ρ p b cx hx ht E => by
  cases hx
  cases ht
  exact wpAny_tests_nil ⟨T, rfl, Goes.refl _ _⟩⟩
theorem TrC.one {K : KD} {e : Expr} {x : X} (h : Tr K e x) : TrC K [e] x := ⟨fun W => fun env H s T ρ p b cx hx ht E => wpAny_tests_one ((sound W h).2 env H s T ρ p b cx hx ht E)⟩
theorem TrL.nil {K : KD} : TrL K [] .nil := ⟨rfl, fun _ => rfl, fun W => fun env H s T ρ l pos cx hx E => by
  simp only [ev] at hx
  cases hx
  exact wpAny_items_nil ⟨T, .nil, Goes.refl _ _⟩⟩
theorem TrL.cons {K : KD} {e : Expr} {es : List Expr} {x xs : X} (hs : noStar e = true) (h : Tr K e x) (t : TrL K es xs) : TrL K (e :: es) (.cons x xs) := ⟨Bool.and_eq_true_iff.mpr ⟨hs, t.n⟩, (fun h => nomatch h), fun W => fun env H s T ρ l pos cx hx E => by
  simp only [ev] at hx
  split at hx
  · rename_i p l' ep el
    cases hx
    exact wpAny_items_cons (((sound W h).1 env H s T ρ _ cx ep).wp fun v s₁ T₁ rv g₁ t₁ => (soundL W t env H s₁ T₁ ρ l' pos (cx.step g₁ t₁) el).wp fun vs s₂ T₂ rvs g₂ t₂ => ⟨T₂, .cons (rv.grow g₂.le.hv) rvs, g₁.trans g₂ t₂⟩) (starEach_cons hs)
  · cases hx⟩
theorem TrI.L {K : KD} {e : Expr} {x : X} (h : Tr K e x) (hn : ∀ env v, foldedSetIterable e env v = pure v) : TrI K .L e x (.cst .none) := ⟨fun W => fun env H s T ρ p q psl tg t Kt cx hx hy hi hk ht => by
  cases tg with
  | one i => exact ⟨itL_ok W (sound W h).1 cx hx hi ht, hn env⟩
  | two i j => cases hk⟩
theorem TrI.R {K : KD} {e : Expr} {x : X} {p pos : Pos} (hk' : glob K "range") (h : Tr K e x) (hs : noStar e = true) : TrI K .R (.Call (.Name "range" p) [e] [] pos) x (.cst .none) := ⟨fun W => fun env H s T ρ p q psl tg t Kt cx hx hy hi hk ht => by
  cases tg with
  | two i j => cases hk
  | one i =>
    refine ⟨fun E => ?_, fun v => rfl⟩
    obtain ⟨nm, px, rfl, _⟩ := ht
    refine wpAny_Call_NameR (glob_bui (v := .type "range") cx.gb cx.ok in_range (cx.k ▸ hk') (by decide +kernel) ?_)
    rw [starEach_cons hs]
    refine PySem.callWith_type rfl (evalArgs_plain (Calls.spliced_cons (((sound W h).1 env H s T ρ _ cx hx).wp fun v s₁ T₁ rv g₁ t₁ => Calls.spliced_nil ?_)))
    cases p with
    | int n =>
      simp only [items] at hi
      split at hi
      · rename_i hn
        cases hi
        obtain ⟨t1, rfl⟩ := rv.intInv
        have c₁ := cx.step g₁ t₁
        refine wpAny_with_toks (n := s₁.toks) (Nat.le_refl _) (call_range_1 fun tk => wpAny_with_toks (n := s₁.toks) tk (iter_R' (s := s₁) (T := T₁) W.hh (Laid.grow c₁.l fun b o e => Heap.get?_push_of_some _ e) ⟨nm, px, rfl⟩ hn (IsRange.new ..) (Goes.of T₁ (keeps_of fun b o e => Heap.get?_push_of_some _ e)) fun it s₂ tn tk' => ⟨s₁, T₁, g₁, t₁, tk', tn⟩))
      · cases hi
    | _ => simp [items] at hi⟩
theorem TrI.Z {K : KD} {e f : Expr} {x y : X} {p pos : Pos} (hk' : glob K "zip") (h : Tr K e x) (h' : Tr K f y) (hs : noStar e = true) (hs' : noStar f = true) : TrI K .Z (.Call (.Name "zip" p) [e, f] [] pos) x y := ⟨fun W => fun env H s T ρ p q psl tg t Kt cx hx hy hi hk ht => by
  cases tg with
  | one i => cases hk
  | two i j =>
    refine ⟨fun E => ?_, fun v => rfl⟩
    obtain ⟨n, m, px, py, k, pos', rfl, _⟩ := ht
    refine wpAny_Call_NameR (glob_bui (v := .type "zip") cx.gb cx.ok in_zip (cx.k ▸ hk') (by decide +kernel) ?_)
    rw [starEach_cons hs, starEach_cons hs']
    refine PySem.callWith_type rfl (evalArgs_plain (Calls.spliced_cons (((sound W h).1 env H s T ρ _ cx hx).wp fun v s₁ T₁ rv g₁ t₁ => Calls.spliced_cons (((sound W h').1 env H s₁ T₁ ρ _ (cx.step g₁ t₁) hy).wp fun u s₂ T₂ ru g₂ t₂ => Calls.spliced_nil ?_))))
    have c₂ := (cx.step g₁ t₁).step g₂ t₂
    simp only [items] at hi
    split at hi
    · rename_i l m' el em
      cases hi
      · exact wpAny_with_toks (n := s₂.toks) (Nat.le_refl _) (wpAny_mono (iter_Z (x := i) (y := j) W.hh c₂.l ⟨_, k, pos', rfl⟩ el em (rv.grow g₂.le.hv) ru (fun it s₃ tn => tn)) (fun v s₃ h₃ tk => wpAny_with_toks (n := s₂.toks) tk (wpAny_mono h₃ (fun it s₄ tn tk' => ⟨s₂, T₂, g₁.trans g₂ t₂, Nat.le_trans t₁ t₂, tk', tn⟩) fun _ _ x _ => x)) fun _ _ x _ => x)
    · cases hi⟩
theorem Tr.nm {K : KD} {i : Nat} {x : Str} {pos : Pos} (hi : tb[i]? = some x) (hk : K x = some .local ∨ K x = some .cell ∨ K x = some .free) : Tr K (.Name x pos) (.nm i) := ⟨fun W => by
  refine pp (fun env H s T ρ p cx hx E => ?_) fun _ _ => rfl
  · obtain ⟨v, n, rv⟩ := cx.r _ _ p hi (cx.k ▸ hk) hx
    exact n.load cx.ok.kind (tb_mem hi) ⟨T, rv, Goes.refl _ _⟩⟩
theorem Tr.cst {K : KD} {c : Const} {p : PV} {k : Nat} {pos : Pos} (h : cstP c = some p) : Tr K (.Constant c k pos) (.cst p) := ⟨fun W => by
  refine pp (fun env H s T ρ p cx hx => ?_) fun _ _ => rfl
  · cases hx
    exact cst_ok h cx.d⟩
theorem Tr.gc {K : KD} {x : Str} {v : Value} {p : PV} {pos : Pos} (hk : glob K x) (hm : (x, v, p) ∈ gcon) : Tr K (.Name x pos) (.cst p) := ⟨fun W => by
  refine pp (fun env H s T ρ p cx hx E => ?_) fun _ _ => rfl
  · cases hx
    exact glob_con cx.gb cx.ok hm (cx.k ▸ hk) (con_dbg _ hm) ⟨T, con_rep hm, Goes.refl _ _⟩⟩
theorem Tr.bin {K : KD} {op : Operator} {a b : Expr} {xa xb : X} {pos : Pos} (ha : Tr K a xa) (hb : Tr K b xb) : Tr K (.BinOp a op b pos) (.bin op xa xb) := ⟨fun W => by
  refine pp (fun env H s T ρ p cx hx E => ?_) fun _ _ => rfl
  · simp only [ev] at hx
    split at hx
    · rename_i pa pb ea eb
      refine wpAny_BinOp (((sound W ha).1 env H s T ρ _ cx ea).wp fun a s₁ T₁ ra g₁ t₁ => ((sound W hb).1 env H s₁ T₁ ρ _ (cx.step g₁ t₁) eb).wp fun b s₂ T₂ rb g₂ t₂ => ?_)
      have c₂ := (cx.step g₁ t₁).step g₂ t₂
      exact (bin_ok hx (ra.grow g₂.le.hv) rb c₂.l c₂.d).wp fun v s₃ T₃ rv g₃ t₃ => ⟨T₃, rv, (g₁.trans g₂ t₂).trans g₃ t₃⟩
    · cases hx⟩
theorem Tr.cmp {K : KD} {op : CmpOp} {a b : Expr} {xa xb : X} {pos : Pos} (ha : Tr K a xa) (hb : Tr K b xb) (hm : behindInMarks op b = false) : Tr K (.Compare a [op] [b] pos) (.cmp op xa xb) := ⟨fun W => by
  refine ⟨fun env H s T ρ p cx hx E => ?_, fun env H s T ρ p b cx hx ht E => ?_⟩
  · simp only [ev] at hx
    split at hx
    · rename_i pa pb ea eb
      obtain ⟨r, hr, rfl⟩ := Option.map_eq_some_iff.mp hx
      refine wpAny_Compare1 (((sound W ha).1 env H s T ρ _ cx ea).wp fun a s₁ T₁ ra g₁ t₁ => ((sound W hb).1 env H s₁ T₁ ρ _ (cx.step g₁ t₁) eb).wp fun b s₂ T₂ rb g₂ t₂ => ?_) hm
      have c₂ := (cx.step g₁ t₁).step g₂ t₂
      exact (cmp_ok hr (ra.grow g₂.le.hv) rb W.hu c₂.gb.nb).wp fun v s₃ T₃ rv g₃ t₃ => ⟨T₃, rv.1 ▸ .bool _, (g₁.trans g₂ t₂).trans g₃ t₃⟩
    · cases hx
  · simp only [ev] at hx
    split at hx
    · rename_i pa pb ea eb
      obtain ⟨r, hr, rfl⟩ := Option.map_eq_some_iff.mp hx
      cases ht
      refine isTrue_cmp1 (((sound W ha).1 env H s T ρ _ cx ea).wp fun a s₁ T₁ ra g₁ t₁ => test_last (((sound W hb).1 env H s₁ T₁ ρ _ (cx.step g₁ t₁) eb).wp fun b s₂ T₂ rb g₂ t₂ => ?_)) hm
      have c₂ := (cx.step g₁ t₁).step g₂ t₂
      exact cmp_true W hr (ra.grow g₂.le.hv) rb c₂.gb fun s₃ T₃ g₃ t₃ => ⟨T₃, (by first | rfl | trivial), (g₁.trans g₂ t₂).trans g₃ t₃⟩
    · cases hx⟩
theorem Tr.chn {K : KD} {o1 o2 : CmpOp} {a b c : Expr} {xa xb xc : X} {pos : Pos} (ha : Tr K a xa) (hb : Tr K b xb) (hc : Tr K c xc) (hm : lastMarks [o1, o2] [b, c] = false) : Tr K (.Compare a [o1, o2] [b, c] pos) (.chn o1 o2 xa xb xc) := ⟨fun W => by
  refine ⟨fun env H s T ρ p cx hx E => ?_, fun env H s T ρ p b cx hx ht E => ?_⟩
  · simp only [ev] at hx
    split at hx
    · rename_i pa pb ea eb
      refine Compare_chain (((sound W ha).1 env H s T ρ _ cx ea).wp fun a s₁ T₁ ra g₁ t₁ => chain_link (((sound W hb).1 env H s₁ T₁ ρ _ (cx.step g₁ t₁) eb).wp fun b s₂ T₂ rb g₂ t₂ => ?_)) hm
      have c₂ := (cx.step g₁ t₁).step g₂ t₂
      split at hx
      · rename_i hr
        split at hx
        · rename_i pc ec
          obtain ⟨r, hr', rfl⟩ := Option.map_eq_some_iff.mp hx
          refine (cmp_ok hr (ra.grow g₂.le.hv) rb W.hu c₂.gb.nb).wp fun v s₃ T₃ rv g₃ t₃ => ?_
          obtain ⟨rfl, _⟩ := rv
          have c₃ := c₂.step g₃ t₃
          refine wpAny_truthy_bool ?_
          simp only [if_true]
          exact chain_last (((sound W hc).1 env H s₃ T₃ ρ _ c₃ ec).wp fun c s₄ T₄ rc g₄ t₄ => (cmp_ok hr' ((rb.grow g₃.le.hv).grow g₄.le.hv) rc W.hu (c₃.step g₄ t₄).gb.nb).wp fun v s₅ T₅ rv g₅ t₅ =>
            ⟨T₅, rv.1 ▸ .bool _, (((g₁.trans g₂ t₂).trans g₃ t₃).trans g₄ t₄).trans g₅ t₅⟩)
        · cases hx
      · rename_i hr
        cases hx
        refine (cmp_ok hr (ra.grow g₂.le.hv) rb W.hu c₂.gb.nb).wp fun v s₃ T₃ rv g₃ t₃ => ?_
        obtain ⟨rfl, _⟩ := rv
        refine wpAny_truthy_bool ?_
        simp only [Bool.false_eq_true, if_false]
        exact ⟨T₃, .bool _, (g₁.trans g₂ t₂).trans g₃ t₃⟩
      · cases hx
    · cases hx
  · simp only [ev] at hx
    split at hx
    · rename_i pa pb ea eb
      refine isTrue_chain (((sound W ha).1 env H s T ρ _ cx ea).wp fun a s₁ T₁ ra g₁ t₁ => test_link (((sound W hb).1 env H s₁ T₁ ρ _ (cx.step g₁ t₁) eb).wp fun b s₂ T₂ rb g₂ t₂ => ?_)) hm
      have c₂ := (cx.step g₁ t₁).step g₂ t₂
      split at hx
      · rename_i hr
        split at hx
        · rename_i pc ec
          obtain ⟨r, hr', rfl⟩ := Option.map_eq_some_iff.mp hx
          cases ht
          refine cmp_true W hr (ra.grow g₂.le.hv) rb c₂.gb fun s₃ T₃ g₃ t₃ => ?_
          have c₃ := c₂.step g₃ t₃
          simp only [if_true]
          exact test_last (((sound W hc).1 env H s₃ T₃ ρ _ c₃ ec).wp fun c s₄ T₄ rc g₄ t₄ => cmp_true W hr' ((rb.grow g₃.le.hv).grow g₄.le.hv) rc (c₃.step g₄ t₄).gb fun s₅ T₅ g₅ t₅ =>
            ⟨T₅, (by first | rfl | trivial), (((g₁.trans g₂ t₂).trans g₃ t₃).trans g₄ t₄).trans g₅ t₅⟩)
        · cases hx
      · rename_i hr
        cases hx
        cases ht
        refine cmp_true W hr (ra.grow g₂.le.hv) rb c₂.gb fun s₃ T₃ g₃ t₃ => ?_
        simp only [Bool.false_eq_true, if_false]
        exact ⟨T₃, (by first | rfl | trivial), (g₁.trans g₂ t₂).trans g₃ t₃⟩
      · cases hx
    · cases hx⟩
theorem Tr.not {K : KD} {a : Expr} {xa : X} {pos : Pos} (ha : Tr K a xa) : Tr K (.UnaryOp .Not a pos) (.not xa) := ⟨fun W => by
  refine ⟨fun env H s T ρ p cx hx E => ?_, fun env H s T ρ p b cx hx ht E => ?_⟩
  · simp only [ev] at hx
    split at hx
    · rename_i pa ea
      obtain ⟨r, hr, rfl⟩ := Option.map_eq_some_iff.mp hx
      exact UnaryOp_ (((sound W ha).1 env H s T ρ _ cx ea).wp fun a s₁ T₁ ra g₁ t₁ => not_of ((truth_ok hr ra).wp fun c s₂ T₂ hc g₂ t₂ => ⟨T₂, hc.1 ▸ .bool _, g₁.trans g₂ t₂⟩))
    · cases hx
  · simp only [ev] at hx
    split at hx
    · rename_i pa ea
      obtain ⟨r, hr, rfl⟩ := Option.map_eq_some_iff.mp hx
      cases ht
      exact isTrue_not (((sound W ha).2 env H s T ρ _ r cx ea hr).wp fun c s₁ T₁ hc g₁ t₁ => ⟨T₁, by rw [hc], g₁⟩)
    · cases hx⟩
theorem Tr.neg {K : KD} {a : Expr} {xa : X} {pos : Pos} (ha : Tr K a xa) : Tr K (.UnaryOp .USub a pos) (.neg xa) := ⟨fun W => by
  refine pp (fun env H s T ρ p cx hx E => ?_) fun _ _ => rfl
  · simp only [ev] at hx
    split at hx
    · rename_i i ea
      cases hx
      refine UnaryOp_ (((sound W ha).1 env H s T ρ _ cx ea).wp fun a s₁ T₁ ra g₁ t₁ => ?_)
      obtain ⟨t, rfl⟩ := ra.intInv
      exact PyProof.Rows.neg_int ⟨T₁, .int _ _, g₁.trans (Goes.tok _ _ _) (Nat.le_succ _)⟩
    · cases hx⟩
theorem Tr.one {K : KD} {op : BoolOp} {a : Expr} {xa : X} {pos : Pos} (ha : Tr K a xa) : Tr K (.BoolOp op [a] pos) xa := ⟨fun W => by
  refine ⟨fun env H s T ρ p cx hx E => BoolOp_one ((sound W ha).1 env H s T ρ p cx hx E), fun env H s T ρ p b cx hx ht E => ?_⟩
  have h := (sound W ha).2 env H s T ρ p b cx hx ht
  cases op with
  | And =>
    refine isTrue_and (h.wp fun c s₁ T₁ hc g₁ t₁ => ?_)
    subst hc
    cases c with
    | true => exact isTrue_and_nil ⟨T₁, (by first | rfl | trivial), g₁⟩
    | false => exact ⟨T₁, (by first | rfl | trivial), g₁⟩
  | Or =>
    refine isTrue_or (h.wp fun c s₁ T₁ hc g₁ t₁ => ?_)
    subst hc
    cases c with
    | true => exact ⟨T₁, (by first | rfl | trivial), g₁⟩
    | false => exact isTrue_or_nil ⟨T₁, (by first | rfl | trivial), g₁⟩⟩
theorem Tr.and {K : KD} {a b : Expr} {r : List Expr} {xa xb : X} {pos : Pos} (ha : Tr K a xa) (hb : Tr K (.BoolOp .And (b :: r) pos) xb) : Tr K (.BoolOp .And (a :: b :: r) pos) (.and xa xb) := ⟨fun W => by
  refine ⟨fun env H s T ρ p cx hx E => ?_, fun env H s T ρ p b cx hx ht E => ?_⟩
  · simp only [ev] at hx
    split at hx
    · rename_i pa ea
      refine BoolOp_and (((sound W ha).1 env H s T ρ _ cx ea).wp fun a s₁ T₁ ra g₁ t₁ => ?_)
      split at hx
      · rename_i hr
        refine (truth_ok hr ra).wp fun c s₂ T₂ hc g₂ t₂ => ?_
        obtain ⟨rfl, _⟩ := hc
        simp only [if_true]
        exact ((sound W hb).1 env H s₂ T₂ ρ _ ((cx.step g₁ t₁).step g₂ t₂) hx).wp fun v s₃ T₃ rv g₃ t₃ => ⟨T₃, rv, (g₁.trans g₂ t₂).trans g₃ t₃⟩
      · rename_i hr
        cases hx
        refine (truth_ok hr ra).wp fun c s₂ T₂ hc g₂ t₂ => ?_
        obtain ⟨rfl, _⟩ := hc
        simp only [Bool.false_eq_true, if_false]
        exact ⟨T₂, ra.grow g₂.le.hv, g₁.trans g₂ t₂⟩
      · cases hx
    · cases hx
  · simp only [ev] at hx
    split at hx
    · rename_i pa ea
      split at hx
      · rename_i hr
        refine isTrue_and (((sound W ha).2 env H s T ρ _ _ cx ea hr).wp fun c s₁ T₁ hc g₁ t₁ => ?_)
        subst hc
        simp only [if_true]
        exact ((sound W hb).2 env H s₁ T₁ ρ _ _ (cx.step g₁ t₁) hx ht).wp fun c s₃ T₃ hc g₃ t₃ => ⟨T₃, hc, g₁.trans g₃ t₃⟩
      · rename_i hr
        cases hx
        rw [hr] at ht
        cases ht
        refine isTrue_and (((sound W ha).2 env H s T ρ _ _ cx ea hr).wp fun c s₁ T₁ hc g₁ t₁ => ?_)
        subst hc
        simp only [Bool.false_eq_true, if_false]
        exact ⟨T₁, (by first | rfl | trivial), g₁⟩
      · cases hx
    · cases hx⟩
theorem Tr.or {K : KD} {a b : Expr} {r : List Expr} {xa xb : X} {pos : Pos} (ha : Tr K a xa) (hb : Tr K (.BoolOp .Or (b :: r) pos) xb) : Tr K (.BoolOp .Or (a :: b :: r) pos) (.or xa xb) := ⟨fun W => by
  refine ⟨fun env H s T ρ p cx hx E => ?_, fun env H s T ρ p b cx hx ht E => ?_⟩
  · simp only [ev] at hx
    split at hx
    · rename_i pa ea
      refine BoolOp_or (((sound W ha).1 env H s T ρ _ cx ea).wp fun a s₁ T₁ ra g₁ t₁ => ?_)
      split at hx
      · rename_i hr
        cases hx
        refine (truth_ok hr ra).wp fun c s₂ T₂ hc g₂ t₂ => ?_
        obtain ⟨rfl, _⟩ := hc
        simp only [if_true]
        exact ⟨T₂, ra.grow g₂.le.hv, g₁.trans g₂ t₂⟩
      · rename_i hr
        refine (truth_ok hr ra).wp fun c s₂ T₂ hc g₂ t₂ => ?_
        obtain ⟨rfl, _⟩ := hc
        simp only [Bool.false_eq_true, if_false]
        exact ((sound W hb).1 env H s₂ T₂ ρ _ ((cx.step g₁ t₁).step g₂ t₂) hx).wp fun v s₃ T₃ rv g₃ t₃ => ⟨T₃, rv, (g₁.trans g₂ t₂).trans g₃ t₃⟩
      · cases hx
    · cases hx
  · simp only [ev] at hx
    split at hx
    · rename_i pa ea
      split at hx
      · rename_i hr
        cases hx
        rw [hr] at ht
        cases ht
        refine isTrue_or (((sound W ha).2 env H s T ρ _ _ cx ea hr).wp fun c s₁ T₁ hc g₁ t₁ => ?_)
        subst hc
        simp only [if_true]
        exact ⟨T₁, (by first | rfl | trivial), g₁⟩
      · rename_i hr
        refine isTrue_or (((sound W ha).2 env H s T ρ _ _ cx ea hr).wp fun c s₁ T₁ hc g₁ t₁ => ?_)
        subst hc
        simp only [Bool.false_eq_true, if_false]
        exact ((sound W hb).2 env H s₁ T₁ ρ _ _ (cx.step g₁ t₁) hx ht).wp fun c s₃ T₃ hc g₃ t₃ => ⟨T₃, hc, g₁.trans g₃ t₃⟩
      · cases hx
    · cases hx⟩
theorem Tr.ite {K : KD} {c a b : Expr} {xc xa xb : X} {pos : Pos} (hc : Tr K c xc) (ha : Tr K a xa) (hb : Tr K b xb) : Tr K (.IfExp c a b pos) (.ite xc xa xb) := ⟨fun W => by
  refine ⟨fun env H s T ρ p cx hx E => ?_, fun env H s T ρ p b cx hx ht E => ?_⟩
  · simp only [ev] at hx
    split at hx
    · rename_i pc ec
      split at hx
      · rename_i hr
        refine IfExp_ (((sound W hc).2 env H s T ρ _ _ cx ec hr).wp fun c s₁ T₁ hc g₁ t₁ => ?_)
        subst hc
        simp only [if_true]
        exact ((sound W ha).1 env H s₁ T₁ ρ _ (cx.step g₁ t₁) hx).wp fun v s₃ T₃ rv g₃ t₃ => ⟨T₃, rv, g₁.trans g₃ t₃⟩
      · rename_i hr
        refine IfExp_ (((sound W hc).2 env H s T ρ _ _ cx ec hr).wp fun c s₁ T₁ hc g₁ t₁ => ?_)
        subst hc
        simp only [Bool.false_eq_true, if_false]
        exact ((sound W hb).1 env H s₁ T₁ ρ _ (cx.step g₁ t₁) hx).wp fun v s₃ T₃ rv g₃ t₃ => ⟨T₃, rv, g₁.trans g₃ t₃⟩
      · cases hx
    · cases hx
  · simp only [ev] at hx
    split at hx
    · rename_i pc ec
      split at hx
      · rename_i hr
        refine isTrue_IfExp (((sound W hc).2 env H s T ρ _ _ cx ec hr).wp fun c s₁ T₁ hc g₁ t₁ => ?_)
        subst hc
        simp only [if_true]
        exact ((sound W ha).2 env H s₁ T₁ ρ _ _ (cx.step g₁ t₁) hx ht).wp fun v s₃ T₃ rv g₃ t₃ => ⟨T₃, rv, g₁.trans g₃ t₃⟩
      · rename_i hr
        refine isTrue_IfExp (((sound W hc).2 env H s T ρ _ _ cx ec hr).wp fun c s₁ T₁ hc g₁ t₁ => ?_)
        subst hc
        simp only [Bool.false_eq_true, if_false]
        exact ((sound W hb).2 env H s₁ T₁ ρ _ _ (cx.step g₁ t₁) hx ht).wp fun v s₃ T₃ rv g₃ t₃ => ⟨T₃, rv, g₁.trans g₃ t₃⟩
      · cases hx
    · cases hx⟩
theorem Tr.idx {K : KD} {a i : Expr} {xa xi : X} {pos : Pos} (ha : Tr K a xa) (hi : Tr K i xi) (hs : ∀ o v, subscripted i false o v = operate [o, v] (getItem o v)) : Tr K (.Subscript a i pos) (.idx xa xi) := ⟨fun W => by
  refine pp (fun env H s T ρ p cx hx E => ?_) fun _ _ => rfl
  · simp only [ev] at hx
    split at hx
    · rename_i pa pi ea ei
      exact Subscript_ (((sound W ha).1 env H s T ρ _ cx ea).wp fun a s₁ T₁ ra g₁ t₁ => ((sound W hi).1 env H s₁ T₁ ρ _ (cx.step g₁ t₁) ei).wp fun i s₂ T₂ ri g₂ t₂ =>
        (idx_ok hx (ra.grow g₂.le.hv) ri hs).wp fun v s₃ T₃ rv g₃ t₃ => ⟨T₃, rv, (g₁.trans g₂ t₂).trans g₃ t₃⟩)
    · cases hx⟩
theorem Tr.slc {K : KD} {a : Expr} {l u s : Option Expr} {xa xl xu xs : X} {p pos : Pos} (ha : Tr K a xa) (hl : TrO K l xl) (hu : TrO K u xu) (hs : TrO K s xs) : Tr K (.Subscript a (.Slice l u s p) pos) (.slc xa xl xu xs) := ⟨fun W => by
  refine pp (fun env H s T ρ p cx hx E => ?_) fun _ _ => rfl
  · simp only [ev] at hx
    split at hx
    · rename_i pa pl pu ps ea el eu es
      refine Subscript_ (((sound W ha).1 env H s T ρ _ cx ea).wp fun a s₁ T₁ ra g₁ t₁ => ?_)
      have c₁ := cx.step g₁ t₁
      refine (slice_ok (vl := pl) (vu := pu) (vs := ps) (fun s' T' g t => (c₁.step g t).l) (soundO W hl env H s₁ T₁ ρ _ c₁ el) (fun s' T' g t => soundO W hu env H s' T' ρ _ (c₁.step g t) eu) (fun s' T' g t => soundO W hs env H s' T' ρ _ (c₁.step g t) es)).wp fun i s₂ T₂ hi g₂ t₂ => ?_
      obtain ⟨b, x, y, z, rfl, hb, rx, ry, rz⟩ := hi
      have c₂ := c₁.step g₂ t₂
      exact (slc_ok hx (ra.grow g₂.le.hv) rx ry rz hb c₂.l (sub_slice _ _ _ _ _ _).choose_spec).wp fun v s₃ T₃ rv g₃ t₃ => ⟨T₃, rv, (g₁.trans g₂ t₂).trans g₃ t₃⟩
    · cases hx⟩
theorem Tr.tup {K : KD} {es : List Expr} {x : X} {k : Nat} {pos : Pos} (h : TrL K es x) : Tr K (.Tuple es k pos) (.tup x) := ⟨fun W => by
  refine pp (fun env H s T ρ p cx hx E => ?_) fun _ _ => rfl
  · simp only [ev] at hx
    split at hx
    · rename_i l el
      split at hx
      · rename_i hz
        cases hx
        exact Tuple_ ((soundL W h env H s T ρ l _ cx el).wp fun vs s₁ T₁ rv g₁ t₁ => (tup_new rv (cx.step g₁ t₁).l hz).wp fun v s₂ T₂ r g₂ t₂ => ⟨T₂, r, g₁.trans g₂ t₂⟩)
      · cases hx
    · cases hx⟩
theorem Tr.lst {K : KD} {es : List Expr} {x : X} {pos : Pos} (h : TrL K es x) : Tr K (.List es pos) (.lst x) := ⟨fun W => by
  refine pp (fun env H s T ρ p cx hx E => ?_) fun _ _ => rfl
  · simp only [ev] at hx
    split at hx
    · rename_i l el
      obtain ⟨rfl, hz⟩ := okLen_is hx
      exact List_ ((soundL W h env H s T ρ l _ cx el).wp fun vs s₁ T₁ rv g₁ t₁ => (lst_new rv (cx.step g₁ t₁).l hz).wp fun v s₂ T₂ r g₂ t₂ => ⟨T₂, r, g₁.trans g₂ t₂⟩)
    · cases hx⟩
theorem Tr.fn {K : KD} {f : FN} {n : Str} {es : List Expr} {x : X} {p pos : Pos} (hf : f ≠ .geta) (hn : f.nm = n) (hk : glob K n) (he : es ≠ []) (h : TrL K es x) : Tr K (.Call (.Name n p) es [] pos) (.fn f x) := ⟨fun W => by
  refine pp (fun env H s T ρ p cx hx E => ?_) fun _ _ => rfl
  · simp only [ev] at hx
    split at hx
    · rename_i l el
      refine wpAny_Call_NameR (glob_fn cx.gb cx.ok hf hn (cx.k ▸ hk) (hn ▸ fn_dbg _) ?_)
      exact callF_ok h.n he cx.gb (soundL W h env H s T ρ l _ cx el) (fun s' T' vs g t rv => W.ct _ s' T' H vs l p (cx.step g t).gb (cx.step g t).d (cx.step g t).l rv hx) E
    · cases hx⟩
theorem Tr.star {K : KD} {f : FN} {n : Str} {e : Expr} {x : X} {p p' pos : Pos} (hf : f ≠ .geta) (hn : f.nm = n) (hk : glob K n) (h : Tr K e x) : Tr K (.Call (.Name n p) [.Starred e p'] [] pos) (.star f x) := ⟨fun W => by
  refine pp (fun env H s T ρ p cx hx E => ?_) fun _ _ => rfl
  · simp only [ev] at hx
    refine wpAny_Call_NameR (glob_fn cx.gb cx.ok hf hn (cx.k ▸ hk) (hn ▸ fn_dbg _) ?_)
    split at hx
    · rename_i l el
      split at hx
      · rename_i hz
        exact callStar_ok cx.gb ((sound W h).1 env H s T ρ _ cx el) (.inr rfl) hz (fun s' T' vs g t rv => W.ct _ s' T' H vs l p (cx.step g t).gb (cx.step g t).d (cx.step g t).l rv hx) E
      · cases hx
    · rename_i l el
      split at hx
      · rename_i hz
        exact callStar_ok cx.gb ((sound W h).1 env H s T ρ _ cx el) (.inl rfl) hz (fun s' T' vs g t rv => W.ct _ s' T' H vs l p (cx.step g t).gb (cx.step g t).d (cx.step g t).l rv hx) E
      · cases hx
    · cases hx⟩
theorem Tr.bi {K : KD} {b : BI} {n : Str} {es : List Expr} {x : X} {p pos : Pos} (hn : b.nm = n) (hk : glob K n) (he : es ≠ []) (h : TrL K es x) : Tr K (.Call (.Name n p) es [] pos) (.bi b x) := ⟨fun W => by
  refine pp (fun env H s T ρ p cx hx E => ?_) fun _ _ => rfl
  · simp only [ev] at hx
    split at hx
    · rename_i l el
      refine wpAny_Call_NameR (glob_bui cx.gb cx.ok (hn ▸ bi_in _) (cx.k ▸ hk) (hn ▸ bui_dbg _ (bi_in _)) ?_)
      exact callV_ok (biV_is _) h.n he (soundL W h env H s T ρ l _ cx el) (fun s' T' vs g t rv => bi_ok hx rv W.hh) E
    · cases hx⟩
theorem Tr.me {K : KD} {m : ME} {n : Str} {o : Expr} {es : List Expr} {xo x : X} {ap pos : Pos} (hn : meN m = n) (ho : Tr K o xo) (hb : ∀ env, attributeBase o n env (eval o env) = eval o env)
    (hl : (ap.endLine == pos.line) = true) (hlen : es.length < 5) (h : TrL K es x) : Tr K (.Call (.Attribute o n ap) es [] pos) (.me m xo x) := ⟨fun W => by
  refine pp (fun env H s T ρ p cx hx E => ?_) fun _ _ => rfl
  · simp only [ev] at hx
    split at hx
    · rename_i po l eo el
      subst hn
      refine wpAny_Call_method (hb env) (few_ok h.n hlen _) hl (mePA _) (meSlot _) (meTy _) (((sound W ho).1 env H s T ρ _ cx eo).wp fun v s₁ T₁ rv g₁ t₁ => ⟨(me_type hx rv).1, (me_type hx rv).2, ?_⟩)
      refine (callB_ok h.n (fun e => ?_) (soundL W h env H s₁ T₁ ρ l _ (cx.step g₁ t₁) el) (fun s' T' vs g t rvs => me_ok hx (rv.grow g.le.hv) rvs W.hu ((cx.step g₁ t₁).step g t).gb.nb ((cx.step g₁ t₁).step g t).l)).wp fun u s₂ T₂ r g₂ t₂ => ⟨T₂, r, g₁.trans g₂ t₂⟩
      subst e
      obtain rfl := h.z rfl
      simp only [ev] at el
      cases el
      rfl
    · cases hx⟩
theorem Tr.ga {K : KD} {o a : Expr} {xo xa : X} {ap pos : Pos} (ho : Tr K o xo) (hb : ∀ env, attributeBase o "get_all" env (eval o env) = eval o env) (hl : (ap.endLine == pos.line) = true) (hs : noStar a = true) (h : Tr K a xa) : Tr K (.Call (.Attribute o "get_all" ap) [a] [] pos) (.ga xo xa) := ⟨fun W => by
  refine pp (fun env H s T ρ p cx hx E => ?_) fun _ _ => rfl
  · simp only [ev] at hx
    split at hx
    · rename_i l q eo eq
      refine callM_rule (hb env) (few_ok (TrL.cons hs h TrL.nil).n (by simp) _) hl (((sound W ho).1 env H s T ρ _ cx eo).wp fun v s₁ T₁ rv g₁ t₁ => fun pl => W.hm E s₁ T₁ H _ v l pl (cx.step g₁ t₁).gb rv ?_)
      have c₁ := cx.step g₁ t₁
      refine (callF_ok (f := .geta) (first := [v]) (l := [q]) (r := p) (TrL.cons hs h TrL.nil).n (by simp) c₁.gb (fun E => wpAny_items_cons (((sound W h).1 env H s₁ T₁ ρ _ c₁ eq).wp fun u s₂ T₂ ru g₂ t₂ => wpAny_items_nil ⟨T₂, .cons ru .nil, g₂⟩) (starEach_cons hs))
        (fun s' T' vs g t rvs => W.ct .geta s' T' H (v :: vs) [.hdr l, q] p (c₁.step g t).gb (c₁.step g t).d (c₁.step g t).l (.cons (rv.grow g.le.hv) rvs) hx)).wp fun u s₂ T₂ r g₂ t₂ => ⟨T₂, r, g₁.trans g₂ t₂⟩
    · cases hx⟩
theorem Tr.comp {K : KD} {k : IK} {t it elt : Expr} {ifs : List Expr} {scope : Scope} {pos : Pos} {a b : X} {tg : Tg} {c e : X} (hit : TrI K k it a b) (hks : scope.kind = .function) (hsc : scOk K tg.names scope.names = true) (ht : tg.Is (kdC K scope.names) t)
    (hk : ikOk k tg = true) (hc : TrC (kdC K scope.names) ifs c) (he : Tr (kdC K scope.names) elt e) : Tr K (.ListComp elt [⟨t, it, ifs, 0⟩] scope pos) (.comp k a b tg c e) := ⟨fun W => by
  refine pp (fun env H s T ρ p cx hx E => ?_) fun _ _ => rfl
  simp only [ev] at hx
  split at hx
  · rename_i pa pb ea eb
    split at hx
    · rename_i psl hi
      split at hx
      · rename_i rs hr
        obtain ⟨rfl, hz⟩ := okLen_is hx
        have I := soundI W hit env H s T ρ pa pb psl _ _ _ cx ea eb hi hk ht
        exact ListComp1_ok W.hh cx.ok hks (by rw [cx.k]; exact hsc) (by rw [cx.k]; exact ht) I.2 I.1 cx.l cx.d cx.r hr (Nat.le_trans hz (by decide))
          (fun C H' s' T' ps qs _ hF okc he' hd hL hg E' => elt_of cx hks hsc (soundC W hc) (sound W he).1 hF okc he' hd hL hg E') E
      · cases hx
    · cases hx
  · cases hx⟩
theorem Tr.comp2 {K : KD} {t it t2 i2 elt : Expr} {ifs : List Expr} {scope : Scope} {pos : Pos} {a b : X} {x y : Nat} {c e : X} (hit : Tr K it a) (hn : ∀ env v, foldedSetIterable it env v = pure v) (hn2 : ∀ env v, foldedSetIterable i2 env v = pure v) (hks : scope.kind = .function)
    (hsc : scOk K ((Tg.one x).names ++ (Tg.one y).names) scope.names = true) (ht : (Tg.one x).Is (kdC K scope.names) t) (ht2 : (Tg.one y).Is (kdC K scope.names) t2) (hb : Tr (kdC K scope.names) i2 b) (hc : TrC (kdC K scope.names) ifs c)
    (he : Tr (kdC K scope.names) elt e) : Tr K (.ListComp elt [⟨t, it, [], 0⟩, ⟨t2, i2, ifs, 0⟩] scope pos) (.comp2 a (.one x) b (.one y) c e) := ⟨fun W => by
  refine pp (fun env H s T ρ p cx hx E => ?_) fun _ _ => rfl
  simp only [ev] at hx
  split at hx
  · rename_i pa ea
    split at hx
    · rename_i psl hi
      split at hx
      · rename_i rs hr
        obtain ⟨rfl, hz⟩ := okLen_is hx
        refine ListComp2_ok W.hh cx.ok hks (by rw [cx.k]; exact hsc) (by rw [cx.k]; exact ht) (by rw [cx.k]; exact ht2) (hn env) hn2 (itL_ok W (sound W hit).1 cx ea hi ht) cx.l cx.d cx.r hr (Nat.le_trans hz (by decide))
          (fun h k => ⟨fun C H' s' T' ps psl2 _ hG okc he' hd hL hg => ?_, fun C H' s' T' ps ps2 qs psl2 _ _ _ hF okc he' hd hL hg E' => elt_of cx hks hsc (soundC W hc) (sound W he).1 hF okc he' hd hL (k.trans hg) E'⟩) E
        split at hG
        · rename_i q eq
          exact itL_ok W (sound W hb).1 ⟨by rw [kdC_is cx.ok.kind, cx.k], okc, cx.gb.grow (k.trans hg), he', hd, hL⟩ eq hG ht2
        · cases hG
      · cases hx
    · cases hx
  · cases hx⟩
end Mine

-- M14
namespace Mine

section
variable {prog : Program} {w : World} {A : Around} {E : Value → Shared → Prop} {s : Shared}
theorem setItem_plain {l : Addr} {items : Array Value} {k : Int} {t : Tok} {v : Value} {Q : Unit → Shared → Prop} (hl : s.heap.PlainList l items)
    (h0 : 0 ≤ k) (hfit : k < 2 ^ 63) (hn : k < items.size)
    (hQ : ∀ h', h'.PlainList l (items.setIfInBounds k.toNat v) → Heap.SameBut l s.heap h' → Q () { s with heap := h' }) :
    wpAny (model prog w) A (setItem (.ref l) (.int k t) v) Q E s := by
  have hl' := hl.isList
  obtain ⟨n, ho⟩ := hl
  have hd : ({ cls := .type "list", dict := none, data := .seq items n, slots := #[] } : Obj).data = .seq items n := rfl
  unfold setItem
  try with_reducible refine wpAny_holding ?_
  first | refine wpAny_bind (wpAny_pure ?_) | skip
  refine wpAny_bind (wpAny_sequenceKey hl'.typeIs (by decide) ?_)
  refine wpAny_bind (wpAny_callSpecial?_slot (name := Str.ofString "__setitem__") hl'.typeIs slot_list_setitem
    (wpAny_call_entry slot_list_setitem hl'.typeIs entry_list_setitem ?_ (args_list_setitem _ _ _)))
  show wpAny _ _ (Builtin.List.listSubscript? (.int k t) >>= _) _ _ s
  refine wpAny_bind (wpAny_listSubscript_int (fitsIndex_of h0 hfit) ?_)
  clear hfit
  obtain ⟨j, rfl⟩ := Int.eq_ofNat_of_zero_le h0
  have hj : j < items.size := by omega
  have hx' : items[j]? = some items[j] := Array.getElem?_eq_getElem hj
  show wpAny _ _ ((seqItemAt l j >>= fun r => pure (r.map (j, ·))) >>= _) _ _ s
  refine wpAny_bind (wpAny_bind (wpAny_seqItemAt ho hd (wpAny_pure ?_)))
  rw [hx']
  show wpAny _ _ (setSeqItemAt l j v >>= _) _ _ s
  have hfin : (s.heap.update l (Obj.mapSeq (·.setIfInBounds j v))).PlainList l (items.setIfInBounds j v) := ⟨_, IsL.update (n := n) ho _⟩
  refine wpAny_bind (wpAny_setSeqItemAt ho hd ?_)
  first
    | exact wpAny_bind (wpAny_pure (wpAny_pure ⟨.none, rfl, wpAny_pure (hQ _ hfin (Heap.SameBut.update ..))⟩))
    | exact wpAny_pure ⟨.none, rfl, wpAny_pure (hQ _ hfin (Heap.SameBut.update ..))⟩
end

/-- a value of which a name is the only owner -/
noncomputable def OwnV (H : List Addr) (g : GS) (v : Value) (a : Addr) : PV → Prop
  | .lst l => v = .ref a ∧ ∃ vs, g.h.PlainList a (List.toArray vs) ∧ RepL (hv H g) vs l
  | .hdr l => ∃ x dx hs t n, v = .ref x ∧ (hideAll g.h H).get? x = some (instObj HC dx) ∧ (hideAll g.h H).get? dx = some (dictOf [⟨hs, .str (Str.ofString "_headers") t, .ref a⟩] n) ∧ ∃ vs, g.h.PlainList a (List.toArray vs) ∧ RepL (hv H g) vs l
  | _ => False

/-- owned places -/
noncomputable abbrev Os := List (Nat × Addr)
noncomputable def Os.ad (O : Os) : List Addr := O.map (·.2)
/-- what a statement may change -/
noncomputable def Wm (env : Env) (O : Os) : List Addr := O.ad ++ (env.locals :: env.cells.filterMap fun p => env.cells.lookup p.1)
noncomputable def rB (ω ρ : Rho) : Rho := fun i => match ω i with | some p => some p | none => ρ i

structure Iv (KK : Frag) (K : KD) (env : Env) (H : List Addr) (h₀ : Heap) (O : Os) (ω ρ : Rho) (s : Shared) (T : TM) : Prop where
  k : env.kindOf = K
  ok : EnvOk env H
  gb : Gb KK h₀
  r : EnvR env (O.ad ++ H) (gs s T) ρ
  d : TDom T s.toks
  l : Laid (O.ad ++ H) s.heap
  ns : ∃ m, s.heap.Ns env.locals m
  cl : ∀ x c, env.cells.lookup x = some c → ∃ v, s.heap.IsCell c v
  ap : ∀ x y c, env.cells.lookup x = some c → env.cells.lookup y = some c → x = y
  own : ∀ i p, ω i = some p → ∃ x a v, tb[i]? = some x ∧ (env.kindOf x = some .local ∨ env.kindOf x = some .cell ∨ env.kindOf x = some .free) ∧ (i, a) ∈ O ∧ NmAt env s.heap x v ∧ OwnV (O.ad ++ H) (gs s T) v a p
  nd : O.ad.Nodup
  oh : ∀ a ∈ O.ad, a ∉ H
  of : ∀ a ∈ O.ad, h₀.get? a = none
  lf : h₀.get? env.locals = none
  cf : ∀ x c, env.cells.lookup x = some c → h₀.get? c = none
  base : Grow h₀ s.heap

theorem EnvOk.more {env : Env} {H H' : List Addr} (x : EnvOk env H) (h : ∀ a ∈ H, a ∈ H') : EnvOk env H' := ⟨x.kind, x.glob, x.bui, h _ x.loc, fun y c e => h _ (x.cell y c e), x.has⟩

theorem OwnV.rep {O : Os} {H : List Addr} {g : GS} {v : Value} {a : Addr} {p : PV} (x : OwnV (O.ad ++ H) g v a p) (ha : a ∉ H) : Rep (hv H g) v p := by
  have l : Le (hv (O.ad ++ H) g) (hv H g) := ⟨hv_sub fun b hb => List.mem_append_right _ hb, TExt.refl _⟩
  unfold OwnV at x
  split at x
  · obtain ⟨rfl, vs, ⟨n, e⟩, r⟩ := x
    exact .lst ⟨n, hv_in e ha⟩ (r.grow l)
  · obtain ⟨y, dx, hs, t, n, rfl, e1, e2, vs, ⟨m, e⟩, r⟩ := x
    exact .hdr (l.h _ _ e1) (l.h _ _ e2) ⟨m, hv_in e ha⟩ (r.grow l)
  · exact x.elim
theorem OwnV.grow {H : List Addr} {g g' : GS} {v : Value} {a : Addr} {p : PV} (x : OwnV H g v a p) (k : Le (hv H g) (hv H g')) (ka : ∀ o, g.h.get? a = some o → g'.h.get? a = some o) : OwnV H g' v a p := by
  cases p with
  | lst l => obtain ⟨rfl, vs, e, r⟩ := x; exact ⟨rfl, vs, e.at ka, r.grow k⟩
  | hdr l => obtain ⟨y, dx, hs, t, n, rfl, e1, e2, vs, e, r⟩ := x; exact ⟨y, dx, hs, t, n, rfl, k.h _ _ e1, k.h _ _ e2, vs, e.at ka, r.grow k⟩
  | _ => exact x.elim

section
variable {KK : Frag} {K : KD} {env : Env} {H : List Addr} {h₀ : Heap} {O : Os} {ω ρ : Rho} {s s' : Shared} {T T' : TM}

theorem Iv.cxA (x : Iv KK K env H h₀ O ω ρ s T) : Cx KK K env (O.ad ++ H) s T ρ := ⟨x.k, x.ok.more fun a ha => List.mem_append_right _ ha, x.gb.grow x.base, x.r, x.d, x.l⟩
theorem Iv.cxB (x : Iv KK K env H h₀ O ω ρ s T) : Cx KK K env H s T (rB ω ρ) := by
  refine ⟨x.k, x.ok, x.gb.grow x.base, fun i y p e hk hp => ?_, x.d, fun a ha => x.l a (List.mem_append_right _ ha)⟩
  unfold rB at hp
  split at hp
  · rename_i q hq
    cases hp
    obtain ⟨z, a, v, hz, hkz, hm, n, o⟩ := x.own i p hq
    rw [hz] at e; cases e
    exact ⟨v, n, o.rep (x.oh a (List.mem_map.mpr ⟨_, hm, rfl⟩))⟩
  · obtain ⟨v, n, r⟩ := x.r i y p e hk hp
    have l : Le (hv (O.ad ++ H) (gs s T)) (hv H (gs s T)) := ⟨hv_sub fun b hb => List.mem_append_right _ hb, TExt.refl _⟩
    exact ⟨v, n, r.grow l⟩

theorem Iv.step (x : Iv KK K env H h₀ O ω ρ s T) (g : Goes s T s' T') (t : s.toks ≤ s'.toks) : Iv KK K env H h₀ O ω ρ s' T' := by
  have k := keeps_grow g.k
  refine ⟨x.k, x.ok, x.gb, x.r.grow g.le, g.dom x.d t, x.l.grow k, ?_, ?_, x.ap, ?_, x.nd, x.oh, x.of, x.lf, x.cf, x.base.trans k⟩
  · obtain ⟨m, hm⟩ := x.ns; exact ⟨m, hm.at' fun o e => k _ o e⟩
  · intro y c hc; obtain ⟨v, o, e, d⟩ := x.cl y c hc; exact ⟨v, o, k _ _ e, d⟩
  · intro i p hp
    obtain ⟨y, a, v, e, hk, hm, n, o⟩ := x.own i p hp
    exact ⟨y, a, v, e, hk, hm, n.grow k, o.grow g.le.hv fun o e => k a o e⟩

/-- a flat value means the same in every heap -/
noncomputable def flatP : PV → Bool
  | .none => true
  | .bool _ => true
  | .int _ => true
  | .flt _ => true
  | .str _ => true
  | _ => false
theorem Rep.flat {H H' : List Addr} {g : GS} {v : Value} {p : PV} (r : Rep (hv H g) v p) (h : flatP p = true) : Rep (hv H' g) v p := by
  cases r with
  | none => exact .none
  | bool b => exact .bool b
  | int i t => exact .int i t
  | flt b t ht hT => exact .flt b t ht hT
  | str s t => exact .str s t
  | _ => simp [flatP] at h

theorem gb_growX {W : List Addr} {h h' : Heap} (b : Grow h₀ h) (f : ∀ a ∈ W, h₀.get? a = none) (k : GrowX W h h') : Grow h₀ h' := fun a o e => k a o (fun z => by rw [f a z] at e; cases e) (b a o e)

theorem EnvR.storeCell {env : Env} {H : List Addr} {h h' : Heap} {T : TM} {ρ : Rho} {i : Nat} {x : Str} {c : Addr} {v₀ : Option Value} {v : Value} {p : PV} (r : EnvR env H ⟨h, T⟩ ρ) (hc : env.cells.lookup x = some c) (hcH : c ∈ H) (hi : tb[i]? = some x)
    (hx : env.kindOf x = some .cell) (ap : ∀ y, env.cells.lookup y = some c → y = x) (hv0 : h.IsCell c v₀) (hn' : h'.IsCell c (some v)) (hs : Heap.SameBut c h h') (rv : Rep (hv H ⟨h, T⟩) v p) :
    EnvR env H ⟨h', T⟩ (upd ρ i (some p)) := by
  have k : Le (hv H ⟨h, T⟩) (hv H ⟨h', T⟩) := ⟨((SameBut.growX hs).sub (by simpa using hcH)).hv, TExt.refl _⟩
  intro j y q e hk hq
  by_cases hj : j = i
  · subst hj
    rw [upd_at] at hq; cases hq
    rw [hi] at e; cases e
    exact ⟨v, .inr ⟨.inl hx, c, hc, hn'⟩, rv.grow k⟩
  · rw [upd_ne hj] at hq
    obtain ⟨u, n, ru⟩ := r j y q e hk hq
    refine ⟨u, ?_, ru.grow k⟩
    have hy : y ≠ x := fun z => hj (tb_inj e (z ▸ hi))
    rcases n with ⟨kl, m', hm', em⟩ | ⟨kc, c', hc', hcv⟩
    · exact .inl ⟨kl, m', hm'.sameBut hs fun z => ns_cell hm' (z ▸ hv0), em⟩
    · exact .inr ⟨kc, c', hc', hcv.sameBut hs fun z => hy (ap y (z ▸ hc'))⟩

/-- an owner keeps its own when another name is stored -/
theorem NmAt.other {env : Env} {h h' : Heap} {x y : Str} {v u : Value} {m : Str → Option Value} (hy : y ≠ x) (n : NmAt env h y u) (hn : h.Ns env.locals m) (hn' : h'.Ns env.locals (fun z => if z = x then some v else m z)) (hs : Heap.SameBut env.locals h h') : NmAt env h' y u := by
  rcases n with ⟨kl, m', hm', em⟩ | ⟨kc, c, hc, hcv⟩
  · refine .inl ⟨kl, _, hn', ?_⟩
    rw [if_neg hy]
    obtain ⟨o, es, ep, e1, d1, _, f1⟩ := hn
    obtain ⟨o', es', ep', e2, d2, _, f2⟩ := hm'
    rw [e1] at e2; cases e2; rw [d1] at d2; cases d2
    exact (f1 y).symm.trans ((f2 y).trans em)
  · exact .inr ⟨kc, c, hc, hcv.sameBut hs fun z => ns_cell hn (z ▸ hcv)⟩
theorem NmAt.otherC {env : Env} {h h' : Heap} {x y : Str} {u : Value} {c : Addr} {v₀ : Option Value} (hy : y ≠ x) (n : NmAt env h y u) (hc : env.cells.lookup x = some c) (ap : ∀ y, env.cells.lookup y = some c → y = x) (hv0 : h.IsCell c v₀) (hs : Heap.SameBut c h h') : NmAt env h' y u := by
  rcases n with ⟨kl, m', hm', em⟩ | ⟨kc, c', hc', hcv⟩
  · exact .inl ⟨kl, m', hm'.sameBut hs fun z => ns_cell hm' (z ▸ hv0), em⟩
  · exact .inr ⟨kc, c', hc', hcv.sameBut hs fun z => hy (ap y (z ▸ hc'))⟩

theorem Iv.store {M : Model} {A : Around} {E : Value → Shared → Prop} {Q : Unit → Shared → Prop} {i : Nat} {x : Str} {v : Value} {p : PV} (iv : Iv KK K env H h₀ O ω ρ s T) (hi : tb[i]? = some x) (hx : K x = some .local ∨ K x = some .cell) (hω : ω i = none)
    (rv : Rep (hv (O.ad ++ H) (gs s T)) v p)
    (hQ : ∀ s', Cg s T s' T → GrowX (Wm env O) s.heap s'.heap → Iv KK K env H h₀ O ω (upd ρ i (some p)) s' T → Q () s') : wpAny M A (storeName env x v) Q E s := by
  have hp : (env.scope.kind == .class || (env.scope.kind == .module && env.locals != env.globals)) = false := by rw [iv.ok.kind]; rfl
  have hlH : env.locals ∈ O.ad ++ H := List.mem_append_right _ iv.ok.loc
  have hoi : ∀ j q, ω j = some q → j ≠ i := fun j q h e => by subst e; rw [hω] at h; cases h
  rw [← iv.k] at hx
  rcases hx with hx | hx
  · obtain ⟨m, hm⟩ := iv.ns
    refine wpAny_with_toks (n := s.toks) (Nat.le_refl _) (wpAny_storeName_local hx hm (fun h' hn' hs' ht' => ?_) hp)
    have kX := SameBut.growX hs'
    have kX' : GrowX (O.ad ++ H) s.heap h' := kX.sub (by simpa using hlH)
    have le : Le (hv (O.ad ++ H) (gs s T)) (hv (O.ad ++ H) ⟨h', T⟩) := ⟨kX'.hv, TExt.refl _⟩
    have kb := gb_growX (h₀ := h₀) iv.base (by simpa using iv.lf) kX
    refine hQ _ (Cg.mk' s T h' _ ht') (kX.sub (by simp [Wm])) ⟨iv.k, iv.ok, iv.gb, iv.r.store hlH hi hx hm hn' hs' rv, TDom.step iv.d ht' (TNew.refl _ _), ?_, ⟨_, hn'⟩, ?_, iv.ap, ?_, iv.nd, iv.oh, iv.of, iv.lf, iv.cf, kb⟩
    · exact iv.l.growX kX fun b hb _ => by simp at hb; subst hb; obtain ⟨o, _, _, e, _⟩ := hn'; exact ⟨o, e⟩
    · intro y c hc
      obtain ⟨u, hu⟩ := iv.cl y c hc
      exact ⟨u, hu.sameBut hs' fun z => ns_cell hm (z ▸ hu)⟩
    · intro j q hq
      obtain ⟨y, a, u, e, hk, hmO, n, o⟩ := iv.own j q hq
      have ha : a ≠ env.locals := fun z => iv.oh a (List.mem_map.mpr ⟨_, hmO, rfl⟩) (z ▸ iv.ok.loc)
      exact ⟨y, a, u, e, hk, hmO, n.other (fun z => hoi j q hq (tb_inj e (z ▸ hi))) hm hn' hs', o.grow le fun o e => hs'.extBut a o ha e⟩
  · obtain ⟨c, hc⟩ := Option.isSome_iff_exists.mp (iv.ok.has x hx)
    obtain ⟨v₀, hv0⟩ := iv.cl x c hc
    have hcH : c ∈ O.ad ++ H := List.mem_append_right _ (iv.ok.cell x c hc)
    have ap : ∀ y, env.cells.lookup y = some c → y = x := fun y hy => iv.ap y x c hy hc
    refine wpAny_with_toks (n := s.toks) (Nat.le_refl _) (wpAny_storeName_cell iv.ok.kind hx hc hv0 fun h' hn' hs' ht' => ?_)
    have kX := SameBut.growX hs'
    have kX' : GrowX (O.ad ++ H) s.heap h' := kX.sub (by simpa using hcH)
    have le : Le (hv (O.ad ++ H) (gs s T)) (hv (O.ad ++ H) ⟨h', T⟩) := ⟨kX'.hv, TExt.refl _⟩
    have kb := gb_growX (h₀ := h₀) iv.base (by simpa using iv.cf x c hc) kX
    refine hQ _ (Cg.mk' s T h' _ ht') (kX.sub fun a ha => by simp at ha; subst ha; exact List.mem_append_right _ (List.mem_cons_of_mem _ (List.mem_filterMap.mpr ⟨_, mem_of_lookup hc, hc⟩))) ⟨iv.k, iv.ok, iv.gb, iv.r.storeCell hc hcH hi hx ap hv0 hn' hs' rv, TDom.step iv.d ht' (TNew.refl _ _), ?_, ?_, ?_, iv.ap, ?_, iv.nd, iv.oh, iv.of, iv.lf, iv.cf, kb⟩
    · exact iv.l.growX kX fun b hb _ => by simp at hb; subst hb; obtain ⟨o, e, _⟩ := hn'; exact ⟨o, e⟩
    · obtain ⟨m, hm⟩ := iv.ns
      exact ⟨m, hm.sameBut hs' fun z => ns_cell hm (z ▸ hv0)⟩
    · intro y c' hc'
      by_cases z : c' = c
      · exact ⟨_, z ▸ hn'⟩
      · obtain ⟨u, hu⟩ := iv.cl y c' hc'
        exact ⟨u, hu.sameBut hs' z⟩
    · intro j q hq
      obtain ⟨y, a, u, e, hk, hmO, n, o⟩ := iv.own j q hq
      have ha : a ≠ c := fun z => iv.oh a (List.mem_map.mpr ⟨_, hmO, rfl⟩) (z ▸ iv.ok.cell x c hc)
      exact ⟨y, a, u, e, hk, hmO, n.otherC (fun z => hoi j q hq (tb_inj e (z ▸ hi))) hc ap hv0 hs', o.grow le fun o e => hs'.extBut a o ha e⟩
end
end Mine

-- M15
namespace Mine

/-- a small language of statements -/
inductive SX where
  | skip
  | seq (a b : SX)
  | asg (x : Nat) (e : X)
  | asgB (x : Nat) (e : X)
  | asgC (x : Nat) (k : IK) (a b : X) (tg : Tg) (c e : X)
  | asg2 (x y : Nat) (e : X)
  | asgD (x y : Nat) (e : X)
  | asg3 (x y z : Nat) (e : X)
  | aug (x : Nat) (op : Operator) (e : X)
  | ifs (c : X) (t e : SX)
  | fors (k : IK) (a b : X) (tg : Tg) (body : SX)
  | whl (n : Nat) (c : X) (body : SX)
  | ret (e : X)
  | app (x : Nat) (e : X)
  | del (x : Nat) (i : X)
  | sti (x : Nat) (i e : X)
  | asr (c : X)
  | hadd (x : Nat) (a b : X)

inductive Fl | nx | rt (p : PV)
noncomputable abbrev Sta := Rho × Rho
noncomputable def Tg.free (ω : Rho) : Tg → Bool
  | .one x => (ω x).isNone
  | .two x y => (ω x).isNone && (ω y).isNone
noncomputable def forRun (f : Sta → Option (Fl × Sta)) (tg : Tg) : List (List PV) → Sta → Option (Fl × Sta)
  | [], st => some (.nx, st)
  | ps :: r, st => if tg.free st.1 then match f (st.1, tg.bind ps st.2) with
      | some (.nx, st') => forRun f tg r st'
      | some (.rt p, st') => some (.rt p, st')
      | none => none
    else none
noncomputable def whlRun (c : Sta → Option Bool) (f : Sta → Option (Fl × Sta)) : Nat → Sta → Option (Fl × Sta)
  | 0, _ => none
  | n + 1, st => match c st with
    | some false => some (.nx, st)
    | some true => match f st with
      | some (.nx, st') => whlRun c f n st'
      | some (.rt p, st') => some (.rt p, st')
      | none => none
    | none => none
noncomputable def augP : Operator → PV → PV → Option PV
  | .Add, .int a, .int b => some (.int (a + b))
  | .Sub, .int a, .int b => some (.int (a - b))
  | .Add, .str a, .str b => if a.length + b.length ≤ 1000 then some (.str (a ++ b)) else none
  | _, _, _ => none
noncomputable def truthO (p : Option PV) : Option Bool := match p with | some p => truthP p | none => none
noncomputable def drv : Nat → Sre.M → Option Sre.M
  | 0, _ => none
  | n + 1, m => if (m.runFor PySem.Builtin.Re.reTurnSteps).outcome.isSome then some (m.runFor PySem.Builtin.Re.reTurnSteps) else drv n (m.runFor PySem.Builtin.Re.reTurnSteps)
noncomputable def failedM : Option Sre.M → Bool
  | some m => match m.outcome with | some .failed => true | _ => false
  | none => false
/-- the machine of a pattern finds nothing -/
noncomputable def noMatch (code : Array Nat) (x : Str) : Bool := failedM (drv 400 (Sre.forSearch code x.cps 0 (min (0 : Int).toNat x.cps.size) (min ((2 : Int) ^ 63 - 1).toNat x.cps.size) false))
/-- a list of one text joined is the text -/
noncomputable def joinSame (v : Str) : Bool := match meP .join (.str "; ") [.lst [.str v]] with | some (.str y) => y == v | _ => false

noncomputable def run (S : SG) : SX → Sta → Option (Fl × Sta)
  | .skip, st => some (.nx, st)
  | .seq a b, st => match run S a st with
    | some (.nx, st') => run S b st'
    | some (.rt p, st') => some (.rt p, st')
    | none => none
  | .asg x e, st => if (st.1 x).isNone then match ev S e st.2 with | some p => some (.nx, (st.1, upd st.2 x (some p))) | none => none else none
  | .asgB x e, st => if (st.1 x).isNone then match ev S e (rB st.1 st.2) with | some p => if flatP p then some (.nx, (st.1, upd st.2 x (some p))) else none | none => none else none
  | .asgC x k a b tg c e, st => if (st.1 x).isNone then match ev S (.comp k a b tg c e) st.2 with | some p => some (.nx, (st.1, upd st.2 x (some p))) | none => none else none
  | .asg2 x y e, st => if (st.1 x).isNone && (st.1 y).isNone then match ev S e st.2 with | some (.tup [p, q]) => some (.nx, (st.1, upd (upd st.2 y (some q)) x (some p))) | _ => none else none
  | .asgD x y e, st => if (st.1 x).isNone && (st.1 y).isNone then match ev S e st.2 with | some p => some (.nx, (st.1, upd (upd st.2 x (some p)) y (some p))) | _ => none else none
  | .asg3 x y z e, st => if (st.1 x).isNone && (st.1 y).isNone && (st.1 z).isNone then match ev S e st.2 with | some (.tup [p, q, r]) => some (.nx, (st.1, upd (upd (upd st.2 x (some p)) y (some q)) z (some r))) | _ => none else none
  | .aug x op e, st => if (st.1 x).isNone then match st.2 x, ev S e st.2 with | some p, some q => (match augP op p q with | some r => some (.nx, (st.1, upd st.2 x (some r))) | none => none) | _, _ => none else none
  | .ifs c t e, st => match truthO (ev S c (rB st.1 st.2)) with | some true => run S t st | some false => run S e st | none => none
  | .fors k a b tg body, st => match ev S a st.2, ev S b st.2 with
    | some p, some q => match items k p q with
      | some psl => if ikOk k tg then forRun (run S body) tg psl st else none
      | none => none
    | _, _ => none
  | .whl n c body, st => whlRun (fun st => truthO (ev S c (rB st.1 st.2))) (run S body) n st
  | .ret e, st => match ev S e (rB st.1 st.2) with | some p => some (.rt p, st) | none => none
  | .app x e, st => match st.1 x, ev S e st.2 with | some (.lst l), some p => if l.length ≤ 1000 then some (.nx, (upd st.1 x (some (.lst (l ++ [p]))), st.2)) else none | _, _ => none
  | .del x i, st => match st.1 x, ev S i st.2 with | some (.lst l), some (.int k) => if near k && decide (l.length ≤ 1000) then (match seqIndex? k l.length with | some j => some (.nx, (upd st.1 x (some (.lst (l.eraseIdx j))), st.2)) | none => none) else none | _, _ => none
  | .sti x i e, st => match st.1 x, ev S e st.2, ev S i st.2 with | some (.lst l), some p, some (.int k) => if near k && decide (0 ≤ k) && decide (k < l.length) then some (.nx, (upd st.1 x (some (.lst (l.set k.toNat p))), st.2)) else none | _, _, _ => none
  | .asr c, st => match truthO (ev S c (rB st.1 st.2)) with | some true => some (.nx, st) | _ => none
  | .hadd x a b, st => match st.1 x, ev S a st.2, ev S b st.2 with
    | some (.hdr l), some (.str n), some (.str v) => if noMatch codeN n && noMatch codeV v && joinSame v && decide (l.length ≤ 1000) then some (.nx, (upd st.1 x (some (.hdr (l ++ [.tup [.str n, .str v]]))), st.2)) else none
    | _, _, _ => none

/-- how a statement's flow answers -/
noncomputable def FlR (H : List Addr) (g : GS) : Fl → Flow → Prop
  | .nx, f => f = .next
  | .rt p, f => ∃ v, f = .ret v ∧ Rep (hv H g) v p

/-- add_header, from outside -/
structure Wh (prog : Program) (w : World) (A : Around) (KK : Frag) : Prop where
  hma : ∀ (E : Value → Shared → Prop) (s : Shared) (Q : Value × List Value → Shared → Prop) (x dx a : Addr) (hs : Int) (t : Tok) (n : Nat) (pl : Sem Bool), Gb KK s.heap → s.heap.get? x = some (instObj HC dx) → s.heap.get? dx = some (dictOf [⟨hs, .str (Str.ofString "_headers") t, .ref a⟩] n) →
    Q (.ref 179, [.ref x]) s → wpAny (model prog w) A (getMethod (.ref x) "add_header" pl) Q E s
  fo : ∀ h, Gb KK h → ∃ o fd, h.get? 179 = some o ∧ o.data = .func fd
  had : ∀ (E : Value → Shared → Prop) (s : Shared) (x dx a : Addr) (hs : Int) (t : Tok) (n : Nat) (vs : List Value) (nm vl : Str) (u v : Tok), Gb KK s.heap → s.heap.get? x = some (instObj HC dx) → s.heap.get? dx = some (dictOf [⟨hs, .str (Str.ofString "_headers") t, .ref a⟩] n) →
    s.heap.PlainList a vs.toArray → vs.length ≤ 1000 → noMatch codeN nm = true → noMatch codeV vl = true → joinSame vl = true →
    wpAny (model prog w) A (call (.ref 179) [.ref x, .str nm u, .str vl v]) (fun r s' => r = .none ∧ ∃ b h' tk, s' = { s with heap := h', toks := tk } ∧ s.toks ≤ tk ∧ GrowX [a] s.heap h' ∧ h'.PlainList a (List.toArray (vs ++ [Value.ref b])) ∧ s.heap.get? b = none ∧
      ∃ u' v', PlainTup h' b #[.str nm u', .str vl v']) E s

/-- what a statement ends with -/
noncomputable def Po (KK : Frag) (K : KD) (env : Env) (H : List Addr) (h₀ : Heap) (O : Os) (s : Shared) (T : TM) (fl : Fl) (st : Sta) : Flow → Shared → Prop := fun f s' => ∃ T', Cg s T s' T' ∧ GrowX (Wm env O) s.heap s'.heap ∧ FlR H (gs s' T') fl f ∧ Iv KK K env H h₀ O st.1 st.2 s' T'

section
variable {prog : Program} {w : World} {A : Around} {S : SG} {KK : Frag}
noncomputable def Pp (prog : Program) (w : World) (A : Around) (S : SG) (KK : Frag) (K : KD) (ss : List Stmt) (x : SX) : Prop := ∀ (env : Env) (H : List Addr) (h₀ : Heap) (O : Os) (st st' : Sta) (s : Shared) (T : TM) (fl : Fl),
  Iv KK K env H h₀ O st.1 st.2 s T → run S x st = some (fl, st') → ∀ E, wpAny (model prog w) A (execs ss env) (Po KK K env H h₀ O s T fl st') E s
noncomputable def Pst (prog : Program) (w : World) (A : Around) (S : SG) (KK : Frag) (K : KD) (t : Stmt) (x : SX) : Prop := ∀ (env : Env) (H : List Addr) (h₀ : Heap) (O : Os) (st st' : Sta) (s : Shared) (T : TM) (fl : Fl),
  Iv KK K env H h₀ O st.1 st.2 s T → run S x st = some (fl, st') → ∀ E, wpAny (model prog w) A (exec t env) (Po KK K env H h₀ O s T fl st') E s
end
/-- a statement of the program, read as one of the small language -/
structure TrSt (K : KD) (t : Stmt) (x : SX) : Prop where
  s : ∀ {prog : Program} {w : World} {A : Around} {S : SG} {KK : Frag}, Wd prog w A S KK → Wh prog w A KK → Pst prog w A S KK K t x
structure TrS (K : KD) (ss : List Stmt) (x : SX) : Prop where
  s : ∀ {prog : Program} {w : World} {A : Around} {S : SG} {KK : Frag}, Wd prog w A S KK → Wh prog w A KK → Pp prog w A S KK K ss x
end Mine

-- M16
namespace Mine

section
variable {KK : Frag} {K : KD} {env : Env} {H : List Addr} {h₀ : Heap} {O : Os} {ω ρ : Rho} {s s' : Shared} {T T' : TM}

theorem Wm_sub {env : Env} {O : Os} {H : List Addr} (ok : EnvOk env H) : ∀ a ∈ Wm env O, a ∈ O.ad ++ H := fun a ha => by
  rcases List.mem_append.mp ha with h | h
  · exact List.mem_append_left _ h
  · rcases List.mem_cons.mp h with rfl | h
    · exact List.mem_append_right _ ok.loc
    · obtain ⟨⟨x, c⟩, hm, hc⟩ := List.mem_filterMap.mp h
      exact List.mem_append_right _ (ok.cell _ _ hc)

theorem hv_wr {W A B : List Addr} {h₁ h₂ : Heap} (hs : ∀ b, b ∈ B → b ∈ A ∨ b ∈ W) (f : ∀ b ∈ W, h₁.get? b = none) (k : Grow h₁ h₂) : Grow (hideAll h₁ A) (hideAll h₂ B) := fun b o e =>
  hv_in (k _ _ (hv_of e)) fun q => (hs b q).elim (hv_notin e) fun z => by have := hv_of e; rw [f b z] at this; cases this

/-- more is hidden: places that were not there -/
theorem Iv.hide (iv : Iv KK K env H h₀ O ω ρ s T) {wr : List Addr} (hw : ∀ b ∈ wr, s.heap.get? b = none) (g : Goes s T s' T') (t : s.toks ≤ s'.toks) (hl : ∀ b ∈ wr, ∃ o, s'.heap.get? b = some o) : Iv KK K env (wr ++ H) h₀ O ω ρ s' T' := by
  have k := keeps_grow g.k
  have le : Le (hv (O.ad ++ H) (gs s T)) (hv (O.ad ++ (wr ++ H)) (gs s' T')) := ⟨hv_wr (W := wr) (fun b hb => by
    rcases List.mem_append.mp hb with h | h
    · exact .inl (List.mem_append_left _ h)
    · rcases List.mem_append.mp h with h | h
      · exact .inr h
      · exact .inl (List.mem_append_right _ h)) hw k, g.e⟩
  have iv' := iv.step g t
  refine ⟨iv.k, iv.ok.more fun a ha => List.mem_append_right _ ha, iv.gb, iv.r.step le (fun o e => k _ o e) (fun y c o _ e => k c o e), iv'.d, ?_, iv'.ns, iv'.cl, iv.ap, ?_, iv.nd, ?_, iv.of, iv.lf, iv.cf, iv'.base⟩
  · intro a ha
    rcases List.mem_append.mp ha with h | h
    · exact iv'.l a (List.mem_append_left _ h)
    · rcases List.mem_append.mp h with h | h
      · exact hl a h
      · exact iv'.l a (List.mem_append_right _ h)
  · intro i p hp
    obtain ⟨y, a, v, e, hk, hm, n, o⟩ := iv.own i p hp
    refine ⟨y, a, v, e, hk, hm, n.grow k, ?_⟩
    cases p with
    | lst l => obtain ⟨rfl, vs, e, r⟩ := o; exact ⟨rfl, vs, e.at fun o e => k _ o e, r.grow le⟩
    | hdr l => obtain ⟨y, dx, hs, t, nn, rfl, e1, e2, vs, e, r⟩ := o; exact ⟨y, dx, hs, t, nn, rfl, le.h _ _ e1, le.h _ _ e2, vs, e.at fun o e => k _ o e, r.grow le⟩
    | _ => exact o.elim
  · intro a ha hm
    rcases List.mem_append.mp hm with h | h
    · obtain ⟨o, e⟩ := iv.l a (List.mem_append_left _ ha)
      rw [hw a h] at e; cases e
    · exact iv.oh a ha h

theorem Iv.unhide {wr : List Addr} (iv : Iv KK K env (wr ++ H) h₀ O ω ρ s T) (ok : EnvOk env H) : Iv KK K env H h₀ O ω ρ s T := by
  have le : Le (hv (O.ad ++ (wr ++ H)) (gs s T)) (hv (O.ad ++ H) (gs s T)) := ⟨hv_sub fun b hb => by
    rcases List.mem_append.mp hb with h | h
    · exact List.mem_append_left _ h
    · exact List.mem_append_right _ (List.mem_append_right _ h), TExt.refl _⟩
  refine ⟨iv.k, ok, iv.gb, iv.r.step le (fun _ e => e) (fun _ _ _ _ e => e), iv.d, fun a ha => ?_, iv.ns, iv.cl, iv.ap, ?_, iv.nd, fun a ha hm => iv.oh a ha (List.mem_append_right _ hm), iv.of, iv.lf, iv.cf, iv.base⟩
  · rcases List.mem_append.mp ha with h | h
    · exact iv.l a (List.mem_append_left _ h)
    · exact iv.l a (List.mem_append_right _ (List.mem_append_right _ h))
  · intro i p hp
    obtain ⟨y, a, v, e, hk, hm, n, o⟩ := iv.own i p hp
    exact ⟨y, a, v, e, hk, hm, n, by
      cases p with
      | lst l => obtain ⟨rfl, vs, e, r⟩ := o; exact ⟨rfl, vs, e, r.grow le⟩
      | hdr l => obtain ⟨y, dx, hs, t, nn, rfl, e1, e2, vs, e, r⟩ := o; exact ⟨y, dx, hs, t, nn, rfl, le.h _ _ e1, le.h _ _ e2, vs, e, r.grow le⟩
      | _ => exact o.elim⟩

theorem nodup_at : ∀ {O : Os}, O.ad.Nodup → ∀ {i j : Nat} {a : Addr}, (i, a) ∈ O → (j, a) ∈ O → i = j
  | [], _, _, _, _, h, _ => nomatch h
  | (k, b) :: r, nd, i, j, a, h, h' => by
    obtain ⟨n1, n2⟩ := List.nodup_cons.mp nd
    rcases List.mem_cons.mp h with e | h <;> rcases List.mem_cons.mp h' with e' | h'
    · cases e; cases e'; rfl
    · cases e; exact absurd (List.mem_map.mpr ⟨_, h', rfl⟩) n1
    · cases e'; exact absurd (List.mem_map.mpr ⟨_, h, rfl⟩) n1
    · exact nodup_at n2 h h'

/-- an owned list is changed -/
theorem Iv.setOwn (iv : Iv KK K env H h₀ O ω ρ s T) {i : Nat} {a : Addr} {x : Str} {v : Value} {p' : PV} (hi : tb[i]? = some x) (hk : env.kindOf x = some .local ∨ env.kindOf x = some .cell ∨ env.kindOf x = some .free) (hm : (i, a) ∈ O) (n : NmAt env s.heap x v)
    (cg : Cg s T s' T') (kx : GrowX [a] s.heap s'.heap) (hla : ∃ o, s'.heap.get? a = some o) (o : OwnV (O.ad ++ H) (gs s' T') v a p') : Iv KK K env H h₀ O (upd ω i (some p')) ρ s' T' := by
  have haO : a ∈ O.ad := List.mem_map.mpr ⟨_, hm, rfl⟩
  have hne : ∀ b, b ∈ H → b ≠ a := fun b hb z => iv.oh a haO (z ▸ hb)
  have le : Le (hv (O.ad ++ H) (gs s T)) (hv (O.ad ++ H) (gs s' T')) := ⟨(kx.sub fun b hb => by simp at hb; subst hb; exact List.mem_append_left _ haO).hv, cg.e⟩
  have keep : ∀ b, b ≠ a → ∀ o, s.heap.get? b = some o → s'.heap.get? b = some o := fun b hb o e => kx b o (by simpa using hb) e
  have kl := keep env.locals (hne _ iv.ok.loc)
  have kc : ∀ y c o, env.cells.lookup y = some c → s.heap.get? c = some o → s'.heap.get? c = some o := fun y c o hc e => keep c (hne _ (iv.ok.cell y c hc)) o e
  refine ⟨iv.k, iv.ok, iv.gb, iv.r.step le kl kc, cg.dom iv.d, ?_, ?_, ?_, iv.ap, ?_, iv.nd, iv.oh, iv.of, iv.lf, iv.cf, gb_growX iv.base (by intro b hb; simp at hb; subst hb; exact iv.of _ haO) kx⟩
  · exact iv.l.growX kx fun b hb _ => by simp at hb; subst hb; exact hla
  · obtain ⟨m, q⟩ := iv.ns; exact ⟨m, q.at' kl⟩
  · intro y c hc; obtain ⟨u, o, e, d⟩ := iv.cl y c hc; exact ⟨u, o, kc y c o hc e, d⟩
  · intro j q hq
    by_cases hj : j = i
    · subst hj
      rw [upd_at] at hq; cases hq
      exact ⟨x, a, v, hi, hk, hm, n.at kl kc, o⟩
    · rw [upd_ne hj] at hq
      obtain ⟨y, b, u, e, hk', hm', n', o'⟩ := iv.own j q hq
      have hb : b ≠ a := fun z => hj (nodup_at iv.nd (z ▸ hm') hm)
      exact ⟨y, b, u, e, hk', hm', n'.at kl kc, o'.grow le (keep b hb)⟩

/-- a name of an owner -/
theorem Iv.ownAt (iv : Iv KK K env H h₀ O ω ρ s T) {i : Nat} {x : Str} {p : PV} (hi : tb[i]? = some x) (hp : ω i = some p) : ∃ a v, (env.kindOf x = some .local ∨ env.kindOf x = some .cell ∨ env.kindOf x = some .free) ∧ (i, a) ∈ O ∧ NmAt env s.heap x v ∧ OwnV (O.ad ++ H) (gs s T) v a p := by
  obtain ⟨y, a, v, e, hk, hm, n, o⟩ := iv.own i p hp
  rw [hi] at e; cases e
  exact ⟨a, v, hk, hm, n, o⟩

theorem NmAt.loadN {M : Model} {A : Around} {E : Value → Shared → Prop} {x : Str} {v : Value} {Q : Value → Shared → Prop} (hk : env.scope.kind = .function) (n : NmAt env s.heap x v) (hx : x ∈ tb)
    (h : Q v s) : wpAny M A (loadName env x) Q E s := by
  rcases n with ⟨k, m, hn, e⟩ | ⟨k | k, c, hc, hv⟩
  · exact wpAny_loadName_local hk k hn e h
  · exact wpAny_loadName_cell hk k hc hv h
  · exact wpAny_loadName_free hk k hc hv h (tb_debug x hx).2
end

section
variable {prog : Program} {w : World} {A : Around} {S : SG} {KK : Frag} {K : KD} {env : Env} {H : List Addr} {h₀ : Heap} {O : Os} {ω ρ : Rho} {s s' : Shared} {T T' : TM} {E : Value → Shared → Prop}

theorem aug_ok {op : Operator} {p q r : PV} (e : augP op p q = some r) {a b : Value} (ra : Rep (hv H (gs s T)) a p) (rb : Rep (hv H (gs s T)) b q) : Ok (model prog w) A (inplaceOp op a b) s T (fun v g => Rep (hv H g) v r) := by
  unfold augP at e
  split at e
  · cases ra; cases rb; cases e; exact Ok.of fun Q E hq => PySem.AutoIntOps.iadd_0 (hq _ _ T (.int _ _) (Goes.tok _ _ _))
  · cases ra; cases rb; cases e; exact Ok.of fun Q E hq => PySem.AutoIntOps.isub_0 (hq _ _ T (.int _ _) (Goes.tok _ _ _))
  · rename_i x y
    split at e
    · rename_i hz
      cases ra; cases rb; cases e
      exact Ok.of fun Q E hq => iadd_str (fun t' tk => hq _ _ T (.str _ _) (Goes.tok _ _ _)) (Nat.le_trans hz (by decide))
    · cases e
  · cases e

/-- a target is stored -/
theorem Iv.asgT {tg : Tg} {e : Expr} {g : GS} {ps : List PV} {v : Value} {Q : Unit → Shared → Prop} (hh : A.handled = none) (iv : Iv KK K env H h₀ O ω ρ s T) (ht : tg.Is K e) (hf : tg.free ω = true) (k : Le g (hv (O.ad ++ H) (gs s T))) (b : BdP g tg ps v s.heap)
    (hQ : ∀ s', Cg s T s' T → GrowX (Wm env O) s.heap s'.heap → Iv KK K env H h₀ O ω (tg.bind ps ρ) s' T → Q () s') : wpAny (model prog w) A (assign e env v) Q E s := by
  cases tg with
  | one x =>
    obtain ⟨n, px, rfl, hi, hx⟩ := ht
    obtain ⟨p, rfl, rv⟩ := b
    exact wpAny_assign_Name (iv.store hi (.inl hx) (by simpa [Tg.free] using hf) (rv.grow k) hQ)
  | two x y =>
    obtain ⟨n, n', px, py, kk, pos, rfl, hi, hj, hx, hy⟩ := ht
    obtain ⟨t, a, b, p, q, rfl, hT, rfl, ra, rb⟩ := b
    simp only [Tg.free, Bool.and_eq_true, Option.isNone_iff_eq_none] at hf
    refine wpAny_assign_Tuple hh hT rfl rfl fun h₁ he₁ => ?_
    have g₁ : Goes s T { s with heap := h₁ } T := Goes.of T (keeps_of (tk := s.toks) fun b o e => he₁ b o (Nat.ne_of_lt (Heap.lt_size e)) e)
    have iv₁ := iv.step g₁ (Nat.le_refl _)
    show wpAny _ _ (do holding [b] (assign (.Name n px) env a); assignInOrder _ _) _ _ _
    refine wpAny_bind (wpAny_holding (wpAny_assign_Name (iv₁.store hi (.inl hx) hf.1 ((ra.grow k).grow g₁.le.hv) fun s₂ cg₂ kx₂ iv₂ => ?_)))
    show wpAny _ _ (do holding [] (assign (.Name n' py) env b); assignInOrder _ _) _ _ _
    have le₂ : Le (hv (O.ad ++ H) (gs { s with heap := h₁ } T)) (hv (O.ad ++ H) (gs s₂ T)) := ⟨(kx₂.sub (Wm_sub iv.ok)).hv, TExt.refl _⟩
    refine wpAny_bind (wpAny_holding (wpAny_assign_Name (iv₂.store hj (.inl hy) hf.2 (((rb.grow k).grow g₁.le.hv).grow le₂) fun s₃ cg₃ kx₃ iv₃ => wpAny_pure (hQ s₃ ?_ ?_ iv₃))))
    · exact ((Cg.of g₁ (Nat.le_refl _)).trans cg₂).trans cg₃
    · exact ((keeps_grow g₁.k).toX.trans kx₂).trans kx₃
end
end Mine

-- M17
namespace Mine

section
variable {prog : Program} {w : World} {A : Around} {S : SG} {KK : Frag} {K : KD} {env : Env} {H : List Addr} {h₀ : Heap} {O : Os} {ω ρ : Rho} {s s' : Shared} {T T' : TM} {E : Value → Shared → Prop}

theorem Po.from {fl : Fl} {st : Sta} {f : Flow} {s₁ s₂ : Shared} {T₁ : TM} (cg : Cg s T s₁ T₁) (k : GrowX (Wm env O) s.heap s₁.heap) (x : Po KK K env H h₀ O s₁ T₁ fl st f s₂) : Po KK K env H h₀ O s T fl st f s₂ := by
  obtain ⟨T', a, b, c, d⟩ := x
  exact ⟨T', cg.trans a, k.trans b, c, d⟩

theorem truthO_is {p : Option PV} {b : Bool} (h : truthO p = some b) : ∃ q, p = some q ∧ truthP q = some b := by
  unfold truthO at h
  split at h
  · exact ⟨_, rfl, h⟩
  · cases h

theorem asg_end {i : Nat} {x : Str} {p : PV} {Q : Flow → Shared → Prop} (iv : Iv KK K env H h₀ O ω ρ s T) (hi : tb[i]? = some x) (hk : K x = some .local ∨ K x = some .cell) (hω : ω i = none) {v : Value} {s₁ : Shared} {T₁ : TM} (g : Goes s T s₁ T₁) (t : s.toks ≤ s₁.toks)
    (rv : Rep (hv (O.ad ++ H) (gs s₁ T₁)) v p) (hQ : ∀ s', Po KK K env H h₀ O s T .nx (ω, upd ρ i (some p)) .next s' → Q .next s') : wpAny (model prog w) A (storeName env x v) (fun _ => Q .next) E s₁ :=
  (iv.step g t).store hi hk hω rv fun s₂ cg kx iv₂ => hQ s₂ ⟨T₁, (Cg.of g t).trans cg, (keeps_grow g.k).toX.trans kx, rfl, iv₂⟩

theorem Iv.wr {wr : List Addr} {h : Heap} {tk : Nat} (iv : Iv KK K env (wr ++ H) h₀ O ω ρ s T) (k : ∀ b o, b ∉ wr → s.heap.get? b = some o → h.get? b = some o) (hl : ∀ b ∈ wr, ∃ o, h.get? b = some o) (hn : ∀ b ∈ wr, b ∉ Wm env O) (h0 : ∀ b ∈ wr, h₀.get? b = none) (t : s.toks ≤ tk) :
    Iv KK K env (wr ++ H) h₀ O ω ρ { s with heap := h, toks := tk } T := by
  have nl : env.locals ∉ wr := fun z => hn _ z (by simp [Wm])
  have nc : ∀ y c, env.cells.lookup y = some c → c ∉ wr := fun y c hc z => hn _ z (List.mem_append_right _ (List.mem_cons_of_mem _ (List.mem_filterMap.mpr ⟨_, mem_of_lookup hc, hc⟩)))
  have no : ∀ a ∈ O.ad, a ∉ wr := fun a ha z => hn _ z (List.mem_append_left _ ha)
  have kX : GrowX wr s.heap h := fun b o hb e => k b o hb e
  have le : Le (hv (O.ad ++ (wr ++ H)) (gs s T)) (hv (O.ad ++ (wr ++ H)) ⟨h, T⟩) := ⟨(kX.sub fun a ha => List.mem_append_right _ (List.mem_append_left _ ha)).hv, TExt.refl _⟩
  have kl := fun o e => k env.locals o nl e
  have kc := fun y c o (hc : env.cells.lookup y = some c) e => k c o (nc y c hc) e
  refine ⟨iv.k, iv.ok, iv.gb, iv.r.step le kl kc, iv.d.step t (TNew.refl _ _), iv.l.growX kX fun b hb _ => hl b hb, ?_, ?_, iv.ap, ?_, iv.nd, iv.oh, iv.of, iv.lf, iv.cf, gb_growX iv.base h0 kX⟩
  · obtain ⟨m, q⟩ := iv.ns; exact ⟨m, q.at' kl⟩
  · intro y c hc; obtain ⟨u, o, e, d⟩ := iv.cl y c hc; exact ⟨u, o, kc y c o hc e, d⟩
  · intro j q hq
    obtain ⟨y, b, u, e, hk', hm', n', o'⟩ := iv.own j q hq
    exact ⟨y, b, u, e, hk', hm', n'.at kl kc, o'.grow le fun o e => k b o (no b (List.mem_map.mpr ⟨_, hm', rfl⟩)) e⟩

theorem Iv.wrEnd {wr : List Addr} {h : Heap} {tk : Nat} (iv : Iv KK K env (wr ++ H) h₀ O ω ρ s T) (ok : EnvOk env H) (k : ∀ b o, b ∉ wr → s.heap.get? b = some o → h.get? b = some o) (hn : ∀ b ∈ wr, b ∉ O.ad ++ H) (h0 : ∀ b ∈ wr, h₀.get? b = none) (t : s.toks ≤ tk) :
    Iv KK K env H h₀ O ω ρ { s with heap := h, toks := tk } T := by
  have nl : env.locals ∉ wr := fun z => hn _ z (List.mem_append_right _ ok.loc)
  have nc : ∀ y c, env.cells.lookup y = some c → c ∉ wr := fun y c hc z => hn _ z (List.mem_append_right _ (ok.cell y c hc))
  have no : ∀ a ∈ O.ad, a ∉ wr := fun a ha z => hn _ z (List.mem_append_left _ ha)
  have kX : GrowX wr s.heap h := fun b o hb e => k b o hb e
  have le : Le (hv (O.ad ++ (wr ++ H)) (gs s T)) (hv (O.ad ++ H) ⟨h, T⟩) := ⟨fun b o e => by
    have hb := hv_notin e
    exact hv_in (k b o (fun z => hb (List.mem_append_right _ (List.mem_append_left _ z))) (hv_of e)) fun z => hb (by
      rcases List.mem_append.mp z with z | z
      · exact List.mem_append_left _ z
      · exact List.mem_append_right _ (List.mem_append_right _ z)), TExt.refl _⟩
  have kl := fun o e => k env.locals o nl e
  have kc := fun y c o (hc : env.cells.lookup y = some c) e => k c o (nc y c hc) e
  refine ⟨iv.k, ok, iv.gb, iv.r.step le kl kc, iv.d.step t (TNew.refl _ _), ?_, ?_, ?_, iv.ap, ?_, iv.nd, fun a ha hm => iv.oh a ha (List.mem_append_right _ hm), iv.of, iv.lf, iv.cf, gb_growX iv.base h0 kX⟩
  · intro a ha
    obtain ⟨o, e⟩ := iv.l a (by
      rcases List.mem_append.mp ha with z | z
      · exact List.mem_append_left _ z
      · exact List.mem_append_right _ (List.mem_append_right _ z))
    exact ⟨o, k a o (fun z => hn a z ha) e⟩
  · obtain ⟨m, q⟩ := iv.ns; exact ⟨m, q.at' kl⟩
  · intro y c hc; obtain ⟨u, o, e, d⟩ := iv.cl y c hc; exact ⟨u, o, kc y c o hc e, d⟩
  · intro j q hq
    obtain ⟨y, b, u, e, hk', hm', n', o'⟩ := iv.own j q hq
    refine ⟨y, b, u, e, hk', hm', n'.at kl kc, ?_⟩
    have kb : ∀ o, s.heap.get? b = some o → h.get? b = some o := fun o e => k b o (no b (List.mem_map.mpr ⟨_, hm', rfl⟩)) e
    cases q with
    | lst l => obtain ⟨rfl, vs, e, r⟩ := o'; exact ⟨rfl, vs, e.at kb, r.grow le⟩
    | hdr l => obtain ⟨y, dx, hs, t, nn, rfl, e1, e2, vs, e, r⟩ := o'; exact ⟨y, dx, hs, t, nn, rfl, le.h _ _ e1, le.h _ _ e2, vs, e.at kb, r.grow le⟩
    | _ => exact o'.elim

theorem for_ok {body : List Stmt} {xb : SX} {t it : Expr} {pos : Pos} {tg : Tg} {psl : List (List PV)} {st st' : Sta} {fl : Fl} (hh : A.handled = none) (hb : Pp prog w A S KK K body xb) (ht : tg.Is K t) (iv : Iv KK K env H h₀ O st.1 st.2 s T)
    (hit : ItOk prog w A env (O.ad ++ H) s T t it tg psl) (hs : ∀ v, foldedSetIterable it env v = pure v) (hr : forRun (run S xb) tg psl st = some (fl, st')) (E : Value → Shared → Prop) :
    wpAny (model prog w) A (exec (.For t it body [] pos) env) (Po KK K env H h₀ O s T fl st') E s := by
  refine wpAny_For (wpAny_mono (hit E) (fun xv s₁' h₁ => wpAny_mono h₁ (fun itv s₂ h₂ => ?_) fun _ _ e => e) fun _ _ e => e) hs
  obtain ⟨s₁, T₁, g₁, t₁, ct, I, fp, wr, P, Md, St, rfl, W, hst, _, hwl, hfp, hwr, hP, hg⟩ := h₂
  have iv₁ := iv.step g₁ t₁
  have iv₂ := iv₁.hide hwr hg ct (hwl _ _ hst)
  have mfp : ∀ b ∈ fp, b ∉ Wm env O := fun b hb hm => (hfp b hb).2 (Wm_sub iv.ok b hm)
  have cg₂ : Cg s T s₂ T₁ := (Cg.of g₁ t₁).trans (Cg.of hg ct)
  have k₂ : Grow s.heap s₂.heap := (keeps_grow g₁.k).trans (keeps_grow hg.k)
  have wmn : ∀ b ∈ wr, b ∉ Wm env O := fun b hb => mfp b (W.sub b hb)
  have wrn : ∀ b ∈ wr, s.heap.get? b = none := fun b hb => by
    cases q : s.heap.get? b with
    | none => rfl
    | some o => have := keeps_grow g₁.k _ _ q; rw [hwr b hb] at this; cases this
  have h0n : ∀ b ∈ wr, h₀.get? b = none := fun b hb => by
    cases q : h₀.get? b with
    | none => rfl
    | some o => have := iv.base _ _ q; rw [wrn b hb] at this; cases this
  have leI : ∀ {h : Heap} {T' : TM}, (∀ b o, b ∉ Wm env O → b ∉ wr → s₁.heap.get? b = some o → h.get? b = some o) → TExt T₁ T' → Le (hv (O.ad ++ H) (gs s₁ T₁)) (hv (O.ad ++ (wr ++ H)) ⟨h, T'⟩) := fun k te => ⟨fun b o e => by
    have hb := hv_notin e
    have e' := hv_of e
    have hw : b ∉ wr := fun z => by rw [hwr b z] at e'; cases e'
    refine hv_in (k b o (fun z => hb (Wm_sub iv.ok b z)) hw e') fun z => ?_
    rcases List.mem_append.mp z with z | z
    · exact hb (List.mem_append_left _ z)
    · rcases List.mem_append.mp z with z | z
      · exact hw z
      · exact hb (List.mem_append_right _ z), te⟩
  obtain ⟨Inv, hI⟩ : ∃ Inv : Nat → Shared → Prop, ∀ n s', Inv n s' ↔ (∃ T' i st1, Cg s T s' T' ∧ TExt T₁ T' ∧ GrowX (Wm env O) s.heap s'.heap ∧ (∀ b o, b ∉ Wm env O → b ∉ wr → s₁.heap.get? b = some o → s'.heap.get? b = some o) ∧ Iv KK K env (wr ++ H) h₀ O st1.1 st1.2 s' T' ∧ St i s'.heap ∧
    forRun (run S xb) tg (psl.drop i) st1 = some (fl, st') ∧ i ≤ psl.length ∧ n = psl.length - i) := ⟨_, fun _ _ => Iff.rfl⟩
  refine codeAny_forLoop_any Inv ?_ psl.length ((hI _ _).mpr ⟨T₁, 0, st, cg₂, TExt.refl _, k₂.toX, fun b o _ _ e => keeps_grow hg.k _ _ e, iv₂, hst, by simpa using hr, Nat.zero_le _, rfl⟩)
  intro n s' hinv
  obtain ⟨T', i, st1, cg', te', kx', ks', iv', hst', hrun, hi, rfl⟩ := (hI _ _).mp hinv
  by_cases hlt : i < psl.length
  · have hdrop : psl.drop i = psl[i] :: psl.drop (i + 1) := List.drop_eq_getElem_cons hlt
    rw [hdrop] at hrun
    simp only [forRun] at hrun
    split at hrun
    case isFalse => cases hrun
    rename_i hfree
    refine wpAny_with_toks (n := s'.toks) (Nat.le_refl _) (W.item i _ _ _ hlt hst' fun v h₁ tk₁ hMd hk₁ htk₁ => ?_)
    refine W.go i v _ _ _ hMd fun h₂ hPv hst₂ hk₂ => ?_
    obtain ⟨ps, hps, hbd⟩ := hP i v _ hlt hPv
    have hpe : psl[i] = ps := by rw [List.getElem?_eq_getElem hlt] at hps; exact Option.some.inj hps
    rw [hpe] at hrun
    have hk₁₂ : ∀ b o, b ∉ wr → s'.heap.get? b = some o → h₂.get? b = some o := fun b o hb e => hk₂ b o hb (hk₁ b o hb e)
    have cg₂' : Cg s T { s' with heap := h₂, toks := tk₁ } T' := cg'.trans (Cg.mk' _ _ _ _ htk₁)
    have kx₂ : GrowX (Wm env O) s.heap h₂ := fun b o hb e => hk₁₂ b o (fun z => by rw [wrn b z] at e; cases e) (kx' b o hb e)
    have ks₂ : ∀ b o, b ∉ Wm env O → b ∉ wr → s₁.heap.get? b = some o → h₂.get? b = some o := fun b o hb hw e => hk₁₂ b o hw (ks' b o hb hw e)
    have iv₂' : Iv KK K env (wr ++ H) h₀ O st1.1 st1.2 { s' with heap := h₂, toks := tk₁ } T' := iv'.wr hk₁₂ (hwl _ _ hst₂) wmn h0n htk₁
    have leB := leI ks₂ te'
    refine (iv₂'.asgT hh ht hfree leB hbd fun s₃ cg₃ kx₃ iv₃ => ?_)
    have kw : GrowX (Wm env O) h₂ s₃.heap := kx₃
    have hst₃ : St (i + 1) s₃.heap := W.frame _ _ _ hst₂ fun b hb o e => kx₃ b o (mfp b hb) e
    split at hrun
    · rename_i st2 hb2
      refine wpAny_mono (hb env (wr ++ H) h₀ O (st1.1, tg.bind ps st1.2) st2 s₃ T' .nx iv₃ hb2 _) (fun f s₄ h₄ => ?_) fun _ _ x => x
      obtain ⟨T₄, cg₄, kx₄, hfl, iv₄⟩ := h₄
      cases hfl
      refine ⟨psl.length - (i + 1), by omega, (hI _ _).mpr ⟨T₄, i + 1, st2, ?_, ?_, ?_, ?_, iv₄, ?_, hrun, hlt, rfl⟩⟩
      · exact (cg₂'.trans cg₃).trans cg₄
      · exact te'.trans (cg₃.e.trans cg₄.e)
      · exact (kx₂.trans kx₃).trans kx₄
      · exact fun b o hb hw e => kx₄ b o hb (kx₃ b o hb (ks₂ b o hb hw e))
      · exact W.frame _ _ _ hst₃ fun b hb o e => kx₄ b o (mfp b hb) e
    · rename_i p st2 hb2
      cases hrun
      refine wpAny_mono (hb env (wr ++ H) h₀ O (st1.1, tg.bind ps st1.2) st' s₃ T' (.rt p) iv₃ hb2 _) (fun f s₄ h₄ => ?_) fun _ _ x => x
      obtain ⟨T₄, cg₄, kx₄, ⟨u, rfl, ru⟩, iv₄⟩ := h₄
      have l : Le (hv (wr ++ H) (gs s₄ T₄)) (hv H (gs s₄ T₄)) := ⟨hv_sub fun b hb => List.mem_append_right _ hb, TExt.refl _⟩
      exact ⟨T₄, (cg₂'.trans cg₃).trans cg₄, (kx₂.trans kx₃).trans kx₄, ⟨u, rfl, ru.grow l⟩, iv₄.unhide iv.ok⟩
    · cases hrun
  · have hin : i = psl.length := by omega
    subst hin
    rw [List.drop_length] at hrun
    simp only [forRun] at hrun
    cases hrun
    refine wpAny_with_toks (n := s'.toks) (Nat.le_refl _) (W.done _ _ _ hst' fun h₁ tk₁ hk₁ htk₁ => wpAny_execs_nil ?_)
    have iv₁' : Iv KK K env H h₀ O st'.1 st'.2 { s' with heap := h₁, toks := tk₁ } T' := iv'.wrEnd iv.ok hk₁ (fun b hb => (hfp b (W.sub b hb)).2) h0n htk₁
    exact ⟨T', cg'.trans (Cg.mk' _ _ _ _ htk₁), fun b o hb e => hk₁ b o (fun z => by rw [wrn b z] at e; cases e) (kx' b o hb e), rfl, iv₁'⟩
end
end Mine

-- M18
namespace Mine

section
variable {prog : Program} {w : World} {A : Around} {S : SG} {KK : Frag}

theorem opt_none {α : Type} {o : Option α} (h : o.isNone = true) : o = none := Option.isNone_iff_eq_none.mp h

theorem while_ok {K : KD} {env : Env} {H : List Addr} {h₀ : Heap} {O : Os} {s : Shared} {T : TM} {c : Expr} {xc : X} {body : List Stmt} {xb : SX} {pos : Pos} {n : Nat} {st st' : Sta} {fl : Fl} (W : Wd prog w A S KK) (hc : Pt prog w A S KK K c xc) (hb : Pp prog w A S KK K body xb)
    (iv : Iv KK K env H h₀ O st.1 st.2 s T) (hr : whlRun (fun st => truthO (ev S xc (rB st.1 st.2))) (run S xb) n st = some (fl, st')) (E : Value → Shared → Prop) :
    wpAny (model prog w) A (exec (.While c body [] pos) env) (Po KK K env H h₀ O s T fl st') E s := by
  obtain ⟨Inv, hI⟩ : ∃ Inv : Nat → Shared → Prop, ∀ k s', Inv k s' ↔ (∃ T' st1, Cg s T s' T' ∧ GrowX (Wm env O) s.heap s'.heap ∧ Iv KK K env H h₀ O st1.1 st1.2 s' T' ∧ whlRun (fun st => truthO (ev S xc (rB st.1 st.2))) (run S xb) k st1 = some (fl, st')) := ⟨_, fun _ _ => Iff.rfl⟩
  refine wpAny_While (codeAny_whileLoop Inv ?_ n ((hI _ _).mpr ⟨T, st, Cg.refl _ _, GrowX.refl _ _, iv, hr⟩))
  intro k s' hinv
  obtain ⟨T', st1, cg, kx, iv', hrun⟩ := (hI _ _).mp hinv
  clear hinv
  cases k with
  | zero => simp [whlRun] at hrun
  | succ k =>
    simp only [whlRun] at hrun
    split at hrun
    · rename_i ht
      cases hrun
      obtain ⟨p, hp, htp⟩ := truthO_is ht
      refine (hc env H s' T' _ p _ iv'.cxB hp htp).wp fun b s₁ T₁ hb' g₁ t₁ => ?_
      subst hb'
      simp only [Bool.false_eq_true, if_false]
      exact wpAny_execs_nil ⟨T₁, cg.trans (Cg.of g₁ t₁), kx.trans (keeps_grow g₁.k).toX, rfl, iv'.step g₁ t₁⟩
    · rename_i ht
      obtain ⟨p, hp, htp⟩ := truthO_is ht
      refine (hc env H s' T' _ p _ iv'.cxB hp htp).wp fun b s₁ T₁ hb' g₁ t₁ => ?_
      subst hb'
      simp only [if_true]
      have cg₁ := cg.trans (Cg.of g₁ t₁)
      have kx₁ : GrowX (Wm env O) s.heap s₁.heap := kx.trans (keeps_grow g₁.k).toX
      split at hrun
      · rename_i st2 h2
        refine wpAny_mono (hb env H h₀ O st1 st2 s₁ T₁ .nx (iv'.step g₁ t₁) h2 _) (fun f s₂ h₂ => ?_) fun _ _ x => x
        obtain ⟨T₂, cg₂, kx₂, hfl, iv₂⟩ := h₂
        cases hfl
        exact ⟨k, Nat.lt_succ_self _, (hI _ _).mpr ⟨T₂, st2, cg₁.trans cg₂, kx₁.trans kx₂, iv₂, hrun⟩⟩
      · rename_i p st2 h2
        cases hrun
        refine wpAny_mono (hb env H h₀ O st1 st' s₁ T₁ (.rt p) (iv'.step g₁ t₁) h2 _) (fun f s₂ h₂ => ?_) fun _ _ x => x
        obtain ⟨T₂, cg₂, kx₂, ⟨u, rfl, ru⟩, iv₂⟩ := h₂
        exact ⟨T₂, cg₁.trans cg₂, kx₁.trans kx₂, ⟨u, rfl, ru⟩, iv₂⟩
      · cases hrun
    · cases hrun

theorem RepL.eraseIdx {g : GS} : ∀ {vs : List Value} {ps : List PV}, RepL g vs ps → ∀ j, RepL g (vs.eraseIdx j) (ps.eraseIdx j)
  | _, _, .nil, _ => .nil
  | _, _, .cons a r, 0 => r
  | _, _, .cons a r, j + 1 => .cons a (r.eraseIdx j)
theorem RepL.set {g : GS} : ∀ {vs : List Value} {ps : List PV}, RepL g vs ps → ∀ (j : Nat) {v : Value} {p : PV}, Rep g v p → RepL g (vs.set j v) (ps.set j p)
  | _, _, .nil, _, _, _, _ => .nil
  | _, _, .cons a r, 0, _, _, x => .cons x r
  | _, _, .cons a r, j + 1, _, _, x => .cons a (r.set j x)

end
theorem stm {prog : Program} {w : World} {A : Around} {S : SG} {KK : Frag} (W : Wd prog w A S KK) (V : Wh prog w A KK) {K : KD} {t : Stmt} {x : SX} (h : TrSt K t x) : Pst prog w A S KK K t x := h.s W V
theorem stms {prog : Program} {w : World} {A : Around} {S : SG} {KK : Frag} (W : Wd prog w A S KK) (V : Wh prog w A KK) {K : KD} {ss : List Stmt} {x : SX} (h : TrS K ss x) : Pp prog w A S KK K ss x := h.s W V

theorem TrSt.asg {K : KD} {i : Nat} {x : Str} {px pos : Pos} {e : Expr} {xe : X} (hi : tb[i]? = some x) (hk : K x = some .local ∨ K x = some .cell) (h : Tr K e xe) (hs : ∀ env : Env, env.kindOf = K → env.scope.kind = .function → swapsWith e (some (.Name x px)) pos.line env = pure false) : TrSt K (.Assign [.Name x px] e pos) (.asg i xe) := ⟨fun W V => fun env H h₀ O st st' s T fl iv hr E => by
  simp only [run] at hr
  split at hr
  · rename_i hω
    split at hr
    · rename_i p hp
      cases hr
      exact wpAny_Assign_Name (((sound W h).1 env _ s T _ p iv.cxA hp).wp fun v s₁ T₁ rv g t => asg_end iv hi hk (opt_none hω) g t rv fun _ h => h) (hs env iv.k iv.ok.kind)
    · cases hr
  · cases hr⟩
theorem TrSt.asgB {K : KD} {i : Nat} {x : Str} {px pos : Pos} {e : Expr} {xe : X} (hi : tb[i]? = some x) (hk : K x = some .local ∨ K x = some .cell) (h : Tr K e xe) (hs : ∀ env : Env, env.kindOf = K → env.scope.kind = .function → swapsWith e (some (.Name x px)) pos.line env = pure false) : TrSt K (.Assign [.Name x px] e pos) (.asgB i xe) := ⟨fun W V => fun env H h₀ O st st' s T fl iv hr E => by
  simp only [run] at hr
  split at hr
  · rename_i hω
    split at hr
    · rename_i p hp
      split at hr
      · rename_i hf
        cases hr
        exact wpAny_Assign_Name (((sound W h).1 env _ s T _ p iv.cxB hp).wp fun v s₁ T₁ rv g t => asg_end iv hi hk (opt_none hω) g t (rv.flat hf) fun _ h => h) (hs env iv.k iv.ok.kind)
      · cases hr
    · cases hr
  · cases hr⟩
theorem TrSt.asgC {K : KD} {i : Nat} {y : Str} {py spos : Pos} {k : IK} {t it elt : Expr} {ifs : List Expr} {scope : Scope} {pos : Pos} {a b : X} {tg : Tg} {c e : X} (hi : tb[i]? = some y) (hy : K y = some .local)
    (hit : TrI K k it a b) (hks : scope.kind = .function) (hsc : scOk K tg.names scope.names = true) (ht : tg.Is (kdC K scope.names) t)
    (hk : ikOk k tg = true) (hc : TrC (kdC K scope.names) ifs c) (he : Tr (kdC K scope.names) elt e)
    (hs : ∀ env : Env, env.kindOf = K → env.scope.kind = .function → swapsWith (.ListComp elt [⟨t, it, ifs, 0⟩] scope pos) (some (.Name y py)) spos.line env = pure true) : TrSt K (.Assign [.Name y py] (.ListComp elt [⟨t, it, ifs, 0⟩] scope pos) spos) (.asgC i k a b tg c e) := ⟨fun W V => fun env H h₀ O st st' s T fl iv hr E => by
  simp only [run] at hr
  split at hr
  · rename_i hω
    split at hr
    · rename_i p hp
      cases hr
      simp only [ev] at hp
      split at hp
      · rename_i pa pb ea eb
        split at hp
        · rename_i psl hit'
          split at hp
          · rename_i rs hrs
            obtain ⟨rfl, hz⟩ := okLen_is hp
            have cx := iv.cxA
            have I := soundI W hit env _ s T _ pa pb psl _ _ _ cx ea eb hit' hk ht
            obtain ⟨m, hm⟩ := iv.ns
            have hω' := opt_none hω
            refine Assign1_ok W.hh cx.ok hks (by rw [cx.k]; exact hsc) (by rw [cx.k]; exact ht) I.2 I.1 cx.l cx.d cx.r hrs (Nat.le_trans hz (by decide))
              (fun C H' s' T' ps qs _ hF okc he' hd hL hg E' => elt_of cx hks hsc (soundC W hc) (sound W he).1 hF okc he' hd hL hg E') (hs env iv.k iv.ok.kind) (by rw [cx.k]; exact hy) hi hm fun s' T' cg kx hn hr' => ?_
            obtain ⟨v, hn'⟩ := hn
            have hlH : env.locals ∈ O.ad ++ H := List.mem_append_right _ iv.ok.loc
            have kxW : GrowX (Wm env O) s.heap s'.heap := kx.sub (by simp [Wm])
            have le : Le (hv (O.ad ++ H) (gs s T)) (hv (O.ad ++ H) (gs s' T')) := ⟨(kx.sub (by simpa using hlH)).hv, cg.e⟩
            have kl : ∀ b, b ≠ env.locals → ∀ o, s.heap.get? b = some o → s'.heap.get? b = some o := fun b hb o e => kx b o (by simpa using hb) e
            refine ⟨T', cg, kxW, rfl, iv.k, iv.ok, iv.gb, hr', cg.dom iv.d, ?_, ⟨_, hn'⟩, ?_, iv.ap, ?_, iv.nd, iv.oh, iv.of, iv.lf, iv.cf, gb_growX iv.base (by simpa using iv.lf) kx⟩
            · exact iv.l.growX kx fun b hb _ => by simp at hb; subst hb; obtain ⟨o, _, _, e, _⟩ := hn'; exact ⟨o, e⟩
            · intro z c hc'
              obtain ⟨u, o, e, d⟩ := iv.cl z c hc'
              exact ⟨u, o, kl c (fun q => ns_cell hm (show s.heap.IsCell env.locals u from q ▸ (⟨o, e, d⟩ : s.heap.IsCell c u))) o e, d⟩
            · intro j q hq
              obtain ⟨z, a, u, e, hkz, hmO, n, o⟩ := iv.own j q hq
              have ha : a ≠ env.locals := fun q => iv.oh a (List.mem_map.mpr ⟨_, hmO, rfl⟩) (q ▸ iv.ok.loc)
              have hzy : z ≠ y := fun q => by
                have := tb_inj e (q ▸ hi)
                subst this
                rw [hω'] at hq; cases hq
              refine ⟨z, a, u, e, hkz, hmO, ?_, o.grow le (kl a ha)⟩
              rcases n with ⟨kk, m', hm', em⟩ | ⟨kc, c, hc', o', eo, hd⟩
              · refine .inl ⟨kk, _, hn', ?_⟩
                rw [if_neg hzy]
                obtain ⟨o1, es, ep, e1, d1, _, f1⟩ := hm
                obtain ⟨o2, es', ep', e2, d2, _, f2⟩ := hm'
                rw [e1] at e2; cases e2; rw [d1] at d2; cases d2
                exact (f1 z).symm.trans ((f2 z).trans em)
              · exact .inr ⟨kc, c, hc', o', kl c (fun q => ns_cell hm (show s.heap.IsCell env.locals (some u) from q ▸ (⟨o', eo, hd⟩ : s.heap.IsCell c (some u)))) o' eo, hd⟩
          · cases hp
        · cases hp
      · cases hp
    · cases hr
  · cases hr⟩
theorem TrSt.asg2 {K : KD} {i j : Nat} {x y : Str} {px py tp pos : Pos} {k : Nat} {e : Expr} {xe : X} (hi : tb[i]? = some x) (hj : tb[j]? = some y) (hx : K x = some .local) (hy : K y = some .local) (h : Tr K e xe)
    (hs : ∀ env : Env, env.kindOf = K → env.scope.kind = .function → swapsWithSole [.Tuple [.Name x px, .Name y py] k tp] e pos.line env = pure false)
    (hw : ∀ env : Env, env.kindOf = K → env.scope.kind = .function → swappedStores [.Tuple [.Name x px, .Name y py] k tp] e env = pure (some [x, y])) : TrSt K (.Assign [.Tuple [.Name x px, .Name y py] k tp] e pos) (.asg2 i j xe) := ⟨fun W V => fun env H h₀ O st st' s T fl iv hr E => by
  simp only [run] at hr
  split at hr
  · rename_i hω
    simp only [Bool.and_eq_true] at hω
    split at hr
    · rename_i p q hp
      cases hr
      refine Assign_Tuple_swapped (((sound W h).1 env _ s T _ _ iv.cxA hp).wp fun v s₁ T₁ rv g t => ?_) (hs env iv.k iv.ok.kind) (hw env iv.k iv.ok.kind)
      obtain ⟨a, vs, rfl, hT, rl⟩ := rv.tupInv
      obtain ⟨x1, y1, rfl⟩ := len2 (l := vs) (by have := rl.length; simpa using this)
      cases rl with
      | cons rx rl =>
        cases rl with
        | cons ry _ =>
          have hT' : s₁.heap.IsTuple a [x1, y1].toArray := PlainTup.isTuple (plainTup_grow hT (hv_grow _ _))
          refine wpAny_unpackItems_tuple (items := [x1, y1].toArray) W.hh hT' fun h' he' => ?_
          have g₂ : Goes s₁ T₁ { s₁ with heap := h' } T₁ := Goes.of T₁ (keeps_of (tk := s₁.toks) fun b o e => he' b o (Nat.ne_of_lt (Heap.lt_size e)) e)
          have iv₂ := (iv.step g t).step g₂ (Nat.le_refl _)
          show wpAny _ _ (do holding [x1] (bindName env _ y1); assignInOrder _ _) _ _ _
          refine wpAny_bind (wpAny_holding (wpAny_bindName (iv₂.store hj (.inl hy) (opt_none hω.2) (ry.grow g₂.le.hv) fun s₃ cg₃ kx₃ iv₃ => ?_)))
          have le₃ : Le (hv (O.ad ++ H) (gs { s₁ with heap := h' } T₁)) (hv (O.ad ++ H) (gs s₃ T₁)) := ⟨(kx₃.sub (Wm_sub iv.ok)).hv, TExt.refl _⟩
          show wpAny _ _ (do holding [] (bindName env _ x1); assignInOrder _ _) _ _ _
          refine wpAny_bind (wpAny_holding (wpAny_bindName (iv₃.store hi (.inl hx) (opt_none hω.1) ((rx.grow g₂.le.hv).grow le₃) fun s₄ cg₄ kx₄ iv₄ => wpAny_pure ?_)))
          exact ⟨T₁, (((Cg.of g t).trans (Cg.of g₂ (Nat.le_refl _))).trans cg₃).trans cg₄, (((keeps_grow g.k).trans (keeps_grow g₂.k)).toX.trans kx₃).trans kx₄, rfl, iv₄⟩
    · cases hr
  · cases hr⟩
theorem TrSt.asgD {K : KD} {i j : Nat} {x y : Str} {px py pos : Pos} {e : Expr} {xe : X} (hi : tb[i]? = some x) (hj : tb[j]? = some y) (hx : K x = some .local) (hy : K y = some .local) (h : Tr K e xe) : TrSt K (.Assign [.Name x px, .Name y py] e pos) (.asgD i j xe) := ⟨fun W V => fun env H h₀ O st st' s T fl iv hr E => by
  simp only [run] at hr
  split at hr
  · rename_i hω
    simp only [Bool.and_eq_true] at hω
    split at hr
    · rename_i p hp
      cases hr
      rw [arm_exec_Assign]
      refine wpAny_bind (wpAny_standAt ?_)
      refine wpAny_bind (wpAny_of_eq (a := false) rfl ?_)
      rw [if_neg (by decide)]
      refine wpAny_bind (((sound W h).1 env _ s T _ _ iv.cxA hp).wp fun v s₁ T₁ rv g t => wpAny_bind (wpAny_of_eq (a := none) rfl ?_))
      have iv₁ := iv.step g t
      show wpAny _ _ ((holding [v] (assign (Expr.Name _ _) env v) >>= fun _ => assign (Expr.Name _ _) env v) >>= fun _ => pure Flow.next) _ _ _
      refine wpAny_bind (wpAny_bind (wpAny_holding (wpAny_assign_Name (iv₁.store hi (.inl hx) (opt_none hω.1) rv fun s₃ cg₃ kx₃ iv₃ => ?_))))
      have le₃ : Le (hv (O.ad ++ H) (gs s₁ T₁)) (hv (O.ad ++ H) (gs s₃ T₁)) := ⟨(kx₃.sub (Wm_sub iv.ok)).hv, TExt.refl _⟩
      refine wpAny_assign_Name (iv₃.store hj (.inl hy) (opt_none hω.2) (rv.grow le₃) fun s₄ cg₄ kx₄ iv₄ => wpAny_pure ?_)
      exact ⟨T₁, ((Cg.of g t).trans cg₃).trans cg₄, ((keeps_grow g.k).toX.trans kx₃).trans kx₄, rfl, iv₄⟩
    · cases hr
  · cases hr⟩
theorem TrSt.asg3 {K : KD} {i j l : Nat} {x y z : Str} {px py pz tp pos : Pos} {k : Nat} {e : Expr} {xe : X} (hi : tb[i]? = some x) (hj : tb[j]? = some y) (hl : tb[l]? = some z) (hx : K x = some .local) (hy : K y = some .local) (hz : K z = some .local) (h : Tr K e xe)
    (hs : ∀ env : Env, swapsWithSole [.Tuple [.Name x px, .Name y py, .Name z pz] k tp] e pos.line env = pure false)
    (hw : ∀ env : Env, swappedStores [.Tuple [.Name x px, .Name y py, .Name z pz] k tp] e env = pure none) : TrSt K (.Assign [.Tuple [.Name x px, .Name y py, .Name z pz] k tp] e pos) (.asg3 i j l xe) := ⟨fun W V => fun env H h₀ O st st' s T fl iv hr E => by
  simp only [run] at hr
  split at hr
  · rename_i hω
    simp only [Bool.and_eq_true] at hω
    split at hr
    · rename_i p q r hp
      cases hr
      refine Assign_Tuple (((sound W h).1 env _ s T _ _ iv.cxA hp).wp fun v s₁ T₁ rv g t => ?_) (hs env) (hw env)
      obtain ⟨a, vs, rfl, hT, rl⟩ := rv.tupInv
      obtain ⟨x1, y1, z1, rfl⟩ := len3 (l := vs) (by have := rl.length; simpa using this)
      cases rl with
      | cons rx rl =>
        cases rl with
        | cons ry rl =>
          cases rl with
          | cons rz _ =>
            have hT' : s₁.heap.IsTuple a [x1, y1, z1].toArray := PlainTup.isTuple (plainTup_grow hT (hv_grow _ _))
            refine wpAny_assign_Tuple W.hh hT' rfl rfl fun h' he' => ?_
            have g₂ : Goes s₁ T₁ { s₁ with heap := h' } T₁ := Goes.of T₁ (keeps_of (tk := s₁.toks) fun b o e => he' b o (Nat.ne_of_lt (Heap.lt_size e)) e)
            have iv₂ := (iv.step g t).step g₂ (Nat.le_refl _)
            show wpAny _ _ (do holding [y1, z1] (assign (.Name _ _) env x1); assignInOrder _ _) _ _ _
            refine wpAny_bind (wpAny_holding (wpAny_assign_Name (iv₂.store hi (.inl hx) (opt_none hω.1.1) (rx.grow g₂.le.hv) fun s₃ cg₃ kx₃ iv₃ => ?_)))
            have le₃ : Le (hv (O.ad ++ H) (gs { s₁ with heap := h' } T₁)) (hv (O.ad ++ H) (gs s₃ T₁)) := ⟨(kx₃.sub (Wm_sub iv.ok)).hv, TExt.refl _⟩
            show wpAny _ _ (do holding [z1] (assign (.Name _ _) env y1); assignInOrder _ _) _ _ _
            refine wpAny_bind (wpAny_holding (wpAny_assign_Name (iv₃.store hj (.inl hy) (opt_none hω.1.2) ((ry.grow g₂.le.hv).grow le₃) fun s₄ cg₄ kx₄ iv₄ => ?_)))
            have le₄ : Le (hv (O.ad ++ H) (gs s₃ T₁)) (hv (O.ad ++ H) (gs s₄ T₁)) := ⟨(kx₄.sub (Wm_sub iv.ok)).hv, TExt.refl _⟩
            show wpAny _ _ (do holding [] (assign (.Name _ _) env z1); assignInOrder _ _) _ _ _
            refine wpAny_bind (wpAny_holding (wpAny_assign_Name (iv₄.store hl (.inl hz) (opt_none hω.2) (((rz.grow g₂.le.hv).grow le₃).grow le₄) fun s₅ cg₅ kx₅ iv₅ => wpAny_pure ?_)))
            exact ⟨T₁, ((((Cg.of g t).trans (Cg.of g₂ (Nat.le_refl _))).trans cg₃).trans cg₄).trans cg₅, ((((keeps_grow g.k).trans (keeps_grow g₂.k)).toX.trans kx₃).trans kx₄).trans kx₅, rfl, iv₅⟩
    · cases hr
  · cases hr⟩
theorem TrSt.aug {K : KD} {i : Nat} {x : Str} {px pos : Pos} {op : Operator} {e : Expr} {xe : X} (hi : tb[i]? = some x) (hk : K x = some .local) (h : Tr K e xe) : TrSt K (.AugAssign (.Name x px) op e pos) (.aug i op xe) := ⟨fun W V => fun env H h₀ O st st' s T fl iv hr E => by
  simp only [run] at hr
  split at hr
  · rename_i hω
    split at hr
    · rename_i p q hp hq
      split at hr
      · rename_i r hrr
        cases hr
        obtain ⟨v, n, rv⟩ := iv.r _ _ p hi (.inl (iv.k ▸ hk)) hp
        refine wpAny_AugAssign_Name (n.loadN iv.ok.kind (tb_mem hi) (((sound W h).1 env _ s T _ q iv.cxA hq).wp fun u s₁ T₁ ru g t => (aug_ok hrr (rv.grow g.le.hv) ru).wp fun x s₂ T₂ rx g₂ t₂ => ?_))
        exact asg_end iv hi (.inl hk) (opt_none hω) (g.trans g₂ t₂) (Nat.le_trans t t₂) rx fun _ h => h
      · cases hr
    · cases hr
  · cases hr⟩
theorem TrSt.ifs {K : KD} {c : Expr} {t e : List Stmt} {pos : Pos} {xc : X} {xt xe : SX} (hc : Tr K c xc) (ht : TrS K t xt) (he : TrS K e xe) : TrSt K (.If c t e pos) (.ifs xc xt xe) := ⟨fun W V => fun env H h₀ O st st' s T fl iv hr E => by
  simp only [run] at hr
  split at hr
  · rename_i hb
    obtain ⟨p, hp, htp⟩ := truthO_is hb
    refine wpAny_If (((sound W hc).2 env H s T _ p _ iv.cxB hp htp).wp fun b s₁ T₁ hb' g t => ?_)
    subst hb'
    simp only [if_true]
    exact wpAny_mono (stms W V ht env H h₀ O st st' s₁ T₁ fl (iv.step g t) hr E) (fun f s₂ h₂ => Po.from (Cg.of g t) (keeps_grow g.k).toX h₂) fun _ _ x => x
  · rename_i hb
    obtain ⟨p, hp, htp⟩ := truthO_is hb
    refine wpAny_If (((sound W hc).2 env H s T _ p _ iv.cxB hp htp).wp fun b s₁ T₁ hb' g t => ?_)
    subst hb'
    simp only [Bool.false_eq_true, if_false]
    exact wpAny_mono (stms W V he env H h₀ O st st' s₁ T₁ fl (iv.step g t) hr E) (fun f s₂ h₂ => Po.from (Cg.of g t) (keeps_grow g.k).toX h₂) fun _ _ x => x
  · cases hr⟩
theorem TrSt.fors {K : KD} {k : IK} {t it : Expr} {body : List Stmt} {pos : Pos} {a b : X} {tg : Tg} {xb : SX} (hit : TrI K k it a b) (ht : tg.Is K t) (hb : TrS K body xb) : TrSt K (.For t it body [] pos) (.fors k a b tg xb) := ⟨fun W V => fun env H h₀ O st st' s T fl iv hr E => by
  simp only [run] at hr
  split at hr
  · rename_i p q hp hq
    split at hr
    · rename_i psl hpsl
      split at hr
      · rename_i hk
        have I := soundI W hit env _ s T _ p q psl _ _ _ iv.cxA hp hq hpsl hk ht
        exact for_ok W.hh (stms W V hb) ht iv I.1 I.2 hr E
      · cases hr
    · cases hr
  · cases hr⟩
theorem TrSt.whl {K : KD} {n : Nat} {c : Expr} {body : List Stmt} {pos : Pos} {xc : X} {xb : SX} (hc : Tr K c xc) (hb : TrS K body xb) : TrSt K (.While c body [] pos) (.whl n xc xb) := ⟨fun W V => fun env H h₀ O st st' s T fl iv hr E => by
  simp only [run] at hr
  exact while_ok W (sound W hc).2 (stms W V hb) iv hr E⟩
theorem TrSt.ret {K : KD} {e : Expr} {xe : X} {pos : Pos} (h : Tr K e xe) : TrSt K (.Return (some e) pos) (.ret xe) := ⟨fun W V => fun env H h₀ O st st' s T fl iv hr E => by
  simp only [run] at hr
  split at hr
  · rename_i p hp
    cases hr
    exact wpAny_Return_some (((sound W h).1 env H s T _ p iv.cxB hp).wp fun v s₁ T₁ rv g t => ⟨T₁, Cg.of g t, (keeps_grow g.k).toX, ⟨v, rfl, rv⟩, iv.step g t⟩)
  · cases hr⟩
theorem TrSt.asr {K : KD} {c : Expr} {msg : Option Expr} {xc : X} {pos : Pos} (hc : Tr K c xc) : TrSt K (.Assert c msg pos) (.asr xc) := ⟨fun W V => fun env H h₀ O st st' s T fl iv hr E => by
  simp only [run] at hr
  split at hr
  · rename_i hb
    cases hr
    obtain ⟨p, hp, htp⟩ := truthO_is hb
    exact wpAny_Assert_holds (((sound W hc).2 env H s T _ p _ iv.cxB hp htp).wp fun b s₁ T₁ hb' g t => ⟨hb', T₁, Cg.of g t, (keeps_grow g.k).toX, rfl, iv.step g t⟩)
  · cases hr⟩
theorem TrSt.app {K : KD} {i : Nat} {x : Str} {px ap cp pos : Pos} {e : Expr} {xe : X} (hi : tb[i]? = some x) (hk : K x = some .local ∨ K x = some .cell) (h : Tr K e xe) (hn : noStar e = true) (hl : (ap.endLine == cp.line) = true) : TrSt K (.Expr (.Call (.Attribute (.Name x px) "append" ap) [e] [] cp) pos) (.app i xe) := ⟨fun W V => fun env H h₀ O st st' s T fl iv hr E => by
  simp only [run] at hr
  split at hr
  · rename_i l p hω hp
    split at hr
    · rename_i hz
      cases hr
      obtain ⟨a, v, hkx, hm, n, o⟩ := iv.ownAt hi hω
      obtain ⟨rfl, vs, hpl, rl⟩ := o
      have haO : a ∈ O.ad := List.mem_map.mpr ⟨_, hm, rfl⟩
      have hT : s.TypeIs (.ref a) "list" := by obtain ⟨nn, e⟩ := hpl; exact ⟨_, e, rfl⟩
      have hdn : ∀ b, Value.ref a = .ref b → ∃ ob, s.heap.get? b = some ob ∧ ob.dict = none := fun b hb => by cases hb; obtain ⟨nn, e⟩ := hpl; exact ⟨_, e, rfl⟩
      refine wpAny_Expr (wpAny_Call_method rfl (few_ok (TrL.cons hn h TrL.nil).n (by simp) _) hl F.plainAttrs_list F.slot_list_append F.type_list_append (n.load iv.ok.kind (tb_mem hi) ⟨hT, hdn, ?_⟩))
        (by show interactive env = false; unfold interactive; rw [iv.ok.kind]; rfl) rfl
      rw [starEach_cons hn]
      refine callWith_builtin rfl (evalArgs_plain (Calls.spliced_cons (((sound W h).1 env _ s T _ p iv.cxA hp).wp fun u s₁ T₁ ru g t => Calls.spliced_nil ?_)))
      have hpl₁ : s₁.heap.PlainList a vs.toArray := hpl.at fun o e => keeps_grow g.k _ _ e
      refine wpAny_list_append_plain (hsz := by rw [List.size_toArray, rl.length]; exact Nat.le_trans hz (by decide)) hpl₁ fun h' hl' hs' => ?_
      have kx := SameBut.growX hs'
      have le : Le (hv (O.ad ++ H) (gs s₁ T₁)) (hv (O.ad ++ H) ⟨h', T₁⟩) := ⟨(kx.sub fun b hb => by simp at hb; subst hb; exact List.mem_append_left _ haO).hv, TExt.refl _⟩
      refine ⟨T₁, (Cg.of g t).trans (Cg.mk' s₁ T₁ h' _ (Nat.le_refl _)), (keeps_grow g.k).toX.trans (kx.sub fun b hb => by simp at hb; subst hb; exact List.mem_append_left _ haO), rfl, ?_⟩
      refine (iv.step g t).setOwn hi hkx hm (n.grow (keeps_grow g.k)) (Cg.mk' s₁ T₁ h' _ (Nat.le_refl _)) kx (by obtain ⟨nn, e⟩ := hl'; exact ⟨_, e⟩) ?_
      exact ⟨rfl, vs ++ [u], by simpa using hl', RepL.append ((rl.grow g.le.hv).grow le) (.cons (ru.grow le) .nil)⟩
    · cases hr
  · cases hr⟩
theorem TrSt.del {K : KD} {i : Nat} {x : Str} {px sp pos : Pos} {e : Expr} {xe : X} (hi : tb[i]? = some x) (hk : K x = some .local ∨ K x = some .cell) (h : Tr K e xe) : TrSt K (.Delete [.Subscript (.Name x px) e sp] pos) (.del i xe) := ⟨fun W V => fun env H h₀ O st st' s T fl iv hr E => by
  simp only [run] at hr
  split at hr
  · rename_i l k hω hp
    split at hr
    · rename_i hz
      simp only [Bool.and_eq_true, decide_eq_true_eq] at hz
      split at hr
      · rename_i j hj
        cases hr
        obtain ⟨a, v, hkx, hm, n, o⟩ := iv.ownAt hi hω
        obtain ⟨rfl, vs, hpl, rl⟩ := o
        have haO : a ∈ O.ad := List.mem_map.mpr ⟨_, hm, rfl⟩
        refine wpAny_Delete ?_
        show wpAny _ _ (do (do let ov ← eval _ env; let iv ← holding [ov] (eval _ env); standAt _; holding [ov, iv] (delItem ov iv); release [ov, iv] []); pure ()) _ _ _
        refine wpAny_bind (wpAny_bind (n.load iv.ok.kind (tb_mem hi) (wpAny_bind (wpAny_holding (((sound W h).1 env _ s T _ _ iv.cxA hp).wp fun u s₁ T₁ ru g t => wpAny_bind (wpAny_standAt (wpAny_bind (wpAny_holding ?_))))))))
        have hpl₁ : s₁.heap.PlainList a vs.toArray := hpl.at fun o e => keeps_grow g.k _ _ e
        obtain ⟨t3, rfl⟩ := ru.intInv
        have hn := near_iff hz.1
        refine wpAny_delItem_plain (k := j) (hsz := by rw [List.size_toArray, rl.length]; exact Nat.le_trans hz.2 (by decide)) hpl₁ (by simp [Builtin.List.listFitsIndex]; omega) (by rw [List.size_toArray, rl.length]; exact hj) fun h' hl' hs' => wpAny_release' (wpAny_pure ?_)
        have kx := SameBut.growX hs'
        have le : Le (hv (O.ad ++ H) (gs s₁ T₁)) (hv (O.ad ++ H) ⟨h', T₁⟩) := ⟨(kx.sub fun b hb => by simp at hb; subst hb; exact List.mem_append_left _ haO).hv, TExt.refl _⟩
        refine ⟨T₁, (Cg.of g t).trans (Cg.mk' s₁ T₁ h' _ (Nat.le_refl _)), (keeps_grow g.k).toX.trans (kx.sub fun b hb => by simp at hb; subst hb; exact List.mem_append_left _ haO), rfl, ?_⟩
        refine (iv.step g t).setOwn hi hkx hm (n.grow (keeps_grow g.k)) (Cg.mk' s₁ T₁ h' _ (Nat.le_refl _)) kx (by obtain ⟨nn, e⟩ := hl'; exact ⟨_, e⟩) ?_
        exact ⟨rfl, vs.eraseIdx j, by simpa using hl', ((rl.grow g.le.hv).grow le).eraseIdx j⟩
      · cases hr
    · cases hr
  · cases hr⟩
theorem TrSt.sti {K : KD} {i : Nat} {x : Str} {px sp pos : Pos} {ie e : Expr} {xi xe : X} (hi : tb[i]? = some x) (hk : K x = some .local ∨ K x = some .cell) (hx : Tr K ie xi) (h : Tr K e xe) (hs : ∀ env : Env, swapsWith e (some (.Subscript (.Name x px) ie sp)) pos.line env = pure false)
    (hsl : ∀ l u st p, ie ≠ .Slice l u st p) : TrSt K (.Assign [.Subscript (.Name x px) ie sp] e pos) (.sti i xi xe) := ⟨fun W V => fun env H h₀ O st st' s T fl iv hr E => by
  simp only [run] at hr
  split at hr
  · rename_i l p k hω hp hki
    split at hr
    · rename_i hz
      simp only [Bool.and_eq_true, decide_eq_true_eq] at hz
      cases hr
      obtain ⟨a, v, hkx, hm, n, o⟩ := iv.ownAt hi hω
      obtain ⟨rfl, vs, hpl, rl⟩ := o
      have haO : a ∈ O.ad := List.mem_map.mpr ⟨_, hm, rfl⟩
      refine wpAny_Assign_Subscript (((sound W h).1 env _ s T _ _ iv.cxA hp).wp fun u s₁ T₁ ru g t => (n.grow (keeps_grow g.k)).load iv.ok.kind (tb_mem hi) (((sound W hx).1 env _ s₁ T₁ _ _ (iv.step g t).cxA hki).wp fun ku s₂ T₂ rk g₂ t₂ => ?_)) (hs env)
      have hpl₂ : s₂.heap.PlainList a vs.toArray := hpl.at fun o e => keeps_grow g₂.k _ _ (keeps_grow g.k _ _ e)
      obtain ⟨t3, rfl⟩ := rk.intInv
      have hn := near_iff hz.1.1
      have hlen := rl.length
      refine setItem_plain hpl₂ hz.1.2 (by omega) (by rw [List.size_toArray, hlen]; exact hz.2) fun h' hl' hs' => ?_
      have kx := SameBut.growX hs'
      have le : Le (hv (O.ad ++ H) (gs s₂ T₂)) (hv (O.ad ++ H) ⟨h', T₂⟩) := ⟨(kx.sub fun b hb => by simp at hb; subst hb; exact List.mem_append_left _ haO).hv, TExt.refl _⟩
      have gg := g.trans g₂ t₂
      refine ⟨T₂, (Cg.of gg (Nat.le_trans t t₂)).trans (Cg.mk' s₂ T₂ h' _ (Nat.le_refl _)), (keeps_grow gg.k).toX.trans (kx.sub fun b hb => by simp at hb; subst hb; exact List.mem_append_left _ haO), rfl, ?_⟩
      refine ((iv.step g t).step g₂ t₂).setOwn hi hkx hm (n.grow (keeps_grow gg.k)) (Cg.mk' s₂ T₂ h' _ (Nat.le_refl _)) kx (by obtain ⟨nn, e⟩ := hl'; exact ⟨_, e⟩) ?_
      exact ⟨rfl, vs.set k.toNat u, by simpa using hl', (((rl.grow g.le.hv).grow g₂.le.hv).grow le).set k.toNat ((ru.grow g₂.le.hv).grow le)⟩
    · cases hr
  · cases hr⟩
theorem TrSt.hadd {K : KD} {i : Nat} {x : Str} {px ap cp pos : Pos} {e f : Expr} {xe xf : X} (hi : tb[i]? = some x) (hk : K x = some .local ∨ K x = some .cell) (h : Tr K e xe) (h' : Tr K f xf) (hn : noStar e = true) (hn' : noStar f = true) (hl : (ap.endLine == cp.line) = true) : TrSt K (.Expr (.Call (.Attribute (.Name x px) "add_header" ap) [e, f] [] cp) pos) (.hadd i xe xf) := ⟨fun W V => fun env H h₀ O st st' s T fl iv hr E => by
  simp only [run] at hr
  split at hr
  · rename_i l nm vl hω hp hq
    split at hr
    · rename_i hz
      simp only [Bool.and_eq_true, decide_eq_true_eq] at hz
      cases hr
      obtain ⟨a, v, hkx, hm, n, o⟩ := iv.ownAt hi hω
      obtain ⟨x, dx, hsh, tk, nn, rfl, e1, e2, vs, hpl, rl⟩ := o
      have haO : a ∈ O.ad := List.mem_map.mpr ⟨_, hm, rfl⟩
      refine wpAny_Expr (callM_rule rfl (few_ok (TrL.cons hn h (TrL.cons hn' h' TrL.nil)).n (by simp) _) hl (n.load iv.ok.kind (tb_mem hi) fun pl => V.hma E s _ x dx a hsh tk nn pl (iv.gb.grow iv.base) (hv_of e1) (hv_of e2) ?_))
        (by show interactive env = false; unfold interactive; rw [iv.ok.kind]; rfl) rfl
      obtain ⟨fo, fd, ho, hd⟩ := V.fo _ (iv.gb.grow iv.base)
      refine callWith_function (o := fo) (fd := fd) ?_
      rw [starEach_cons hn, starEach_cons hn']
      refine evalArgs_plain (Calls.spliced_cons (((sound W h).1 env _ s T _ _ iv.cxA hp).wp fun u s₁ T₁ ru g t => Calls.spliced_cons (((sound W h').1 env _ s₁ T₁ _ _ (iv.step g t).cxA hq).wp fun y s₂ T₂ ry g₂ t₂ => Calls.spliced_nil ?_)))
      have gg := g.trans g₂ t₂
      have kg := keeps_grow gg.k
      refine ⟨⟨kg _ _ ho, hd⟩, ?_⟩
      obtain ⟨t3, rfl⟩ := ru.strInv
      obtain ⟨t4, rfl⟩ := ry.strInv
      have iv₂ := (iv.step g t).step g₂ t₂
      refine wpAny_mono (V.had E s₂ x dx a hsh tk nn vs nm vl _ _ (iv₂.gb.grow iv₂.base) (kg _ _ (hv_of e1)) (kg _ _ (hv_of e2)) (hpl.at fun o e => kg _ _ e) (by rw [rl.length]; exact hz.2) hz.1.1.1 hz.1.1.2 hz.1.2) (fun r s₃ h₃ => ?_) fun _ _ e => e
      obtain ⟨rfl, b, h3, tk3, rfl, ht3, kx, hpl₃, hb, u', v', htup⟩ := h₃
      have le : Le (hv (O.ad ++ H) (gs s₂ T₂)) (hv (O.ad ++ H) ⟨h3, T₂⟩) := ⟨(kx.sub fun b hb => by simp at hb; subst hb; exact List.mem_append_left _ haO).hv, TExt.refl _⟩
      have bn : b ∉ O.ad ++ H := iv₂.l.new hb
      refine ⟨T₂, (Cg.of gg (Nat.le_trans t t₂)).trans (Cg.mk' s₂ T₂ h3 tk3 ht3), kg.toX.trans (kx.sub fun b hb => by simp at hb; subst hb; exact List.mem_append_left _ haO), rfl, ?_⟩
      refine iv₂.setOwn hi hkx hm (n.grow kg) (Cg.mk' s₂ T₂ h3 tk3 ht3) kx (by obtain ⟨nn, e⟩ := hpl₃; exact ⟨_, e⟩) ?_
      have e1' := le.h _ _ (gg.le.hv.h _ _ e1)
      have e2' := le.h _ _ (gg.le.hv.h _ _ e2)
      refine ⟨x, dx, hsh, tk, nn, rfl, e1', e2', vs ++ [.ref b], hpl₃, RepL.append (((rl.grow g.le.hv).grow g₂.le.hv).grow le) (.cons (.tup (vs := [.str nm u', .str vl v']) ?_ (.cons (.str _ _) (.cons (.str _ _) .nil))) .nil)⟩
      obtain ⟨nt, et⟩ := htup
      exact ⟨nt, hv_in et bn⟩
    · cases hr
  · cases hr⟩
theorem TrS.nil {K : KD} : TrS K [] .skip := ⟨fun W V => fun env H h₀ O st st' s T fl iv hr E => by
  simp only [run] at hr
  cases hr
  exact wpAny_execs_nil ⟨T, Cg.refl _ _, GrowX.refl _ _, rfl, iv⟩⟩
theorem TrS.cons {K : KD} {s : Stmt} {ss : List Stmt} {a b : SX} (h : TrSt K s a) (t : TrS K ss b) : TrS K (s :: ss) (.seq a b) := ⟨fun W V => fun env H h₀ O st st' s T fl iv hr E => by
  simp only [run] at hr
  split at hr
  · rename_i st1 h1
    refine wpAny_execs_cons (wpAny_mono (stm W V h env H h₀ O st st1 s T .nx iv h1 E) (fun f s₁ h₁ => ?_) fun _ _ x => x)
    obtain ⟨T₁, cg, kx, hfl, iv₁⟩ := h₁
    cases hfl
    exact wpAny_mono (stms W V t env H h₀ O st1 st' s₁ T₁ fl iv₁ hr E) (fun f s₂ h₂ => Po.from cg kx h₂) fun _ _ x => x
  · rename_i p st1 h1
    cases hr
    refine wpAny_execs_cons (wpAny_mono (stm W V h env H h₀ O st st' s T (.rt p) iv h1 E) (fun f s₁ h₁ => ?_) fun _ _ x => x)
    obtain ⟨T₁, cg, kx, ⟨u, rfl, ru⟩, iv₁⟩ := h₁
    exact ⟨T₁, cg, kx, ⟨u, rfl, ru⟩, iv₁⟩
  · cases hr⟩
end Mine

-- M19
namespace Mine

/-- the rest of a function's body -/
noncomputable def Pb (prog : Program) (w : World) (A : Around) (KK : Frag) (K : KD) (ss : List Stmt) (sem : Sta → Option PV) : Prop := ∀ (env : Env) (H : List Addr) (h₀ : Heap) (O : Os) (st : Sta) (s : Shared) (T : TM) (r : PV),
  Iv KK K env H h₀ O st.1 st.2 s T → sem st = some r → ∀ E, wpAny (model prog w) A (execs ss env) (fun f s' => ∃ T' v, f = .ret v ∧ Cg s T s' T' ∧ Grow h₀ s'.heap ∧ Rep (hv H (gs s' T')) v r) E s

noncomputable def semSt (S : SG) (a : SX) (sem : Sta → Option PV) : Sta → Option PV := fun st => match run S a st with
  | some (.nx, st') => sem st'
  | some (.rt p, _) => some p
  | none => none
noncomputable def semEnd : Sta → Option PV := fun _ => none
noncomputable def semOwn (x : Nat) (f : Rho → Option PV) (sem : Sta → Option PV) : Sta → Option PV := fun st => if (st.1 x).isNone then match f st.2 with
  | some p => sem (upd st.1 x (some p), upd st.2 x none)
  | none => none
  else none
noncomputable def semFrz (x : Nat) (sem : Sta → Option PV) : Sta → Option PV := fun st => match st.1 x with
  | some p => sem (upd st.1 x none, upd st.2 x (some p))
  | none => none
/-- an expression that makes a list, or a Headers, of its own -/
noncomputable def PF (prog : Program) (w : World) (A : Around) (KK : Frag) (K : KD) (e : Expr) (f : Rho → Option PV) : Prop := ∀ (env : Env) (H : List Addr) (s : Shared) (T : TM) (ρ : Rho) (p : PV), Cx KK K env H s T ρ → f ρ = some p →
  Ok (model prog w) A (eval e env) s T (fun v g => ∃ a, s.heap.get? a = none ∧ (∃ o, g.h.get? a = some o) ∧ OwnV (a :: H) g v a p)

section
variable {prog : Program} {w : World} {A : Around} {S : SG} {KK : Frag} {K : KD} {env : Env} {H : List Addr} {h₀ : Heap} {O : Os} {ω ρ : Rho} {s s' : Shared} {T T' : TM} {E : Value → Shared → Prop}

theorem Pb.st {t : Stmt} {a : SX} {ss : List Stmt} {sem : Sta → Option PV} (h : Pst prog w A S KK K t a) (r : Pb prog w A KK K ss sem) : Pb prog w A KK K (t :: ss) (semSt S a sem) := fun env H h₀ O st s T p iv hs E => by
  unfold semSt at hs
  split at hs
  · rename_i st1 h1
    refine wpAny_execs_cons (wpAny_mono (h env H h₀ O st st1 s T .nx iv h1 E) (fun f s₁ h₁ => ?_) fun _ _ x => x)
    obtain ⟨T₁, cg, kx, hfl, iv₁⟩ := h₁
    cases hfl
    exact wpAny_mono (r env H h₀ O st1 s₁ T₁ p iv₁ hs E) (fun f s₂ h₂ => by obtain ⟨T₂, v, a, b, c, d⟩ := h₂; exact ⟨T₂, v, a, cg.trans b, c, d⟩) fun _ _ x => x
  · rename_i q st1 h1
    cases hs
    refine wpAny_execs_cons (wpAny_mono (h env H h₀ O st st1 s T (.rt p) iv h1 E) (fun f s₁ h₁ => ?_) fun _ _ x => x)
    obtain ⟨T₁, cg, kx, ⟨u, rfl, ru⟩, iv₁⟩ := h₁
    exact ⟨T₁, u, rfl, cg, iv₁.base, ru⟩
  · cases hs
noncomputable def semRun (S : SG) (a : SX) : Sta → Option PV := fun st => match run S a st with
  | some (.rt p, _) => some p
  | _ => none
theorem Pb.of {ss : List Stmt} {a : SX} (h : Pp prog w A S KK K ss a) : Pb prog w A KK K ss (semRun S a) := fun env H h₀ O st s T p iv hs E => by
  unfold semRun at hs
  split at hs
  · rename_i q st1 h1
    cases hs
    refine wpAny_mono (h env H h₀ O st st1 s T (.rt p) iv h1 E) (fun f s₁ h₁ => ?_) fun _ _ x => x
    obtain ⟨T₁, cg, kx, ⟨u, rfl, ru⟩, iv₁⟩ := h₁
    exact ⟨T₁, u, rfl, cg, iv₁.base, ru⟩
  · cases hs
theorem Pb.end : Pb prog w A KK K [] semEnd := fun env H h₀ O st s T p iv hs E => by cases hs

/-- an owner comes -/
theorem Iv.addOwn (iv : Iv KK K env H h₀ O ω ρ s T) {i : Nat} {x : Str} {v : Value} {a : Addr} {p : PV} {s₁ s₂ : Shared} {T₁ : TM} (hi : tb[i]? = some x) (hx : K x = some .local) (g : Goes s T s₁ T₁) (t : s.toks ≤ s₁.toks) (ha : s.heap.get? a = none) (hl : ∃ o, s₁.heap.get? a = some o)
    (h2 : Heap.SameBut env.locals s₁.heap s₂.heap) (c2 : Cg s₁ T₁ s₂ T₁) {m : Str → Option Value} (hn : s₁.heap.Ns env.locals m) (hn2 : s₂.heap.Ns env.locals (fun y => if y = x then some v else m y)) (o : OwnV ((a :: O.ad) ++ H) (gs s₁ T₁) v a p) :
    Iv KK K env H h₀ ((i, a) :: O) (upd ω i (some p)) (upd ρ i none) s₂ T₁ := by
  have k := keeps_grow g.k
  have iv₁ := iv.step g t
  have hx' : env.kindOf x = some .local := iv.k ▸ hx
  have aO : a ∉ O.ad ++ H := iv.l.new ha
  have alc : a ≠ env.locals := fun z => aO (z ▸ List.mem_append_right _ iv.ok.loc)
  have kx : GrowX [env.locals] s₁.heap s₂.heap := SameBut.growX h2
  have kl : ∀ b, b ≠ env.locals → ∀ o, s₁.heap.get? b = some o → s₂.heap.get? b = some o := fun b hb o e => h2.extBut b o hb e
  have hlH : env.locals ∈ (a :: O.ad) ++ H := List.mem_append_right _ iv.ok.loc
  have le1 : Le (hv (O.ad ++ H) (gs s T)) (hv ((a :: O.ad) ++ H) (gs s₁ T₁)) := ⟨hv_wr (W := [a]) (fun b hb => by
    rcases List.mem_append.mp hb with h | h
    · rcases List.mem_cons.mp h with rfl | h
      · exact .inr (by simp)
      · exact .inl (List.mem_append_left _ h)
    · exact .inl (List.mem_append_right _ h)) (by simpa using ha) k, g.e⟩
  have le2 : Le (hv ((a :: O.ad) ++ H) (gs s₁ T₁)) (hv ((a :: O.ad) ++ H) (gs s₂ T₁)) := ⟨(kx.sub (by simpa using hlH)).hv, TExt.refl _⟩
  have r1 : EnvR env ((a :: O.ad) ++ H) (gs s₁ T₁) ρ := iv.r.step le1 (fun o e => k _ o e) fun y c o _ e => k c o e
  refine ⟨iv.k, iv.ok, iv.gb, ?_, c2.dom iv₁.d, ?_, ⟨_, hn2⟩, ?_, iv.ap, ?_, ?_, ?_, ?_, iv.lf, iv.cf, gb_growX iv₁.base (by simpa using iv.lf) kx⟩
  · intro j y q e hk hq
    by_cases hj : j = i
    · subst hj; rw [upd_at] at hq; cases hq
    · rw [upd_ne hj] at hq
      obtain ⟨u, n, ru⟩ := r1 j y q e hk hq
      exact ⟨u, n.other (fun z => hj (tb_inj e (z ▸ hi))) hn hn2 h2, ru.grow le2⟩
  · intro b hb
    rcases List.mem_append.mp hb with h | h
    · rcases List.mem_cons.mp h with rfl | h
      · obtain ⟨o, e⟩ := hl; exact ⟨o, kl _ alc o e⟩
      · obtain ⟨o, e⟩ := iv₁.l b (List.mem_append_left _ h)
        exact ⟨o, kl b (fun z => iv.oh b h (z ▸ iv.ok.loc)) o e⟩
    · by_cases z : b = env.locals
      · subst z; obtain ⟨o, _, _, e, _⟩ := hn2; exact ⟨o, e⟩
      · obtain ⟨o, e⟩ := iv₁.l b (List.mem_append_right _ h)
        exact ⟨o, kl b z o e⟩
  · intro y c hc
    obtain ⟨u, hu⟩ := iv₁.cl y c hc
    exact ⟨u, hu.sameBut h2 fun z => ns_cell hn (z ▸ hu)⟩
  · intro j q hq
    by_cases hj : j = i
    · subst hj
      rw [upd_at] at hq; cases hq
      exact ⟨x, a, v, hi, .inl hx', List.mem_cons_self, .inl ⟨hx', _, hn2, if_pos rfl⟩, o.grow le2 (kl a alc)⟩
    · rw [upd_ne hj] at hq
      obtain ⟨y, b, u, e, hk', hm', n', o'⟩ := iv.own j q hq
      have hb : b ∈ O.ad := List.mem_map.mpr ⟨_, hm', rfl⟩
      have hbl : b ≠ env.locals := fun z => iv.oh b hb (z ▸ iv.ok.loc)
      refine ⟨y, b, u, e, hk', List.mem_cons_of_mem _ hm', (n'.grow k).other (fun z => hj (tb_inj e (z ▸ hi))) hn hn2 h2, ?_⟩
      have kb : ∀ o, s.heap.get? b = some o → s₂.heap.get? b = some o := fun o e => kl b hbl o (k b o e)
      have le := le1.trans le2
      cases q with
      | lst l => obtain ⟨rfl, vs, e, r⟩ := o'; exact ⟨rfl, vs, e.at kb, r.grow le⟩
      | hdr l => obtain ⟨y, dx, hs, t, nn, rfl, e1, e2, vs, e, r⟩ := o'; exact ⟨y, dx, hs, t, nn, rfl, le.h _ _ e1, le.h _ _ e2, vs, e.at kb, r.grow le⟩
      | _ => exact o'.elim
  · exact List.nodup_cons.mpr ⟨fun h => aO (List.mem_append_left _ h), iv.nd⟩
  · intro b hb
    rcases List.mem_cons.mp hb with rfl | hb
    · exact fun h => aO (List.mem_append_right _ h)
    · exact iv.oh b hb
  · intro b hb
    rcases List.mem_cons.mp hb with rfl | hb
    · cases q : h₀.get? b with
      | none => rfl
      | some o => have := iv.base _ _ q; rw [ha] at this; cases this
    · exact iv.of b hb

theorem Pb.own {i : Nat} {x : Str} {px pos : Pos} {e : Expr} {f : Rho → Option PV} {ss : List Stmt} {sem : Sta → Option PV} (hi : tb[i]? = some x) (hx : K x = some .local) (h : PF prog w A KK K e f)
    (hs : ∀ env : Env, env.kindOf = K → env.scope.kind = .function → swapsWith e (some (.Name x px)) pos.line env = pure false) (r : Pb prog w A KK K ss sem) : Pb prog w A KK K (.Assign [.Name x px] e pos :: ss) (semOwn i f sem) := fun env H h₀ O st s T p iv hr E => by
  unfold semOwn at hr
  split at hr
  · split at hr
    · rename_i q hl
      have hp : (env.scope.kind == .class || (env.scope.kind == .module && env.locals != env.globals)) = false := by rw [iv.ok.kind]; rfl
      refine wpAny_execs_cons (wpAny_Assign_Name ((h env _ s T _ q iv.cxA hl).wp fun v s₁ T₁ rv g t => ?_) (hs env iv.k iv.ok.kind))
      obtain ⟨a, ha, hla, ho⟩ := rv
      have iv₁ := iv.step g t
      obtain ⟨m, hm⟩ := iv₁.ns
      refine wpAny_with_toks (n := s₁.toks) (Nat.le_refl _) (wpAny_storeName_local (iv.k ▸ hx) hm (fun h' hn' hs' ht' => ?_) hp)
      have c2 := Cg.mk' s₁ T₁ h' _ ht'
      have iv₂ := iv.addOwn (s₂ := { s₁ with heap := h', toks := s₁.toks + 1 }) hi hx g t ha hla hs' c2 hm hn' (p := q) ho
      exact wpAny_mono (r env H h₀ ((i, a) :: O) (_, _) _ T₁ p iv₂ hr E) (fun f s₂ h₂ => by obtain ⟨T₂, v, a, b, c, d⟩ := h₂; exact ⟨T₂, v, a, ((Cg.of g t).trans c2).trans b, c, d⟩) fun _ _ x => x
    · cases hr
  · cases hr

theorem OwnV.rep' {H1 H2 : List Addr} {g : GS} {v : Value} {a : Addr} {p : PV} (x : OwnV H1 g v a p) (hs : ∀ b ∈ H2, b ∈ H1) (ha : a ∉ H2) : Rep (hv H2 g) v p := by
  have l : Le (hv H1 g) (hv H2 g) := ⟨hv_sub hs, TExt.refl _⟩
  unfold OwnV at x
  split at x
  · obtain ⟨rfl, vs, ⟨n, e⟩, r⟩ := x
    exact .lst ⟨n, hv_in e ha⟩ (r.grow l)
  · obtain ⟨y, dx, hs, t, n, rfl, e1, e2, vs, ⟨m, e⟩, r⟩ := x
    exact .hdr (l.h _ _ e1) (l.h _ _ e2) ⟨m, hv_in e ha⟩ (r.grow l)
  · exact x.elim

theorem Iv.frz (iv : Iv KK K env H h₀ O ω ρ s T) {i : Nat} {p : PV} (hp : ω i = some p) : ∃ O', Iv KK K env H h₀ O' (upd ω i none) (upd ρ i (some p)) s T := by
  obtain ⟨x, a, v, hi, hk, hm, n, o⟩ := iv.own i p hp
  have aO : a ∈ O.ad := List.mem_map.mpr ⟨_, hm, rfl⟩
  let O' : Os := O.filter fun q => q.2 != a
  have sub : ∀ q ∈ O', q ∈ O ∧ q.2 ≠ a := fun q hq => by
    have := List.mem_filter.mp hq
    exact ⟨this.1, by simpa using this.2⟩
  have sad : ∀ b ∈ O'.ad, b ∈ O.ad ∧ b ≠ a := fun b hb => by
    obtain ⟨q, hq, rfl⟩ := List.mem_map.mp hb
    exact ⟨List.mem_map.mpr ⟨q, (sub q hq).1, rfl⟩, (sub q hq).2⟩
  have sh : ∀ b ∈ O'.ad ++ H, b ∈ O.ad ++ H := fun b hb => by
    rcases List.mem_append.mp hb with h | h
    · exact List.mem_append_left _ (sad b h).1
    · exact List.mem_append_right _ h
  have an : a ∉ O'.ad ++ H := fun h => by
    rcases List.mem_append.mp h with h | h
    · exact (sad a h).2 rfl
    · exact iv.oh a aO h
  have le : Le (hv (O.ad ++ H) (gs s T)) (hv (O'.ad ++ H) (gs s T)) := ⟨hv_sub sh, TExt.refl _⟩
  refine ⟨O', iv.k, iv.ok, iv.gb, ?_, iv.d, fun b hb => iv.l b (sh b hb), iv.ns, iv.cl, iv.ap, ?_, ?_, fun b hb => iv.oh b (sad b hb).1, fun b hb => iv.of b (sad b hb).1, iv.lf, iv.cf, iv.base⟩
  · intro j y q e hk' hq
    by_cases hj : j = i
    · subst hj
      rw [upd_at] at hq; cases hq
      rw [hi] at e; cases e
      exact ⟨v, n, o.rep' sh an⟩
    · rw [upd_ne hj] at hq
      obtain ⟨u, n', ru⟩ := iv.r j y q e hk' hq
      exact ⟨u, n', ru.grow le⟩
  · intro j q hq
    by_cases hj : j = i
    · subst hj; rw [upd_at] at hq; cases hq
    · rw [upd_ne hj] at hq
      obtain ⟨y, b, u, e, hk', hm', n', o'⟩ := iv.own j q hq
      have hb : b ≠ a := fun z => hj (nodup_at iv.nd (z ▸ hm') hm)
      refine ⟨y, b, u, e, hk', List.mem_filter.mpr ⟨hm', by simpa using hb⟩, n', ?_⟩
      cases q with
      | lst l => obtain ⟨rfl, vs, e, r⟩ := o'; exact ⟨rfl, vs, e, r.grow le⟩
      | hdr l => obtain ⟨y, dx, hs, t, nn, rfl, e1, e2, vs, e, r⟩ := o'; exact ⟨y, dx, hs, t, nn, rfl, le.h _ _ e1, le.h _ _ e2, vs, e, r.grow le⟩
      | _ => exact o'.elim
  · exact (List.filter_sublist.map _).nodup iv.nd

theorem Pb.frz {i : Nat} {ss : List Stmt} {sem : Sta → Option PV} (r : Pb prog w A KK K ss sem) : Pb prog w A KK K ss (semFrz i sem) := fun env H h₀ O st s T p iv hr E => by
  unfold semFrz at hr
  split at hr
  · rename_i q hq
    obtain ⟨O', iv'⟩ := iv.frz hq
    exact r env H h₀ O' (_, _) s T p iv' hr E
  · cases hr

theorem PF.nil {pos : Pos} : PF prog w A KK K (.List [] pos) (fun _ => some (.lst [])) := fun env H s T ρ p cx hp E => by
  cases hp
  refine List_ (wpAny_items_nil ?_)
  have z := new_lst (n := 0) (tk := s.toks) (s := s) (T := T) (vs := []) (ps := []) cx.l .nil
  refine wpAny_newObj_type ⟨T, ⟨s.heap.objs.size, size_none _, ⟨_, Heap.get?_push_size _ rfl⟩, rfl, [], ⟨0, Heap.get?_push_size _ rfl⟩, .nil⟩, z.2⟩
end

/-- room for calls -/
structure Rm (A : Around) (n : Nat) : Prop where
  hh : A.handled = none
  dp : A.depth + n < recursionLimit
  un : A.units + 3 * n + 5 < cLine

/-- a function's contract -/
noncomputable def Has (prog : Program) (w : World) (KK : Frag) (f : FN) (sem : List PV → Option PV) (n : Nat) : Prop := ∀ (A : Around), Rm A n → ∀ (s : Shared) (T : TM) (H : List Addr) (vs : List Value) (ps : List PV) (r : PV), Gb KK s.heap → TDom T s.toks → Laid H s.heap →
  RepL (hv H (gs s T)) vs ps → sem ps = some r → Ok (model prog w) A (call (.ref f.at) vs) s T (fun v g => Rep (hv H g) v r)
theorem Rm.le {A : Around} {n m : Nat} (x : Rm A m) (h : n ≤ m) : Rm A n := ⟨x.hh, by have := x.dp; omega, by have := x.un; omega⟩
theorem Has.le {prog : Program} {w : World} {KK : Frag} {f : FN} {sem : List PV → Option PV} {n m : Nat} (x : Has prog w KK f sem n) (h : n ≤ m) : Has prog w KK f sem m := fun A r => x A (r.le h)

noncomputable def rho0 (ids : List Nat) (ps : List PV) : Rho := fun i => (ids.zip ps).lookup i

theorem cells_has : ∀ (names : List (Str × NameKind)) (n : Nat) (acc : List (Str × Addr)) (x : Str), (x, .cell) ∈ names ∨ (acc.lookup x).isSome = true → ((cellsFrom n names acc).lookup x).isSome = true
  | [], _, _, _, h => h.elim (fun h => nomatch h) id
  | (y, k) :: r, n, acc, x, h => by
    unfold cellsFrom
    split
    · rename_i hk
      refine cells_has r _ _ x ?_
      by_cases hx : x = y
      · right; subst hx; simp [List.lookup_cons]
      · rcases h with h | h
        · rcases List.mem_cons.mp h with e | h
          · cases e; exact absurd rfl hx
          · exact .inl h
        · right; rw [List.lookup_cons]; split <;> simp_all
    · rename_i hk
      refine cells_has r _ _ x ?_
      rcases h with h | h
      · rcases List.mem_cons.mp h with e | h
        · cases e; simp at hk
        · exact .inl h
      · exact .inr h
theorem lookup_mem {α : Type} : ∀ {l : List (Str × α)} {n : Str} {c : α}, l.lookup n = some c → (n, c) ∈ l := mem_of_lookup

theorem bindL_keep {kd : Str → Option NameKind} {x : Str} : ∀ (b : List (Str × Value)) (m : Str → Option Value), x ∉ b.map (·.1) → bindL kd b m x = m x
  | [], _, _ => rfl
  | (y, v) :: r, m, h => by
    simp only [List.map_cons, List.mem_cons, not_or] at h
    unfold bindL
    rw [bindL_keep r _ h.2]
    split
    · simp [h.1]
    · rfl
theorem bindL_at {kd : Str → Option NameKind} {x : Str} {v : Value} : ∀ (b : List (Str × Value)) (m : Str → Option Value), (b.map (·.1)).Nodup → (x, v) ∈ b → kd x = some .local → bindL kd b m x = some v
  | (y, u) :: r, m, nd, h, k => by
    simp only [List.map_cons, List.nodup_cons] at nd
    unfold bindL
    rcases List.mem_cons.mp h with e | h
    · cases e
      rw [bindL_keep r _ nd.1, if_pos k]
      simp
    · exact bindL_at r _ nd.2 h k
theorem bindC_keep {kd : Str → Option NameKind} {x : Str} : ∀ (b : List (Str × Value)) (m : Str → Option Value), x ∉ b.map (·.1) → bindC kd b m x = m x
  | [], _, _ => rfl
  | (y, v) :: r, m, h => by
    simp only [List.map_cons, List.mem_cons, not_or] at h
    unfold bindC
    rw [bindC_keep r _ h.2]
    split
    · rfl
    · simp [h.1]
theorem bindC_at {kd : Str → Option NameKind} {x : Str} {v : Value} : ∀ (b : List (Str × Value)) (m : Str → Option Value), (b.map (·.1)).Nodup → (x, v) ∈ b → kd x = some .cell → bindC kd b m x = some v
  | (y, u) :: r, m, nd, h, k => by
    simp only [List.map_cons, List.nodup_cons] at nd
    unfold bindC
    rcases List.mem_cons.mp h with e | h
    · cases e
      rw [bindC_keep r _ nd.1, if_neg (by rw [k]; decide)]
      simp
    · exact bindC_at r _ nd.2 h k

theorem zip_rep {g : GS} {i : Nat} {p : PV} : ∀ {ids : List Nat} {names : List Str} {vals : List Value} {ps : List PV}, ids.map (tb[·]?) = names.map some → RepL g vals ps → vals.length = names.length → (ids.zip ps).lookup i = some p → ∃ x v, tb[i]? = some x ∧ (x, v) ∈ names.zip vals ∧ Rep g v p
  | [], _, _, _, _, _, _, h => by simp at h
  | j :: ids, [], _, _, e, _, _, _ => by simp at e
  | j :: ids, x :: names, _, _, e, .nil, hl, h => by simp at hl
  | j :: ids, x :: names, v :: vals, q :: ps, e, .cons rv rl, hl, h => by
    simp only [List.map_cons, List.cons.injEq] at e
    simp only [List.zip_cons_cons, List.lookup_cons] at h
    split at h
    · rename_i hj
      cases h
      have : i = j := by simpa using hj
      subst this
      exact ⟨x, v, e.1, List.mem_cons_self, rv⟩
    · obtain ⟨y, u, a, b, c⟩ := zip_rep e.2 rl (by simpa using hl) h
      exact ⟨y, u, a, List.mem_cons_of_mem _ b, c⟩

/-- the facts of a function's text that the call needs -/
structure FnOkT (t : Arguments × List Stmt × Scope) (ids : List Nat) (names : List Str) : Prop where
  co : t.2.2.isCoroutine = false
  ge : t.2.2.isGenerator = false
  kd : t.2.2.kind = .function
  ids : ids.map (tb[·]?) = names.map some
  nd : names.Nodup
  lk : ∀ x ∈ names, t.2.2.names.lookup x = some .local ∨ t.2.2.names.lookup x = some .cell
  bind : ∀ (fd : FuncData) (vals : List Value), fd.params = t.1 → fd.defaults = .none → vals.length = names.length → bindArgs fd ⟨vals, []⟩ = pure (names.zip vals)
noncomputable abbrev FnOk (f : FN) (ids : List Nat) (names : List Str) : Prop := FnOkT (fnOf f) ids names

theorem call_cellsT {prog : Program} {w : World} {A : Around} {s : Shared} {R : Result → Shared → Prop} {a : Addr} {o : Obj} {fd : FuncData} {body : List Stmt} {args : Args} {binds : List (Str × Value)}
    (hroom : A.depth < recursionLimit) (ho : s.heap.get? a = some o) (hdata : o.data = .func fd) (hlim : s.heap.NoLimit) (hcd : s.heap.CodeRec fd.code fd.qualname)
    (hbody : fd.body = .stmts body) (hbind : bindArgs fd args = pure binds) (hclo : fd.closure = [])
    (hkind : ∀ x ∈ binds, fd.scope.names.lookup x.1 = some .local ∨ (fd.scope.names.lookup x.1 = some .cell ∧ ((cellsFrom (s.heap.objs.size + 1) fd.scope.names []).lookup x.1).isSome = true))
    (h : ∀ s₁, InCallC s (callEnvC fd s.heap.objs.size a).locals (bindL (callEnvC fd s.heap.objs.size a).kindOf binds fun _ => none) (callEnvC fd s.heap.objs.size a).cells
        (bindC (callEnvC fd s.heap.objs.size a).kindOf binds fun _ => none) s₁ → s.toks ≤ s₁.toks →
      wpAny (model prog w) (A.deeper (callEnvC fd s.heap.objs.size a)) (execs body (callEnvC fd s.heap.objs.size a)) (fun f s' => R (.ok (.ret (match f with | .ret v => v | _ => .none))) s')
        (fun e s' => wpAny (model prog w) (A.deeper (callEnvC fd s.heap.objs.size a)) (leaving (callEnvC fd s.heap.objs.size a) e) (fun _ s'' => R (.error e) s'') (fun e' s'' => R (.error e') s'') s') s₁)
    (hco : fd.scope.isCoroutine = false) (hgen : fd.scope.isGenerator = false) (hk : fd.scope.kind = .function) :
    codeAny (model prog w) A (.call (.ref a) args) R s := by
  refine codeAny_call_function hroom ho hdata hco hgen hbody hcd ?_
  rw [hbind, hclo]
  refine wpAny_pure (wpAny_with_toks (n := s.toks) (Nat.le_refl _) (wpAny_newFunctionEnv_cells hk hkind fun env he s' x ht => ?_))
  subst he
  exact ⟨hlim.keeps x.toInCall.keep, codeAny_func (h s' x ht)⟩

theorem call_hasT {prog : Program} {w : World} {KK : Frag} {adr : Addr} {t : Arguments × List Stmt × Scope} {ids : List Nat} {names : List Str} {n : Nat} {sem : Sta → Option PV} {ans : List PV → Option PV} (F : FnOkT t ids names)
    (hb : ∀ A, Rm A n → Pb prog w A KK (fun x => t.2.2.names.lookup x) t.2.1 sem)
    (hs : ∀ ps r, ans ps = some r → ps.length = names.length ∧ sem (fun _ => none, rho0 ids ps) = some r) (fo : ∀ h, Gb KK h → FnAt h adr t) : ∀ (A : Around), Rm A (n + 1) → ∀ (s : Shared) (T : TM) (H : List Addr) (vs : List Value) (ps : List PV) (r : PV), Gb KK s.heap → TDom T s.toks → Laid H s.heap →
    RepL (hv H (gs s T)) vs ps → ans ps = some r → Ok (model prog w) A (call (.ref adr) vs) s T (fun v g => Rep (hv H g) v r) := fun A rm s T H vs ps r gb d L rl hans E => by
  obtain ⟨o, fd, ho, hdat, hpar, hbody, hscope, hglob, hbui, hclo, hdef, hcode⟩ := fo _ gb
  obtain ⟨hlen, hsem⟩ := hs ps r hans
  have hvl : vs.length = names.length := rl.length.trans hlen
  refine wpAny_call (call_cellsT (body := t.2.1) (binds := names.zip vs) (by have := rm.dp; omega) ho hdat gb.nl hcode hbody (F.bind fd vs hpar hdef hvl) hclo ?_ (fun s₁ x ht => ?_) (by rw [hscope]; exact F.co) (by rw [hscope]; exact F.ge) (by rw [hscope]; exact F.kd))
  · intro y hy
    have hm : y.1 ∈ names := (List.of_mem_zip hy).1
    rw [hscope]
    rcases F.lk _ hm with h | h
    · exact .inl h
    · exact .inr ⟨h, cells_has _ _ _ _ (.inl (mem_of_lookup h))⟩
  · generalize henv : callEnvC fd s.heap.objs.size adr = env at x ⊢
    have hkO : env.kindOf = fun x => t.2.2.names.lookup x := by rw [← henv]; funext y; simp only [Env.kindOf, callEnvC, newEnv, hscope]
    have hkind : env.scope.kind = .function := by rw [← henv]; simp only [callEnvC, newEnv, hscope]; exact F.kd
    have hgl : env.globals = mainGlobals := by rw [← henv]; simp only [callEnvC, newEnv]; exact hglob
    have hbu : env.builtins = builtinsNs := by rw [← henv]; simp only [callEnvC, newEnv]; exact hbui
    have hcellsEq : env.cells = cellsFrom (s.heap.objs.size + 1) t.2.2.names [] := by rw [← henv]; simp only [callEnvC, newEnv, hscope]
    have kg : Grow s.heap s₁.heap := x.toInCall.keep
    obtain ⟨h₁, tk, hs₁⟩ := x.toInCall.same
    have nnew : ∀ b, s.heap.objs.size ≤ b → s.heap.get? b = none := fun b hb => by
      cases q : s.heap.get? b with
      | none => rfl
      | some o => exact absurd (Heap.lt_size q) (Nat.not_lt.mpr hb)
    have lfr : s.heap.get? env.locals = none := nnew _ x.toInCall.fresh
    have cfr : ∀ y c, env.cells.lookup y = some c → s.heap.get? c = none := fun y c hc => nnew _ (Nat.le_of_lt (Nat.lt_of_le_of_lt x.toInCall.fresh (x.above y c (mem_of_lookup hc))))
    have cg : Cg s T s₁ T := by rw [hs₁] at ht ⊢; exact Cg.mk' s T h₁ tk ht
    let H' : List Addr := (env.locals :: env.cells.filterMap fun p => env.cells.lookup p.1) ++ H
    have le : Le (hv H (gs s T)) (hv H' (gs s₁ T)) := ⟨hv_wr (W := env.locals :: env.cells.filterMap fun p => env.cells.lookup p.1) (fun b hb => (List.mem_append.mp hb).elim .inr .inl) (fun b hb => by
      rcases List.mem_cons.mp hb with rfl | hb
      · exact lfr
      · obtain ⟨⟨y, c⟩, hm, hc⟩ := List.mem_filterMap.mp hb
        exact cfr _ _ hc) kg, TExt.refl _⟩
    have ndz : ((names.zip vs).map (·.1)).Nodup := by rw [List.map_fst_zip (by rw [hvl]; exact Nat.le_refl _)]; exact F.nd
    have ok : EnvOk env H' := ⟨hkind, hgl, hbu, by simp [H'], fun y c hc => List.mem_append_left _ (List.mem_cons_of_mem _ (List.mem_filterMap.mpr ⟨_, mem_of_lookup hc, hc⟩)), fun y hy => by
      rw [hcellsEq]
      rw [hkO] at hy
      exact cells_has _ _ _ _ (.inl (mem_of_lookup hy))⟩
    have iv : Iv KK (fun x => t.2.2.names.lookup x) env H' s.heap [] (fun _ => none) (rho0 ids ps) s₁ T := by
      refine ⟨hkO, ok, gb, ?_, cg.dom d, ?_, ⟨_, x.toInCall.ns⟩, fun y c hc => ⟨_, x.cell y c hc⟩, fun y z c hy hz => name_of_addr x.apart (mem_of_lookup hy) (mem_of_lookup hz), fun i p h => by simp at h, List.nodup_nil, fun a ha => by simp [Os.ad] at ha, fun a ha => by simp [Os.ad] at ha, lfr, cfr, kg⟩
      · intro i y p e hk hp
        obtain ⟨y', v, e', hm, rv⟩ := zip_rep F.ids rl hvl hp
        rw [e] at e'; cases e'
        have hyn : y ∈ names := (List.of_mem_zip hm).1
        have rv' : Rep (hv ([] ++ H') (gs s₁ T)) v p := rv.grow le
        refine ⟨v, ?_, rv'⟩
        rcases F.lk _ hyn with hl | hl
        · exact .inl ⟨by rw [hkO]; exact hl, _, x.toInCall.ns, bindL_at _ _ ndz hm (by rw [hkO]; exact hl)⟩
        · have hcl : env.kindOf y = some .cell := by rw [hkO]; exact hl
          obtain ⟨c, hc⟩ := Option.isSome_iff_exists.mp (ok.has y hcl)
          refine .inr ⟨.inl hcl, c, hc, ?_⟩
          have := x.cell y c hc
          rwa [bindC_at _ _ ndz hm hcl] at this
      · intro a ha
        rcases List.mem_append.mp ha with h | h
        · simp [Os.ad] at h
        · rcases List.mem_append.mp h with h | h
          · rcases List.mem_cons.mp h with rfl | h
            · obtain ⟨o, _, _, e, _⟩ := x.toInCall.ns; exact ⟨o, e⟩
            · obtain ⟨⟨y, c⟩, hm, hc⟩ := List.mem_filterMap.mp h
              obtain ⟨o, e, _⟩ := x.cell _ _ hc
              exact ⟨o, e⟩
          · exact L.grow kg a h
    have rm' : Rm (A.deeper env) n := ⟨rm.hh, by have := rm.dp; show A.depth + 1 + n < _; omega, by have := rm.un; show A.units + 3 + 3 * n + 5 < _; omega⟩
    refine wpAny_mono (hb (A.deeper env) rm' env H' s.heap [] (fun _ => none, rho0 ids ps) s₁ T r iv hsem _) (fun fl s' h' => ?_) fun _ _ x => x
    obtain ⟨T', v, rfl, cg', k', rr⟩ := h'
    have l : Le (hv H' (gs s' T')) (hv H (gs s' T')) := ⟨hv_sub fun b hb => List.mem_append_right _ hb, TExt.refl _⟩
    exact ⟨T', rr.grow l, (cg.trans cg').goes k'⟩

theorem call_has {prog : Program} {w : World} {KK : Frag} {f : FN} {ids : List Nat} {names : List Str} {n : Nat} {sem : Sta → Option PV} {ans : List PV → Option PV} (F : FnOk f ids names)
    (hb : ∀ A, Rm A n → Pb prog w A KK (fun x => (fnOf f).2.2.names.lookup x) (fnOf f).2.1 sem)
    (hs : ∀ ps r, ans ps = some r → ps.length = names.length ∧ sem (fun _ => none, rho0 ids ps) = some r) : Has prog w KK f ans (n + 1) := call_hasT F hb hs fun h gb => gb.fo f
end Mine

-- F0
namespace Mine

/-- getMethod of get_all on a Headers -/
noncomputable def Hm (prog : Program) (w : World) (KK : Frag) : Prop := ∀ (A : Around) (E : Value → Shared → Prop) (s : Shared) (T : TM) (H : List Addr) (Q : Value × List Value → Shared → Prop) (v : Value) (l : List PV) (pl : Sem Bool), Gb KK s.heap → Rep (hv H (gs s T)) v (.hdr l) →
    Q (.ref FN.geta.at, [v]) s → wpAny (model prog w) A (getMethod v "get_all" pl) Q E s
structure Bs (prog : Program) (w : World) (KK : Frag) : Prop where
  hm : Hm prog w KK
  hv : ∀ A, Rm A 3 → Wh prog w A KK

theorem wd_of {prog : Program} {w : World} {KK : Frag} {S : SG} {n : Nat} (B : Bs prog w KK) (hS : ∀ f, Has prog w KK f (S f) n) {A : Around} (rm : Rm A n) : Wd prog w A S KK :=
  ⟨rm.hh, by have := rm.un; omega, fun f s T H vs ps r => hS f A rm s T H vs ps r, B.hm A⟩
noncomputable def S0 : SG := fun _ _ => none
theorem has_none {prog : Program} {w : World} {KK : Frag} {f : FN} {n : Nat} : Has prog w KK f (fun _ => none) n := fun A rm s T H vs ps r _ _ _ _ h => by cases h

theorem len1 {α : Type} : ∀ {l : List α}, l.length = 1 → ∃ a, l = [a]
  | [a], _ => ⟨a, rfl⟩
theorem len4 {α : Type} : ∀ {l : List α}, l.length = 4 → ∃ a b c d, l = [a, b, c, d]
  | [a, b, c, d], _ => ⟨a, b, c, d, rfl⟩
end Mine

-- F1
namespace Mine

noncomputable def sx_sub : SX := (.seq (.ifs (.cmp .Eq (.nm 23) (.nm 24)) (.seq (.ret (.cst (.int 0))) .skip) .skip) (.seq (.ifs (.cmp .Eq (.me .lower (.nm 23) .nil) (.me .lower (.nm 24) .nil)) (.seq (.ret (.cst (.int 1))) .skip) .skip) (.seq (.ret (.cst (.int 2))) .skip)))

theorem tr_sub : TrS (fun x => (fnOf .sub).2.2.names.lookup x) (fnOf .sub).2.1 sx_sub := by
  unfold sx_sub
  dsimp only [fnOf, fnIn, topAt, PySem.Challenge.pw_uj0008_01, List.getElem?_cons_succ, List.getElem?_cons_zero]
  repeat' (first
    | exact TrS.nil | exact TrL.nil | exact TrO.none | exact TrC.nil
    | apply TrS.cons | apply TrL.cons | apply TrO.some | apply TrC.one
    | exact Or.inl (by decide +kernel) | exact Or.inr (Or.inl (by decide +kernel)) | exact Or.inr (by decide +kernel) | exact Or.inr (Or.inr (by decide +kernel))
    | (show _ = _; first | with_reducible rfl | decide +kernel | rfl)
    | exact (show glob _ _ from (by unfold glob; decide +kernel))
    | exact ⟨_, _, rfl, rfl, by decide +kernel⟩
    | (intro h; cases h; done)
    | (intro _; rfl) | (intro _ _; rfl) | (intro _ _ _; rfl)
    | (simp [gcon]; done)
    | (simp; done)
    | apply TrSt.asg | apply TrSt.asgB | apply TrSt.asgC | apply TrSt.asg2 | apply TrSt.asgD | apply TrSt.asg3 | apply TrSt.aug | apply TrSt.ifs | apply TrSt.fors | apply TrSt.whl | apply TrSt.ret | apply TrSt.app | apply TrSt.del | apply TrSt.sti | apply TrSt.asr | apply TrSt.hadd
    | apply Tr.nm | apply Tr.cst | apply Tr.gc | apply Tr.bin | apply Tr.cmp | apply Tr.chn | apply Tr.not | apply Tr.neg | apply Tr.one | apply Tr.and | apply Tr.or | apply Tr.ite | apply Tr.idx | apply Tr.slc | apply Tr.tup | apply Tr.lst | apply Tr.fn | apply Tr.star | apply Tr.bi | apply Tr.me | apply Tr.ga | apply Tr.comp | apply Tr.comp2
    | apply TrI.L | apply TrI.R | apply TrI.Z
    | constructor)

theorem ok_sub : FnOk .sub [23, 24] ["ch_a", "ch_b"] where
  co := by rfl
  ge := by rfl
  kd := by rfl
  ids := by rfl
  nd := by decide +kernel
  lk := by decide +kernel
  bind := by
    intro fd vals hp hd hl
    obtain ⟨v1, v2, rfl⟩ := len2 (l := vals) hl
    unfold bindArgs
    rw [hp, hd]
    rfl
noncomputable def an_sub : List PV → Option PV
  | [p, q] => semRun S0 sx_sub (fun _ => none, rho0 [23, 24] [p, q])
  | _ => none
theorem has_sub {prog : Program} {w : World} {KK : Frag} (B : Bs prog w KK) : Has prog w KK .sub an_sub 6 :=
  call_has (n := 5) ok_sub (fun A rm => Pb.of (stms (wd_of B (fun f => has_none) rm) (B.hv A (rm.le (by decide))) tr_sub)) fun ps r h => by
    unfold an_sub at h
    split at h
    · exact ⟨rfl, h⟩
    · cases h
end Mine

-- F2
namespace Mine

noncomputable def sx_rgb : SX := (.seq (.asg 3 (.bi .max (.cons (.nm 0) (.cons (.nm 1) (.cons (.nm 2) .nil))))) (.seq (.asg 4 (.bi .min (.cons (.nm 0) (.cons (.nm 1) (.cons (.nm 2) .nil))))) (.seq (.asg 5 (.bin .Sub (.nm 3) (.nm 4))) (.seq (.asg 6 (.nm 3)) (.seq (.ifs (.cmp .Eq (.nm 4) (.nm 3)) (.seq (.ret (.tup (.cons (.cst (.flt 0)) (.cons (.cst (.flt 0)) (.cons (.nm 6) .nil))))) .skip) .skip) (.seq (.asg 7 (.bin .Div (.nm 5) (.nm 3))) (.seq (.asg 8 (.bin .Div (.bin .Sub (.nm 3) (.nm 0)) (.nm 5))) (.seq (.asg 9 (.bin .Div (.bin .Sub (.nm 3) (.nm 1)) (.nm 5))) (.seq (.asg 10 (.bin .Div (.bin .Sub (.nm 3) (.nm 2)) (.nm 5))) (.seq (.ifs (.cmp .Eq (.nm 0) (.nm 3)) (.seq (.asg 11 (.bin .Sub (.nm 10) (.nm 9))) .skip) (.seq (.ifs (.cmp .Eq (.nm 1) (.nm 3)) (.seq (.asg 11 (.bin .Sub (.bin .Add (.cst (.flt 4611686018427387904)) (.nm 8)) (.nm 10))) .skip) (.seq (.asg 11 (.bin .Sub (.bin .Add (.cst (.flt 4616189618054758400)) (.nm 9)) (.nm 8))) .skip)) .skip)) (.seq (.asg 11 (.bin .Mod (.bin .Div (.nm 11) (.cst (.flt 4618441417868443648))) (.cst (.flt 4607182418800017408)))) (.seq (.ret (.tup (.cons (.nm 11) (.cons (.nm 7) (.cons (.nm 6) .nil))))) .skip))))))))))))
set_option maxHeartbeats 4000000 in
theorem tr_rgb : TrS (fun x => (fnOf .rgb).2.2.names.lookup x) (fnOf .rgb).2.1 sx_rgb := by
  unfold sx_rgb
  dsimp only [fnOf, fnIn, topAt, PySem.Challenge.pw_uj0008_01, List.getElem?_cons_succ, List.getElem?_cons_zero]
  repeat' (first
    | exact TrS.nil | exact TrL.nil | exact TrO.none | exact TrC.nil
    | apply TrS.cons | apply TrL.cons | apply TrO.some | apply TrC.one
    | exact Or.inl (by decide +kernel) | exact Or.inr (Or.inl (by decide +kernel)) | exact Or.inr (by decide +kernel) | exact Or.inr (Or.inr (by decide +kernel))
    | (show _ = _; first | with_reducible rfl | decide +kernel | rfl)
    | exact (show glob _ _ from (by unfold glob; decide +kernel))
    | exact ⟨_, _, rfl, rfl, by decide +kernel⟩
    | exact ⟨_, _, _, _, _, _, rfl, rfl, rfl, by decide +kernel, by decide +kernel⟩
    | (intro h; cases h; done)
    | (intro _; rfl) | (intro _ _; rfl) | (intro _ _ _; rfl)
    | (intro env hk hf; simp only [swapsWith, pure_bind, Env.blockKind, hf, hk]; first | rfl | (simp; done) | (decide +kernel))
    | (simp [gcon]; done)
    | (simp; done)
    | apply TrSt.asg | apply TrSt.asgB | apply TrSt.asgC | apply TrSt.asg2 | apply TrSt.asgD | apply TrSt.asg3 | apply TrSt.aug | apply TrSt.ifs | apply TrSt.fors | apply TrSt.whl | apply TrSt.ret | apply TrSt.app | apply TrSt.del | apply TrSt.sti | apply TrSt.asr | apply TrSt.hadd
    | apply Tr.nm | apply Tr.cst | apply Tr.gc | apply Tr.bin | apply Tr.cmp | apply Tr.chn | apply Tr.not | apply Tr.neg | apply Tr.one | apply Tr.and | apply Tr.or | apply Tr.ite | apply Tr.idx | apply Tr.slc | apply Tr.tup | apply Tr.lst | apply Tr.fn | apply Tr.star | apply Tr.bi | apply Tr.me | apply Tr.ga | apply Tr.comp | apply Tr.comp2
    | apply TrI.L | apply TrI.R | apply TrI.Z
    | constructor)
theorem ok_rgb : FnOk .rgb [0, 1, 2] ["r", "g", "b"] where
  co := by rfl
  ge := by rfl
  kd := by rfl
  ids := by rfl
  nd := by decide +kernel
  lk := by decide +kernel
  bind := by
    intro fd vals hp hd hl
    obtain ⟨v0, v1, v2, rfl⟩ := len3 (l := vals) hl
    unfold bindArgs
    rw [hp, hd]
    rfl
noncomputable def an_rgb : List PV → Option PV
  | [p0, p1, p2] => semRun S0 sx_rgb (fun _ => none, rho0 [0, 1, 2] [p0, p1, p2])
  | _ => none
theorem has_rgb {prog : Program} {w : World} {KK : Frag} (B : Bs prog w KK) : Has prog w KK .rgb an_rgb 6 :=
  call_has (n := 5) ok_rgb (fun A rm => Pb.of (stms (wd_of (S := S0) B (fun f => has_none) rm) (B.hv A (rm.le (by decide))) tr_rgb)) fun ps r h => by
    unfold an_rgb at h
    split at h
    · exact ⟨rfl, h⟩
    · cases h

noncomputable def sx_hsv : SX := (.seq (.ifs (.cmp .Eq (.nm 7) (.cst (.flt 0))) (.seq (.ret (.tup (.cons (.nm 6) (.cons (.nm 6) (.cons (.nm 6) .nil))))) .skip) .skip) (.seq (.asg 12 (.bi .int (.cons (.bin .Mult (.nm 11) (.cst (.flt 4618441417868443648))) .nil))) (.seq (.asg 13 (.bin .Sub (.bin .Mult (.nm 11) (.cst (.flt 4618441417868443648))) (.nm 12))) (.seq (.asg 14 (.bin .Mult (.nm 6) (.bin .Sub (.cst (.flt 4607182418800017408)) (.nm 7)))) (.seq (.asg 15 (.bin .Mult (.nm 6) (.bin .Sub (.cst (.flt 4607182418800017408)) (.bin .Mult (.nm 7) (.nm 13))))) (.seq (.asg 16 (.bin .Mult (.nm 6) (.bin .Sub (.cst (.flt 4607182418800017408)) (.bin .Mult (.nm 7) (.bin .Sub (.cst (.flt 4607182418800017408)) (.nm 13)))))) (.seq (.asg 12 (.bin .Mod (.nm 12) (.cst (.int 6)))) (.seq (.ifs (.cmp .Eq (.nm 12) (.cst (.int 0))) (.seq (.ret (.tup (.cons (.nm 6) (.cons (.nm 16) (.cons (.nm 14) .nil))))) .skip) .skip) (.seq (.ifs (.cmp .Eq (.nm 12) (.cst (.int 1))) (.seq (.ret (.tup (.cons (.nm 15) (.cons (.nm 6) (.cons (.nm 14) .nil))))) .skip) .skip) (.seq (.ifs (.cmp .Eq (.nm 12) (.cst (.int 2))) (.seq (.ret (.tup (.cons (.nm 14) (.cons (.nm 6) (.cons (.nm 16) .nil))))) .skip) .skip) (.seq (.ifs (.cmp .Eq (.nm 12) (.cst (.int 3))) (.seq (.ret (.tup (.cons (.nm 14) (.cons (.nm 15) (.cons (.nm 6) .nil))))) .skip) .skip) (.seq (.ifs (.cmp .Eq (.nm 12) (.cst (.int 4))) (.seq (.ret (.tup (.cons (.nm 16) (.cons (.nm 14) (.cons (.nm 6) .nil))))) .skip) .skip) (.seq (.ifs (.cmp .Eq (.nm 12) (.cst (.int 5))) (.seq (.ret (.tup (.cons (.nm 6) (.cons (.nm 14) (.cons (.nm 15) .nil))))) .skip) .skip) .skip)))))))))))))
set_option maxHeartbeats 4000000 in
theorem tr_hsv : TrS (fun x => (fnOf .hsv).2.2.names.lookup x) (fnOf .hsv).2.1 sx_hsv := by
  unfold sx_hsv
  dsimp only [fnOf, fnIn, topAt, PySem.Challenge.pw_uj0008_01, List.getElem?_cons_succ, List.getElem?_cons_zero]
  repeat' (first
    | exact TrS.nil | exact TrL.nil | exact TrO.none | exact TrC.nil
    | apply TrS.cons | apply TrL.cons | apply TrO.some | apply TrC.one
    | exact Or.inl (by decide +kernel) | exact Or.inr (Or.inl (by decide +kernel)) | exact Or.inr (by decide +kernel) | exact Or.inr (Or.inr (by decide +kernel))
    | (show _ = _; first | with_reducible rfl | decide +kernel | rfl)
    | exact (show glob _ _ from (by unfold glob; decide +kernel))
    | exact ⟨_, _, rfl, rfl, by decide +kernel⟩
    | exact ⟨_, _, _, _, _, _, rfl, rfl, rfl, by decide +kernel, by decide +kernel⟩
    | (intro h; cases h; done)
    | (intro _; rfl) | (intro _ _; rfl) | (intro _ _ _; rfl)
    | (intro env hk hf; simp only [swapsWith, pure_bind, Env.blockKind, hf, hk]; first | rfl | (simp; done) | (decide +kernel))
    | (simp [gcon]; done)
    | (simp; done)
    | apply TrSt.asg | apply TrSt.asgB | apply TrSt.asgC | apply TrSt.asg2 | apply TrSt.asgD | apply TrSt.asg3 | apply TrSt.aug | apply TrSt.ifs | apply TrSt.fors | apply TrSt.whl | apply TrSt.ret | apply TrSt.app | apply TrSt.del | apply TrSt.sti | apply TrSt.asr | apply TrSt.hadd
    | apply Tr.nm | apply Tr.cst | apply Tr.gc | apply Tr.bin | apply Tr.cmp | apply Tr.chn | apply Tr.not | apply Tr.neg | apply Tr.one | apply Tr.and | apply Tr.or | apply Tr.ite | apply Tr.idx | apply Tr.slc | apply Tr.tup | apply Tr.lst | apply Tr.fn | apply Tr.star | apply Tr.bi | apply Tr.me | apply Tr.ga | apply Tr.comp | apply Tr.comp2
    | apply TrI.L | apply TrI.R | apply TrI.Z
    | constructor)
theorem ok_hsv : FnOk .hsv [11, 7, 6] ["h", "s", "v"] where
  co := by rfl
  ge := by rfl
  kd := by rfl
  ids := by rfl
  nd := by decide +kernel
  lk := by decide +kernel
  bind := by
    intro fd vals hp hd hl
    obtain ⟨v0, v1, v2, rfl⟩ := len3 (l := vals) hl
    unfold bindArgs
    rw [hp, hd]
    rfl
noncomputable def an_hsv : List PV → Option PV
  | [p0, p1, p2] => semRun S0 sx_hsv (fun _ => none, rho0 [11, 7, 6] [p0, p1, p2])
  | _ => none
theorem has_hsv {prog : Program} {w : World} {KK : Frag} (B : Bs prog w KK) : Has prog w KK .hsv an_hsv 6 :=
  call_has (n := 5) ok_hsv (fun A rm => Pb.of (stms (wd_of (S := S0) B (fun f => has_none) rm) (B.hv A (rm.le (by decide))) tr_hsv)) fun ps r h => by
    unfold an_hsv at h
    split at h
    · exact ⟨rfl, h⟩
    · cases h

noncomputable def sx_mix : SX := (.seq (.ret (.comp .Z (.nm 41) (.nm 42) (.two 43 44) (.cst (.bool true)) (.bin .Div (.bin .Add (.nm 43) (.nm 44)) (.cst (.flt 4611686018427387904))))) .skip)
set_option maxHeartbeats 4000000 in
theorem tr_mix : TrS (fun x => (fnOf .mix).2.2.names.lookup x) (fnOf .mix).2.1 sx_mix := by
  unfold sx_mix
  dsimp only [fnOf, fnIn, topAt, PySem.Challenge.pw_uj0008_01, List.getElem?_cons_succ, List.getElem?_cons_zero]
  repeat' (first
    | exact TrS.nil | exact TrL.nil | exact TrO.none | exact TrC.nil
    | apply TrS.cons | apply TrL.cons | apply TrO.some | apply TrC.one
    | exact Or.inl (by decide +kernel) | exact Or.inr (Or.inl (by decide +kernel)) | exact Or.inr (by decide +kernel) | exact Or.inr (Or.inr (by decide +kernel))
    | (show _ = _; first | with_reducible rfl | decide +kernel | rfl)
    | exact (show glob _ _ from (by unfold glob; decide +kernel))
    | exact ⟨_, _, rfl, rfl, by decide +kernel⟩
    | exact ⟨_, _, _, _, _, _, rfl, rfl, rfl, by decide +kernel, by decide +kernel⟩
    | (intro h; cases h; done)
    | (intro _; rfl) | (intro _ _; rfl) | (intro _ _ _; rfl)
    | (intro env hk hf; simp only [swapsWith, pure_bind, Env.blockKind, hf, hk]; first | rfl | (simp; done) | (decide +kernel))
    | (simp [gcon]; done)
    | (simp; done)
    | apply TrSt.asg | apply TrSt.asgB | apply TrSt.asgC | apply TrSt.asg2 | apply TrSt.asgD | apply TrSt.asg3 | apply TrSt.aug | apply TrSt.ifs | apply TrSt.fors | apply TrSt.whl | apply TrSt.ret | apply TrSt.app | apply TrSt.del | apply TrSt.sti | apply TrSt.asr | apply TrSt.hadd
    | apply Tr.nm | apply Tr.cst | apply Tr.gc | apply Tr.bin | apply Tr.cmp | apply Tr.chn | apply Tr.not | apply Tr.neg | apply Tr.one | apply Tr.and | apply Tr.or | apply Tr.ite | apply Tr.idx | apply Tr.slc | apply Tr.tup | apply Tr.lst | apply Tr.fn | apply Tr.star | apply Tr.bi | apply Tr.me | apply Tr.ga | apply Tr.comp | apply Tr.comp2
    | apply TrI.L | apply TrI.R | apply TrI.Z
    | constructor)
theorem ok_mix : FnOk .mix [41, 42] ["one", "other"] where
  co := by rfl
  ge := by rfl
  kd := by rfl
  ids := by rfl
  nd := by decide +kernel
  lk := by decide +kernel
  bind := by
    intro fd vals hp hd hl
    obtain ⟨v0, v1, rfl⟩ := len2 (l := vals) hl
    unfold bindArgs
    rw [hp, hd]
    rfl
noncomputable def an_mix : List PV → Option PV
  | [p0, p1] => semRun S0 sx_mix (fun _ => none, rho0 [41, 42] [p0, p1])
  | _ => none
theorem has_mix {prog : Program} {w : World} {KK : Frag} (B : Bs prog w KK) : Has prog w KK .mix an_mix 6 :=
  call_has (n := 5) ok_mix (fun A rm => Pb.of (stms (wd_of (S := S0) B (fun f => has_none) rm) (B.hv A (rm.le (by decide))) tr_mix)) fun ps r h => by
    unfold an_mix at h
    split at h
    · exact ⟨rfl, h⟩
    · cases h

noncomputable def sx_wri : SX := (.seq (.asg 55 (.cst (.str ""))) (.seq (.fors .Z (.nm 45) (.cst (.str "rgb")) (.two 43 56) (.seq (.ifs (.chn .Lt .Lt (.cst (.flt 4598175219545276416)) (.nm 43) (.cst (.flt 4604930618986332160))) (.seq (.aug 55 .Add (.ite (.me .ends (.nm 55) (.cons (.cst (.str ".")) .nil)) (.cst (.str "")) (.cst (.str "...")))) .skip) (.seq (.aug 55 .Add (.ite (.cmp .Gt (.nm 43) (.cst (.flt 4602678819172646912))) (.me .upper (.nm 56) .nil) (.nm 56))) .skip)) .skip)) (.seq (.ret (.nm 55)) .skip)))
set_option maxHeartbeats 4000000 in
theorem tr_wri : TrS (fun x => (fnOf .wri).2.2.names.lookup x) (fnOf .wri).2.1 sx_wri := by
  unfold sx_wri
  dsimp only [fnOf, fnIn, topAt, PySem.Challenge.pw_uj0008_01, List.getElem?_cons_succ, List.getElem?_cons_zero]
  repeat' (first
    | exact TrS.nil | exact TrL.nil | exact TrO.none | exact TrC.nil
    | apply TrS.cons | apply TrL.cons | apply TrO.some | apply TrC.one
    | exact Or.inl (by decide +kernel) | exact Or.inr (Or.inl (by decide +kernel)) | exact Or.inr (by decide +kernel) | exact Or.inr (Or.inr (by decide +kernel))
    | (show _ = _; first | with_reducible rfl | decide +kernel | rfl)
    | exact (show glob _ _ from (by unfold glob; decide +kernel))
    | exact ⟨_, _, rfl, rfl, by decide +kernel⟩
    | exact ⟨_, _, _, _, _, _, rfl, rfl, rfl, by decide +kernel, by decide +kernel⟩
    | (intro h; cases h; done)
    | (intro _; rfl) | (intro _ _; rfl) | (intro _ _ _; rfl)
    | (intro env hk hf; simp only [swapsWith, pure_bind, Env.blockKind, hf, hk]; first | rfl | (simp; done) | (decide +kernel))
    | (simp [gcon]; done)
    | (simp; done)
    | apply TrSt.asg | apply TrSt.asgB | apply TrSt.asgC | apply TrSt.asg2 | apply TrSt.asgD | apply TrSt.asg3 | apply TrSt.aug | apply TrSt.ifs | apply TrSt.fors | apply TrSt.whl | apply TrSt.ret | apply TrSt.app | apply TrSt.del | apply TrSt.sti | apply TrSt.asr | apply TrSt.hadd
    | apply Tr.nm | apply Tr.cst | apply Tr.gc | apply Tr.bin | apply Tr.cmp | apply Tr.chn | apply Tr.not | apply Tr.neg | apply Tr.one | apply Tr.and | apply Tr.or | apply Tr.ite | apply Tr.idx | apply Tr.slc | apply Tr.tup | apply Tr.lst | apply Tr.fn | apply Tr.star | apply Tr.bi | apply Tr.me | apply Tr.ga | apply Tr.comp | apply Tr.comp2
    | apply TrI.L | apply TrI.R | apply TrI.Z
    | constructor)
theorem ok_wri : FnOk .wri [45] ["colour"] where
  co := by rfl
  ge := by rfl
  kd := by rfl
  ids := by rfl
  nd := by decide +kernel
  lk := by decide +kernel
  bind := by
    intro fd vals hp hd hl
    obtain ⟨v0, rfl⟩ := len1 (l := vals) hl
    unfold bindArgs
    rw [hp, hd]
    rfl
noncomputable def an_wri : List PV → Option PV
  | [p0] => semRun S0 sx_wri (fun _ => none, rho0 [45] [p0])
  | _ => none
theorem has_wri {prog : Program} {w : World} {KK : Frag} (B : Bs prog w KK) : Has prog w KK .wri an_wri 6 :=
  call_has (n := 5) ok_wri (fun A rm => Pb.of (stms (wd_of (S := S0) B (fun f => has_none) rm) (B.hv A (rm.le (by decide))) tr_wri)) fun ps r h => by
    unfold an_wri at h
    split at h
    · exact ⟨rfl, h⟩
    · cases h

noncomputable def sx_due : SX := (.seq (.asgC 49 .R (.cst (.int 3)) (.cst .none) (.one 54) (.cst (.bool true)) (.bin .Add (.bin .BitAnd (.bin .RShift (.nm 41) (.nm 54)) (.cst (.int 1))) (.bin .BitAnd (.bin .RShift (.nm 42) (.nm 54)) (.cst (.int 1))))) (.seq (.asg 50 (.bi .max (.cons (.nm 49) .nil))) (.seq (.asg 51 (.bin .Sub (.nm 50) (.bi .min (.cons (.nm 49) .nil)))) (.seq (.ifs (.cmp .Eq (.nm 51) (.cst (.int 0))) (.seq (.ret (.bin .Add (.cst (.str "a0")) (.bi .str (.cons (.nm 50) .nil)))) .skip) .skip) (.seq (.asg 52 (.me .join (.cst (.str "")) (.cons (.comp .L (.nm 49) (.cst .none) (.one 43) (.cst (.bool true)) (.bi .str (.cons (.bin .FloorDiv (.bin .Mult (.cst (.int 2)) (.bin .Sub (.bin .Add (.nm 43) (.nm 51)) (.nm 50))) (.nm 51)) .nil))) .nil))) (.seq (.asg 53 (.me .index (.lst (.cons (.cst (.str "200")) (.cons (.cst (.str "210")) (.cons (.cst (.str "220")) (.cons (.cst (.str "120")) (.cons (.cst (.str "020")) (.cons (.cst (.str "021")) (.cons (.cst (.str "022")) (.cons (.cst (.str "012")) (.cons (.cst (.str "002")) (.cons (.cst (.str "102")) (.cons (.cst (.str "202")) (.cons (.cst (.str "201")) .nil))))))))))))) (.cons (.nm 52) .nil))) (.seq (.ret (.bin .Add (.bin .Add (.idx (.cst (.str "abcdefghijkl")) (.nm 53)) (.bi .str (.cons (.bin .FloorDiv (.bin .Mult (.cst (.int 2)) (.nm 51)) (.nm 50)) .nil))) (.bi .str (.cons (.nm 50) .nil)))) .skip)))))))
set_option maxHeartbeats 4000000 in
theorem tr_due : TrS (fun x => (fnOf .due).2.2.names.lookup x) (fnOf .due).2.1 sx_due := by
  unfold sx_due
  dsimp only [fnOf, fnIn, topAt, PySem.Challenge.pw_uj0008_01, List.getElem?_cons_succ, List.getElem?_cons_zero]
  repeat' (first
    | exact TrS.nil | exact TrL.nil | exact TrO.none | exact TrC.nil
    | apply TrS.cons | apply TrL.cons | apply TrO.some | apply TrC.one
    | exact Or.inl (by decide +kernel) | exact Or.inr (Or.inl (by decide +kernel)) | exact Or.inr (by decide +kernel) | exact Or.inr (Or.inr (by decide +kernel))
    | (show _ = _; first | with_reducible rfl | decide +kernel | rfl)
    | exact (show glob _ _ from (by unfold glob; decide +kernel))
    | exact ⟨_, _, rfl, rfl, by decide +kernel⟩
    | exact ⟨_, _, _, _, _, _, rfl, rfl, rfl, by decide +kernel, by decide +kernel⟩
    | (intro h; cases h; done)
    | (intro _; rfl) | (intro _ _; rfl) | (intro _ _ _; rfl)
    | (intro env hk hf; simp only [swapsWith, pure_bind, Env.blockKind, hf, hk]; first | rfl | (simp; done) | (decide +kernel))
    | (simp [gcon]; done)
    | (simp; done)
    | apply TrSt.asg | apply TrSt.asgB | apply TrSt.asgC | apply TrSt.asg2 | apply TrSt.asgD | apply TrSt.asg3 | apply TrSt.aug | apply TrSt.ifs | apply TrSt.fors | apply TrSt.whl | apply TrSt.ret | apply TrSt.app | apply TrSt.del | apply TrSt.sti | apply TrSt.asr | apply TrSt.hadd
    | apply Tr.nm | apply Tr.cst | apply Tr.gc | apply Tr.bin | apply Tr.cmp | apply Tr.chn | apply Tr.not | apply Tr.neg | apply Tr.one | apply Tr.and | apply Tr.or | apply Tr.ite | apply Tr.idx | apply Tr.slc | apply Tr.tup | apply Tr.lst | apply Tr.fn | apply Tr.star | apply Tr.bi | apply Tr.me | apply Tr.ga | apply Tr.comp | apply Tr.comp2
    | apply TrI.L | apply TrI.R | apply TrI.Z
    | constructor)
theorem ok_due : FnOk .due [41, 42] ["one", "other"] where
  co := by rfl
  ge := by rfl
  kd := by rfl
  ids := by rfl
  nd := by decide +kernel
  lk := by decide +kernel
  bind := by
    intro fd vals hp hd hl
    obtain ⟨v0, v1, rfl⟩ := len2 (l := vals) hl
    unfold bindArgs
    rw [hp, hd]
    rfl
noncomputable def an_due : List PV → Option PV
  | [p0, p1] => semRun S0 sx_due (fun _ => none, rho0 [41, 42] [p0, p1])
  | _ => none
theorem has_due {prog : Program} {w : World} {KK : Frag} (B : Bs prog w KK) : Has prog w KK .due an_due 6 :=
  call_has (n := 5) ok_due (fun A rm => Pb.of (stms (wd_of (S := S0) B (fun f => has_none) rm) (B.hv A (rm.le (by decide))) tr_due)) fun ps r h => by
    unfold an_due at h
    split at h
    · exact ⟨rfl, h⟩
    · cases h

noncomputable def sx_oft : SX := (.seq (.ret (.bi .len (.cons (.comp2 (.nm 57) (.one 66) (.nm 58) (.one 67) (.and (.cmp .Eq (.bin .BitXor (.nm 66) (.nm 67)) (.nm 64)) (.cmp .Eq (.bin .BitAnd (.nm 66) (.nm 67)) (.nm 65))) (.nm 66)) .nil))) .skip)
set_option maxHeartbeats 4000000 in
theorem tr_oft : TrS (fun x => (fnOf .oft).2.2.names.lookup x) (fnOf .oft).2.1 sx_oft := by
  unfold sx_oft
  dsimp only [fnOf, fnIn, topAt, PySem.Challenge.pw_uj0008_01, List.getElem?_cons_succ, List.getElem?_cons_zero]
  repeat' (first
    | exact TrS.nil | exact TrL.nil | exact TrO.none | exact TrC.nil
    | apply TrS.cons | apply TrL.cons | apply TrO.some | apply TrC.one
    | exact Or.inl (by decide +kernel) | exact Or.inr (Or.inl (by decide +kernel)) | exact Or.inr (by decide +kernel) | exact Or.inr (Or.inr (by decide +kernel))
    | (show _ = _; first | with_reducible rfl | decide +kernel | rfl)
    | exact (show glob _ _ from (by unfold glob; decide +kernel))
    | exact ⟨_, _, rfl, rfl, by decide +kernel⟩
    | exact ⟨_, _, _, _, _, _, rfl, rfl, rfl, by decide +kernel, by decide +kernel⟩
    | (intro h; cases h; done)
    | (intro _; rfl) | (intro _ _; rfl) | (intro _ _ _; rfl)
    | (intro env hk hf; simp only [swapsWith, pure_bind, Env.blockKind, hf, hk]; first | rfl | (simp; done) | (decide +kernel))
    | (simp [gcon]; done)
    | (simp; done)
    | apply TrSt.asg | apply TrSt.asgB | apply TrSt.asgC | apply TrSt.asg2 | apply TrSt.asgD | apply TrSt.asg3 | apply TrSt.aug | apply TrSt.ifs | apply TrSt.fors | apply TrSt.whl | apply TrSt.ret | apply TrSt.app | apply TrSt.del | apply TrSt.sti | apply TrSt.asr | apply TrSt.hadd
    | apply Tr.nm | apply Tr.cst | apply Tr.gc | apply Tr.bin | apply Tr.cmp | apply Tr.chn | apply Tr.not | apply Tr.neg | apply Tr.one | apply Tr.and | apply Tr.or | apply Tr.ite | apply Tr.idx | apply Tr.slc | apply Tr.tup | apply Tr.lst | apply Tr.fn | apply Tr.star | apply Tr.bi | apply Tr.me | apply Tr.ga | apply Tr.comp | apply Tr.comp2
    | apply TrI.L | apply TrI.R | apply TrI.Z
    | constructor)
theorem ok_oft : FnOk .oft [57, 58, 64, 65] ["ones", "others", "half", "both"] where
  co := by rfl
  ge := by rfl
  kd := by rfl
  ids := by rfl
  nd := by decide +kernel
  lk := by decide +kernel
  bind := by
    intro fd vals hp hd hl
    obtain ⟨v0, v1, v2, v3, rfl⟩ := len4 (l := vals) hl
    unfold bindArgs
    rw [hp, hd]
    rfl
noncomputable def an_oft : List PV → Option PV
  | [p0, p1, p2, p3] => semRun S0 sx_oft (fun _ => none, rho0 [57, 58, 64, 65] [p0, p1, p2, p3])
  | _ => none
theorem has_oft {prog : Program} {w : World} {KK : Frag} (B : Bs prog w KK) : Has prog w KK .oft an_oft 6 :=
  call_has (n := 5) ok_oft (fun A rm => Pb.of (stms (wd_of (S := S0) B (fun f => has_none) rm) (B.hv A (rm.le (by decide))) tr_oft)) fun ps r h => by
    unfold an_oft at h
    split at h
    · exact ⟨rfl, h⟩
    · cases h

noncomputable def S1 : SG := fun f => match f with
  | .rgb => an_rgb
  | _ => fun _ => none
theorem has_S1 {prog : Program} {w : World} {KK : Frag} (B : Bs prog w KK) : ∀ f, Has prog w KK f (S1 f) 6 := fun f => by
  cases f <;> first | exact has_rgb B | exact has_none

noncomputable def sx_cal : SX := (.seq (.asg3 46 47 48 (.star .rgb (.nm 45))) (.seq (.ret (.bin .Add (.bin .Add (.idx (.cst (.str "abcdefghijkl")) (.bin .Mod (.bi .int (.cons (.bin .Add (.bin .Mult (.nm 46) (.cst (.flt 4622945017495814144))) (.cst (.flt 4602678819172646912))) .nil)) (.cst (.int 12)))) (.bi .str (.cons (.bi .int (.cons (.bin .Add (.bin .Mult (.nm 47) (.cst (.flt 4611686018427387904))) (.cst (.flt 4602678819172646912))) .nil)) .nil))) (.bi .str (.cons (.bi .int (.cons (.bin .Add (.bin .Mult (.nm 48) (.cst (.flt 4611686018427387904))) (.cst (.flt 4602678819172646912))) .nil)) .nil)))) .skip))
set_option maxHeartbeats 4000000 in
theorem tr_cal : TrS (fun x => (fnOf .cal).2.2.names.lookup x) (fnOf .cal).2.1 sx_cal := by
  unfold sx_cal
  dsimp only [fnOf, fnIn, topAt, PySem.Challenge.pw_uj0008_01, List.getElem?_cons_succ, List.getElem?_cons_zero]
  repeat' (first
    | exact TrS.nil | exact TrL.nil | exact TrO.none | exact TrC.nil
    | apply TrS.cons | apply TrL.cons | apply TrO.some | apply TrC.one
    | exact Or.inl (by decide +kernel) | exact Or.inr (Or.inl (by decide +kernel)) | exact Or.inr (by decide +kernel) | exact Or.inr (Or.inr (by decide +kernel))
    | (show _ = _; first | with_reducible rfl | decide +kernel | rfl)
    | exact (show glob _ _ from (by unfold glob; decide +kernel))
    | exact ⟨_, _, rfl, rfl, by decide +kernel⟩
    | exact ⟨_, _, _, _, _, _, rfl, rfl, rfl, by decide +kernel, by decide +kernel⟩
    | (intro h; cases h; done)
    | (intro _; rfl) | (intro _ _; rfl) | (intro _ _ _; rfl)
    | (intro env hk hf; simp only [swapsWith, pure_bind, Env.blockKind, hf, hk]; first | rfl | (simp; done) | (decide +kernel))
    | (simp [gcon]; done)
    | (simp; done)
    | apply TrSt.asg | apply TrSt.asgB | apply TrSt.asgC | apply TrSt.asg2 | apply TrSt.asgD | apply TrSt.asg3 | apply TrSt.aug | apply TrSt.ifs | apply TrSt.fors | apply TrSt.whl | apply TrSt.ret | apply TrSt.app | apply TrSt.del | apply TrSt.sti | apply TrSt.asr | apply TrSt.hadd
    | apply Tr.nm | apply Tr.cst | apply Tr.gc | apply Tr.bin | apply Tr.cmp | apply Tr.chn | apply Tr.not | apply Tr.neg | apply Tr.one | apply Tr.and | apply Tr.or | apply Tr.ite | apply Tr.idx | apply Tr.slc | apply Tr.tup | apply Tr.lst | apply Tr.fn | apply Tr.star | apply Tr.bi | apply Tr.me | apply Tr.ga | apply Tr.comp | apply Tr.comp2
    | apply TrI.L | apply TrI.R | apply TrI.Z
    | constructor)
theorem ok_cal : FnOk .cal [45] ["colour"] where
  co := by rfl
  ge := by rfl
  kd := by rfl
  ids := by rfl
  nd := by decide +kernel
  lk := by decide +kernel
  bind := by
    intro fd vals hp hd hl
    obtain ⟨v0, rfl⟩ := len1 (l := vals) hl
    unfold bindArgs
    rw [hp, hd]
    rfl
noncomputable def an_cal : List PV → Option PV
  | [p0] => semRun S1 sx_cal (fun _ => none, rho0 [45] [p0])
  | _ => none
theorem has_cal {prog : Program} {w : World} {KK : Frag} (B : Bs prog w KK) : Has prog w KK .cal an_cal 7 :=
  call_has (n := 6) ok_cal (fun A rm => Pb.of (stms (wd_of (S := S1) B (has_S1 B) rm) (B.hv A (rm.le (by decide))) tr_cal)) fun ps r h => by
    unfold an_cal at h
    split at h
    · exact ⟨rfl, h⟩
    · cases h

end Mine

-- F3a
namespace Mine

noncomputable def flatR (ρ : Rho) : Rho := fun i => match ρ i with | some p => if flatP p then some p else none | none => none
noncomputable def ownF (S : SG) (x : X) (ρ : Rho) : Option PV := match ev S x (flatR ρ) with | some (.lst l) => if l.all flatP then some (.lst l) else none | _ => none
noncomputable def rngF (S : SG) (a b c : X) (ρ : Rho) : Option PV := match ev S a ρ, ev S b ρ, ev S c ρ with
  | some (.int x), some (.int y), some (.int z) => if near x && near y && near z && decide (0 < z) && Builtin.Range.small x y z && decide (Builtin.Range.rangeSize x y z ≤ 1000) then some (.lst ((List.range (Builtin.Range.rangeSize x y z).toNat).map fun (i : Nat) => .int (x + i * z))) else none
  | _, _, _ => none

section
variable {prog : Program} {w : World} {A : Around} {S : SG} {KK : Frag} {K : KD}

theorem RepL.flat {H H' : List Addr} {g : GS} : ∀ {vs : List Value} {ps : List PV}, RepL (hv H g) vs ps → ps.all flatP = true → RepL (hv H' g) vs ps
  | _, _, .nil, _ => .nil
  | _, _, .cons a r, h => by
    simp only [List.all_cons, Bool.and_eq_true] at h
    exact .cons (a.flat h.1) (r.flat h.2)

theorem PF.ofFlat (W : Wd prog w A S KK) {e : Expr} {x : X} (tr : Tr K e x) : PF prog w A KK K e (ownF S x) := fun env H s T ρ p cx hp => by
  unfold ownF at hp
  split at hp
  · rename_i l hl
    split at hp
    · rename_i hf
      cases hp
      let H' : List Addr := (List.range s.heap.objs.size).filter fun b => (s.heap.get? b).isSome
      have sub : ∀ a ∈ H, a ∈ H' := fun a ha => by
        obtain ⟨o, e⟩ := cx.l a ha
        exact List.mem_filter.mpr ⟨List.mem_range.mpr (Heap.lt_size e), by rw [e]; rfl⟩
      have lH : Laid H' s.heap := fun a ha => by
        have := (List.mem_filter.mp ha).2
        exact Option.isSome_iff_exists.mp this
      have er : EnvR env H' (gs s T) (flatR ρ) := by
        intro i y q e' hk hq
        unfold flatR at hq
        split at hq
        · rename_i q' hq'
          split at hq
          · rename_i hfq
            cases hq
            obtain ⟨v, n, r⟩ := cx.r i y _ e' hk hq'
            exact ⟨v, n, r.flat hfq⟩
          · cases hq
        · cases hq
      have cx' : Cx KK K env H' s T (flatR ρ) := ⟨cx.k, cx.ok.more sub, cx.gb, er, cx.d, lH⟩
      refine Ok.mono ((sound W tr).1 env H' s T (flatR ρ) _ cx' hl) fun v g' _ rv => ?_
      obtain ⟨a, vs, rfl, ⟨n, e'⟩, rl⟩ := rv.lstInv
      have ha : a ∉ H' := hv_notin e'
      have e'' := hv_of e'
      have hn : s.heap.get? a = none := by
        cases q : s.heap.get? a with
        | none => rfl
        | some o => exact absurd (List.mem_filter.mpr ⟨List.mem_range.mpr (Heap.lt_size q), by rw [q]; rfl⟩) ha
      exact ⟨a, hn, ⟨_, e''⟩, rfl, vs, ⟨n, e''⟩, rl.flat hf⟩
    · cases hp
  · cases hp

theorem RepL.ofGet {g : GS} : ∀ {vs : List Value} {ps : List PV}, vs.length = ps.length → (∀ (i : Nat) (v : Value) (p : PV), vs[i]? = some v → ps[i]? = some p → Rep g v p) → RepL g vs ps
  | [], [], _, _ => .nil
  | [], _ :: _, h, _ => by simp at h
  | _ :: _, [], h, _ => by simp at h
  | v :: vs, p :: ps, h, f => .cons (f 0 v p (by simp) (by simp)) (RepL.ofGet (by simpa using h) fun i v p a b => f (i + 1) v p (by simpa using a) (by simpa using b))
theorem ints_rep {g : GS} {x z : Int} {acc : Array Value} {n : Nat} (h : ItemsOf (fun i v => ∃ t, v = .int (x + i * z) t) acc n) : RepL g acc.toList ((List.range n).map fun (i : Nat) => .int (x + i * z)) := by
  refine RepL.ofGet (by simp [h.1]) fun i v p hv hp => ?_
  obtain ⟨t, rfl⟩ := h.2 i v (by simpa using hv)
  rw [List.getElem?_map] at hp
  obtain ⟨j, hj, rfl⟩ := Option.map_eq_some_iff.mp hp
  have : j = i := by
    have := List.getElem?_eq_some_iff.mp hj
    obtain ⟨h1, h2⟩ := this
    simpa using h2.symm
  subst this
  exact .int _ _

theorem PF.rng (W : Wd prog w A S KK) {ea eb ec : Expr} {a b c : X} {pl pr p q : Pos} (ha : Tr K ea a) (hb : Tr K eb b) (hc : Tr K ec c) (na : noStar ea = true) (nb : noStar eb = true) (nc : noStar ec = true) (hl : glob K "list") (hr : glob K "range") :
    PF prog w A KK K (.Call (.Name "list" pl) [.Call (.Name "range" pr) [ea, eb, ec] [] p] [] q) (rngF S a b c) := fun env H s T ρ r cx hp E => by
  unfold rngF at hp
  split at hp
  · rename_i x y z hx hy hz
    split at hp
    · rename_i hcond
      simp only [Bool.and_eq_true, decide_eq_true_eq] at hcond
      cases hp
      obtain ⟨⟨⟨⟨⟨h1, h2⟩, h3⟩, h4⟩, h5⟩, h6⟩ := hcond
      have k1 := near_iff h1
      have k2 := near_iff h2
      have k3 := near_iff h3
      refine wpAny_Call_NameR (glob_bui (v := .type "list") cx.gb cx.ok in_list (cx.k ▸ hl) (by decide +kernel) ?_)
      refine PySem.callWith_type rfl (evalArgs_plain (Calls.spliced_cons (wpAny_Call_NameR (glob_bui (v := .type "range") cx.gb cx.ok in_range (cx.k ▸ hr) (by decide +kernel) ?_))))
      rw [starEach_cons na, starEach_cons nb, starEach_cons nc]
      refine PySem.callWith_type rfl (evalArgs_plain (Calls.spliced_cons (((sound W ha).1 env H s T ρ _ cx hx).wp fun v s₁ T₁ rv g₁ t₁ => Calls.spliced_cons (((sound W hb).1 env H s₁ T₁ ρ _ (cx.step g₁ t₁) hy).wp fun u s₂ T₂ ru g₂ t₂ =>
        Calls.spliced_cons (((sound W hc).1 env H s₂ T₂ ρ _ ((cx.step g₁ t₁).step g₂ t₂) hz).wp fun y' s₃ T₃ ry g₃ t₃ => Calls.spliced_nil ?_)))))
      obtain ⟨t1, rfl⟩ := rv.intInv
      obtain ⟨t2, rfl⟩ := ru.intInv
      obtain ⟨t3, rfl⟩ := ry.intInv
      have gg := (g₁.trans g₂ t₂).trans g₃ t₃
      refine call_range_3 (by omega) ?_ (Or.inl (PyProof.noPylong_small (by omega)))
      refine Calls.spliced_nil ?_
      have hnn : Builtin.Range.rangeSize x y z = ((Builtin.Range.rangeSize x y z).toNat : Int) := rangeSize_toNat x y z
      refine wpAny_with_toks (n := s₃.toks) (Nat.le_refl _) (call_list_range W.hh (IsRange.new ..) h5 hnn (by omega) fun h' tk acc c' hk he hit htk => ?_)
      have k3 : Grow s₃.heap h' := fun b o e => hk b o (Heap.get?_push_of_some _ e)
      refine ⟨T₃, ⟨_, ?_, ⟨_, he⟩, rfl, acc.toList, ⟨c', by simpa using he⟩, ints_rep hit⟩, gg.trans (Goes.of T₃ (keeps_of k3)) ?_⟩
      · cases q : s.heap.get? (s₃.heap.push { cls := .type "range", data := .fields #[.int x _, .int y _, .int z _] }).objs.size with
        | none => rfl
        | some o => have := Heap.lt_size (keeps_grow gg.k _ _ q); rw [Heap.size_push] at this; exact absurd this Nat.not_succ_lt_self
      · exact htk
    · cases hp
  · cases hp
end

theorem swapped2 {env : Env} {x y : Str} {px py tp p2 : Pos} {k k2 : Nat} {e1 e2 : Expr} (hf : env.scope.kind = .function) (hx : env.kindOf x = some .local) (hy : env.kindOf y = some .local) (hl : (py.line == px.line) = true) (hne : x ≠ y)
    (h1 : noStar e1 = true) (h2 : noStar e2 = true) (hff : [e1, e2].all (foldedForSure 8) = false) (hcc : [e1, e2].all (constantsAlone 8) = false) :
    swappedStores [.Tuple [.Name x px, .Name y py] k tp] (.Tuple [e1, e2] k2 p2) env = pure (some [x, y]) := by
  unfold swappedStores
  simp only [Env.blockKind, hf, hff, hcc]
  rw [if_neg (by simp [ScopeKind.isAnnotationScope]), if_neg (fun h => by
    simp only [List.any_cons, List.any_nil, Bool.or_false, Bool.or_eq_true] at h
    rcases h with h | h
    · cases e1 <;> first | exact Bool.noConfusion h | exact Bool.noConfusion h1
    · cases e2 <;> first | exact Bool.noConfusion h | exact Bool.noConfusion h2)]
  have hl' : py.line = px.line := by simpa using hl
  have hne' : (y == x) = false := by simpa using fun h => hne h.symm
  simp [hx, hy, hl', Expr.pos, List.eraseDups_cons, hne']
end Mine

-- F3
namespace Mine

noncomputable def sx_unl_1 : SX := (.fors .L (.nm 38) (.cst .none) (.one 40) (.seq (.ifs (.cmp .NotIn (.nm 40) (.nm 39)) (.seq (.app 39 (.nm 40)) .skip) .skip) .skip))
noncomputable def sx_unl_2 : SX := (.ret (.nm 39))
noncomputable def sm_unl : Sta → Option PV := (semOwn 39 (fun _ => some (.lst [])) (semSt S0 sx_unl_1 (semSt S0 sx_unl_2 semEnd)))
set_option maxHeartbeats 8000000 in
theorem pb_unl {prog : Program} {w : World} {A : Around} {KK : Frag} (W : Wd prog w A S0 KK) (V : Wh prog w A KK) : Pb prog w A KK (fun x => (fnOf .unl).2.2.names.lookup x) (fnOf .unl).2.1 sm_unl := by
  unfold sm_unl
  dsimp only [fnOf, fnIn, topAt, PySem.Challenge.pw_uj0008_01, List.getElem?_cons_succ, List.getElem?_cons_zero]
  refine (Pb.own rfl (by decide +kernel) (PF.nil) ?_ (Pb.st (stm W V ?_) (Pb.st (stm W V ?_) Pb.end)))
  all_goals (try unfold sx_unl_1)
  all_goals (try unfold sx_unl_2)
  repeat' (first
    | exact TrS.nil | exact TrL.nil | exact TrO.none | exact TrC.nil
    | apply TrS.cons | apply TrL.cons | apply TrO.some | apply TrC.one
    | exact Or.inl (by decide +kernel) | exact Or.inr (Or.inl (by decide +kernel)) | exact Or.inr (by decide +kernel) | exact Or.inr (Or.inr (by decide +kernel))
    | (show _ = _; first | with_reducible rfl | decide +kernel | rfl)
    | exact (show glob _ _ from (by unfold glob; decide +kernel))
    | exact ⟨_, _, rfl, rfl, by decide +kernel⟩
    | exact ⟨_, _, _, _, _, _, rfl, rfl, rfl, by decide +kernel, by decide +kernel⟩
    | (intro h; cases h; done)
    | (intro _; rfl) | (intro _ _; rfl) | (intro _ _ _; rfl)
    | (intro env hk hf; simp only [swapsWith, pure_bind, Env.blockKind, hf, hk]; first | rfl | (simp; done) | (decide +kernel))
    | (intro env hk hf; exact swapped2 hf (by rw [hk]; decide +kernel) (by rw [hk]; decide +kernel) rfl (by decide +kernel) rfl rfl rfl rfl)
    | (simp [gcon]; done)
    | (simp; done)
    | apply TrSt.asg | apply TrSt.asgB | apply TrSt.asgC | apply TrSt.asg2 | apply TrSt.asgD | apply TrSt.asg3 | apply TrSt.aug | apply TrSt.ifs | apply TrSt.fors | apply TrSt.whl | apply TrSt.ret | apply TrSt.app | apply TrSt.del | apply TrSt.sti | apply TrSt.asr | apply TrSt.hadd
    | apply Tr.nm | apply Tr.cst | apply Tr.gc | apply Tr.bin | apply Tr.cmp | apply Tr.chn | apply Tr.not | apply Tr.neg | apply Tr.one | apply Tr.and | apply Tr.or | apply Tr.ite | apply Tr.idx | apply Tr.slc | apply Tr.tup | apply Tr.lst | apply Tr.fn | apply Tr.star | apply Tr.bi | apply Tr.me | apply Tr.ga | apply Tr.comp | apply Tr.comp2
    | apply TrI.L | apply TrI.R | apply TrI.Z
    | constructor)
theorem ok_unl : FnOk .unl [38] ["things"] where
  co := by rfl
  ge := by rfl
  kd := by rfl
  ids := by rfl
  nd := by decide +kernel
  lk := by decide +kernel
  bind := by
    intro fd vals hp hd hl
    obtain ⟨v0, rfl⟩ := len1 (l := vals) hl
    unfold bindArgs
    rw [hp, hd]
    rfl
noncomputable def an_unl : List PV → Option PV
  | [p0] => sm_unl (fun _ => none, rho0 [38] [p0])
  | _ => none
theorem has_unl {prog : Program} {w : World} {KK : Frag} (B : Bs prog w KK) : Has prog w KK .unl an_unl 6 :=
  call_has (n := 5) ok_unl (fun A rm => pb_unl (wd_of (S := S0) B (fun f => has_none) rm) (B.hv A (rm.le (by decide))) ) fun ps r h => by
    unfold an_unl at h
    split at h
    · exact ⟨rfl, h⟩
    · cases h

noncomputable def sx_ell_0 : SX := (.ifs (.cmp .NotIn (.cst (.str "...")) (.nm 17)) (.seq (.ret (.cmp .Eq (.nm 17) (.nm 18))) .skip) .skip)
noncomputable def sx_ell_2 : SX := (.asr (.cmp .GtE (.bi .len (.cons (.nm 19) .nil)) (.cst (.int 2))))
noncomputable def sx_ell_3 : SX := (.asg2 21 22 (.tup (.cons (.cst (.int 0)) (.cons (.bi .len (.cons (.nm 18) .nil)) .nil))))
noncomputable def sx_ell_4 : SX := (.asgB 20 (.idx (.nm 19) (.cst (.int 0))))
noncomputable def sx_ell_5 : SX := (.ifs (.nm 20) (.seq (.ifs (.me .starts (.nm 18) (.cons (.nm 20) .nil)) (.seq (.asg 21 (.bi .len (.cons (.nm 20) .nil))) (.seq (.del 19 (.cst (.int 0))) .skip)) (.seq (.ret (.cst (.bool false))) .skip)) .skip) .skip)
noncomputable def sx_ell_6 : SX := (.asgB 20 (.idx (.nm 19) (.neg (.cst (.int 1)))))
noncomputable def sx_ell_7 : SX := (.ifs (.nm 20) (.seq (.ifs (.me .ends (.nm 18) (.cons (.nm 20) .nil)) (.seq (.aug 22 .Sub (.bi .len (.cons (.nm 20) .nil))) (.seq (.del 19 (.neg (.cst (.int 1)))) .skip)) (.seq (.ret (.cst (.bool false))) .skip)) .skip) .skip)
noncomputable def sx_ell_8 : SX := (.ifs (.cmp .Gt (.nm 21) (.nm 22)) (.seq (.ret (.cst (.bool false))) .skip) .skip)
noncomputable def sx_ell_10 : SX := (.fors .L (.nm 19) (.cst .none) (.one 20) (.seq (.asg 21 (.me .find (.nm 18) (.cons (.nm 20) (.cons (.nm 21) (.cons (.nm 22) .nil))))) (.seq (.ifs (.cmp .Lt (.nm 21) (.cst (.int 0))) (.seq (.ret (.cst (.bool false))) .skip) .skip) (.seq (.aug 21 .Add (.bi .len (.cons (.nm 20) .nil))) .skip))))
noncomputable def sx_ell_11 : SX := (.ret (.cst (.bool true)))
noncomputable def sm_ell : Sta → Option PV := (semSt S0 sx_ell_0 (semOwn 19 (ownF S0 (.me .split (.nm 17) (.cons (.cst (.str "...")) .nil))) (semSt S0 sx_ell_2 (semSt S0 sx_ell_3 (semSt S0 sx_ell_4 (semSt S0 sx_ell_5 (semSt S0 sx_ell_6 (semSt S0 sx_ell_7 (semSt S0 sx_ell_8 (semFrz 19 (semSt S0 sx_ell_10 (semSt S0 sx_ell_11 semEnd))))))))))))
set_option maxHeartbeats 8000000 in
theorem pb_ell {prog : Program} {w : World} {A : Around} {KK : Frag} (W : Wd prog w A S0 KK) (V : Wh prog w A KK) : Pb prog w A KK (fun x => (fnOf .ell).2.2.names.lookup x) (fnOf .ell).2.1 sm_ell := by
  unfold sm_ell
  dsimp only [fnOf, fnIn, topAt, PySem.Challenge.pw_uj0008_01, List.getElem?_cons_succ, List.getElem?_cons_zero]
  refine (Pb.st (stm W V ?_) (Pb.own rfl (by decide +kernel) (PF.ofFlat W ?_) ?_ (Pb.st (stm W V ?_) (Pb.st (stm W V ?_) (Pb.st (stm W V ?_) (Pb.st (stm W V ?_) (Pb.st (stm W V ?_) (Pb.st (stm W V ?_) (Pb.st (stm W V ?_) (Pb.frz (Pb.st (stm W V ?_) (Pb.st (stm W V ?_) Pb.end))))))))))))
  all_goals (try unfold sx_ell_0)
  all_goals (try unfold sx_ell_2)
  all_goals (try unfold sx_ell_3)
  all_goals (try unfold sx_ell_4)
  all_goals (try unfold sx_ell_5)
  all_goals (try unfold sx_ell_6)
  all_goals (try unfold sx_ell_7)
  all_goals (try unfold sx_ell_8)
  all_goals (try unfold sx_ell_10)
  all_goals (try unfold sx_ell_11)
  repeat' (first
    | exact TrS.nil | exact TrL.nil | exact TrO.none | exact TrC.nil
    | apply TrS.cons | apply TrL.cons | apply TrO.some | apply TrC.one
    | exact Or.inl (by decide +kernel) | exact Or.inr (Or.inl (by decide +kernel)) | exact Or.inr (by decide +kernel) | exact Or.inr (Or.inr (by decide +kernel))
    | (show _ = _; first | with_reducible rfl | decide +kernel | rfl)
    | exact (show glob _ _ from (by unfold glob; decide +kernel))
    | exact ⟨_, _, rfl, rfl, by decide +kernel⟩
    | exact ⟨_, _, _, _, _, _, rfl, rfl, rfl, by decide +kernel, by decide +kernel⟩
    | (intro h; cases h; done)
    | (intro _; rfl) | (intro _ _; rfl) | (intro _ _ _; rfl)
    | (intro env hk hf; simp only [swapsWith, pure_bind, Env.blockKind, hf, hk]; first | rfl | (simp; done) | (decide +kernel))
    | (intro env hk hf; exact swapped2 hf (by rw [hk]; decide +kernel) (by rw [hk]; decide +kernel) rfl (by decide +kernel) rfl rfl rfl rfl)
    | (simp [gcon]; done)
    | (simp; done)
    | apply TrSt.asg | apply TrSt.asgB | apply TrSt.asgC | apply TrSt.asg2 | apply TrSt.asgD | apply TrSt.asg3 | apply TrSt.aug | apply TrSt.ifs | apply TrSt.fors | apply TrSt.whl | apply TrSt.ret | apply TrSt.app | apply TrSt.del | apply TrSt.sti | apply TrSt.asr | apply TrSt.hadd
    | apply Tr.nm | apply Tr.cst | apply Tr.gc | apply Tr.bin | apply Tr.cmp | apply Tr.chn | apply Tr.not | apply Tr.neg | apply Tr.one | apply Tr.and | apply Tr.or | apply Tr.ite | apply Tr.idx | apply Tr.slc | apply Tr.tup | apply Tr.lst | apply Tr.fn | apply Tr.star | apply Tr.bi | apply Tr.me | apply Tr.ga | apply Tr.comp | apply Tr.comp2
    | apply TrI.L | apply TrI.R | apply TrI.Z
    | constructor)
theorem ok_ell : FnOk .ell [17, 18] ["want", "got"] where
  co := by rfl
  ge := by rfl
  kd := by rfl
  ids := by rfl
  nd := by decide +kernel
  lk := by decide +kernel
  bind := by
    intro fd vals hp hd hl
    obtain ⟨v0, v1, rfl⟩ := len2 (l := vals) hl
    unfold bindArgs
    rw [hp, hd]
    rfl
noncomputable def an_ell : List PV → Option PV
  | [p0, p1] => sm_ell (fun _ => none, rho0 [17, 18] [p0, p1])
  | _ => none
theorem has_ell {prog : Program} {w : World} {KK : Frag} (B : Bs prog w KK) : Has prog w KK .ell an_ell 6 :=
  call_has (n := 5) ok_ell (fun A rm => pb_ell (wd_of (S := S0) B (fun f => has_none) rm) (B.hv A (rm.le (by decide))) ) fun ps r h => by
    unfold an_ell at h
    split at h
    · exact ⟨rfl, h⟩
    · cases h

noncomputable def S2 : SG := fun f => match f with
  | .sub => an_sub
  | _ => fun _ => none
theorem has_S2 {prog : Program} {w : World} {KK : Frag} (B : Bs prog w KK) : ∀ f, Has prog w KK f (S2 f) 6 := fun f => by
  cases f <;> first | exact has_sub B | exact has_none

noncomputable def sx_lev_0 : SX := (.ifs (.cmp .Eq (.nm 25) (.nm 2)) (.seq (.ret (.cst (.int 0))) .skip) .skip)
noncomputable def sx_lev_1 : SX := (.asg 27 (.cst (.int 0)))
noncomputable def sx_lev_2 : SX := (.whl 8 (.and (.slc (.nm 25) (.nm 27) (.cst .none) (.cst .none)) (.and (.slc (.nm 2) (.nm 27) (.cst .none) (.cst .none)) (.cmp .Eq (.idx (.nm 25) (.nm 27)) (.idx (.nm 2) (.nm 27))))) (.seq (.aug 27 .Add (.cst (.int 1))) .skip))
noncomputable def sx_lev_3 : SX := (.asg 25 (.slc (.nm 25) (.nm 27) (.cst .none) (.cst .none)))
noncomputable def sx_lev_4 : SX := (.asg 2 (.slc (.nm 2) (.nm 27) (.cst .none) (.cst .none)))
noncomputable def sx_lev_5 : SX := (.asg 28 (.cst (.int 0)))
noncomputable def sx_lev_6 : SX := (.whl 8 (.and (.slc (.nm 25) (.cst .none) (.or (.nm 28) (.cst .none)) (.cst .none)) (.and (.slc (.nm 2) (.cst .none) (.or (.nm 28) (.cst .none)) (.cst .none)) (.cmp .Eq (.idx (.nm 25) (.bin .Sub (.nm 28) (.cst (.int 1)))) (.idx (.nm 2) (.bin .Sub (.nm 28) (.cst (.int 1))))))) (.seq (.aug 28 .Sub (.cst (.int 1))) .skip))
noncomputable def sx_lev_7 : SX := (.asg 25 (.slc (.nm 25) (.cst .none) (.or (.nm 28) (.cst .none)) (.cst .none)))
noncomputable def sx_lev_8 : SX := (.asg 2 (.slc (.nm 2) (.cst .none) (.or (.nm 28) (.cst .none)) (.cst .none)))
noncomputable def sx_lev_9 : SX := (.ifs (.or (.not (.nm 25)) (.not (.nm 2))) (.seq (.ret (.bin .Mult (.cst (.int 2)) (.bin .Add (.bi .len (.cons (.nm 25) .nil)) (.bi .len (.cons (.nm 2) .nil))))) .skip) .skip)
noncomputable def sx_lev_10 : SX := (.ifs (.or (.cmp .Gt (.bi .len (.cons (.nm 25) .nil)) (.cst (.int 40))) (.cmp .Gt (.bi .len (.cons (.nm 2) .nil)) (.cst (.int 40)))) (.seq (.ret (.bin .Add (.nm 26) (.cst (.int 1)))) .skip) .skip)
noncomputable def sx_lev_11 : SX := (.ifs (.cmp .Lt (.bi .len (.cons (.nm 2) .nil)) (.bi .len (.cons (.nm 25) .nil))) (.seq (.asg2 25 2 (.tup (.cons (.nm 2) (.cons (.nm 25) .nil)))) .skip) .skip)
noncomputable def sx_lev_12 : SX := (.ifs (.cmp .Gt (.bin .Mult (.bin .Sub (.bi .len (.cons (.nm 2) .nil)) (.bi .len (.cons (.nm 25) .nil))) (.cst (.int 2))) (.nm 26)) (.seq (.ret (.bin .Add (.nm 26) (.cst (.int 1)))) .skip) .skip)
noncomputable def sx_lev_14 : SX := (.asg 30 (.cst (.int 0)))
noncomputable def sx_lev_15 : SX := (.fors .R (.bi .len (.cons (.nm 2) .nil)) (.cst .none) (.one 31) (.seq (.asg 32 (.idx (.nm 2) (.nm 31))) (.seq (.asgD 33 30 (.bin .Mult (.nm 31) (.cst (.int 2)))) (.seq (.asg 34 (.cst (.int 9223372036854775807))) (.seq (.fors .R (.bi .len (.cons (.nm 25) .nil)) (.cst .none) (.one 35) (.seq (.asg 36 (.bin .Add (.nm 33) (.fn .sub (.cons (.nm 32) (.cons (.idx (.nm 25) (.nm 35)) .nil))))) (.seq (.asgB 33 (.idx (.nm 29) (.nm 35))) (.seq (.asg 37 (.bin .Add (.bi .min (.cons (.nm 30) (.cons (.nm 33) .nil))) (.cst (.int 2)))) (.seq (.asg 30 (.bi .min (.cons (.nm 37) (.cons (.nm 36) .nil)))) (.seq (.sti 29 (.nm 35) (.nm 30)) (.seq (.ifs (.cmp .Lt (.nm 30) (.nm 34)) (.seq (.asg 34 (.nm 30)) .skip) .skip) .skip))))))) (.seq (.ifs (.cmp .Gt (.nm 34) (.nm 26)) (.seq (.ret (.bin .Add (.nm 26) (.cst (.int 1)))) .skip) .skip) .skip))))))
noncomputable def sx_lev_16 : SX := (.ret (.nm 30))
noncomputable def sm_lev : Sta → Option PV := (semSt S2 sx_lev_0 (semSt S2 sx_lev_1 (semSt S2 sx_lev_2 (semSt S2 sx_lev_3 (semSt S2 sx_lev_4 (semSt S2 sx_lev_5 (semSt S2 sx_lev_6 (semSt S2 sx_lev_7 (semSt S2 sx_lev_8 (semSt S2 sx_lev_9 (semSt S2 sx_lev_10 (semSt S2 sx_lev_11 (semSt S2 sx_lev_12 (semOwn 29 (rngF S2 (.cst (.int 2)) (.bin .Mult (.cst (.int 2)) (.bin .Add (.bi .len (.cons (.nm 25) .nil)) (.cst (.int 1)))) (.cst (.int 2))) (semSt S2 sx_lev_14 (semSt S2 sx_lev_15 (semSt S2 sx_lev_16 semEnd)))))))))))))))))
set_option maxHeartbeats 8000000 in
theorem pb_lev {prog : Program} {w : World} {A : Around} {KK : Frag} (W : Wd prog w A S2 KK) (V : Wh prog w A KK) : Pb prog w A KK (fun x => (fnOf .lev).2.2.names.lookup x) (fnOf .lev).2.1 sm_lev := by
  unfold sm_lev
  dsimp only [fnOf, fnIn, topAt, PySem.Challenge.pw_uj0008_01, List.getElem?_cons_succ, List.getElem?_cons_zero]
  refine (Pb.st (stm W V ?_) (Pb.st (stm W V ?_) (Pb.st (stm W V ?_) (Pb.st (stm W V ?_) (Pb.st (stm W V ?_) (Pb.st (stm W V ?_) (Pb.st (stm W V ?_) (Pb.st (stm W V ?_) (Pb.st (stm W V ?_) (Pb.st (stm W V ?_) (Pb.st (stm W V ?_) (Pb.st (stm W V ?_) (Pb.st (stm W V ?_) (Pb.own rfl (by decide +kernel) (PF.rng W ?_ ?_ ?_ rfl rfl rfl (by unfold glob; decide +kernel) (by unfold glob; decide +kernel)) ?_ (Pb.st (stm W V ?_) (Pb.st (stm W V ?_) (Pb.st (stm W V ?_) Pb.end)))))))))))))))))
  all_goals (try unfold sx_lev_0)
  all_goals (try unfold sx_lev_1)
  all_goals (try unfold sx_lev_2)
  all_goals (try unfold sx_lev_3)
  all_goals (try unfold sx_lev_4)
  all_goals (try unfold sx_lev_5)
  all_goals (try unfold sx_lev_6)
  all_goals (try unfold sx_lev_7)
  all_goals (try unfold sx_lev_8)
  all_goals (try unfold sx_lev_9)
  all_goals (try unfold sx_lev_10)
  all_goals (try unfold sx_lev_11)
  all_goals (try unfold sx_lev_12)
  all_goals (try unfold sx_lev_14)
  all_goals (try unfold sx_lev_15)
  all_goals (try unfold sx_lev_16)
  repeat' (first
    | exact TrS.nil | exact TrL.nil | exact TrO.none | exact TrC.nil
    | apply TrS.cons | apply TrL.cons | apply TrO.some | apply TrC.one
    | exact Or.inl (by decide +kernel) | exact Or.inr (Or.inl (by decide +kernel)) | exact Or.inr (by decide +kernel) | exact Or.inr (Or.inr (by decide +kernel))
    | (show _ = _; first | with_reducible rfl | decide +kernel | rfl)
    | exact (show glob _ _ from (by unfold glob; decide +kernel))
    | exact ⟨_, _, rfl, rfl, by decide +kernel⟩
    | exact ⟨_, _, _, _, _, _, rfl, rfl, rfl, by decide +kernel, by decide +kernel⟩
    | (intro h; cases h; done)
    | (intro _; rfl) | (intro _ _; rfl) | (intro _ _ _; rfl)
    | (intro env hk hf; simp only [swapsWith, pure_bind, Env.blockKind, hf, hk]; first | rfl | (simp; done) | (decide +kernel))
    | (intro env hk hf; exact swapped2 hf (by rw [hk]; decide +kernel) (by rw [hk]; decide +kernel) rfl (by decide +kernel) rfl rfl rfl rfl)
    | (simp [gcon]; done)
    | (simp; done)
    | apply TrSt.asg | apply TrSt.asgB | apply TrSt.asgC | apply TrSt.asg2 | apply TrSt.asgD | apply TrSt.asg3 | apply TrSt.aug | apply TrSt.ifs | apply TrSt.fors | apply TrSt.whl | apply TrSt.ret | apply TrSt.app | apply TrSt.del | apply TrSt.sti | apply TrSt.asr | apply TrSt.hadd
    | apply Tr.nm | apply Tr.cst | apply Tr.gc | apply Tr.bin | apply Tr.cmp | apply Tr.chn | apply Tr.not | apply Tr.neg | apply Tr.one | apply Tr.and | apply Tr.or | apply Tr.ite | apply Tr.idx | apply Tr.slc | apply Tr.tup | apply Tr.lst | apply Tr.fn | apply Tr.star | apply Tr.bi | apply Tr.me | apply Tr.ga | apply Tr.comp | apply Tr.comp2
    | apply TrI.L | apply TrI.R | apply TrI.Z
    | constructor)
theorem ok_lev : FnOk .lev [25, 2, 26] ["a", "b", "max_cost"] where
  co := by rfl
  ge := by rfl
  kd := by rfl
  ids := by rfl
  nd := by decide +kernel
  lk := by decide +kernel
  bind := by
    intro fd vals hp hd hl
    obtain ⟨v0, v1, v2, rfl⟩ := len3 (l := vals) hl
    unfold bindArgs
    rw [hp, hd]
    rfl
noncomputable def an_lev : List PV → Option PV
  | [p0, p1, p2] => sm_lev (fun _ => none, rho0 [25, 2, 26] [p0, p1, p2])
  | _ => none
theorem has_lev {prog : Program} {w : World} {KK : Frag} (B : Bs prog w KK) : Has prog w KK .lev an_lev 7 :=
  call_has (n := 6) ok_lev (fun A rm => pb_lev (wd_of (S := S2) B (has_S2 B) rm) (B.hv A (rm.le (by decide))) ) fun ps r h => by
    unfold an_lev at h
    split at h
    · exact ⟨rfl, h⟩
    · cases h

end Mine

-- H1
namespace Mine
open PySem.Builtin PySem.Builtin.Re

theorem pa_pat : PlainAttrs "re.Pattern" :=
  ⟨⟨"object.__getattribute__", by rw [typeLookup_type, builtinLookup_eq_fast]; kernel_rfl, by decide +kernel⟩, by rw [typeLookup_type, builtinLookup_eq_fast]; kernel_rfl⟩
theorem slot_search : Slot "re.Pattern" "search" "re.Pattern.search" :=
  .of (owner := "re.Pattern") (n := "search") (by rw [typeLookup_type, builtinLookup_eq_fast]; kernel_rfl) (by decide +kernel) (by decide +kernel) (by decide +kernel)
    (by first | exact .inl (by decide +kernel) | exact .inr (by decide +kernel)) (by rw [isSubtype_type]; kernel_rfl)
theorem type_search : typeOf (.builtin "re.Pattern.search") = pure (.type "method_descriptor") := by show builtinType _ = _; rw [builtinType_eq_fast]; kernel_rfl
theorem entry_search : entryFor table "re.Pattern.search" = some Builtin.«re.Pattern.search» := entryFor_of_tree (by kernel_rfl)
theorem args_search (a b : Value) : argsOk "re.Pattern.search" ⟨[a, b], []⟩ := by unfold argsOk; kernel_rfl

section
variable {prog : Program} {w : World} {A : Around} {E : Value → Shared → Prop} {s : Shared}
theorem drv_ok : ∀ {n k : Nat} {m m' : Sre.M} {Q : Sre.M → Shared → Prop}, drv n m = some m' → n ≤ k → Q m' s → wpAny (model prog w) A (reDrive k m) Q E s
  | 0, _, _, _, _, h, _, _ => by cases h
  | n + 1, 0, _, _, _, _, h, _ => by omega
  | n + 1, k + 1, m, m', Q, h, hk, hq => by
    unfold drv at h
    unfold reDrive
    dsimp only
    split at h
    · rename_i hs
      cases h
      rw [if_pos hs]
      exact wpAny_pure hq
    · rename_i hs
      rw [if_neg hs]
      exact wpAny_bind (wpAny_rule (drv_ok h (by omega) hq))
theorem failed_is {o : Option Sre.M} (h : failedM o = true) : ∃ m, o = some m ∧ m.outcome = some .failed := by
  unfold failedM at h
  split at h
  · rename_i m
    refine ⟨m, rfl, ?_⟩
    split at h
    · assumption
    · cases h
  · cases h
theorem rules_ok (m : Sre.M) : ∀ (l : List Nat) {Q : PUnit → Shared → Prop}, Q ⟨⟩ s → wpAny (model prog w) A (forIn l PUnit.unit fun i _ => do
    if m.seen.has i then rule (Sre.names.getD i "")
    pure (ForInStep.yield PUnit.unit)) Q E s
  | [], Q, h => by rw [List.forIn_nil]; exact wpAny_pure h
  | i :: l, Q, h => by
    rw [List.forIn_cons]
    refine wpAny_bind ?_
    split
    · exact wpAny_bind (wpAny_rule (wpAny_pure (rules_ok m l h)))
    · exact wpAny_pure (rules_ok m l h)

theorem search_ok {p c : Addr} {o oc : Obj} {fs items : Array Value} {n : Nat} {x : Str} {t : Tok} {code : Array Nat} {Q : Value → Shared → Prop} (hT : s.TypeIs (.ref p) "re.Pattern") (ho : s.heap.get? p = some o) (hd : o.data = .fields fs) (h2 : reRawNat (fs.getD 2 .none) = 0) (h6 : reRawNat (fs.getD 6 .none) = 0)
    (h5 : fs.getD 5 .none = .ref c) (hc : s.heap.get? c = some oc) (hcd : oc.data = .seq items n) (hcode : (items.map reRawOf).map (·.toNat) = code) (hno : noMatch code x = true) (h : Q .none s) :
    wpAny (model prog w) A (call (.builtin "re.Pattern.search") [.ref p, .str x t]) Q E s := by
  refine wpAny_call_entry slot_search hT entry_search ?_ (args_search _ _)
  unfold «re.Pattern.search»
  refine wpAny_bind ?_
  unfold reTarget
  dsimp only
  refine wpAny_bind (wpAny_of_eq (a := [some (.str x t), none, none]) rfl ?_)
  dsimp only
  refine wpAny_bind (wpAny_pure (wpAny_bind (wpAny_pure (wpAny_bind (wpAny_fieldsOf ho hd (wpAny_bind (wpAny_of_eq (a := (x.cps, 0)) rfl ?_)))))))
  dsimp only
  rw [h6]
  simp only [show ((0 : Nat) == 1) = false from rfl, Bool.and_false, Bool.false_and, Bool.false_eq_true, if_false]
  refine wpAny_bind (wpAny_of_eq (a := ()) (by unfold reNoCollectionInside; rfl) ?_)
  rw [h5, h2]
  unfold reRawItems
  refine wpAny_bind (wpAny_bind (wpAny_seqItems hc hcd (wpAny_pure (wpAny_pure ?_))))
  dsimp only [Option.getD_some]
  unfold reAnswer
  refine wpAny_bind ?_
  unfold reRunToEnd
  unfold noMatch at hno
  obtain ⟨m, hm, hf⟩ := failed_is hno
  rw [hcode]
  refine wpAny_bind (drv_ok (n := 400) (m' := m) ?_ (by decide) ?_)
  · exact hm
  · refine wpAny_bind (rules_ok m _ ?_)
    rw [hf]
    exact wpAny_pure (wpAny_pure ⟨.none, rfl, h⟩)
end

example : noMatch codeN "drawn" = true := by kernel_rfl
example : noMatch codeV "drawn" = true := by kernel_rfl
example : noMatch codeN "a12" = true := by kernel_rfl
end Mine

-- H2
namespace Mine

noncomputable def cvtT : Arguments × List Stmt × Scope := fnIn (clsIn 1 (topAt 7))

section
variable {prog : Program} {w : World} {A : Around} {E : Value → Shared → Prop} {s : Shared} {KK : Frag}

theorem cvt_bind {fd : FuncData} {a v : Value} {b : Bool} (hp : fd.params = cvtT.1) (hd : fd.defaults = .none) : bindArgs fd ⟨[a, v], [("name", .bool b)]⟩ = pure ([("self", a), ("value", v), ("name", .bool b)] : List (Str × Value)) := by
  unfold bindArgs
  rw [hp, hd]
  rfl

theorem cvt_ok {a : Value} {x : Str} {t : Tok} {b : Bool} {Q : Value → Shared → Prop} (rm : Rm A 1) (gb : Gb KK s.heap) (hno : noMatch (if b then codeN else codeV) x = true)
    (hQ : ∀ h' tk, s.toks ≤ tk → Grow s.heap h' → Q (.str x t) { s with heap := h', toks := tk }) :
    wpAny (model prog w) A (call (.ref 83) [a, .str x t] [("name", .bool b)]) Q E s := by
  obtain ⟨o, fd, ho, hdat, hpar, hbody, hscope, hglob, hbui, hclo, hdef, hcode⟩ := gb.cv
  change fd.params = cvtT.1 at hpar
  change fd.body = .stmts cvtT.2.1 at hbody
  change fd.scope = cvtT.2.2 at hscope
  refine wpAny_call (call_cellsT (body := cvtT.2.1) (binds := [("self", a), ("value", .str x t), ("name", .bool b)]) (by have := rm.dp; omega) ho hdat gb.nl hcode hbody (cvt_bind hpar hdef) hclo ?_ (fun s₁ X ht => ?_) (by rw [hscope]; rfl) (by rw [hscope]; rfl) (by rw [hscope]; rfl))
  · intro y hy
    rw [hscope]
    simp only [List.mem_cons, List.not_mem_nil, or_false] at hy
    rcases hy with rfl | rfl | rfl
    · exact .inl (by show cvtT.2.2.names.lookup ("self" : Str) = _; decide +kernel)
    · exact .inl (by show cvtT.2.2.names.lookup ("value" : Str) = _; decide +kernel)
    · exact .inl (by show cvtT.2.2.names.lookup ("name" : Str) = _; decide +kernel)
  · generalize henv : callEnvC fd s.heap.objs.size 83 = env at X ⊢
    have hkO : env.kindOf = fun y => cvtT.2.2.names.lookup y := by rw [← henv]; funext y; simp only [Env.kindOf, callEnvC, newEnv, hscope]
    have hkind : env.scope.kind = .function := by rw [← henv]; simp only [callEnvC, newEnv, hscope]; rfl
    have hgl : env.globals = mainGlobals := by rw [← henv]; simp only [callEnvC, newEnv]; exact hglob
    have hbu : env.builtins = builtinsNs := by rw [← henv]; simp only [callEnvC, newEnv]; exact hbui
    have hcl : env.cells = [] := by rw [← henv]; simp only [callEnvC, newEnv, hscope]; rfl
    have ok : EnvOk env [env.locals] := ⟨hkind, hgl, hbu, by simp, fun y c hc => by rw [hcl] at hc; simp at hc, fun y hy => by
      rw [hkO] at hy
      exact absurd (mem_of_lookup hy) (by
        have : (cvtT.2.2.names.all fun p => p.2 != .cell) = true := by decide +kernel
        intro hm
        have := List.all_eq_true.mp this _ hm
        simp at this)⟩
    have kg : Grow s.heap s₁.heap := X.toInCall.keep
    have gb₁ := gb.grow kg
    have kl : ∀ y, cvtT.2.2.names.lookup y = some .local → env.kindOf y = some .local := fun y h => by rw [hkO]; exact h
    have kG : ∀ y, cvtT.2.2.names.lookup y = some .globalImplicit → env.kindOf y = some .globalImplicit := fun y h => by rw [hkO]; exact h
    have nsv := X.toInCall.ns
    obtain ⟨h₁, tk, hs₁⟩ := X.toInCall.same
    have nd : (([("self", a), ("value", .str x t), ("name", .bool b)] : List (Str × Value)).map (·.1)).Nodup := by show ([("self" : Str), "value", "name"] : List Str).Nodup; decide +kernel
    have hval : bindL env.kindOf [("self", a), ("value", .str x t), ("name", .bool b)] (fun _ => none) "value" = some (.str x t) := bindL_at _ _ nd (by simp) (kl _ (by decide +kernel))
    have hnam : bindL env.kindOf [("self", a), ("value", .str x t), ("name", .bool b)] (fun _ => none) "name" = some (.bool b) := bindL_at _ _ nd (by simp) (kl _ (by decide +kernel))
    have gB : ∀ {n : Str} {v : Value} {pos : Pos} {s' : Shared} {Q : Value → Shared → Prop} {E : Value → Shared → Prop}, Gb KK s'.heap → (n, v) ∈ gbui → cvtT.2.2.names.lookup n = some .globalImplicit → Q v s' → wpAny (model prog w) (A.deeper env) (eval (.Name n pos) env) Q E s' := fun g hm hk h =>
      glob_bui g ok hm (kG _ hk) (bui_dbg _ hm) h
    dsimp only [cvtT, fnIn, clsIn, topAt, PySem.Challenge.pw_uj0008_01, List.getElem?_cons_succ, List.getElem?_cons_zero]
    refine wpAny_execs_cons (wpAny_If (isTrue_cmp1 (wpAny_Call_NameR (gB (v := .type "type") gb₁ in_type (by decide +kernel) ?_)) rfl))
    refine PySem.callWith_type rfl (evalArgs_plain (Calls.spliced_cons (wpAny_Name (wpAny_loadName_local hkind (kl _ (by decide +kernel)) nsv hval (Calls.spliced_nil ?_)) (by decide +kernel))))
    refine call_type_of (typeIs_str _ _ _) (by decide) (test_last (gB (v := .type "str") gb₁ (bi_in .str) (by decide +kernel) (wpAny_is_self rfl (wpAny_truthy_bool ?_))))
    simp only [if_true]
    refine wpAny_execs_cons (wpAny_Assign_Name (IfExp_ (isTrue_plain (wpAny_Name (wpAny_loadName_local hkind (kl _ (by decide +kernel)) nsv hnam (wpAny_truthy_bool ?_)) (by decide +kernel)))) rfl)
    have rest : ∀ (p : Addr) (code : Array Nat) (R : Flow → Shared → Prop), PatAt s₁.heap p code → noMatch code x = true →
        (∀ h' tk, s₁.toks ≤ tk → Grow s.heap h' → R (.ret (.str x t)) { s with heap := h', toks := tk }) → ∀ (E' : Value → Shared → Prop) (ss : List Stmt), (∃ p1 p2 p3 p4 p5 p6 p7 p8 rz, ss = [.If (.Call (.Attribute (.Name "regex" p1) "search" p2) [.Name "value" p3] [] p4) rz [] p5, .Return (some (.Name "value" p6)) p7] ∧ (p2.endLine == p4.line) = true ∧ p8 = p7) →
        wpAny (model prog w) (A.deeper env) (storeName env "regex" (.ref p)) (fun _ s' => wpAny (model prog w) (A.deeper env) (execs ss env) R E' s') E' s₁ := by
      intro p code R hp hn hR E' ss hss
      obtain ⟨p1, p2, p3, p4, p5, p6, p7, p8, rz, rfl, hline, -⟩ := hss
      have hpw : (env.scope.kind == .class || (env.scope.kind == .module && env.locals != env.globals)) = false := by rw [hkind]; rfl
      refine wpAny_with_toks (n := s₁.toks) (Nat.le_refl _) (wpAny_storeName_local (kl _ (by decide +kernel)) nsv (fun h₂ hn₂ hs₂ ht₂ => ?_) hpw)
      have hpv : (fun y => if y = ("regex" : Str) then some (Value.ref p) else bindL env.kindOf [("self", a), ("value", .str x t), ("name", .bool b)] (fun _ => none) y) "value" = some (.str x t) := by
        show (if ("value" : Str) = ("regex" : Str) then _ else _) = _
        rw [if_neg (by decide +kernel)]; exact hval
      have hpr : (fun y => if y = ("regex" : Str) then some (Value.ref p) else bindL env.kindOf [("self", a), ("value", .str x t), ("name", .bool b)] (fun _ => none) y) "regex" = some (.ref p) := if_pos rfl
      obtain ⟨po, oc, fs, c, items, n, e1, e2, e3, e4, e5, e6, e7, e8, e9, e10⟩ := hp
      have npl : p ≠ env.locals := fun z => by
        obtain ⟨oL, es, ep, eL, dL, _⟩ := nsv
        rw [← z, e1] at eL; cases eL; rw [e4] at dL; cases dL
      have ncl : c ≠ env.locals := fun z => by
        obtain ⟨oL, es, ep, eL, dL, _⟩ := nsv
        rw [← z, e8] at eL; cases eL; rw [e9] at dL; cases dL
      have e1' := hs₂.extBut p _ npl e1
      have e8' := hs₂.extBut c _ ncl e8
      have hT : ({ s₁ with heap := h₂, toks := s₁.toks + 1 } : Shared).TypeIs (.ref p) "re.Pattern" := ⟨po, e1', e2⟩
      refine wpAny_execs_cons (wpAny_If (isTrue_plain (wpAny_Call_method rfl (by rfl) hline pa_pat slot_search type_search (wpAny_Name (wpAny_loadName_local hkind (kl _ (by decide +kernel)) hn₂ hpr ⟨hT, fun q hq => by cases hq; exact ⟨po, e1', e3⟩, ?_⟩) (by decide +kernel)))))
      refine callWith_builtin rfl (evalArgs_plain (Calls.spliced_cons (wpAny_Name (wpAny_loadName_local hkind (kl _ (by decide +kernel)) hn₂ hpv (Calls.spliced_nil ?_)) (by decide +kernel))))
      refine search_ok hT e1' e4 e5 e6 e7 e8' e9 e10 hn (truthy_none ?_)
      simp only [Bool.false_eq_true, if_false]
      refine wpAny_execs_nil (wpAny_execs_cons (wpAny_Return_some (wpAny_Name (wpAny_loadName_local hkind (kl _ (by decide +kernel)) hn₂ hpv ?_) (by decide +kernel))))
      rw [hs₁] at ht₂ ⊢
      refine hR h₂ _ ?_ ?_
      · have q : s₁.toks = tk := by rw [hs₁]
        rw [q]; exact Nat.le_succ _
      · intro b o e
        exact hs₂.extBut b o (fun z => by have := Heap.lt_size e; rw [z] at this; exact absurd this (Nat.not_lt.mpr X.toInCall.fresh)) (kg b o e)
    cases b with
    | true =>
      simp only [if_true] at hno ⊢
      refine glob_ref gb₁ ok (v := 48) (by simp [gref]) (kG _ (by decide +kernel)) (by decide +kernel) ?_
      exact rest 48 codeN _ gb₁.pn hno (fun h' tk' ht' k' => hQ h' tk' (Nat.le_trans ht ht') k') _ _ ⟨_, _, _, _, _, _, _, _, _, rfl, rfl, rfl⟩
    | false =>
      simp only [Bool.false_eq_true, if_false] at hno ⊢
      refine glob_ref gb₁ ok (v := 53) (by simp [gref]) (kG _ (by decide +kernel)) (by decide +kernel) ?_
      exact rest 53 codeV _ gb₁.pv hno (fun h' tk' ht' k' => hQ h' tk' (Nat.le_trans ht ht') k') _ _ ⟨_, _, _, _, _, _, _, _, _, rfl, rfl, rfl⟩
end
end Mine

-- H3
namespace Mine

/-- what of the top's class we need -/
structure KF (KK : Frag) : Prop where
  ga : findIn KK (.ref 182) "__getattribute__" = some (some (.builtin "object.__getattribute__"))
  gk : findIn KK (.ref 182) "__getattr__" = some none
  f1 : findIn KK (.ref 182) "get_all" = some (some (.ref 121))
  f2 : findIn KK (.ref 182) "add_header" = some (some (.ref 179))
  f3 : findIn KK (.ref 182) "_convert_string_type" = some (some (.ref 83))
  t1 : typeIn KK (.ref 121) = some (.type "function")
  t2 : typeIn KK (.ref 179) = some (.type "function")
  t3 : typeIn KK (.ref 83) = some (.type "function")
  hh : hasDictIn KK 182 = true
  fh : findIn KK (.ref 182) "_headers" = some none
  sa : findIn KK (.ref 182) "__setattr__" = some (some (.builtin "object.__setattr__"))
  po : plainOver KK 182 = true
  tk : takerIn KK 182 "_headers" = some none
  mi : makesIn KK 182 = true
  fi : findIn KK (.ref 182) "__init__" = some (some (.ref 76))
  ti : typeIn KK (.ref 76) = some (.type "function")

section
variable {prog : Program} {w : World} {A : Around} {E : Value → Shared → Prop} {s : Shared} {KK : Frag} {x dx a : Addr} {hs : Int} {t : Tok} {n : Nat}

theorem inst_at (e1 : s.heap.get? x = some (instObj HC dx)) (e2 : s.heap.get? dx = some (dictOf [⟨hs, .str (Str.ofString "_headers") t, .ref a⟩] n)) :
    PySem.W.InstAt s.heap x (instObj HC dx) HC (some (dictOf [⟨hs, .str (Str.ofString "_headers") t, .ref a⟩] n)) := ⟨e1, rfl, rfl, e2⟩

theorem meth_ok {name : Str} {f : Addr} {pl : Sem Bool} {Q : Value × List Value → Shared → Prop} (F : KF KK) (X : KK.In s.heap) (e1 : s.heap.get? x = some (instObj HC dx)) (e2 : s.heap.get? dx = some (dictOf [⟨hs, .str (Str.ofString "_headers") t, .ref a⟩] n))
    (hf : findIn KK (.ref 182) name = some (some (.ref f))) (ht : typeIn KK (.ref f) = some (.type "function")) (hne : ((Str.ofString "_headers") == name) = false) (h : Q (.ref f, [.ref x]) s) : wpAny (model prog w) A (getMethod (.ref x) name pl) Q E s := by
  refine method_fn X (inst_at e1 e2) F.ga F.gk hf ht ?_ h
  show (lookIn name _).map _ = _
  rw [lookIn_dict]
  unfold getL
  have : ((Value.str (Str.ofString "_headers") t).isStr name) = false := hne
  simp [this, DictEntry.refKey]
theorem attr_ok {Q : Value → Shared → Prop} {expr : Bool} (F : KF KK) (X : KK.In s.heap) (e1 : s.heap.get? x = some (instObj HC dx)) (e2 : s.heap.get? dx = some (dictOf [⟨hs, .str (Str.ofString "_headers") t, .ref a⟩] n))
    (h : Q (.ref a) { s with toks := s.toks + 1 }) : wpAny (model prog w) A (getAttr (.ref x) "_headers" expr) Q E s := by
  refine get_value X (inst_at e1 e2) F.ga (findObj_own F.hh F.fh rfl ?_) rfl h
  rw [lookIn_dict]
  unfold getL
  have : ((Value.str (Str.ofString "_headers") t).isStr "_headers") = true := by show ((Str.ofString "_headers") == (Str.ofString "_headers")) = true; simp
  simp [this]

theorem hm_of (F : KF KK) : Hm prog w KK := fun A E s T H Q v l pl gb rv h => by
  cases rv with
  | hdr e1 e2 e3 rl => exact meth_ok F gb.inn (hv_of e1) (hv_of e2) F.f1 F.t1 (by decide +kernel) h
end
end Mine

-- H4
namespace Mine

section
variable {prog : Program} {w : World} {A : Around} {S : SG} {KK : Frag} {K : KD} {env : Env} {H : List Addr} {s : Shared} {T : TM} {E : Value → Shared → Prop}

theorem callMk_rule {o : Expr} {name : Str} {apos pos : Pos} {args : List Expr} {kws : List Keyword} {Q : Value → Shared → Prop}
    (hbase : attributeBase o name env (eval o env) = eval o env)
    (hfew : methodCallForm (args.length + kws.length) (backTo pos (starEach args env)) (backToKw pos (keywordEach kws env)) = true)
    (hline : (apos.endLine == pos.line) = true)
    (h : wpAny (model prog w) A (eval o env) (fun ov s₁ => ∀ pl, wpAny (model prog w) A (getMethod ov name pl) (fun fx s₂ => wpAny (model prog w) A (callWith pos fx.1 fx.2 (backTo pos (starEach args env)) (backToKw pos (keywordEach kws env))) Q E s₂) E s₁) E s) :
    wpAny (model prog w) A (eval (.Call (.Attribute o name apos) args kws pos) env) Q E s := by
  rw [arm_eval_Call, hbase]
  refine wpAny_bind (wpAny_mono h (fun ov s₁ h₁ => ?_) fun _ _ e => e)
  refine wpAny_bind (wpAny_standAt ?_)
  have hpos : methodCallPos true o env apos pos = pure pos := by unfold methodCallPos; simp [hline]
  unfold methodCall
  rw [hfew]
  refine wpAny_bind (wpAny_holding (wpAny_mono (h₁ _) (fun fx s₂ h₂ => ?_) fun _ _ e => e))
  exact wpAny_bind (wpAny_of_eq hpos h₂)

/-- self._convert_string_type(e, name=b) -/
theorem cvt_expr {x dx a : Addr} {hs : Int} {tk : Tok} {n : Nat} {e : Expr} {y : Str} {b : Bool} {p1 p2 p3 kp kpp : Pos} {k : Nat} (F : KF KK) (rm : Rm A 1) (gb : Gb KK s.heap) (hk : env.scope.kind = .function) (hself : NmAt env s.heap "self" (.ref x)) (e1 : s.heap.get? x = some (instObj HC dx))
    (e2 : s.heap.get? dx = some (dictOf [⟨hs, .str (Str.ofString "_headers") tk, .ref a⟩] n)) (he : Ok (model prog w) A (eval e env) s T (fun v g => ∃ t, v = .str y t)) (hstar : noStar e = true) (hno : noMatch (if b then codeN else codeV) y = true) (hl : (p2.endLine == p3.line) = true) :
    Ok (model prog w) A (eval (.Call (.Attribute (.Name "self" p1) "_convert_string_type" p2) [e] [⟨some "name", .Constant (.bool b) k kp, kpp⟩] p3) env) s T (fun v g => ∃ t, v = .str y t) := fun E => by
  refine callMk_rule rfl (by rw [starEach_cons hstar]; rfl) hl (hself.load hk (by decide +kernel) fun pl => meth_ok F gb.inn e1 e2 F.f3 F.t3 (by decide +kernel) ?_)
  obtain ⟨o, fd, ho, hd, _⟩ := gb.cv
  refine callWith_function_kw (o := o) (fd := fd) ?_
  rw [starEach_cons hstar]
  refine evalArgs_kw rfl (Calls.spliced_cons (he.wp fun v s₁ T₁ hv g₁ t₁ => Calls.spliced_nil ?_))
  obtain ⟨t, rfl⟩ := hv
  have k₁ := keeps_grow g₁.k
  refine wpAny_evalAll_cons (wpAny_bind (Constant_bool (wpAny_bind (wpAny_standAt (wpAny_pure (wpAny_evalAll_nil ⟨⟨k₁ _ _ ho, hd⟩, ?_⟩))))))
  exact cvt_ok (a := .ref x) rm (gb.grow k₁) hno fun h' tk' ht' k' => ⟨T₁, ⟨t, rfl⟩, g₁.trans ⟨keeps_of k', TExt.refl _, TNew.refl _ _⟩ ht'⟩

noncomputable def xGc : X := .cmp .Eq (.me .lower (.idx (.nm 97) (.cst (.int 0))) .nil) (.nm 87)
noncomputable def xGe : X := .idx (.nm 97) (.cst (.int 1))
noncomputable def gaF (ρ : Rho) : List PV → Option (List PV) := fun ps => condV (ev S0 xGc ((Tg.one 97).bind ps ((Tg.one 97).clear ρ))) (ev S0 xGe ((Tg.one 97).bind ps ((Tg.one 97).clear ρ)))
noncomputable def smG : Sta → Option PV := fun st => match st.2 96, st.2 87 with
  | some (.hdr l), some (.str x) => match meP .lower (.str x) [] with
    | some (.str y) => if (st.1 87).isNone && noMatch codeN y then match runC (gaF (upd st.2 87 (some (.str y)))) (l.map fun p => [p]) with | some rs => okLen rs | none => none else none
    | _ => none
  | _, _ => none

theorem pb_geta (F : KF KK) (rm : Rm A 5) (W : Wd prog w A S0 KK) : Pb prog w A KK (fun x => (fnOf .geta).2.2.names.lookup x) (fnOf .geta).2.1 smG := fun env H h₀ O st s T r iv hs E => by
  unfold smG at hs
  split at hs
  · rename_i l x hself hname
    split at hs
    · rename_i y hy
      split at hs
      · rename_i hc
        simp only [Bool.and_eq_true] at hc
        split at hs
        · rename_i rs hrs
          obtain ⟨rfl, hz⟩ := okLen_is hs
          have hkself : env.kindOf "self" = some .local := by rw [iv.k]; decide +kernel
          have hkname : env.kindOf "name" = some .cell := by rw [iv.k]; decide +kernel
          obtain ⟨sv, ns, rsv⟩ := iv.r 96 "self" _ rfl (.inl hkself) hself
          obtain ⟨nv, nn, rnv⟩ := iv.r 87 "name" _ rfl (.inr (.inl hkname)) hname
          cases rnv
          cases rsv with
          | hdr e1 e2 e3 rl =>
            dsimp only [fnOf, fnIn, clsIn, topAt, PySem.Challenge.pw_uj0008_01, List.getElem?_cons_succ, List.getElem?_cons_zero]
            have gb := iv.gb.grow iv.base
            refine wpAny_execs_cons (wpAny_Assign_Name ((cvt_expr (T := T) (b := true) (y := y) F (rm.le (by decide)) gb iv.ok.kind ns (hv_of e1) (hv_of e2) ?_ rfl (by rw [if_pos rfl]; exact hc.2) rfl).wp fun v s₁ T₁ hv g₁ t₁ => ?_) rfl)
            · refine Ok.mono ((sound W (Tr.me (m := .lower) (xo := .nm 87) (x := .nil) rfl (Tr.nm rfl (Or.inr (Or.inl (by decide +kernel)))) (fun _ => rfl) rfl (by simp) TrL.nil)).1 env _ s T st.2 (.str y) iv.cxA ?_) (fun v g _ rv => by cases rv; exact ⟨_, rfl⟩)
              simp only [ev, hname, hy]
            · obtain ⟨t, rfl⟩ := hv
              refine (iv.step g₁ t₁).store (i := 87) rfl (.inr (by decide +kernel)) (opt_none hc.1) (.str y t) fun s₂ cg₂ kx₂ iv₂ => ?_
              have cx := iv₂.cxA
              have hself₂ : upd st.2 87 (some (.str y)) 96 = some (.hdr l) := by rw [upd_ne (by decide)]; exact hself
              obtain ⟨sv₂, ns₂, rsv₂⟩ := iv₂.r 96 "self" _ rfl (.inl hkself) hself₂
              have it : ∀ {tt : Expr} {p1 p2 : Pos}, (∃ n px, tt = .Name n px) → ItOk prog w A env (O.ad ++ H) s₂ T₁ tt (.Attribute (.Name "self" p1) "_headers" p2) (.one 97) (l.map fun p => [p]) := fun {tt p1 p2} htt E => by
                cases rsv₂ with
                | hdr e1' e2' e3' rl' =>
                  refine Attribute_name (ns₂.load iv.ok.kind (by decide +kernel) (attr_ok F cx.gb.inn (hv_of e1') (hv_of e2') ?_))
                  have g' := Goes.tok s₂ T₁ (s₂.toks + 1)
                  exact wpAny_with_toks (Nat.le_refl _) (iter_L W.hh (cx.step g' (Nat.le_succ _)).l htt (Rep.grow g'.le.hv (.lst e3' rl')) fun it s₃ tn tk => ⟨_, T₁, g', Nat.le_succ _, tk, tn⟩)
              refine wpAny_execs_cons (wpAny_Return_some ((ListComp1_ok (tg := .one 97) (F := gaF (upd st.2 87 (some (.str y)))) W.hh cx.ok rfl ?_ ⟨_, _, rfl, rfl, ?_⟩ (fun _ => rfl) (it ⟨_, _, rfl⟩) cx.l cx.d cx.r hrs (Nat.le_trans hz (by decide))
                (fun C H' s' T' ps qs _ hF okc he' hd hL hg E' => elt_of (tgs := (Tg.one 97).names) cx rfl ?_ (soundC W (TrC.one (x := xGc) ?_)) (sound W (x := xGe) ?_).1 hF okc he' hd hL hg E')).wp fun v s₃ T₃ rv g₃ t₃ => ?_))
              · rw [cx.k]; decide +kernel
              · rw [cx.k]; decide +kernel
              · decide +kernel
              · unfold xGc; (repeat' (first
    | exact TrS.nil | exact TrL.nil | exact TrO.none | exact TrC.nil
    | apply TrS.cons | apply TrL.cons | apply TrO.some | apply TrC.one
    | exact Or.inl (by decide +kernel) | exact Or.inr (Or.inl (by decide +kernel)) | exact Or.inr (by decide +kernel) | exact Or.inr (Or.inr (by decide +kernel))
    | (show _ = _; first | with_reducible rfl | decide +kernel | rfl)
    | exact ⟨_, _, rfl, rfl, by decide +kernel⟩
    | (intro h; cases h; done)
    | (intro _; rfl) | (intro _ _; rfl) | (intro _ _ _; rfl)
    | (simp; done)
    | apply TrSt.asg | apply TrSt.asgB | apply TrSt.asgC | apply TrSt.asg2 | apply TrSt.asgD | apply TrSt.asg3 | apply TrSt.aug | apply TrSt.ifs | apply TrSt.fors | apply TrSt.whl | apply TrSt.ret | apply TrSt.app | apply TrSt.del | apply TrSt.sti | apply TrSt.asr | apply TrSt.hadd
    | apply Tr.nm | apply Tr.cst | apply Tr.gc | apply Tr.bin | apply Tr.cmp | apply Tr.chn | apply Tr.not | apply Tr.neg | apply Tr.one | apply Tr.and | apply Tr.or | apply Tr.ite | apply Tr.idx | apply Tr.slc | apply Tr.tup | apply Tr.lst | apply Tr.fn | apply Tr.star | apply Tr.bi | apply Tr.me | apply Tr.ga | apply Tr.comp | apply Tr.comp2
    | apply TrI.L | apply TrI.R | apply TrI.Z
    | constructor))
              · unfold xGe; (repeat' (first
    | exact TrS.nil | exact TrL.nil | exact TrO.none | exact TrC.nil
    | apply TrS.cons | apply TrL.cons | apply TrO.some | apply TrC.one
    | exact Or.inl (by decide +kernel) | exact Or.inr (Or.inl (by decide +kernel)) | exact Or.inr (by decide +kernel) | exact Or.inr (Or.inr (by decide +kernel))
    | (show _ = _; first | with_reducible rfl | decide +kernel | rfl)
    | exact ⟨_, _, rfl, rfl, by decide +kernel⟩
    | (intro h; cases h; done)
    | (intro _; rfl) | (intro _ _; rfl) | (intro _ _ _; rfl)
    | (simp; done)
    | apply TrSt.asg | apply TrSt.asgB | apply TrSt.asgC | apply TrSt.asg2 | apply TrSt.asgD | apply TrSt.asg3 | apply TrSt.aug | apply TrSt.ifs | apply TrSt.fors | apply TrSt.whl | apply TrSt.ret | apply TrSt.app | apply TrSt.del | apply TrSt.sti | apply TrSt.asr | apply TrSt.hadd
    | apply Tr.nm | apply Tr.cst | apply Tr.gc | apply Tr.bin | apply Tr.cmp | apply Tr.chn | apply Tr.not | apply Tr.neg | apply Tr.one | apply Tr.and | apply Tr.or | apply Tr.ite | apply Tr.idx | apply Tr.slc | apply Tr.tup | apply Tr.lst | apply Tr.fn | apply Tr.star | apply Tr.bi | apply Tr.me | apply Tr.ga | apply Tr.comp | apply Tr.comp2
    | apply TrI.L | apply TrI.R | apply TrI.Z
    | constructor))
              · have l' : Le (hv (O.ad ++ H) (gs s₃ T₃)) (hv H (gs s₃ T₃)) := ⟨hv_sub fun b hb => List.mem_append_right _ hb, TExt.refl _⟩
                exact ⟨T₃, v, rfl, ((Cg.of g₁ t₁).trans cg₂).trans (Cg.of g₃ t₃), iv₂.base.trans (keeps_grow g₃.k), rv.grow l'⟩
        · cases hs
      · cases hs
    · cases hs
  · cases hs
end

theorem ok_geta : FnOk .geta [96, 87] ["self", "name"] where
  co := by rfl
  ge := by rfl
  kd := by rfl
  ids := by rfl
  nd := by decide +kernel
  lk := by decide +kernel
  bind := by
    intro fd vals hp hd hl
    obtain ⟨v0, v1, rfl⟩ := len2 (l := vals) hl
    unfold bindArgs
    rw [hp, hd]
    rfl
noncomputable def an_geta : List PV → Option PV
  | [p, q] => smG (fun _ => none, rho0 [96, 87] [p, q])
  | _ => none
theorem has_geta {prog : Program} {w : World} {KK : Frag} (F : KF KK) (B : Bs prog w KK) : Has prog w KK .geta an_geta 6 :=
  call_has (n := 5) ok_geta (fun A rm => pb_geta F rm (wd_of B (fun f => has_none) rm)) fun ps r h => by
    unfold an_geta at h
    split at h
    · exact ⟨rfl, h⟩
    · cases h
end Mine

-- H5
namespace Mine

noncomputable def ahT : Arguments × List Stmt × Scope := fnIn (clsIn 16 (topAt 7))
noncomputable abbrev dObj : Obj := { cls := .type "dict", data := .dict #[] }
noncomputable abbrev ahB (a b c : Value) (d : Addr) : List (Str × Value) := [("self", a), ("_name", b), ("_value", c), ("_params", .ref d)]

section
variable {prog : Program} {w : World} {A : Around} {E : Value → Shared → Prop} {s : Shared} {KK : Frag}

theorem ah_bind {M : Model} {fd : FuncData} {a b c : Value} {Q : List (Str × Value) → Shared → Prop} (hp : fd.params = ahT.1) (hd : fd.defaults = .none)
    (h : Q (ahB a b c s.heap.objs.size) { s with heap := s.heap.push dObj }) : wpAny M A (bindArgs fd ⟨[a, b, c], []⟩) Q E s := by
  unfold bindArgs
  rw [hp, hd]
  show wpAny M A (alloc dObj >>= fun d => pure (ahB a b c d)) Q E s
  exact wpAny_bind (wpAny_alloc (wpAny_pure h))

theorem ah_call {a b c : Value} {Q : Value → Shared → Prop} {o : Obj} {fd : FuncData} (hroom : A.depth < recursionLimit) (ho : s.heap.get? 179 = some o) (hdata : o.data = .func fd) (hlim : s.heap.NoLimit) (hcd : s.heap.CodeRec fd.code fd.qualname)
    (hbody : fd.body = .stmts ahT.2.1) (hscope : fd.scope = ahT.2.2) (hpar : fd.params = ahT.1) (hdef : fd.defaults = .none) (hclo : fd.closure = [])
    (h : ∀ L, L = s.heap.objs.size + 1 → ∀ s₁, InCallC { s with heap := s.heap.push dObj } (callEnvC fd L 179).locals (bindL (callEnvC fd L 179).kindOf (ahB a b c s.heap.objs.size) fun _ => none) (callEnvC fd L 179).cells (bindC (callEnvC fd L 179).kindOf (ahB a b c s.heap.objs.size) fun _ => none) s₁ → s.toks ≤ s₁.toks →
      ∀ E', wpAny (model prog w) (A.deeper (callEnvC fd L 179)) (execs ahT.2.1 (callEnvC fd L 179)) (fun f s' => Q (match f with | .ret v => v | _ => .none) s') E' s₁) :
    wpAny (model prog w) A (call (.ref 179) [a, b, c]) Q E s := by
  refine wpAny_call (codeAny_call_function hroom ho hdata (by rw [hscope]; rfl) (by rw [hscope]; rfl) hbody hcd ?_)
  rw [hclo]
  refine ah_bind hpar hdef ?_
  refine wpAny_with_toks (n := s.toks) (Nat.le_refl _) (wpAny_newFunctionEnv_cells (by rw [hscope]; rfl) ?_ fun env he s' x ht => ?_)
  · intro y hy
    rw [hscope]
    simp only [ahB, List.mem_cons, List.not_mem_nil, or_false] at hy
    rcases hy with rfl | rfl | rfl | rfl
    · exact .inl (by show ahT.2.2.names.lookup ("self" : Str) = _; decide +kernel)
    · exact .inl (by show ahT.2.2.names.lookup ("_name" : Str) = _; decide +kernel)
    · exact .inl (by show ahT.2.2.names.lookup ("_value" : Str) = _; decide +kernel)
    · exact .inl (by show ahT.2.2.names.lookup ("_params" : Str) = _; decide +kernel)
  · subst he
    have hsz : (s.heap.push dObj).objs.size = s.heap.objs.size + 1 := Heap.size_push ..
    refine ⟨(hlim.keeps fun b o e => Heap.get?_push_of_some _ e).keeps x.toInCall.keep, codeAny_func ?_⟩
    have := h ((s.heap.push dObj).objs.size) hsz s' x ht
    exact this _

/-- where add_header's walk stands -/
structure AhAt (env : Env) (s₀ : Shared) (m : Str → Option Value) (s : Shared) : Prop where
  ns : s.heap.Ns env.locals m
  k : ∃ h tk, s = { s₀ with heap := h, toks := tk }
  g : Grow s₀.heap s.heap
  t : s₀.toks ≤ s.toks

theorem AhAt.store {M : Model} {B : Around} {env : Env} {s₀ : Shared} {m : Str → Option Value} {y : Str} {v : Value} {Q : Unit → Shared → Prop} (X : AhAt env s₀ m s) (hk : env.scope.kind = .function) (hy : env.kindOf y = some .local) (hf : s₀.heap.get? env.locals = none)
    (h : ∀ s', AhAt env s₀ (fun z => if z = y then some v else m z) s' → Heap.SameBut env.locals s.heap s'.heap → Q () s') : wpAny M B (storeName env y v) Q E s := by
  refine wpAny_with_toks (n := s.toks) (Nat.le_refl _) (wpAny_storeName_local hy X.ns (fun h' hn' hs' ht' => ?_) (by rw [hk]; rfl))
  refine h _ ⟨hn', ?_, fun b o e => hs'.extBut b o (fun z => by rw [z, hf] at e; cases e) (X.g b o e), Nat.le_trans X.t ht'⟩ hs'
  obtain ⟨h₁, tk, rfl⟩ := X.k
  exact ⟨h', _, rfl⟩
theorem AhAt.goes {env : Env} {s₀ : Shared} {m : Str → Option Value} {s' : Shared} {T T' : TM} (X : AhAt env s₀ m s) (g : Goes s T s' T') (t : s.toks ≤ s'.toks) : AhAt env s₀ m s' := by
  have k := keeps_grow g.k
  refine ⟨X.ns.at' fun o e => k _ o e, ?_, X.g.trans k, Nat.le_trans X.t t⟩
  obtain ⟨h₁, tk, rfl⟩ := X.k
  obtain ⟨h₂, tk₂, rfl, _⟩ := g.k
  exact ⟨h₂, tk₂, rfl⟩

set_option maxHeartbeats 1000000 in
theorem ah_body {x dx a : Addr} {hs : Int} {t : Tok} {n : Nat} {vs : List Value} {nm vl : Str} {u v : Tok} {env : Env} {d : Addr} {s₀ : Shared} {m : Str → Option Value} {Q : Flow → Shared → Prop} (F : KF KK) (rm : Rm A 2) (hkO : env.kindOf = fun y => ahT.2.2.names.lookup y) (ok : EnvOk env [env.locals]) (hf : s₀.heap.get? env.locals = none) (gb : Gb KK s₀.heap)
    (X : AhAt env s₀ m s) (hd : s.heap.get? d = some dObj) (hdL : d ≠ env.locals) (hdS : (d == sysModules) = false) (m1 : m "self" = some (.ref x)) (m2 : m "_name" = some (.str nm u)) (m3 : m "_value" = some (.str vl v)) (m4 : m "_params" = some (.ref d))
    (e1 : s₀.heap.get? x = some (instObj HC dx)) (e2 : s₀.heap.get? dx = some (dictOf [⟨hs, .str (Str.ofString "_headers") t, .ref a⟩] n)) (hpl : s₀.heap.PlainList a vs.toArray) (hlen : vs.length ≤ 1000)
    (hn : noMatch codeN nm = true) (hv : noMatch codeV vl = true) (hj : joinSame vl = true)
    (hQ : ∀ b h' tk, s₀.toks ≤ tk → GrowX [a] s₀.heap h' → h'.PlainList a (List.toArray (vs ++ [Value.ref b])) → s₀.heap.get? b = none → (∃ u' v', PlainTup h' b #[.str nm u', .str vl v']) → Q .next { s₀ with heap := h', toks := tk }) :
    wpAny (model prog w) A (execs ahT.2.1 env) Q E s := by
  have kl : ∀ y, ahT.2.2.names.lookup y = some .local → env.kindOf y = some .local := fun y h => by rw [hkO]; exact h
  have hkf := ok.kind
  have ld : ∀ {y : Str} {pos : Pos} {vv : Value} {m' : Str → Option Value} {s' : Shared} {Q' : Value → Shared → Prop} {E' : Value → Shared → Prop}, AhAt env s₀ m' s' → ahT.2.2.names.lookup y = some .local → (y == ("__debug__" : Str)) = false → m' y = some vv → Q' vv s' → wpAny (model prog w) A (eval (.Name y pos) env) Q' E' s' := fun X' hy hdb hm h =>
    wpAny_Name (wpAny_loadName_local hkf (kl _ hy) X'.ns hm h) hdb
  let T : TM := fun _ => none
  dsimp only [ahT, fnIn, clsIn, topAt, PySem.Challenge.pw_uj0008_01, List.getElem?_cons_succ, List.getElem?_cons_zero]
  -- parts = []
  refine wpAny_execs_cons (wpAny_Assign_Name (List_ (wpAny_items_nil (wpAny_newObj_type ?_))) rfl)
  have g1 : Goes s T { s with heap := s.heap.push { cls := .type "list", data := .seq ([] : List Value).toArray } } T := Goes.of T (keeps_of (tk := s.toks) fun b o e => Heap.get?_push_of_some _ e)
  have X1 := X.goes g1 (Nat.le_refl _)
  have p1 : ({ s with heap := s.heap.push { cls := .type "list", data := .seq ([] : List Value).toArray } } : Shared).heap.PlainList s.heap.objs.size #[] := ⟨0, Heap.get?_push_size _ rfl⟩
  have pL : s.heap.objs.size ≠ env.locals := Nat.ne_of_gt X.ns.lt
  refine X1.store hkf (kl _ (by decide +kernel)) hf fun s2 X2 sb2 => ?_
  have p2 := p1.at fun o e => sb2.extBut _ o pL e
  have d2 : s2.heap.get? d = some dObj := sb2.extBut _ _ hdL (Heap.get?_push_of_some _ hd)
  have self2 : NmAt env s2.heap "self" (.ref x) := .inl ⟨kl _ (by decide +kernel), _, X2.ns, by show (if ("self" : Str) = ("parts" : Str) then _ else _) = _; rw [if_neg (by decide +kernel)]; exact m1⟩
  have val2 : (fun z => if z = ("parts" : Str) then some (Value.ref s.heap.objs.size) else m z) "_value" = some (.str vl v) := by show (if ("_value" : Str) = ("parts" : Str) then _ else _) = _; rw [if_neg (by decide +kernel)]; exact m3
  -- if _value is not None
  refine wpAny_execs_cons (wpAny_If (isTrue_cmp1 (ld X2 (by decide +kernel) (by decide +kernel) val2 (test_last (Constant_none (wpAny_isNot_other rfl (by simp) (wpAny_truthy_bool ?_))))) rfl))
  simp only [if_true]
  refine wpAny_execs_cons (wpAny_Assign_Name ((cvt_expr (T := T) (b := false) (y := vl) F (rm.le (by decide)) (gb.grow X2.g) hkf self2 (X2.g _ _ e1) (X2.g _ _ e2) (fun E' => ld X2 (by decide +kernel) (by decide +kernel) val2 ⟨T, ⟨v, rfl⟩, Goes.refl _ _⟩) rfl (by rw [if_neg (by decide)]; exact hv) rfl).wp fun v3 s3 T3 hv3 g3 t3 => ?_) rfl)
  obtain ⟨v', rfl⟩ := hv3
  have X3 := X2.goes g3 t3
  refine X3.store hkf (kl _ (by decide +kernel)) hf fun s4 X4 sb4 => ?_
  have p4 : s4.heap.PlainList s.heap.objs.size #[] := (p2.at fun o e => keeps_grow g3.k _ _ e).at fun o e => sb4.extBut _ o pL e
  have d4 : s4.heap.get? d = some dObj := sb4.extBut _ _ hdL (keeps_grow g3.k _ _ d2)
  have hint : interactive env = false := by unfold interactive; rw [hkf]; rfl
  have val4 : (fun z => if z = ("_value" : Str) then some (Value.str vl v') else (fun z => if z = ("parts" : Str) then some (Value.ref s.heap.objs.size) else m z) z) "_value" = some (.str vl v') := if_pos rfl
  have par4 : (fun z => if z = ("_value" : Str) then some (Value.str vl v') else (fun z => if z = ("parts" : Str) then some (Value.ref s.heap.objs.size) else m z) z) "parts" = some (.ref s.heap.objs.size) := by
    show (if ("parts" : Str) = ("_value" : Str) then _ else (if ("parts" : Str) = ("parts" : Str) then _ else _)) = _
    rw [if_neg (by decide +kernel), if_pos rfl]
  have T4 : s4.TypeIs (.ref s.heap.objs.size) "list" := by obtain ⟨nn, e⟩ := p4; exact ⟨_, e, rfl⟩
  have D4 : ∀ b, Value.ref s.heap.objs.size = .ref b → ∃ ob, s4.heap.get? b = some ob ∧ ob.dict = none := fun b hb => by cases hb; obtain ⟨nn, e⟩ := p4; exact ⟨_, e, rfl⟩
  refine wpAny_execs_cons (wpAny_Expr (wpAny_Call_method rfl (by rfl) rfl PySem.F.plainAttrs_list PySem.F.slot_list_append PySem.F.type_list_append (ld X4 (by decide +kernel) (by decide +kernel) par4 ⟨T4, D4, ?_⟩)) hint rfl)
  refine callWith_builtin rfl (evalArgs_plain (Calls.spliced_cons (ld X4 (by decide +kernel) (by decide +kernel) val4 (Calls.spliced_nil (wpAny_list_append_plain p4 fun h5 p5 sb5 => ?_)))))
  have n0 : s₀.heap.get? s.heap.objs.size = none := by
    cases q : s₀.heap.get? s.heap.objs.size with
    | none => rfl
    | some o => have := X.g _ _ q; rw [size_none] at this; cases this
  have X5 : AhAt env s₀ (fun z => if z = ("_value" : Str) then some (Value.str vl v') else (fun z => if z = ("parts" : Str) then some (Value.ref s.heap.objs.size) else m z) z) { s4 with heap := h5 } := by
    refine ⟨X4.ns.sameBut sb5 (Ne.symm pL), ?_, fun b o e => sb5.extBut b o (fun z => by rw [z, n0] at e; cases e) (X4.g b o e), X4.t⟩
    obtain ⟨hh, tk, rfl⟩ := X4.k
    exact ⟨h5, tk, rfl⟩
  have d5 : h5.get? d = some dObj := sb5.extBut _ _ (fun z => by
    obtain ⟨nn, e⟩ := p4
    rw [← z, d4] at e
    simp [dObj] at e) d4
  refine wpAny_execs_nil ?_
  -- for k, v in _params.items()
  have prm : (fun z => if z = ("_value" : Str) then some (Value.str vl v') else (fun z => if z = ("parts" : Str) then some (Value.ref s.heap.objs.size) else m z) z) "_params" = some (.ref d) := by
    show (if ("_params" : Str) = ("_value" : Str) then _ else (if ("_params" : Str) = ("parts" : Str) then _ else _)) = _
    rw [if_neg (by decide +kernel), if_neg (by decide +kernel)]; exact m4
  have DA : Heap.DictAt (PySem.strKind prog w) h5 d [] 0 := ⟨dObj, #[], d5, ⟨rfl, rfl, rfl⟩, rfl, (by intro e he; simp at he), .nil, List.nodup_nil⟩
  let m5 : Str → Option Value := fun z => if z = ("_value" : Str) then some (Value.str vl v') else (fun z => if z = ("parts" : Str) then some (Value.ref s.heap.objs.size) else m z) z
  have X5' : AhAt env s₀ m5 { s4 with heap := h5 } := X5
  refine wpAny_execs_cons (wpAny_mono (wpAny_toks (wpAny_For_items_locals (knd := PySem.strKind prog w) (E := fun _ _ => False) (kvs := []) (J := fun _ m' => m' = m5)
    (Q := fun f s' => f = .next ∧ (∃ h' tk, s' = { s4 with heap := h', toks := tk }) ∧ s'.heap.Ns env.locals m5 ∧ ∀ b o, b ≠ env.locals → h5.get? b = some o → s'.heap.get? b = some o)
    rm.hh (kl _ (by decide +kernel)) (kl _ (by decide +kernel)) (by rw [hkf]; rfl) hdL hdS DA X5.ns rfl rfl (fun Q' hq => ld X5 (by decide +kernel) (by decide +kernel) prm hq) rfl (fun i k v key m₁ s₁ he => by simp at he) (fun h' tk m' hn' hm' hk' => ⟨rfl, ⟨h', tk, rfl⟩, hm' ▸ hn', hk'⟩) (fun _ => rfl) PassesOwn.never)) (fun f s6 h6 => ?_) fun _ _ h => h.2.elim)
  obtain ⟨htk6, rfl, ⟨h6, tk6, rfl⟩, ns6, k6⟩ := h6
  have X6 : AhAt env s₀ m5 { s4 with heap := h6, toks := tk6 } := by
    refine ⟨ns6, ?_, fun b o e => k6 b o (fun z => by rw [z, hf] at e; cases e) (X5.g b o e), Nat.le_trans X4.t htk6⟩
    obtain ⟨hh, tk', hh4⟩ := X4.k
    rw [hh4]
    exact ⟨h6, tk6, rfl⟩
  have p6 : h6.PlainList s.heap.objs.size [Value.str vl v'].toArray := by
    have p5' : h5.PlainList s.heap.objs.size [Value.str vl v'].toArray := by simpa using p5
    exact p5'.at fun o e => k6 _ o pL e
  have ej : meP .join (.str "; ") [.lst [.str vl]] = some (.str vl) := by
    unfold joinSame at hj
    split at hj
    · rename_i y hy
      have : y = vl := by simpa using hj
      subst this; exact hy
    · cases hj
  have self6 : m5 "self" = some (.ref x) := by
    show (if ("self" : Str) = ("_value" : Str) then _ else (if ("self" : Str) = ("parts" : Str) then _ else _)) = _
    rw [if_neg (by decide +kernel), if_neg (by decide +kernel)]; exact m1
  have name6 : m5 "_name" = some (.str nm u) := by
    show (if ("_name" : Str) = ("_value" : Str) then _ else (if ("_name" : Str) = ("parts" : Str) then _ else _)) = _
    rw [if_neg (by decide +kernel), if_neg (by decide +kernel)]; exact m2
  have gb6 : Gb KK h6 := gb.grow X6.g
  have a6 : h6.PlainList a vs.toArray := hpl.at fun o e => X6.g _ _ e
  have Ta : ∀ tk', ({ s4 with heap := h6, toks := tk' } : Shared).TypeIs (.ref a) "list" := fun tk' => by obtain ⟨nn, e⟩ := a6; exact ⟨_, e, rfl⟩
  have Da : ∀ b, Value.ref a = .ref b → ∃ ob, h6.get? b = some ob ∧ ob.dict = none := fun b hb => by cases hb; obtain ⟨nn, e⟩ := a6; exact ⟨_, e, rfl⟩
  refine wpAny_execs_cons (wpAny_Expr (wpAny_Call_method rfl (by rfl) rfl PySem.F.plainAttrs_list PySem.F.slot_list_append PySem.F.type_list_append (Attribute_name (ld X6 (by decide +kernel) (by decide +kernel) self6 (attr_ok F gb6.inn (X6.g _ _ e1) (X6.g _ _ e2) ⟨Ta _, Da, ?_⟩)))) hint rfl)
  have g7 := Goes.tok { s4 with heap := h6, toks := tk6 } T (tk6 + 1)
  have X7 := X6.goes g7 (Nat.le_succ _)
  have nself : ∀ {s' : Shared}, s'.heap.Ns env.locals m5 → NmAt env s'.heap "self" (.ref x) := fun h => .inl ⟨kl _ (by decide +kernel), _, h, self6⟩
  have par5 : m5 "parts" = some (.ref s.heap.objs.size) := par4
  refine callWith_builtin rfl ?_
  refine evalArgs_plain ?_
  refine Calls.spliced_cons ?_
  rw [if_neg (by decide)]
  refine Tuple_ ?_
  refine wpAny_items_cons ((cvt_expr (T := T) (b := true) (y := nm) F (rm.le (by decide)) (gb.grow X7.g) hkf (nself X7.ns) (X7.g _ _ e1) (X7.g _ _ e2) (fun E' => ld X7 (by decide +kernel) (by decide +kernel) name6 ⟨T, ⟨u, rfl⟩, Goes.refl _ _⟩) rfl (by rw [if_pos rfl]; exact hn) rfl).wp fun v8 s8 T8 hv8 g8 t8 => ?_) rfl
  refine wpAny_items_cons ?_ rfl
  obtain ⟨u', rfl⟩ := hv8
  have X8 := X7.goes g8 t8
  have k8 := keeps_grow g8.k
  refine wpAny_Call_method rfl (by rfl) rfl (mePA .join) (meSlot .join) (meTy .join) (Constant_str ⟨typeIs_str _ _ _, (fun b hb => by cases hb), ?_⟩)
  have g9 := Goes.tok s8 T8 (s8.toks + 1)
  have X9 := X8.goes g9 (Nat.le_succ _)
  refine callWith_builtin rfl (evalArgs_plain (Calls.spliced_cons (ld X9 (by decide +kernel) (by decide +kernel) par5 (Calls.spliced_nil ?_))))
  have p9 : s8.heap.PlainList s.heap.objs.size [Value.str vl v'].toArray := p6.at fun o e => k8 _ _ e
  have rp : RepL (Mine.hv [] (gs { s8 with toks := s8.toks + 1 } T8)) [.ref s.heap.objs.size] [.lst [.str vl]] := .cons (.lst (vs := [.str vl v']) (by obtain ⟨nn, e⟩ := p9; exact ⟨nn, hv_in e (fun z => nomatch z)⟩) (.cons (.str _ _) .nil)) .nil
  refine (me_ok (H := []) (T := T8) ej (.str _ _) rp (by have := rm.un; omega) (gb.grow X9.g).nb (fun b hb => nomatch hb)).wp fun v10 s10 T10 hv10 g10 t10 => ?_
  cases hv10 with
  | str _ v2 =>
  have X10 := X9.goes g10 t10
  have k10 := keeps_grow g10.k
  refine wpAny_items_nil (wpAny_newObj_type ?_)
  have a11 : (s10.heap.push { cls := .type "tuple", data := .seq [Value.str nm u', Value.str vl v2].toArray }).PlainList a vs.toArray := (hpl.at fun o e => X10.g _ _ e).at fun o e => Heap.get?_push_of_some _ e
  refine Calls.spliced_nil (wpAny_list_append_plain (hsz := by rw [List.size_toArray]; exact Nat.le_trans hlen (by decide)) a11 fun h12 p12 sb12 => ?_)
  refine wpAny_execs_nil ?_
  obtain ⟨hh, tk, hh10⟩ := X10.k
  have alt : a < s10.heap.objs.size := by obtain ⟨nn, e⟩ := hpl; exact Heap.lt_size (X10.g _ _ e)
  have bt : h12.get? s10.heap.objs.size = some { cls := .type "tuple", data := .seq [Value.str nm u', Value.str vl v2].toArray } := sb12.extBut _ _ (Nat.ne_of_gt alt) (Heap.get?_push_size _ rfl)
  have t10' := X10.t
  have pp : h12.PlainList a (List.toArray (vs ++ [Value.ref s10.heap.objs.size])) := by simpa using p12
  have nn10 : s₀.heap.get? s10.heap.objs.size = none := by
    cases q : s₀.heap.get? s10.heap.objs.size with
    | none => exact rfl
    | some o => have := X10.g _ _ q; rw [size_none] at this; cases this
  rw [hh10] at bt t10' pp nn10 ⊢
  refine hQ _ h12 tk t10' ?_ ?_ ?_ ⟨u', v2, 0, bt⟩
  · intro b o hb e
    exact sb12.extBut b o (by simpa using hb) (Heap.get?_push_of_some _ (X10.g b o e))
  · exact pp
  · exact nn10
end
end Mine

-- H6
namespace Mine

theorem wh_of {prog : Program} {w : World} {KK : Frag} (F : KF KK) (A : Around) (rm : Rm A 3) : Wh prog w A KK where
  hma := fun E s Q x dx a hs t n pl gb e1 e2 h => meth_ok F gb.inn e1 e2 F.f2 F.t2 (by decide +kernel) h
  fo := fun h gb => by obtain ⟨o, fd, a, b, _⟩ := gb.ad; exact ⟨o, fd, a, b⟩
  had := fun E s x dx a hs t n vs nm vl u v gb e1 e2 hpl hlen hn hv hj => by
    obtain ⟨o, fd, ho, hdat, hpar, hbody, hscope, hglob, hbui, hclo, hdef, hcode⟩ := gb.ad
    change fd.params = ahT.1 at hpar
    change fd.body = .stmts ahT.2.1 at hbody
    change fd.scope = ahT.2.2 at hscope
    refine ah_call (by have := rm.dp; omega) ho hdat gb.nl hcode hbody hscope hpar hdef hclo fun L hL s₁ X ht E' => ?_
    generalize henv : callEnvC fd L 179 = env at X ⊢
    have kp : Grow s.heap (s.heap.push dObj) := fun b o e => Heap.get?_push_of_some _ e
    have hkO : env.kindOf = fun y => ahT.2.2.names.lookup y := by rw [← henv]; funext y; simp only [Env.kindOf, callEnvC, newEnv, hscope]
    have hkind : env.scope.kind = .function := by rw [← henv]; simp only [callEnvC, newEnv, hscope]; rfl
    have hgl : env.globals = mainGlobals := by rw [← henv]; simp only [callEnvC, newEnv]; exact hglob
    have hbu : env.builtins = builtinsNs := by rw [← henv]; simp only [callEnvC, newEnv]; exact hbui
    have hcl : env.cells = [] := by rw [← henv]; simp only [callEnvC, newEnv, hscope]; rfl
    have ok : EnvOk env [env.locals] := ⟨hkind, hgl, hbu, by simp, fun y c hc => by rw [hcl] at hc; simp at hc, fun y hy => by
      rw [hkO] at hy
      exact absurd (mem_of_lookup hy) (by
        have : (ahT.2.2.names.all fun p => p.2 != .cell) = true := by decide +kernel
        intro hm
        have := List.all_eq_true.mp this _ hm
        simp at this)⟩
    have kl : ∀ y, ahT.2.2.names.lookup y = some .local → env.kindOf y = some .local := fun y h => by rw [hkO]; exact h
    have nd : ((ahB (.ref x) (.str nm u) (.str vl v) s.heap.objs.size).map (·.1)).Nodup := by show ([("self" : Str), "_name", "_value", "_params"] : List Str).Nodup; decide +kernel
    have fresh := X.toInCall.fresh
    have hfr : (s.heap.push dObj).get? env.locals = none := by
      cases q : (s.heap.push dObj).get? env.locals with
      | none => rfl
      | some o => exact absurd (Heap.lt_size q) (Nat.not_lt.mpr fresh)
    have hd0 : (s.heap.push dObj).get? s.heap.objs.size = some dObj := Heap.get?_push_size _ rfl
    have hbig : 179 < s.heap.objs.size := Heap.lt_size ho
    refine wpAny_mono (ah_body (s₀ := { s with heap := s.heap.push dObj }) (d := s.heap.objs.size) (Q := fun f s' => f = .next ∧ ∃ b h' tk, s' = { s with heap := h', toks := tk } ∧ s.toks ≤ tk ∧ GrowX [a] s.heap h' ∧ h'.PlainList a (List.toArray (vs ++ [Value.ref b])) ∧ s.heap.get? b = none ∧
      ∃ u' v', PlainTup h' b #[.str nm u', .str vl v']) F ⟨rm.hh, by have := rm.dp; show A.depth + 1 + 2 < _; omega, by have := rm.un; show A.units + 3 + 3 * 2 + 5 < _; omega⟩ hkO ok hfr (gb.grow kp) ⟨X.toInCall.ns, X.toInCall.same, X.toInCall.keep, ht⟩ (X.toInCall.keep _ _ hd0) (fun z => by rw [z, hfr] at hd0; cases hd0) ?_
      (bindL_at _ _ nd (.head _) (kl _ (by decide +kernel))) (bindL_at _ _ nd (.tail _ (.head _)) (kl _ (by decide +kernel))) (bindL_at _ _ nd (.tail _ (.tail _ (.head _))) (kl _ (by decide +kernel))) (bindL_at _ _ nd (.tail _ (.tail _ (.tail _ (.head _)))) (kl _ (by decide +kernel)))
      (kp _ _ e1) (kp _ _ e2) (hpl.at fun o e => kp _ _ e) hlen hn hv hj (fun b h' tk t1 k1 p1 n1 tup => ⟨rfl, b, h', tk, rfl, t1, fun c o hc e => k1 c o hc (kp _ _ e), p1, ?_, tup⟩)) (fun f s' hfin => ?_) fun _ _ h => h
    · simp only [beq_eq_false_iff_ne, sysModules]
      intro z
      rw [z] at hbig
      exact absurd hbig (by decide)
    · cases q : s.heap.get? b with
      | none => rfl
      | some o => have := kp _ _ q; rw [show (s.heap.push dObj).get? b = none from n1] at this; cases this
    · obtain ⟨rfl, rest⟩ := hfin
      exact ⟨rfl, rest⟩

theorem bs_of {prog : Program} {w : World} {KK : Frag} (F : KF KK) : Bs prog w KK := ⟨hm_of F, fun A rm => wh_of F A rm⟩
end Mine

-- H7
namespace Mine
section
variable {prog : Program} {w : World} {A : Around} {E : Value → Shared → Prop} {s : Shared} {KK : Frag}
/-- a new object: what is left is __init__ -/
theorem mk_call {C fI : Addr} {R : Result → Shared → Prop} (X : KK.In s.heap) (hm : makesIn KK C = true) (hi : findIn KK (.ref C) "__init__" = some (some (.ref fI))) (hf : typeIn KK (.ref fI) = some (.type "function"))
    (h : codeAny (model prog w) (A.under (.builtin "type.__call__" ⟨.ref C :: [], []⟩)) (.call (.ref fI) ⟨.ref (s.heap.objs.size + 1) :: [], []⟩) (InitBack (s.heap.objs.size + 1) R) { s with heap := (s.heap.push (dictOf [] 0)).push (instObj C s.heap.objs.size) }) :
    codeAny (model prog w) A (.call (.ref C) ⟨[], []⟩) R s := by
  obtain ⟨hh, g, d, t, os⟩ := s
  have z : (hh.push (dictOf [] 0)).objs.size = hh.objs.size + 1 := Heap.size_push ..
  refine make_core (makes_of X hm) (looks_findIn X hi) (fun self => bind_fn X self hf) (.inl rfl) ?_
  first
    | exact h
    | (rw [← z] at h; exact h)

noncomputable def inT : Arguments × List Stmt × Scope := fnIn (clsIn 0 (topAt 7))
theorem in_bind {M : Model} {fd : FuncData} {a : Value} {dt : Addr} {od : Obj} {n : Nat} {Q : List (Str × Value) → Shared → Prop} (hp : fd.params = inT.1) (hd : fd.defaults = .ref dt) (ho : s.heap.get? dt = some od) (hod : od.data = .seq #[.none] n)
    (h : Q ([("self", a), ("headers", .none)] : List (Str × Value)) s) : wpAny M A (bindArgs fd ⟨[a], []⟩) Q E s := by
  unfold bindArgs
  rw [hp, hd]
  show wpAny M A (seqItems? (.ref dt) >>= _) Q E s
  refine wpAny_bind (wpAny_seqItems ho hod ?_)
  exact wpAny_pure h

/-- __init__, where the top laid it -/
noncomputable def InAt (h : Heap) : Prop := ∃ o fd dt od n, h.get? 76 = some o ∧ o.data = .func fd ∧ fd.params = inT.1 ∧ fd.body = .stmts inT.2.1 ∧ fd.scope = inT.2.2 ∧ fd.globals = mainGlobals ∧ fd.builtins = builtinsNs ∧ fd.closure = [] ∧ fd.defaults = .ref dt ∧ h.get? dt = some od ∧ od.data = .seq #[.none] n ∧ h.CodeRec fd.code fd.qualname
theorem InAt.grow {h h' : Heap} (x : InAt h) (k : Grow h h') : InAt h' := by
  obtain ⟨o, fd, dt, od, n, e, d, p, b, s, g, bu, c, df, e2, d2, cd⟩ := x
  obtain ⟨cc, co, vs, t, q, ce, r⟩ := cd
  exact ⟨o, fd, dt, od, n, k _ _ e, d, p, b, s, g, bu, c, df, k _ _ e2, d2, cc, co, vs, t, q, k _ _ ce, r⟩

theorem in_call {a : Value} {R : Result → Shared → Prop} (hroom : A.depth < recursionLimit) (hin : InAt s.heap) (hlim : s.heap.NoLimit)
    (h : ∀ (fd : FuncData), fd.scope = inT.2.2 → fd.globals = mainGlobals → fd.builtins = builtinsNs → ∀ s₁, InCallC s (callEnvC fd s.heap.objs.size 76).locals (bindL (callEnvC fd s.heap.objs.size 76).kindOf [("self", a), ("headers", .none)] fun _ => none) (callEnvC fd s.heap.objs.size 76).cells (bindC (callEnvC fd s.heap.objs.size 76).kindOf [("self", a), ("headers", .none)] fun _ => none) s₁ → s.toks ≤ s₁.toks →
      ∀ E', wpAny (model prog w) (A.deeper (callEnvC fd s.heap.objs.size 76)) (execs inT.2.1 (callEnvC fd s.heap.objs.size 76)) (fun f s' => R (.ok (.ret (match f with | .ret v => v | _ => .none))) s') E' s₁) :
    codeAny (model prog w) A (.call (.ref 76) ⟨[a], []⟩) R s := by
  obtain ⟨o, fd, dt, od, n, ho, hdata, hpar, hbody, hscope, hg, hb, hclo, hdef, hdt, hod, hcd⟩ := hin
  refine codeAny_call_function hroom ho hdata (by rw [hscope]; rfl) (by rw [hscope]; rfl) hbody hcd ?_
  rw [hclo]
  refine in_bind hpar hdef hdt hod ?_
  refine wpAny_with_toks (n := s.toks) (Nat.le_refl _) (wpAny_newFunctionEnv_cells (by rw [hscope]; rfl) ?_ fun env he s' x ht => ?_)
  · intro y hy
    rw [hscope]
    simp only [List.mem_cons, List.not_mem_nil, or_false] at hy
    rcases hy with rfl | rfl
    · exact .inl (by show inT.2.2.names.lookup ("self" : Str) = _; decide +kernel)
    · exact .inl (by show inT.2.2.names.lookup ("headers" : Str) = _; decide +kernel)
  · subst he
    refine ⟨hlim.keeps x.toInCall.keep, codeAny_func ?_⟩
    exact h fd hscope hg hb s' x ht _

theorem in_body {x dx : Addr} {env : Env} {h₀ : Heap} {m : Str → Option Value} {Q : Flow → Shared → Prop} (F : KF KK) (rm : Rm A 1) (hkO : env.kindOf = fun y => inT.2.2.names.lookup y) (ok : EnvOk env [env.locals]) (gb : Gb KK h₀)
    (Fm : Fr h₀ env.locals s.heap m) (N : News h₀ env.locals s.heap [(x, instObj HC dx), (dx, dictOf [] 0)]) (hxd : x ≠ dx) (m1 : m "self" = some (.ref x)) (m2 : m "headers" = some .none)
    (hQ : ∀ a h' tk hs t n, s.toks ≤ tk → Grow h₀ h' → h'.get? x = some (instObj HC dx) → h'.get? dx = some (dictOf [⟨hs, .str (Str.ofString "_headers") t, .ref a⟩] n) → h'.PlainList a #[] → h₀.get? a = none → Q .next { s with heap := h', toks := tk }) :
    wpAny (model prog w) A (execs inT.2.1 env) Q E s := by
  have kl : ∀ y, inT.2.2.names.lookup y = some .local → env.kindOf y = some .local := fun y h => by rw [hkO]; exact h
  have hkf := ok.kind
  have gB : ∀ {n : Str} {v : Value} {pos : Pos} {s' : Shared} {Q' : Value → Shared → Prop} {E' : Value → Shared → Prop}, Gb KK s'.heap → (n, v) ∈ gbui → inT.2.2.names.lookup n = some .globalImplicit → Q' v s' → wpAny (model prog w) A (eval (.Name n pos) env) Q' E' s' := fun g hm hk h =>
      glob_bui g ok hm (by rw [hkO]; exact hk) (bui_dbg _ hm) h
  dsimp only [inT, fnIn, clsIn, topAt, PySem.Challenge.pw_uj0008_01, List.getElem?_cons_succ, List.getElem?_cons_zero]
  refine wpAny_execs_cons (wpAny_Assign_Name (IfExp_ (isTrue_cmp1 (wpAny_Name (wpAny_loadName_local hkf (kl _ (by decide +kernel)) Fm.ns m2 (test_last (Constant_none (wpAny_isNot_plain rfl (wpAny_truthy_bool ?_))))) (by decide +kernel)) rfl)) rfl)
  rw [show (!((Value.none : Value) == Value.none)) = false from rfl]
  simp only [Bool.false_eq_true, if_false]
  refine List_ (wpAny_items_nil (wpAny_newObj_type ?_))
  have aL : s.heap.objs.size ≠ env.locals := fun z => absurd Fm.ns.lt (by rw [← z]; exact Nat.lt_irrefl _)
  have hp : (env.scope.kind == .class || (env.scope.kind == .module && env.locals != env.globals)) = false := by rw [hkf]; rfl
  have n0 : h₀.get? s.heap.objs.size = none := by
    cases q : h₀.get? s.heap.objs.size with
    | none => rfl
    | some o => have := Fm.keep _ _ q; rw [size_none] at this; cases this
  refine wpAny_with_toks (n := s.toks) (Nat.le_refl _) (wpAny_storeName_local (kl _ (by decide +kernel)) (Fm.ns.at' fun o e => Heap.get?_push_of_some _ e) (fun h2 hn2 hs2 ht2 => ?_) hp)
  have up2 : ∀ b o, b ≠ env.locals → s.heap.get? b = some o → h2.get? b = some o := fun b o hb e => hs2.extBut b o hb (Heap.get?_push_of_some _ e)
  have F2 : Fr h₀ env.locals h2 (fun y => if y = ("headers" : Str) then some (Value.ref s.heap.objs.size) else m y) := ⟨hn2, fun b o e => up2 b o (Nat.ne_of_lt (Nat.lt_of_lt_of_le (Heap.lt_size e) Fm.above)) (Fm.keep b o e), Fm.above⟩
  have a2 : h2.get? s.heap.objs.size = some { cls := .type "list", data := .seq ([] : List Value).toArray } := hs2.extBut _ _ aL (Heap.get?_push_size _ rfl)
  have N2 : News h₀ env.locals h2 [(s.heap.objs.size, { cls := .type "list", data := .seq ([] : List Value).toArray }), (x, instObj HC dx), (dx, dictOf [] 0)] := fun p hm => by
    rcases List.mem_cons.mp hm with rfl | hm
    · exact ⟨a2, aL, n0⟩
    · exact ⟨up2 _ _ (N p hm).2.1 (N p hm).1, (N p hm).2⟩
  have gb2 : Gb KK h2 := gb.grow F2.keep
  have hh2 : (fun y => if y = ("headers" : Str) then some (Value.ref s.heap.objs.size) else m y) "headers" = some (.ref s.heap.objs.size) := if_pos rfl
  have hs2' : (fun y => if y = ("headers" : Str) then some (Value.ref s.heap.objs.size) else m y) "self" = some (.ref x) := by show (if ("self" : Str) = ("headers" : Str) then _ else _) = _; rw [if_neg (by decide +kernel)]; exact m1
  refine wpAny_execs_cons (wpAny_If (isTrue_cmp1 (wpAny_Call_NameR (gB (v := .type "type") gb2 in_type (by decide +kernel) ?_)) rfl))
  refine PySem.callWith_type rfl (evalArgs_plain (Calls.spliced_cons (wpAny_Name (wpAny_loadName_local hkf (kl _ (by decide +kernel)) hn2 hh2 (Calls.spliced_nil ?_)) (by decide +kernel))))
  refine call_type_of (Tx := "list") ⟨_, a2, rfl⟩ (by decide) (test_last (gB (v := .type "list") gb2 in_list (by decide +kernel) (wpAny_isNot_plain rfl (wpAny_truthy_bool ?_))))
  rw [show (!((Value.type "list" : Value) == Value.type "list")) = false from by simp]
  simp only [Bool.false_eq_true, if_false]
  refine wpAny_execs_nil (wpAny_execs_cons (plainObj_wpAny_Assign_Attribute (wpAny_Name (wpAny_loadName_local hkf (kl _ (by decide +kernel)) hn2 hh2 (wpAny_Name (wpAny_loadName_local hkf (kl _ (by decide +kernel)) hn2 hs2' ?_) (by decide +kernel))) (by decide +kernel)) rfl))
  have I2 : PySem.W.InstAt h2 x (instObj HC dx) HC (some (dictOf [] 0)) := ⟨(N2 _ (.tail _ (.head _))).1, rfl, rfl, (N2 _ (.tail _ (.tail _ (.head _)))).1⟩
  have adx : s.heap.objs.size ≠ dx := fun z => by
    have := Heap.lt_size (N _ (.tail _ (.head _))).1
    rw [← z] at this; exact Nat.lt_irrefl _ this
  refine wpAny_with_toks (n := s.toks) ht2 (set_dict (h₀ := h₀) (K := KK) (dx := dx) F2 gb.inn N2 I2 rfl F.sa F.po F.tk F.hh rfl rfl (.tail adx (.tail hxd (.head fun p hp => nomatch hp))) (Nat.le_trans (Nat.le_refl 1) (by decide)) fun h3 F3 N3 ht3 => ?_)
  have a3 : h3.PlainList s.heap.objs.size #[] := ⟨0, (N3 _ (.head _)).1⟩
  have x3 := (N3 _ (.tail _ (.head _))).1
  have d3 : h3.get? dx = some (dictOf [⟨PyData.keyHash w.params (Str.ofString "_headers"), .str (Str.ofString "_headers") (s.toks + 1 + 1), .ref s.heap.objs.size⟩] _) := (N3 _ (.tail _ (.tail _ (.head _)))).1
  refine wpAny_execs_cons (wpAny_If (isTrue_plain (Constant_bool (wpAny_truthy_bool ?_))))
  simp only [if_true]
  refine wpAny_execs_cons (wpAny_For (wpAny_Name (wpAny_loadName_local hkf (kl _ (by decide +kernel)) F3.ns hh2 ?_) (by decide +kernel)) (fun _ => rfl))
  refine wpAny_with_toks (n := s.toks) ht3 (wpAny_pyIter_list a3.isList ?_)
  intro ht4
  have up3 : ∀ b o, h3.get? b = some o → (h3.push { cls := .type "list_iterator", data := .fields #[.ref s.heap.objs.size, .int 0 0] }).get? b = some o := fun b o e => Heap.get?_push_of_some _ e
  refine codeAny_forLoop_any (fun _ s' => s'.heap.IsListIter h3.objs.size s.heap.objs.size 0 ∧ s'.heap.IsList s.heap.objs.size #[] ∧ (∃ hh tk, s' = { s with heap := hh, toks := tk }) ∧ s.toks ≤ s'.toks ∧ Grow h3 s'.heap) ?_ 0
    ⟨⟨_, Heap.get?_push_size _ rfl, rfl, rfl⟩, a3.isList.push _, ⟨_, _, rfl⟩, ht4, up3⟩
  rintro k s' ⟨hit, hl, ⟨hh, tk, rfl⟩, ht5, g5⟩
  refine wpAny_pyNext_list_end rm.hh hit hl rfl fun h6 he6 => wpAny_execs_nil ?_
  have g6 : ∀ b o, h3.get? b = some o → h6.get? b = some o := fun b o e => he6 b o (fun z => by have := Heap.lt_size e; rw [z] at this; exact Nat.lt_irrefl _ this) (g5 b o e)
  refine wpAny_execs_nil (wpAny_execs_nil ?_)
  exact hQ s.heap.objs.size h6 tk _ _ _ ht5 (fun b o e => g6 b o (F3.keep b o e)) (g6 _ _ x3) (g6 _ _ d3) (a3.at fun o e => g6 _ _ e) n0
end
end Mine

-- H8
namespace Mine
structure KF2 (KK : Frag) : Prop where
  kp : keepIn KK (.ref 182) = true
  ia : ∀ h, KK.In h → InAt h
section
variable {prog : Program} {w : World} {A : Around} {KK : Frag} {K : KD}
theorem PF.hdr {p q : Pos} (F : KF KK) (F2 : KF2 KK) (rm : Rm A 3) (hk : glob K "Headers") : PF prog w A KK K (.Call (.Name "Headers" p) [] [] q) (fun _ => some (.hdr [])) := fun env H s T ρ r cx hr E => by
  cases hr
  refine wpAny_Call_NameR (glob_ref (v := 182) cx.gb cx.ok (by simp [gref]) (cx.k ▸ hk) (by decide +kernel) ?_)
  refine callWith_of (P := fun h => KK.In h) rfl (keeps_K F2.kp) (PySem.evalArgs_none ⟨cx.gb.inn, ?_⟩)
  refine wpAny_call (mk_call cx.gb.inn F.mi F.fi F.ti ?_)
  have kg : Grow s.heap ((s.heap.push (dictOf [] 0)).push (instObj HC s.heap.objs.size)) := fun b o e => Heap.get?_push_of_some _ (Heap.get?_push_of_some _ e)
  refine in_call ?_ (F2.ia _ (cx.gb.inn.keeps kg)) (cx.gb.nl.keeps kg) fun fd hsc hg hb s₁ X ht E' => ?_
  · have := rm.dp
    have hw : Code.weight (.builtin "type.__call__" ⟨[.ref 182], []⟩) ≤ 1 := by decide +kernel
    show A.depth + Code.weight (.builtin "type.__call__" ⟨[.ref 182], []⟩) < recursionLimit
    omega
  · generalize henv : callEnvC fd (Shared.heap { s with heap := (s.heap.push (dictOf [] 0)).push (instObj 182 s.heap.objs.size) }).objs.size 76 = env' at X ⊢
    have hkO : env'.kindOf = fun y => inT.2.2.names.lookup y := by rw [← henv]; funext y; simp only [Env.kindOf, callEnvC, newEnv, hsc]
    have hkind : env'.scope.kind = .function := by rw [← henv]; simp only [callEnvC, newEnv, hsc]; rfl
    have hgl : env'.globals = mainGlobals := by rw [← henv]; simp only [callEnvC, newEnv]; exact hg
    have hbu : env'.builtins = builtinsNs := by rw [← henv]; simp only [callEnvC, newEnv]; exact hb
    have hcl : env'.cells = [] := by rw [← henv]; simp only [callEnvC, newEnv, hsc]; rfl
    have ok : EnvOk env' [env'.locals] := ⟨hkind, hgl, hbu, by simp, fun y c hc => by rw [hcl] at hc; simp at hc, fun y hy => by
      rw [hkO] at hy
      exact absurd (mem_of_lookup hy) (by
        have : (inT.2.2.names.all fun p => p.2 != .cell) = true := by decide +kernel
        intro hm
        have := List.all_eq_true.mp this _ hm
        simp at this)⟩
    have kl : ∀ y, inT.2.2.names.lookup y = some .local → env'.kindOf y = some .local := fun y h => by rw [hkO]; exact h
    have nd : (([("self", .ref (s.heap.objs.size + 1)), ("headers", .none)] : List (Str × Value)).map (·.1)).Nodup := by show ([("self" : Str), "headers"] : List Str).Nodup; decide +kernel
    have z1 : (s.heap.push (dictOf [] 0)).objs.size = s.heap.objs.size + 1 := Heap.size_push ..
    have z2 : ((s.heap.push (dictOf [] 0)).push (instObj HC s.heap.objs.size)).objs.size = s.heap.objs.size + 2 := by rw [Heap.size_push, z1]
    have fresh : s.heap.objs.size + 2 ≤ env'.locals := by rw [← z2]; exact X.toInCall.fresh
    have ex : ((s.heap.push (dictOf [] 0)).push (instObj HC s.heap.objs.size)).get? (s.heap.objs.size + 1) = some (instObj HC s.heap.objs.size) := by rw [← z1]; exact Heap.get?_push_size _ rfl
    have ed : ((s.heap.push (dictOf [] 0)).push (instObj HC s.heap.objs.size)).get? s.heap.objs.size = some (dictOf [] 0) := Heap.get?_push_of_some _ (Heap.get?_push_size _ rfl)
    have new : ∀ b, s.heap.objs.size ≤ b → s.heap.get? b = none := fun b hb => by
      cases q : s.heap.get? b with
      | none => rfl
      | some o => exact absurd (Heap.lt_size q) (Nat.not_lt.mpr hb)
    have Fm : Fr s.heap env'.locals s₁.heap _ := ⟨X.toInCall.ns, fun b o e => X.toInCall.keep _ _ (kg b o e), Nat.le_trans (Nat.le_add_right _ 2) fresh⟩
    have Nn : News s.heap env'.locals s₁.heap [(s.heap.objs.size + 1, instObj HC s.heap.objs.size), (s.heap.objs.size, dictOf [] 0)] := fun p hm => by
      rcases List.mem_cons.mp hm with rfl | hm
      · exact ⟨X.toInCall.keep _ _ ex, Nat.ne_of_lt (Nat.lt_of_lt_of_le (Nat.lt_succ_self _) fresh), new _ (Nat.le_succ _)⟩
      · rcases List.mem_cons.mp hm with rfl | hm
        · exact ⟨X.toInCall.keep _ _ ed, Nat.ne_of_lt (Nat.lt_of_lt_of_le (Nat.lt_add_of_pos_right (by decide)) fresh), new _ (Nat.le_refl _)⟩
        · cases hm
    obtain ⟨h1, tk1, hs1⟩ := X.toInCall.same
    refine wpAny_mono (in_body (Q := fun f s' => f = .next ∧ ∃ a h' tk hs t n, s' = { s₁ with heap := h', toks := tk } ∧ s₁.toks ≤ tk ∧ Grow s.heap h' ∧ h'.get? (s.heap.objs.size + 1) = some (instObj HC s.heap.objs.size) ∧ h'.get? s.heap.objs.size = some (dictOf [⟨hs, .str (Str.ofString "_headers") t, .ref a⟩] n) ∧ h'.PlainList a #[] ∧ s.heap.get? a = none)
      F ⟨rm.hh, by
        have := rm.dp
        have hw : Code.weight (.builtin "type.__call__" ⟨[.ref 182], []⟩) ≤ 1 := by decide +kernel
        show A.depth + Code.weight (.builtin "type.__call__" ⟨[.ref 182], []⟩) + 1 + 1 < _
        omega, ?_⟩ hkO ok cx.gb Fm Nn (Nat.succ_ne_self _) (bindL_at _ _ nd (.head _) (kl _ (by decide +kernel))) (bindL_at _ _ nd (.tail _ (.head _)) (kl _ (by decide +kernel)))
      (fun a h' tk hs t n t1 g1 e1 e2 p1 n1 => ⟨rfl, a, h', tk, hs, t, n, rfl, t1, g1, e1, e2, p1, n1⟩)) (fun f s' hfin => ?_) fun _ _ h => h
    · have := rm.un
      have hu : Code.cUnits (.builtin "type.__call__" ⟨[.ref 182], []⟩) ≤ 1 := by decide +kernel
      show A.units + Code.cUnits (.builtin "type.__call__" ⟨[.ref 182], []⟩) + 3 + 3 * 1 + 5 < _
      omega
    · obtain ⟨rfl, a, h', tk, hs, t, n, rfl, t1, g1, e1, e2, ⟨nn, p1⟩, n1⟩ := hfin
      rw [hs1] at ht t1 ⊢
      refine ⟨rfl, T, ⟨a, n1, ⟨_, p1⟩, s.heap.objs.size + 1, s.heap.objs.size, hs, t, n, rfl, ?_, ?_, [], ⟨nn, p1⟩, .nil⟩, ⟨keeps_of g1, TExt.refl _, TNew.refl _ _⟩⟩
      · exact hv_in e1 fun z => by
          rcases List.mem_cons.mp z with z | z
          · rw [← z] at p1; rw [p1] at e1; simp [instObj] at e1
          · exact cx.l.new (new _ (Nat.le_succ _)) z
      · exact hv_in e2 fun z => by
          rcases List.mem_cons.mp z with z | z
          · rw [← z] at p1; rw [p1] at e2; simp [dictOf] at e2
          · exact cx.l.new (new _ (Nat.le_refl _)) z
end
end Mine

-- F4
namespace Mine

noncomputable def S3 : SG := fun f => match f with
  | .unl => an_unl
  | .mix => an_mix
  | .cal => an_cal
  | _ => fun _ => none
theorem has_S3 {prog : Program} {w : World} {KK : Frag} (B : Bs prog w KK) : ∀ f, Has prog w KK f (S3 f) 7 := fun f => by
  cases f <;> first | exact (has_unl B).le (by decide) | exact (has_mix B).le (by decide) | exact has_cal B | exact has_none

noncomputable def sx_boo_3 : SX := (.fors .L (.nm 57) (.cst .none) (.one 41) (.seq (.fors .L (.nm 58) (.cst .none) (.one 42) (.seq (.hadd 59 (.fn .cal (.cons (.fn .mix (.cons (.nm 41) (.cons (.nm 42) .nil))) .nil)) (.cst (.str "drawn"))) (.seq (.app 60 (.comp .Z (.nm 41) (.nm 42) (.two 43 44) (.cst (.bool true)) (.bi .max (.cons (.nm 43) (.cons (.nm 44) .nil))))) (.seq (.app 61 (.comp .Z (.nm 41) (.nm 42) (.two 43 44) (.cst (.bool true)) (.bi .min (.cons (.nm 43) (.cons (.nm 44) .nil))))) .skip)))) .skip))
noncomputable def sx_boo_6 : SX := (.fors .L (.fn .unl (.cons (.nm 60) .nil)) (.cst .none) (.one 62) (.seq (.fors .L (.fn .unl (.cons (.nm 61) .nil)) (.cst .none) (.one 63) (.seq (.hadd 59 (.me .upper (.fn .cal (.cons (.fn .mix (.cons (.nm 62) (.cons (.nm 63) .nil))) .nil)) .nil) (.cst (.str "made"))) .skip)) .skip))
noncomputable def sx_boo_7 : SX := (.ret (.nm 59))
noncomputable def sm_boo : Sta → Option PV := (semOwn 59 (fun _ => some (.hdr [])) (semOwn 60 (fun _ => some (.lst [])) (semOwn 61 (fun _ => some (.lst [])) (semSt S3 sx_boo_3 (semFrz 60 (semFrz 61 (semSt S3 sx_boo_6 (semSt S3 sx_boo_7 semEnd))))))))
set_option maxHeartbeats 8000000 in
theorem pb_boo {prog : Program} {w : World} {A : Around} {KK : Frag} (W : Wd prog w A S3 KK) (V : Wh prog w A KK) (F : KF KK) (F2 : KF2 KK) (rm : Rm A 3) : Pb prog w A KK (fun x => (fnOf .boo).2.2.names.lookup x) (fnOf .boo).2.1 sm_boo := by
  unfold sm_boo
  dsimp only [fnOf, fnIn, topAt, PySem.Challenge.pw_uj0008_01, List.getElem?_cons_succ, List.getElem?_cons_zero]
  refine (Pb.own rfl (by decide +kernel) (PF.hdr F F2 rm (by unfold glob; decide +kernel)) ?_ (Pb.own rfl (by decide +kernel) (PF.nil) ?_ (Pb.own rfl (by decide +kernel) (PF.nil) ?_ (Pb.st (stm W V ?_) (Pb.frz (Pb.frz (Pb.st (stm W V ?_) (Pb.st (stm W V ?_) Pb.end))))))))
  all_goals (try unfold sx_boo_3)
  all_goals (try unfold sx_boo_6)
  all_goals (try unfold sx_boo_7)
  repeat' (first
    | exact TrS.nil | exact TrL.nil | exact TrO.none | exact TrC.nil
    | apply TrS.cons | apply TrL.cons | apply TrO.some | apply TrC.one
    | exact Or.inl (by decide +kernel) | exact Or.inr (Or.inl (by decide +kernel)) | exact Or.inr (by decide +kernel) | exact Or.inr (Or.inr (by decide +kernel))
    | (show _ = _; first | with_reducible rfl | decide +kernel | rfl)
    | exact (show glob _ _ from (by unfold glob; decide +kernel))
    | exact ⟨_, _, rfl, rfl, by decide +kernel⟩
    | exact ⟨_, _, _, _, _, _, rfl, rfl, rfl, by decide +kernel, by decide +kernel⟩
    | (intro h; cases h; done)
    | (intro _; rfl) | (intro _ _; rfl) | (intro _ _ _; rfl)
    | (intro env hk hf; simp only [swapsWith, pure_bind, Env.blockKind, hf, hk]; first | rfl | (simp; done) | (decide +kernel))
    | (intro env hk hf; exact swapped2 hf (by rw [hk]; decide +kernel) (by rw [hk]; decide +kernel) rfl (by decide +kernel) rfl rfl rfl rfl)
    | (simp [gcon]; done)
    | (simp; done)
    | apply TrSt.asg | apply TrSt.asgB | apply TrSt.asgC | apply TrSt.asg2 | apply TrSt.asgD | apply TrSt.asg3 | apply TrSt.aug | apply TrSt.ifs | apply TrSt.fors | apply TrSt.whl | apply TrSt.ret | apply TrSt.app | apply TrSt.del | apply TrSt.sti | apply TrSt.asr | apply TrSt.hadd
    | apply Tr.nm | apply Tr.cst | apply Tr.gc | apply Tr.bin | apply Tr.cmp | apply Tr.chn | apply Tr.not | apply Tr.neg | apply Tr.one | apply Tr.and | apply Tr.or | apply Tr.ite | apply Tr.idx | apply Tr.slc | apply Tr.tup | apply Tr.lst | apply Tr.fn | apply Tr.star | apply Tr.bi | apply Tr.me | apply Tr.ga | apply Tr.comp | apply Tr.comp2
    | apply TrI.L | apply TrI.R | apply TrI.Z
    | constructor)
theorem ok_boo : FnOk .boo [57, 58] ["ones", "others"] where
  co := by rfl
  ge := by rfl
  kd := by rfl
  ids := by rfl
  nd := by decide +kernel
  lk := by decide +kernel
  bind := by
    intro fd vals hp hd hl
    obtain ⟨v0, v1, rfl⟩ := len2 (l := vals) hl
    unfold bindArgs
    rw [hp, hd]
    rfl
noncomputable def an_boo : List PV → Option PV
  | [p0, p1] => sm_boo (fun _ => none, rho0 [57, 58] [p0, p1])
  | _ => none
theorem has_boo {prog : Program} {w : World} {KK : Frag} (B : Bs prog w KK) (F : KF KK) (F2 : KF2 KK) : Has prog w KK .boo an_boo 8 :=
  call_has (n := 7) ok_boo (fun A rm => pb_boo (wd_of (S := S3) B (has_S3 B) rm) (B.hv A (rm.le (by decide))) F F2 (rm.le (by decide))) fun ps r h => by
    unfold an_boo at h
    split at h
    · exact ⟨rfl, h⟩
    · cases h

end Mine

-- F5
namespace Mine

noncomputable def lawT : Arguments × List Stmt × Scope := fnIn (topAt 28)
noncomputable def sx_law : SX := (.seq (.asgC 69 .R (.cst (.int 6)) (.cst .none) (.one 83) (.cst (.bool true)) (.bin .Mod (.bin .Add (.bi .sum (.cons (.slc (.nm 68) (.nm 83) (.cst (.int 63)) (.cst (.int 6))) .nil)) (.idx (.tup (.cons (.cst (.int 7)) (.cons (.cst (.int 1)) (.cons (.cst (.int 0)) (.cons (.cst (.int 2)) (.cons (.cst (.int 3)) (.cons (.cst (.int 1)) .nil))))))) (.nm 83))) (.cst (.int 8)))) (.seq (.asg 70 (.fn .unl (.cons (.slc (.nm 69) (.cst (.int 0)) (.cst .none) (.cst (.int 2))) .nil))) (.seq (.asg 71 (.fn .unl (.cons (.slc (.nm 69) (.cst (.int 1)) (.cst .none) (.cst (.int 2))) .nil))) (.seq (.asg 72 (.bin .Add (.comp .R (.cst (.int 6)) (.cst .none) (.one 54) (.cst (.bool true)) (.fn .hsv (.cons (.bin .Div (.nm 54) (.cst (.flt 4618441417868443648))) (.cons (.cst (.flt 4607182418800017408)) (.cons (.cst (.flt 4607182418800017408)) .nil))))) (.lst (.cons (.fn .hsv (.cons (.cst (.flt 0)) (.cons (.cst (.flt 0)) (.cons (.cst (.flt 4607182418800017408)) .nil)))) (.cons (.fn .hsv (.cons (.cst (.flt 0)) (.cons (.cst (.flt 0)) (.cons (.cst (.flt 0)) .nil)))) .nil))))) (.seq (.asg 73 (.comp .L (.nm 72) (.cst .none) (.one 52) (.cst (.bool true)) (.fn .wri (.cons (.nm 52) .nil)))) (.seq (.ifs (.cmp .NotEq (.nm 73) (.lst (.cons (.cst (.str "Rgb")) (.cons (.cst (.str "RGb")) (.cons (.cst (.str "rGb")) (.cons (.cst (.str "rGB")) (.cons (.cst (.str "rgB")) (.cons (.cst (.str "RgB")) (.cons (.cst (.str "RGB")) (.cons (.cst (.str "rgb")) .nil)))))))))) (.seq (.ret (.cst (.bool false))) .skip) .skip) (.seq (.asg 74 (.lst (.cons (.cst (.int 1)) (.cons (.cst (.int 3)) (.cons (.cst (.int 2)) (.cons (.cst (.int 6)) (.cons (.cst (.int 4)) (.cons (.cst (.int 5)) (.cons (.cst (.int 7)) (.cons (.cst (.int 0)) .nil)))))))))) (.seq (.asg 75 (.fn .boo (.cons (.comp .L (.nm 70) (.cst .none) (.one 54) (.cst (.bool true)) (.idx (.nm 72) (.nm 54))) (.cons (.comp .L (.nm 71) (.cst .none) (.one 54) (.cst (.bool true)) (.idx (.nm 72) (.nm 54))) .nil)))) (.seq (.asgC 76 .L (.nm 70) (.cst .none) (.one 54) (.cst (.bool true)) (.idx (.nm 74) (.nm 54))) (.seq (.asg 77 (.comp .L (.nm 71) (.cst .none) (.one 54) (.cst (.bool true)) (.idx (.nm 74) (.nm 54)))) (.seq (.asg 78 (.fn .unl (.cons (.comp2 (.nm 76) (.one 14) (.nm 77) (.one 15) (.cst (.bool true)) (.bin .BitOr (.nm 14) (.nm 15))) .nil))) (.seq (.asg 79 (.fn .unl (.cons (.comp2 (.nm 76) (.one 14) (.nm 77) (.one 15) (.cst (.bool true)) (.bin .BitAnd (.nm 14) (.nm 15))) .nil))) (.seq (.fors .L (.nm 70) (.cst .none) (.one 80) (.seq (.fors .L (.nm 71) (.cst .none) (.one 82) (.seq (.asg 84 (.bin .BitXor (.idx (.nm 74) (.nm 80)) (.idx (.nm 74) (.nm 82)))) (.seq (.asg 85 (.bin .BitAnd (.idx (.nm 74) (.nm 80)) (.idx (.nm 74) (.nm 82)))) (.seq (.asg 86 (.fn .mix (.cons (.idx (.nm 72) (.nm 80)) (.cons (.idx (.nm 72) (.nm 82)) .nil)))) (.seq (.asg 87 (.fn .cal (.cons (.nm 86) .nil))) (.seq (.ifs (.cmp .NotEq (.nm 87) (.fn .due (.cons (.idx (.nm 74) (.nm 80)) (.cons (.idx (.nm 74) (.nm 82)) .nil)))) (.seq (.ret (.cst (.bool false))) .skip) .skip) (.seq (.asg 88 (.fn .oft (.cons (.nm 76) (.cons (.nm 77) (.cons (.nm 84) (.cons (.nm 85) .nil)))))) (.seq (.asg 89 (.fn .oft (.cons (.nm 78) (.cons (.nm 79) (.cons (.nm 84) (.cons (.nm 85) .nil)))))) (.seq (.ifs (.cmp .NotEq (.ga (.nm 75) (.me .upper (.nm 87) .nil)) (.bin .Add (.bin .Mult (.lst (.cons (.cst (.str "drawn")) .nil)) (.nm 88)) (.bin .Mult (.lst (.cons (.cst (.str "made")) .nil)) (.nm 89)))) (.seq (.ret (.cst (.bool false))) .skip) .skip) (.seq (.asg 90 (.ga (.nm 75) (.nm 87))) (.seq (.ifs (.or (.cmp .NotEq (.slc (.nm 90) (.cst .none) (.nm 88) (.cst .none)) (.bin .Mult (.lst (.cons (.cst (.str "drawn")) .nil)) (.nm 88))) (.cmp .Gt (.me .count (.nm 90) (.cons (.cst (.str "drawn")) .nil)) (.me .count (.nm 90) (.cons (.cst (.str "made")) .nil)))) (.seq (.ret (.cst (.bool false))) .skip) .skip) (.seq (.asg 91 (.fn .wri (.cons (.nm 86) .nil))) (.seq (.asgC 92 .L (.nm 73) (.cst .none) (.one 95) (.fn .ell (.cons (.nm 91) (.cons (.nm 95) .nil))) (.nm 95)) (.seq (.ifs (.cmp .NotEq (.nm 92) (.comp .R (.cst (.int 8)) (.cst .none) (.one 54) (.cmp .Eq (.bin .BitAnd (.idx (.nm 74) (.nm 54)) (.bin .Sub (.cst (.int 7)) (.nm 84))) (.nm 85)) (.idx (.nm 73) (.nm 54)))) (.seq (.ret (.cst (.bool false))) .skip) .skip) (.seq (.ifs (.cmp .NotEq (.fn .ell (.cons (.nm 91) (.cons (.bin .Add (.cst (.str "-")) (.idx (.nm 73) (.nm 80))) .nil))) (.cmp .Eq (.bin .BitAnd (.nm 84) (.cst (.int 1))) (.cst (.int 1)))) (.seq (.ret (.cst (.bool false))) .skip) .skip) (.seq (.ifs (.cmp .NotEq (.fn .ell (.cons (.nm 91) (.cons (.bin .Add (.idx (.nm 73) (.nm 82)) (.cst (.str "-"))) .nil))) (.cmp .Eq (.bin .RShift (.nm 84) (.cst (.int 2))) (.cst (.int 1)))) (.seq (.ret (.cst (.bool false))) .skip) .skip) (.seq (.asg 51 (.bin .Add (.bin .Add (.bin .BitAnd (.nm 84) (.cst (.int 1))) (.bin .BitAnd (.bin .RShift (.nm 84) (.cst (.int 1))) (.cst (.int 1)))) (.bin .RShift (.nm 84) (.cst (.int 2))))) (.seq (.ifs (.cmp .NotEq (.fn .lev (.cons (.idx (.nm 73) (.nm 80)) (.cons (.idx (.nm 73) (.nm 82)) (.cons (.cst (.int 3)) .nil)))) (.nm 51)) (.seq (.ret (.cst (.bool false))) .skip) .skip) (.seq (.asg 93 (.idx (.nm 73) (.me .index (.nm 74) (.cons (.bin .BitOr (.nm 84) (.nm 85)) .nil)))) (.seq (.asg 94 (.idx (.nm 73) (.me .index (.nm 74) (.cons (.nm 85) .nil)))) (.seq (.ifs (.cmp .NotEq (.fn .lev (.cons (.nm 93) (.cons (.nm 94) (.cons (.cst (.int 3)) .nil)))) (.nm 51)) (.seq (.ret (.cst (.bool false))) .skip) .skip) .skip))))))))))))))))))))) .skip)) (.seq (.asg 81 (.fn .due (.cons (.idx (.nm 76) (.cst (.int 0))) (.cons (.idx (.nm 77) (.cst (.int 0))) .nil)))) (.seq (.ret (.cmp .Eq (.bin .Add (.bin .Add (.ga (.nm 75) (.slc (.nm 81) (.cst .none) (.cst (.int 2)) (.cst .none))) (.ga (.nm 75) (.slc (.nm 81) (.cst (.int 1)) (.cst .none) (.cst .none)))) (.ga (.nm 75) (.bin .Add (.nm 81) (.cst (.str "0"))))) (.lst .nil))) .skip)))))))))))))))
set_option maxHeartbeats 8000000 in
theorem tr_law : TrS (fun x => lawT.2.2.names.lookup x) lawT.2.1 sx_law := by
  unfold sx_law
  dsimp only [lawT, fnIn, topAt, PySem.Challenge.pw_uj0008_01, List.getElem?_cons_succ, List.getElem?_cons_zero]
  repeat' (first
    | exact TrS.nil | exact TrL.nil | exact TrO.none | exact TrC.nil
    | apply TrS.cons | apply TrL.cons | apply TrO.some | apply TrC.one
    | exact Or.inl (by decide +kernel) | exact Or.inr (Or.inl (by decide +kernel)) | exact Or.inr (by decide +kernel) | exact Or.inr (Or.inr (by decide +kernel))
    | (show _ = _; first | with_reducible rfl | decide +kernel | rfl)
    | exact (show glob _ _ from (by unfold glob; decide +kernel))
    | exact ⟨_, _, rfl, rfl, by decide +kernel⟩
    | exact ⟨_, _, _, _, _, _, rfl, rfl, rfl, by decide +kernel, by decide +kernel⟩
    | (intro h; cases h; done)
    | (intro _; rfl) | (intro _ _; rfl) | (intro _ _ _; rfl)
    | (intro env hk hf; simp only [swapsWith, pure_bind, Env.blockKind, hf, hk]; first | rfl | (simp; done) | (decide +kernel))
    | (intro env hk hf; exact swapped2 hf (by rw [hk]; decide +kernel) (by rw [hk]; decide +kernel) rfl (by decide +kernel) rfl rfl rfl rfl)
    | (simp [gcon]; done)
    | (simp; done)
    | apply TrSt.asg | apply TrSt.asgB | apply TrSt.asgC | apply TrSt.asg2 | apply TrSt.asgD | apply TrSt.asg3 | apply TrSt.aug | apply TrSt.ifs | apply TrSt.fors | apply TrSt.whl | apply TrSt.ret | apply TrSt.app | apply TrSt.del | apply TrSt.sti | apply TrSt.asr | apply TrSt.hadd
    | apply Tr.nm | apply Tr.cst | apply Tr.gc | apply Tr.bin | apply Tr.cmp | apply Tr.chn | apply Tr.not | apply Tr.neg | apply Tr.one | apply Tr.and | apply Tr.or | apply Tr.ite | apply Tr.idx | apply Tr.slc | apply Tr.tup | apply Tr.lst | apply Tr.fn | apply Tr.star | apply Tr.bi | apply Tr.me | apply Tr.ga | apply Tr.comp | apply Tr.comp2
    | apply TrI.L | apply TrI.R | apply TrI.Z
    | constructor)

end Mine

-- F6
namespace Mine
/-- what the law's calls answer -/
noncomputable def SL : SG := fun f => match f with
  | .rgb => an_rgb | .hsv => an_hsv | .ell => an_ell | .sub => an_sub | .lev => an_lev | .unl => an_unl | .mix => an_mix
  | .cal => an_cal | .due => an_due | .wri => an_wri | .boo => an_boo | .oft => an_oft | .geta => an_geta
theorem has_SL {prog : Program} {w : World} {KK : Frag} (F : KF KK) (F2 : KF2 KK) : ∀ f, Has prog w KK f (SL f) 8 := fun f => by
  have B : Bs prog w KK := bs_of F
  cases f
  · exact (has_rgb B).le (by decide)
  · exact (has_hsv B).le (by decide)
  · exact (has_ell B).le (by decide)
  · exact (has_sub B).le (by decide)
  · exact (has_lev B).le (by decide)
  · exact (has_unl B).le (by decide)
  · exact (has_mix B).le (by decide)
  · exact (has_cal B).le (by decide)
  · exact (has_due B).le (by decide)
  · exact (has_wri B).le (by decide)
  · exact has_boo B F F2
  · exact (has_oft B).le (by decide)
  · exact (has_geta F B).le (by decide)
/-- the law's body answers what `run` answers -/
theorem law_body {prog : Program} {w : World} {KK : Frag} {A : Around} (F : KF KK) (F2 : KF2 KK) (rm : Rm A 8) : Pp prog w A SL KK (fun x => lawT.2.2.names.lookup x) lawT.2.1 sx_law :=
  stms (wd_of (bs_of F) (has_SL F F2) rm) (wh_of F A (rm.le (by decide))) tr_law
end Mine

-- P1
namespace Mine

/-- a paint's parts, by its number -/
noncomputable def bitF (x i : Nat) : PV := .flt (if x.testBit i then 4607182418800017408 else 0)
noncomputable def flP (x : Nat) : List PV := [bitF x 0, bitF x 1, bitF x 2]
noncomputable def lampN (i : Nat) : Nat := [1, 3, 2, 6, 4, 5, 7, 0].getD i 0
noncomputable def pc (x y : Nat) : Nat := (x % 2 + y % 2) + 3 * (x / 2 % 2 + y / 2 % 2) + 9 * (x / 4 % 2 + y / 4 % 2)
noncomputable def r8 : List Nat := List.range 8
noncomputable def p8 : List (Nat × Nat) := r8.flatMap fun x => r8.map fun y => (x, y)
noncomputable def half (x y i : Nat) : PV := .flt (match (x.testBit i, y.testBit i) with | (true, true) => 4607182418800017408 | (false, false) => 0 | _ => 4602678819172646912)
noncomputable def mixP (x y : Nat) : PV := .lst [half x y 0, half x y 1, half x y 2]
noncomputable def nm27 : List String := ["a00", "a21", "a22", "e21", "c21", "b22", "e22", "d22", "c22", "i21", "k21", "l22", "g21", "a01", "a12", "f22", "e12", "c12", "i22", "j22", "k22", "h22", "i12", "k12", "g22", "g12", "a02"]
noncomputable def nmU27 : List String := ["A00", "A21", "A22", "E21", "C21", "B22", "E22", "D22", "C22", "I21", "K21", "L22", "G21", "A01", "A12", "F22", "E12", "C12", "I22", "J22", "K22", "H22", "I12", "K12", "G22", "G12", "A02"]
noncomputable def nL27 : List Str := nm27.map Str.ofString
noncomputable def nU27 : List Str := nmU27.map Str.ofString
noncomputable def nameL (x y : Nat) : Str := nL27.getD (pc x y) ""
noncomputable def nameU (x y : Nat) : Str := nU27.getD (pc x y) ""
noncomputable def form27 : List Str := (["rgb", "...gb", "Rgb", "r...b", "...b", "R...b", "rGb", "...Gb", "RGb", "rg...", "...g...", "Rg...", "r...", "...", "R...", "rG...", "...G...", "RG...", "rgB", "...gB", "RgB", "r...B", "...B", "R...B", "rGB", "...GB", "RGB"] : List String).map Str.ofString
noncomputable def formL (x y : Nat) : Str := form27.getD (pc x y) ""
noncomputable def word8 : List Str := (["rgb", "Rgb", "rGb", "RGb", "rgB", "RgB", "rGB", "RGB"] : List String).map Str.ofString
noncomputable def wordN (x : Nat) : Str := word8.getD x ""

theorem all_of {α β : Type} {l : List α} {f g : α → β} (h : l.map f = l.map g) : ∀ a ∈ l, f a = g a := List.map_inj_left.mp h
theorem mem_r8 {x : Nat} (h : x < 8) : x ∈ r8 := List.mem_range.mpr h
theorem mem_p8 {x y : Nat} (hx : x < 8) (hy : y < 8) : (x, y) ∈ p8 := List.mem_flatMap.mpr ⟨x, mem_r8 hx, List.mem_map.mpr ⟨y, mem_r8 hy, rfl⟩⟩

/-- the mixtures, each once: the lighter one and the darker one -/
noncomputable def c27 : List (Nat × Nat) := p8.filter fun a => a.1 &&& a.2 == a.2
noncomputable def hf (a b : UInt64) : PV := .flt (Float64.div (Float64.add a b) 4611686018427387904)
theorem k_mix_t (a b c d e f : UInt64) : an_mix [.tup [.flt a, .flt b, .flt c], .tup [.flt d, .flt e, .flt f]] = some (.lst [hf a d, hf b e, hf c f]) := by kernel_rfl
theorem k_mix_l (a b c d e f : UInt64) : an_mix [.lst [.flt a, .flt b, .flt c], .lst [.flt d, .flt e, .flt f]] = some (.lst [hf a d, hf b e, hf c f]) := by kernel_rfl
theorem k_hf : ([(false, false), (false, true), (true, false), (true, true)].map fun p => hf (if p.1 then 4607182418800017408 else 0) (if p.2 then 4607182418800017408 else 0)) =
    [(false, false), (false, true), (true, false), (true, true)].map fun p => PV.flt (match p with | (true, true) => 4607182418800017408 | (false, false) => 0 | _ => 4602678819172646912) := by kernel_rfl
theorem hf_half (x y i : Nat) : hf (if x.testBit i then 4607182418800017408 else 0) (if y.testBit i then 4607182418800017408 else 0) = half x y i := by
  have := all_of k_hf (x.testBit i, y.testBit i) (by cases x.testBit i <;> cases y.testBit i <;> simp)
  exact this
theorem mix_t (x y : Nat) : an_mix [.tup (flP x), .tup (flP y)] = some (mixP x y) := (k_mix_t _ _ _ _ _ _).trans (by rw [hf_half, hf_half, hf_half]; rfl)
theorem mix_l (x y : Nat) : an_mix [.lst (flP x), .lst (flP y)] = some (mixP x y) := (k_mix_l _ _ _ _ _ _).trans (by rw [hf_half, hf_half, hf_half]; rfl)
theorem k_can : (p8.map fun a => mixP a.1 a.2) = p8.map fun a => mixP (a.1 ||| a.2) (a.1 &&& a.2) := by kernel_rfl
theorem k_can2 : (p8.map fun a => (nameL a.1 a.2, formL a.1 a.2, a.1 ^^^ a.2, a.1 &&& a.2)) = p8.map fun a => (nameL (a.1 ||| a.2) (a.1 &&& a.2), formL (a.1 ||| a.2) (a.1 &&& a.2), (a.1 ||| a.2) ^^^ (a.1 &&& a.2), (a.1 ||| a.2) &&& (a.1 &&& a.2)) := by kernel_rfl
theorem k_can3 : (p8.all fun a => c27.contains (a.1 ||| a.2, a.1 &&& a.2)) = true := by kernel_rfl
theorem k_cal : (c27.map fun a => an_cal [mixP a.1 a.2]) = c27.map fun a => some (.str (nameL a.1 a.2)) := by kernel_rfl
theorem k_wri : (c27.map fun a => an_wri [mixP a.1 a.2]) = c27.map fun a => some (.str (formL a.1 a.2)) := by kernel_rfl
theorem k_wri1 : (r8.map fun a => an_wri [.tup (flP a)]) = r8.map fun a => some (.str (wordN a)) := by kernel_rfl
theorem k_due : (p8.map fun a => an_due [.int a.1, .int a.2]) = p8.map fun a => some (.str (nameL a.1 a.2)) := by kernel_rfl
theorem k_up : (p8.map fun a => meP .upper (.str (nameL a.1 a.2)) []) = p8.map fun a => some (.str (nameU a.1 a.2)) := by kernel_rfl
theorem k_lowL : (p8.map fun a => meP .lower (.str (nameL a.1 a.2)) []) = p8.map fun a => some (.str (nameL a.1 a.2)) := by kernel_rfl
theorem k_lowU : (p8.map fun a => meP .lower (.str (nameU a.1 a.2)) []) = p8.map fun a => some (.str (nameL a.1 a.2)) := by kernel_rfl
theorem k_lev : (p8.map fun a => an_lev [.str (wordN a.1), .str (wordN a.2), .int 3]) = p8.map fun a => some (.int ((((a.1 ^^^ a.2) % 2 + (a.1 ^^^ a.2) / 2 % 2 + (a.1 ^^^ a.2) / 4 : Nat) : Int))) := by kernel_rfl
theorem k_ell : ((c27.flatMap fun a => r8.map fun k => (a, k)).map fun a => an_ell [.str (formL a.1.1 a.1.2), .str (wordN a.2)]) = (c27.flatMap fun a => r8.map fun k => (a, k)).map fun a => some (.bool (a.2 &&& (7 - (a.1.1 ^^^ a.1.2)) == a.1.1 &&& a.1.2)) := by kernel_rfl
theorem k_ell1 : (p8.map fun a => an_ell [.str (formL a.1 a.2), .str ("-" ++ wordN a.1)]) = p8.map fun a => some (.bool ((a.1 ^^^ a.2) % 2 == 1)) := by kernel_rfl
theorem k_ell2 : (p8.map fun a => an_ell [.str (formL a.1 a.2), .str (wordN a.2 ++ "-")]) = p8.map fun a => some (.bool ((a.1 ^^^ a.2) / 4 == 1)) := by kernel_rfl
theorem k_noL : (p8.all fun a => noMatch codeN (nameL a.1 a.2)) = true := by kernel_rfl
theorem k_noU : (p8.all fun a => noMatch codeN (nameU a.1 a.2)) = true := by kernel_rfl
theorem k_noV : (noMatch codeV "drawn" && joinSame "drawn" && noMatch codeV "made" && joinSame "made") = true := by kernel_rfl
theorem k_key : (p8.all fun a => p8.all fun b => (nameL a.1 a.2 == nameL b.1 b.2) == ((a.1 ^^^ a.2 == b.1 ^^^ b.2) && (a.1 &&& a.2 == b.1 &&& b.2))) = true := by kernel_rfl
end Mine

-- P2
namespace Mine

/-- each once, in the order of the first -/
noncomputable def dd (l : List Nat) : List Nat := l.foldl (fun acc x => if acc.contains x then acc else acc ++ [x]) []
noncomputable def prs (L R : List Nat) : List (Nat × Nat) := L.flatMap fun x => R.map fun y => (x, y)
noncomputable def isK (a c : Nat) (p : Nat × Nat) : Bool := p.1 ^^^ p.2 == a && p.1 &&& p.2 == c
noncomputable def cnt (L R : List Nat) (a c : Nat) : Nat := ((prs L R).filter (isK a c)).length
noncomputable def ups (L R : List Nat) : List Nat := dd ((prs L R).map fun p => p.1 ||| p.2)
noncomputable def lws (L R : List Nat) : List Nat := dd ((prs L R).map fun p => p.1 &&& p.2)

theorem dd_go (l : List Nat) : ∀ acc : List Nat, (∀ x, x ∈ l.foldl (fun acc x => if acc.contains x then acc else acc ++ [x]) acc ↔ x ∈ acc ∨ x ∈ l) ∧ (acc.Nodup → (l.foldl (fun acc x => if acc.contains x then acc else acc ++ [x]) acc).Nodup) ∧
    (l.foldl (fun acc x => if acc.contains x then acc else acc ++ [x]) acc).length ≤ acc.length + l.length := by
  induction l with
  | nil => intro acc; simp
  | cons a l ih =>
    intro acc
    by_cases h : acc.contains a = true
    · have e : (a :: l).foldl (fun acc x => if acc.contains x then acc else acc ++ [x]) acc = l.foldl (fun acc x => if acc.contains x then acc else acc ++ [x]) acc := by rw [List.foldl_cons, if_pos h]
      rw [e]
      obtain ⟨h1, h2, h3⟩ := ih acc
      refine ⟨fun x => ?_, h2, by rw [List.length_cons]; omega⟩
      rw [h1]
      have := List.contains_iff_mem.mp h
      simp only [List.mem_cons]
      constructor
      · rintro (h | h)
        · exact .inl h
        · exact .inr (.inr h)
      · rintro (h | rfl | h)
        · exact .inl h
        · exact .inl this
        · exact .inr h
    · have e : (a :: l).foldl (fun acc x => if acc.contains x then acc else acc ++ [x]) acc = l.foldl (fun acc x => if acc.contains x then acc else acc ++ [x]) (acc ++ [a]) := by rw [List.foldl_cons, if_neg h]
      rw [e]
      obtain ⟨h1, h2, h3⟩ := ih (acc ++ [a])
      have hn : a ∉ acc := fun q => h (List.contains_iff_mem.mpr q)
      refine ⟨fun x => ?_, fun nd => h2 (List.nodup_append.mpr ⟨nd, by simp, by intro b hb c hc; simp at hc; subst hc; exact fun e => hn (e ▸ hb)⟩), by rw [List.length_append] at h3; simp only [List.length_cons, List.length_nil] at h3 ⊢; omega⟩
      rw [h1]
      simp only [List.mem_append, List.mem_cons, List.not_mem_nil, or_false]
      constructor
      · rintro ((h | h) | h)
        · exact .inl h
        · exact .inr (.inl h)
        · exact .inr (.inr h)
      · rintro (h | h | h)
        · exact .inl (.inl h)
        · exact .inl (.inr h)
        · exact .inr h
theorem mem_dd {l : List Nat} {x : Nat} : x ∈ dd l ↔ x ∈ l := by rw [dd, (dd_go l []).1]; simp
theorem dd_nodup (l : List Nat) : (dd l).Nodup := (dd_go l []).2.1 .nil
theorem dd_len (l : List Nat) : (dd l).length ≤ l.length := by have := (dd_go l []).2.2; simpa [dd] using this

theorem nodup_len : ∀ {l m : List Nat}, l.Nodup → (∀ x ∈ l, x ∈ m) → l.length ≤ m.length
  | [], m, _, _ => by simp
  | a :: l, m, nd, h => by
    have ha := h a List.mem_cons_self
    have nd' := List.nodup_cons.mp nd
    have : l.length ≤ (m.erase a).length := nodup_len nd'.2 fun x hx => (List.mem_erase_of_ne (fun e => nd'.1 (by rw [← e]; exact hx))).mpr (h x (List.mem_cons_of_mem _ hx))
    rw [List.length_erase_of_mem ha] at this
    have := List.length_pos_of_mem ha
    simp only [List.length_cons]
    omega

theorem xor_iff {x y a : Nat} : x ^^^ y = a ↔ y = x ^^^ a := by
  constructor
  · rintro rfl; rw [← Nat.xor_assoc, Nat.xor_self, Nat.zero_xor]
  · rintro rfl; rw [← Nat.xor_assoc, Nat.xor_self, Nat.zero_xor]

noncomputable def okX (R : List Nat) (a c x : Nat) : Bool := R.contains (x ^^^ a) && x &&& (x ^^^ a) == c

theorem inner_le {R : List Nat} (hR : R.Nodup) (a c x : Nat) : ((R.map fun y => (x, y)).filter (isK a c)).length ≤ if okX R a c x then 1 else 0 := by
  rw [List.filter_map, List.length_map]
  have hs : ∀ y ∈ R.filter (isK a c ∘ fun y => (x, y)), y ∈ (if okX R a c x then [x ^^^ a] else []) := fun y hy => by
    obtain ⟨hy, hk⟩ := List.mem_filter.mp hy
    simp only [Function.comp, isK, Bool.and_eq_true, beq_iff_eq] at hk
    have e := xor_iff.mp hk.1
    subst e
    have : okX R a c x = true := by simp [okX, hy, hk.2]
    rw [if_pos this]; simp
  have := nodup_len (List.filter_sublist.nodup hR) hs
  by_cases hk : okX R a c x = true
  · rw [if_pos hk] at this ⊢; exact this
  · rw [if_neg hk] at this ⊢; exact this
theorem inner_ge {R : List Nat} (a c x : Nat) : (if okX R a c x then 1 else 0) ≤ ((R.map fun y => (x, y)).filter (isK a c)).length := by
  split
  · rename_i h
    simp only [okX, Bool.and_eq_true, beq_iff_eq] at h
    have hm := List.contains_iff_mem.mp h.1
    refine List.length_pos_of_mem (a := (x, x ^^^ a)) (List.mem_filter.mpr ⟨List.mem_map.mpr ⟨_, hm, rfl⟩, ?_⟩)
    simp only [isK, Bool.and_eq_true, beq_iff_eq]
    exact ⟨xor_iff.mpr rfl, h.2⟩
  · omega
theorem cnt_cons (x : Nat) (L R : List Nat) (a c : Nat) : cnt (x :: L) R a c = ((R.map fun y => (x, y)).filter (isK a c)).length + cnt L R a c := by
  simp [cnt, prs]
theorem filt_cons (p : Nat → Bool) (x : Nat) (L : List Nat) : ((x :: L).filter p).length = (if p x then 1 else 0) + (L.filter p).length := by
  rw [List.filter_cons]; split <;> simp <;> omega
theorem cnt_le {R : List Nat} (hR : R.Nodup) (a c : Nat) : ∀ L : List Nat, cnt L R a c ≤ (L.filter (okX R a c)).length
  | [] => by simp [cnt, prs]
  | x :: L => by
    rw [cnt_cons, filt_cons]
    exact Nat.add_le_add (inner_le hR a c x) (cnt_le hR a c L)
theorem cnt_ge {R : List Nat} (a c : Nat) : ∀ L : List Nat, (L.filter (okX R a c)).length ≤ cnt L R a c
  | [] => by simp [cnt, prs]
  | x :: L => by
    rw [cnt_cons, filt_cons]
    exact Nat.add_le_add (inner_ge a c x) (cnt_ge a c L)

/-- the differences of few sets are no fewer -/
noncomputable def dif (a : Nat) (A : List Nat) : List Nat := dd (A.flatMap fun x => A.map fun z => x ||| (z ^^^ a))
theorem dif1 : ∀ a < 8, ∀ x < 8, 1 ≤ (dif a [x]).length := by decide +kernel
theorem dif2 : ∀ a < 8, ∀ x < 8, ∀ y < 8, (x &&& (x ^^^ a) = y &&& (y ^^^ a) ∧ ¬ x = y) → 2 ≤ (dif a [x, y]).length := by decide +kernel
theorem dif3_k : (r8.all fun a => r8.all fun x => r8.all fun y => r8.all fun z => !(x &&& (x ^^^ a) == y &&& (y ^^^ a) && (x &&& (x ^^^ a) == z &&& (z ^^^ a) && (x != y && (x != z && y != z)))) || Nat.ble 3 (dif a [x, y, z]).length) = true := by kernel_rfl
theorem dif3 {a x y z : Nat} (ha : a < 8) (hx : x < 8) (hy : y < 8) (hz : z < 8) (e1 : x &&& (x ^^^ a) = y &&& (y ^^^ a)) (e2 : x &&& (x ^^^ a) = z &&& (z ^^^ a)) (n1 : ¬ x = y) (n2 : ¬ x = z) (n3 : ¬ y = z) : 3 ≤ (dif a [x, y, z]).length := by
  have := List.all_eq_true.mp (List.all_eq_true.mp (List.all_eq_true.mp (List.all_eq_true.mp dif3_k a (mem_r8 ha)) x (mem_r8 hx)) y (mem_r8 hy)) z (mem_r8 hz)
  have c : (x &&& (x ^^^ a) == y &&& (y ^^^ a) && (x &&& (x ^^^ a) == z &&& (z ^^^ a) && (x != y && (x != z && y != z)))) = true := by
    simp only [Bool.and_eq_true, beq_iff_eq, bne_iff_ne, ne_eq]
    exact ⟨e1, e2, n1, n2, n3⟩
  rw [c] at this
  exact Nat.le_of_ble_eq_true (by simpa using this)
theorem dif_ge {a c : Nat} (ha : a < 8) : ∀ {A : List Nat}, A.length ≤ 3 → A.Nodup → (∀ x ∈ A, x < 8 ∧ x &&& (x ^^^ a) = c) → A.length ≤ (dif a A).length
  | [], _, _, _ => by simp
  | [x], _, _, h => dif1 a ha x (h x (by simp)).1
  | [x, y], _, nd, h => by
    have hx := h x (by simp); have hy := h y (by simp)
    simp only [List.nodup_cons, List.mem_cons, List.not_mem_nil, or_false, not_false_eq_true, List.nodup_nil, and_true] at nd
    exact dif2 a ha x hx.1 y hy.1 ⟨hx.2.trans hy.2.symm, nd⟩
  | [x, y, z], _, nd, h => by
    have hx := h x (by simp); have hy := h y (by simp); have hz := h z (by simp)
    simp only [List.nodup_cons, List.mem_cons, List.not_mem_nil, or_false, not_false_eq_true, List.nodup_nil, and_true, not_or] at nd
    exact dif3 ha hx.1 hy.1 hz.1 (hx.2.trans hy.2.symm) (hx.2.trans hz.2.symm) nd.1.1 nd.1.2 nd.2
  | _ :: _ :: _ :: _ :: _, hl, _, _ => by simp at hl
theorem up_dn : ∀ a < 8, ∀ x < 8, ∀ z < 8, x &&& (x ^^^ a) = z &&& (z ^^^ a) → (x ||| (z ^^^ a)) ^^^ a = z &&& (x ^^^ a) ∧ (x ||| (z ^^^ a)) &&& ((x ||| (z ^^^ a)) ^^^ a) = x &&& (x ^^^ a) := by decide +kernel

theorem mem_prs {L R : List Nat} {p : Nat × Nat} : p ∈ prs L R ↔ p.1 ∈ L ∧ p.2 ∈ R := by
  simp only [prs, List.mem_flatMap, List.mem_map]
  constructor
  · rintro ⟨x, hx, y, hy, rfl⟩; exact ⟨hx, hy⟩
  · rintro ⟨hx, hy⟩; exact ⟨p.1, hx, p.2, hy, rfl⟩
theorem mem_ups {L R : List Nat} {x y : Nat} (hx : x ∈ L) (hy : y ∈ R) : x ||| y ∈ ups L R := mem_dd.mpr (List.mem_map.mpr ⟨(x, y), mem_prs.mpr ⟨hx, hy⟩, rfl⟩)
theorem mem_lws {L R : List Nat} {x y : Nat} (hx : x ∈ L) (hy : y ∈ R) : x &&& y ∈ lws L R := mem_dd.mpr (List.mem_map.mpr ⟨(x, y), mem_prs.mpr ⟨hx, hy⟩, rfl⟩)

/-- Daykin's inequality, mixture by mixture -/
theorem daykin {L R : List Nat} (hl : L.length ≤ 3) (nl : L.Nodup) (nr : R.Nodup) (bl : ∀ x ∈ L, x < 8) {a : Nat} (ha : a < 8) (c : Nat) : cnt L R a c ≤ cnt (ups L R) (lws L R) a c := by
  refine Nat.le_trans (cnt_le nr a c L) (Nat.le_trans ?_ (cnt_ge a c _))
  have hA : ∀ x ∈ L.filter (okX R a c), x ∈ L ∧ x < 8 ∧ x ^^^ a ∈ R ∧ x &&& (x ^^^ a) = c := fun x hx => by
    obtain ⟨hx, hk⟩ := List.mem_filter.mp hx
    simp only [okX, Bool.and_eq_true, beq_iff_eq] at hk
    exact ⟨hx, bl x hx, List.contains_iff_mem.mp hk.1, hk.2⟩
  refine Nat.le_trans (dif_ge ha (Nat.le_trans (List.filter_sublist.length_le) hl) (List.filter_sublist.nodup nl) fun x hx => ⟨(hA x hx).2.1, (hA x hx).2.2.2⟩) ?_
  refine nodup_len (dd_nodup _) fun d hd => ?_
  obtain ⟨x, hx, hd⟩ := List.mem_flatMap.mp (mem_dd.mp hd)
  obtain ⟨z, hz, rfl⟩ := List.mem_map.mp hd
  obtain ⟨x1, x2, x3, x4⟩ := hA x hx
  obtain ⟨z1, z2, z3, z4⟩ := hA z hz
  obtain ⟨e1, e2⟩ := up_dn a ha x x2 z z2 (x4.trans z4.symm)
  refine List.mem_filter.mpr ⟨mem_ups x1 z3, ?_⟩
  simp only [okX, Bool.and_eq_true, beq_iff_eq]
  exact ⟨List.contains_iff_mem.mpr (e1 ▸ mem_lws z1 x3), e2.trans x4⟩
end Mine

-- P3
namespace Mine

theorem forRun_go {α : Type} {f : Sta → Option (Fl × Sta)} {tg : Tg} {g : α → List PV} (I : List α → Sta → Prop) (l0 : List α)
    (hs : ∀ pre a r st, pre ++ a :: r = l0 → I pre st → tg.free st.1 = true ∧ ∃ st', f (st.1, tg.bind (g a) st.2) = some (.nx, st') ∧ I (pre ++ [a]) st') :
    ∀ (l pre : List α) (st : Sta), pre ++ l = l0 → I pre st → ∃ st', forRun f tg (l.map g) st = some (.nx, st') ∧ I l0 st'
  | [], pre, st, e, h => ⟨st, rfl, by rw [← e, List.append_nil]; exact h⟩
  | a :: l, pre, st, e, h => by
    obtain ⟨hf, st1, h1, i1⟩ := hs pre a l st e h
    obtain ⟨st2, h2, i2⟩ := forRun_go I l0 hs l (pre ++ [a]) st1 (by simpa using e) i1
    refine ⟨st2, ?_, i2⟩
    rw [List.map_cons]
    unfold forRun
    rw [if_pos hf, h1]
    exact h2
theorem forRun_ind {α : Type} {f : Sta → Option (Fl × Sta)} {tg : Tg} {g : α → List PV} (I : List α → Sta → Prop) (l : List α) (st : Sta) (h : I [] st)
    (hs : ∀ pre a r st, pre ++ a :: r = l → I pre st → tg.free st.1 = true ∧ ∃ st', f (st.1, tg.bind (g a) st.2) = some (.nx, st') ∧ I (pre ++ [a]) st') :
    ∃ st', forRun f tg (l.map g) st = some (.nx, st') ∧ I l st' := forRun_go I l hs l [] st rfl h

theorem runC_map {α : Type} {F : List PV → Option (List PV)} {g : α → List PV} {h : α → List PV} : ∀ {l : List α}, (∀ a ∈ l, F (g a) = some (h a)) → runC F (l.map g) = some (l.flatMap h)
  | [], _ => rfl
  | a :: l, e => by
    rw [List.map_cons, List.flatMap_cons]
    unfold runC
    rw [e a List.mem_cons_self, runC_map fun b hb => e b (List.mem_cons_of_mem _ hb)]

theorem inP_map {k : Nat → PV} {x : Nat} : ∀ {acc : List Nat}, (∀ y ∈ acc, eqP (k y) (k x) = some (y == x)) → inP (k x) (acc.map k) = some (acc.contains x)
  | [], _ => rfl
  | y :: acc, e => by
    rw [List.map_cons]
    unfold inP
    rw [e y List.mem_cons_self, inP_map fun b hb => e b (List.mem_cons_of_mem _ hb)]
    simp only [List.contains_cons, Option.some.injEq]
    rw [Bool.beq_comm (a := y)]

theorem unl_turn {st : Sta} {k : Nat → PV} {acc : List Nat} {x : Nat} (h : st.1 39 = some (.lst (acc.map k))) (h0 : st.1 40 = none) (he : ∀ y ∈ acc, eqP (k y) (k x) = some (y == x)) (hl : acc.length ≤ 1000) :
    ∃ st', run S0 (.seq (.ifs (.cmp .NotIn (.nm 40) (.nm 39)) (.seq (.app 39 (.nm 40)) .skip) .skip) .skip) (st.1, upd st.2 40 (some (k x))) = some (.nx, st') ∧ st'.1 39 = some (.lst ((if acc.contains x then acc else acc ++ [x]).map k)) ∧ st'.1 40 = none := by
  have e1 : rB st.1 (upd st.2 40 (some (k x))) 40 = some (k x) := by simp [rB, h0, upd_at]
  have e2 : rB st.1 (upd st.2 40 (some (k x))) 39 = some (.lst (acc.map k)) := by simp [rB, h]
  have e3 : cmpP .NotIn (k x) (.lst (acc.map k)) = some (!acc.contains x) := by
    have := inP_map he
    show (inP (k x) (acc.map k)).map not = _
    rw [this]; rfl
  by_cases hc : acc.contains x = true
  · refine ⟨(st.1, upd st.2 40 (some (k x))), ?_, by rw [if_pos hc]; exact h, h0⟩
    simp only [run, ev, e1, e2, e3, hc, truthO, truthP, Option.map_some, Bool.not_true]
  · have hc' : acc.contains x = false := by simpa using hc
    refine ⟨(upd st.1 39 (some (.lst (acc.map k ++ [k x]))), upd st.2 40 (some (k x))), ?_, by rw [if_neg hc]; simp [upd_at], by simp [upd, h0]⟩
    simp only [run, ev, e1, e2, e3, hc', truthO, truthP, Option.map_some, Bool.not_false, h, upd_at, List.length_map, hl, if_true]

theorem dd_snoc (l : List Nat) (x : Nat) : dd (l ++ [x]) = if (dd l).contains x then dd l else dd l ++ [x] := by
  unfold dd; rw [List.foldl_append]; rfl
theorem unl_map {k : Nat → PV} {l : List Nat} (he : ∀ x ∈ l, ∀ y ∈ l, eqP (k y) (k x) = some (y == x)) (hl : l.length ≤ 1000) : an_unl [.lst (l.map k)] = some (.lst ((dd l).map k)) := by
  obtain ⟨st', h1, h2, _⟩ := forRun_ind (f := run S0 (.seq (.ifs (.cmp .NotIn (.nm 40) (.nm 39)) (.seq (.app 39 (.nm 40)) .skip) .skip) .skip)) (tg := .one 40) (g := fun x => [k x])
    (fun pre st => st.1 39 = some (.lst ((dd pre).map k)) ∧ st.1 40 = none) l (upd (fun _ => none) 39 (some (.lst [])), upd (rho0 [38] [.lst (l.map k)]) 39 none) ⟨rfl, rfl⟩
    (fun pre a r st e h => ⟨by simp [Tg.free, h.2], by
      have hp : ∀ y ∈ dd pre, y ∈ l := fun y hy => by rw [← e]; exact List.mem_append_left _ (mem_dd.mp hy)
      have ha : a ∈ l := by rw [← e]; simp
      have hz : (dd pre).length ≤ 1000 := by
        have := congrArg List.length e
        simp only [List.length_append, List.length_cons] at this
        have := dd_len pre
        omega
      rw [dd_snoc]
      exact unl_turn h.1 h.2 (fun y hy => he a ha y (hp y hy)) hz⟩)
  have r1 : run S0 sx_unl_1 (upd (fun _ => none) 39 (some (.lst [])), upd (rho0 [38] [.lst (l.map k)]) 39 none) = some (.nx, st') := by
    rw [show (l.map fun x => [k x]) = (l.map k).map fun p => [p] by rw [List.map_map]; rfl] at h1
    exact h1
  have r2 : run S0 sx_unl_2 st' = some (.rt (.lst ((dd l).map k)), st') := by
    unfold sx_unl_2
    have : rB st'.1 st'.2 39 = some (.lst ((dd l).map k)) := by simp [rB, h2]
    simp only [run, ev, this]
  show semSt S0 sx_unl_1 _ _ = _
  unfold semSt
  rw [r1]
  show semSt S0 sx_unl_2 _ _ = _
  unfold semSt
  rw [r2]
end Mine

-- P4
namespace Mine

-- the values, name by name
section
variable {x y : Nat} (hx : x < 8) (hy : y < 8)
include hx hy
theorem can : mixP x y = mixP (x ||| y) (x &&& y) := all_of k_can (x, y) (mem_p8 hx hy)
theorem can2 : (nameL x y, formL x y, x ^^^ y, x &&& y) = (nameL (x ||| y) (x &&& y), formL (x ||| y) (x &&& y), (x ||| y) ^^^ (x &&& y), (x ||| y) &&& (x &&& y)) := all_of k_can2 (x, y) (mem_p8 hx hy)
theorem can3 : (x ||| y, x &&& y) ∈ c27 := List.contains_iff_mem.mp (List.all_eq_true.mp k_can3 (x, y) (mem_p8 hx hy))
theorem cal_mix : an_cal [mixP x y] = some (.str (nameL x y)) := by
  rw [can hx hy, show nameL x y = _ from congrArg (·.1) (can2 hx hy)]
  exact all_of k_cal (x ||| y, x &&& y) (can3 hx hy)
theorem wri_mix : an_wri [mixP x y] = some (.str (formL x y)) := by
  rw [can hx hy, show formL x y = _ from congrArg (·.2.1) (can2 hx hy)]
  exact all_of k_wri (x ||| y, x &&& y) (can3 hx hy)
theorem due_is : an_due [.int x, .int y] = some (.str (nameL x y)) := all_of k_due (x, y) (mem_p8 hx hy)
theorem up_is : meP .upper (.str (nameL x y)) [] = some (.str (nameU x y)) := all_of k_up (x, y) (mem_p8 hx hy)
theorem lowL : meP .lower (.str (nameL x y)) [] = some (.str (nameL x y)) := all_of k_lowL (x, y) (mem_p8 hx hy)
theorem lowU : meP .lower (.str (nameU x y)) [] = some (.str (nameL x y)) := all_of k_lowU (x, y) (mem_p8 hx hy)
theorem noL : noMatch codeN (nameL x y) = true := List.all_eq_true.mp k_noL (x, y) (mem_p8 hx hy)
theorem noU : noMatch codeN (nameU x y) = true := List.all_eq_true.mp k_noU (x, y) (mem_p8 hx hy)
theorem lev_is : an_lev [.str (wordN x), .str (wordN y), .int 3] = some (.int ((((x ^^^ y) % 2 + (x ^^^ y) / 2 % 2 + (x ^^^ y) / 4 : Nat) : Int))) := all_of k_lev (x, y) (mem_p8 hx hy)
theorem ell_is {k : Nat} (hk : k < 8) : an_ell [.str (formL x y), .str (wordN k)] = some (.bool (k &&& (7 - (x ^^^ y)) == x &&& y)) := by
  have c := can2 hx hy
  rw [show formL x y = _ from congrArg (·.2.1) c, show x ^^^ y = _ from congrArg (·.2.2.1) c]
  have := all_of k_ell ((x ||| y, x &&& y), k) (List.mem_flatMap.mpr ⟨_, can3 hx hy, List.mem_map.mpr ⟨k, mem_r8 hk, rfl⟩⟩)
  refine this.trans ?_
  rw [show (x ||| y) &&& (x &&& y) = x &&& y from (congrArg (·.2.2.2) c).symm]
theorem ell1_is : an_ell [.str (formL x y), .str ("-" ++ wordN x)] = some (.bool ((x ^^^ y) % 2 == 1)) := all_of k_ell1 (x, y) (mem_p8 hx hy)
theorem ell2_is : an_ell [.str (formL x y), .str (wordN y ++ "-")] = some (.bool ((x ^^^ y) / 4 == 1)) := all_of k_ell2 (x, y) (mem_p8 hx hy)
end
theorem noV : noMatch codeV "drawn" = true ∧ joinSame "drawn" = true ∧ noMatch codeV "made" = true ∧ joinSame "made" = true := by
  have := k_noV
  simpa [Bool.and_eq_true, and_assoc] using this
theorem key_is {x y a b : Nat} (hx : x < 8) (hy : y < 8) (ha : a < 8) (hb : b < 8) : (nameL x y == nameL a b) = isK (a ^^^ b) (a &&& b) (x, y) := by
  have := List.all_eq_true.mp (List.all_eq_true.mp k_key (x, y) (mem_p8 hx hy)) (a, b) (mem_p8 ha hb)
  exact eq_of_beq this
theorem k_bits : (p8.all fun a => a.1 ||| a.2 < 8 && a.1 &&& a.2 < 8 && a.1 ^^^ a.2 < 8) = true := by kernel_rfl
theorem bits {x y : Nat} (hx : x < 8) (hy : y < 8) : x ||| y < 8 ∧ x &&& y < 8 ∧ x ^^^ y < 8 := by
  have := List.all_eq_true.mp k_bits (x, y) (mem_p8 hx hy)
  simp only [Bool.and_eq_true, decide_eq_true_eq] at this
  exact ⟨this.1.1, this.1.2, this.2⟩

-- ints
noncomputable def kI (x : Nat) : PV := .int (x : Int)
theorem k_xor : (p8.map fun a => Builtin.bitXor (a.1 : Int) a.2) = p8.map fun a => ((a.1 ^^^ a.2 : Nat) : Int) := by kernel_rfl
theorem k_and : (p8.map fun a => Builtin.bitAnd (a.1 : Int) a.2) = p8.map fun a => ((a.1 &&& a.2 : Nat) : Int) := by kernel_rfl
theorem k_or : (p8.map fun a => Builtin.bitOr (a.1 : Int) a.2) = p8.map fun a => ((a.1 ||| a.2 : Nat) : Int) := by kernel_rfl
section
variable {x y : Nat} (hx : x < 8) (hy : y < 8)
include hx hy
theorem xorI : binP .BitXor (kI x) (kI y) = some (kI (x ^^^ y)) := congrArg (fun i => some (PV.int i)) (all_of k_xor (x, y) (mem_p8 hx hy))
theorem andI : binP .BitAnd (kI x) (kI y) = some (kI (x &&& y)) := congrArg (fun i => some (PV.int i)) (all_of k_and (x, y) (mem_p8 hx hy))
theorem orI : binP .BitOr (kI x) (kI y) = some (kI (x ||| y)) := congrArg (fun i => some (PV.int i)) (all_of k_or (x, y) (mem_p8 hx hy))
end
theorem castEq (x y : Nat) : ((x : Int) == (y : Int)) = (x == y) := by
  by_cases h : x = y
  · subst h; simp
  · have : ¬ (x : Int) = (y : Int) := fun e => h (Int.ofNat.inj e)
    rw [beq_false_of_ne this, beq_false_of_ne h]
theorem eqI (x y : Nat) : eqP (kI x) (kI y) = some (x == y) := by
  show some ((x : Int) == (y : Int)) = _
  rw [castEq]
theorem cmpI (x y : Nat) : cmpP .Eq (kI x) (kI y) = some (x == y) := eqI x y

-- comprehensions
theorem prs_flat {β : Type} (L R : List Nat) (h : Nat → Nat → List β) : (L.flatMap fun a => R.flatMap fun b => h a b) = (prs L R).flatMap fun p => h p.1 p.2 := by
  unfold prs
  rw [List.flatMap_assoc]
  congr 1; funext a
  rw [List.flatMap_map]
noncomputable def r2 (ρ : Rho) (i j : Nat) (p q : PV) : Rho := upd (upd (upd (upd (upd ρ j none) i none) i (some p)) j none) j (some q)
theorem ev_comp2 {S : SG} {ρ : Rho} {ea eb c e : X} {i j : Nat} {L R : List Nat} {k kr : Nat → PV} {h : Nat → Nat → List PV} (ha : ev S ea ρ = some (.lst (L.map k)))
    (hb : ∀ a ∈ L, ev S eb (upd (upd (upd ρ j none) i none) i (some (k a))) = some (.lst (R.map kr)))
    (hc : ∀ a ∈ L, ∀ b ∈ R, condV (ev S c (r2 ρ i j (k a) (kr b))) (ev S e (r2 ρ i j (k a) (kr b))) = some (h a b)) :
    ev S (.comp2 ea (.one i) eb (.one j) c e) ρ = okLen ((prs L R).flatMap fun p => h p.1 p.2) := by
  unfold ev
  rw [ha]
  show (match runC _ ((L.map k).map fun p => [p]) with | some rs => okLen rs | none => none) = _
  rw [List.map_map, runC_map (g := (fun p => [p]) ∘ k) (h := fun a => R.flatMap fun b => h a b), prs_flat]
  intro a ha'
  show run2 _ _ [k a] = _
  unfold run2
  show (match (match ev S eb (upd (upd (upd ρ j none) i none) i (some (k a))) with | some q => items .L q .none | none => none) with | some psl2 => _ | none => none) = _
  rw [hb a ha']
  show runC _ ((R.map kr).map fun p => [p]) = _
  rw [List.map_map]
  exact runC_map (g := (fun p => [p]) ∘ kr) fun b hb' => hc a ha' b hb'
theorem ev_compL {α : Type} {S : SG} {ρ : Rho} {ea c e : X} {i : Nat} {L : List α} {k : α → PV} {h : α → List PV} (ha : ev S ea ρ = some (.lst (L.map k)))
    (hc : ∀ a ∈ L, condV (ev S c (upd (upd ρ i none) i (some (k a)))) (ev S e (upd (upd ρ i none) i (some (k a)))) = some (h a)) :
    ev S (.comp .L ea (.cst .none) (.one i) c e) ρ = okLen (L.flatMap h) := by
  unfold ev
  rw [ha]
  show (match runC _ ((L.map k).map fun p => [p]) with | some rs => okLen rs | none => none) = _
  rw [List.map_map, runC_map (g := (fun p => [p]) ∘ k) (h := h)]
  intro a ha'
  exact hc a ha'

theorem flat_if {α β : Type} (p : α → Bool) (f : α → β) : ∀ l : List α, (l.flatMap fun a => if p a then [f a] else []) = (l.filter p).map f
  | [] => rfl
  | a :: l => by
    rw [List.flatMap_cons, List.filter_cons, flat_if p f l]
    split <;> rfl
theorem flat_one {α β : Type} (f : α → β) : ∀ l : List α, (l.flatMap fun a => [f a]) = l.map f
  | [] => rfl
  | a :: l => by rw [List.flatMap_cons, flat_one f l]; rfl
theorem prs_len (L R : List Nat) : (prs L R).length = L.length * R.length := by
  induction L with
  | nil => simp [prs]
  | cons a L ih =>
    show ((R.map fun y => (a, y)) ++ prs L R).length = _
    rw [List.length_append, ih, List.length_map, List.length_cons, Nat.succ_mul, Nat.add_comm]
theorem okLen_of {l : List PV} (h : l.length ≤ 1000) : okLen l = some (.lst l) := if_pos h

theorem oft_is {L R : List Nat} (hL : ∀ x ∈ L, x < 8) (hR : ∀ y ∈ R, y < 8) (hz : L.length * R.length ≤ 1000) (a c : Nat) : an_oft [.lst (L.map kI), .lst (R.map kI), kI a, kI c] = some (kI (cnt L R a c)) := by
  have hlen : ((prs L R).flatMap fun p => if isK a c p then [kI p.1] else []).length = cnt L R a c := by
    rw [flat_if (isK a c) fun p => kI p.1, List.length_map]; rfl
  have hle : cnt L R a c ≤ 1000 := Nat.le_trans (List.length_filter_le _ _) (by rw [prs_len]; exact hz)
  have hcomp := ev_comp2 (S := S0) (ρ := rho0 [57, 58, 64, 65] [.lst (L.map kI), .lst (R.map kI), kI a, kI c]) (ea := .nm 57) (eb := .nm 58) (i := 66) (j := 67) (L := L) (R := R) (k := kI) (kr := kI)
    (c := .and (.cmp .Eq (.bin .BitXor (.nm 66) (.nm 67)) (.nm 64)) (.cmp .Eq (.bin .BitAnd (.nm 66) (.nm 67)) (.nm 65))) (e := .nm 66) (h := fun x y => if isK a c (x, y) then [kI x] else []) rfl (fun _ _ => rfl)
    (fun x hx y hy => by
      have e66 : r2 (rho0 [57, 58, 64, 65] [.lst (L.map kI), .lst (R.map kI), kI a, kI c]) 66 67 (kI x) (kI y) 66 = some (kI x) := rfl
      have e67 : r2 (rho0 [57, 58, 64, 65] [.lst (L.map kI), .lst (R.map kI), kI a, kI c]) 66 67 (kI x) (kI y) 67 = some (kI y) := rfl
      have e64 : r2 (rho0 [57, 58, 64, 65] [.lst (L.map kI), .lst (R.map kI), kI a, kI c]) 66 67 (kI x) (kI y) 64 = some (kI a) := rfl
      have e65 : r2 (rho0 [57, 58, 64, 65] [.lst (L.map kI), .lst (R.map kI), kI a, kI c]) 66 67 (kI x) (kI y) 65 = some (kI c) := rfl
      simp only [ev, e66, e67, e64, e65, xorI (hL x hx) (hR y hy), andI (hL x hx) (hR y hy), cmpI, Option.map_some, truthP, condV, isK]
      rcases Bool.eq_false_or_eq_true (x ^^^ y == a) with h1 | h1 <;> rcases Bool.eq_false_or_eq_true (x &&& y == c) with h2 | h2 <;> simp only [h1, h2] <;> rfl)
  rw [okLen_of (by rw [hlen]; exact hle)] at hcomp
  show semRun S0 sx_oft _ = _
  unfold semRun sx_oft
  have hrB : ∀ ρ : Rho, rB (fun _ => none) ρ = ρ := fun ρ => rfl
  simp only [run, hrB]
  rw [show ∀ (ρ : Rho) (z : X), ev S0 (.bi .len (.cons z .nil)) ρ = (match ev S0 z ρ with | some p => biP .len [p] | none => none) from fun ρ z => by
    simp only [ev]; cases ev S0 z ρ <;> rfl, hcomp]
  have hbi : biP .len [.lst ((prs L R).flatMap fun p => if isK a c (p.1, p.2) then [kI p.1] else [])] = some (kI (cnt L R a c)) := by
    show (if _ then some (PV.int _) else none) = _
    rw [show ((prs L R).flatMap fun p => if isK a c (p.1, p.2) then [kI p.1] else []).length = cnt L R a c from hlen, if_pos hle]; rfl
  simp only [hbi]
end Mine

-- P5
namespace Mine

/-- a line of the book: made or drawn, the lighter one, the darker one -/
noncomputable abbrev En := Bool × Nat × Nat
noncomputable def wdS (b : Bool) : Str := cond b "made" "drawn"
noncomputable def wd (b : Bool) : PV := .str (wdS b)
noncomputable def enS (e : En) : Str := cond e.1 (nameU e.2.1 e.2.2) (nameL e.2.1 e.2.2)
noncomputable def ent (e : En) : PV := .tup [.str (enS e), .str (wdS e.1)]
noncomputable def En8 (e : En) : Prop := e.2.1 < 8 ∧ e.2.2 < 8
theorem low_en {e : En} (h : En8 e) : meP .lower (.str (enS e)) [] = some (.str (nameL e.2.1 e.2.2)) := by
  obtain ⟨b, x, y⟩ := e
  cases b
  · exact lowL h.1 h.2
  · exact lowU h.1 h.2

theorem geta_ents {n y : Str} {es : List En} (hn : meP .lower (.str n) [] = some (.str y)) (hm : noMatch codeN y = true) (hb : ∀ e ∈ es, En8 e) (hl : es.length ≤ 1000) :
    an_geta [.hdr (es.map ent), .str n] = some (.lst ((es.filter fun e => nameL e.2.1 e.2.2 == y).map fun e => wd e.1)) := by
  have hrun : runC (gaF (upd (rho0 [96, 87] [.hdr (es.map ent), .str n]) 87 (some (.str y)))) ((es.map ent).map fun p => [p]) = some ((es.filter fun e => nameL e.2.1 e.2.2 == y).map fun e => wd e.1) := by
    rw [List.map_map, ← flat_if (fun e : En => nameL e.2.1 e.2.2 == y) (fun e => wd e.1)]
    refine runC_map (g := (fun p => [p]) ∘ ent) fun e he => ?_
    have e97 : (Tg.one 97).bind [ent e] ((Tg.one 97).clear (upd (rho0 [96, 87] [.hdr (es.map ent), .str n]) 87 (some (.str y)))) 97 = some (ent e) := rfl
    have e87 : (Tg.one 97).bind [ent e] ((Tg.one 97).clear (upd (rho0 [96, 87] [.hdr (es.map ent), .str n]) 87 (some (.str y)))) 87 = some (.str y) := rfl
    have i0 : idxP (ent e) (.int 0) = some (.str (enS e)) := rfl
    have i1 : idxP (ent e) (.int 1) = some (wd e.1) := rfl
    have hc : cmpP .Eq (.str (nameL e.2.1 e.2.2)) (.str y) = some (nameL e.2.1 e.2.2 == y) := rfl
    show gaF _ [ent e] = _
    simp only [gaF, xGc, xGe, ev, e97, e87, i0, i1, low_en (hb e he), hc, Option.map_some, condV, truthP]
    rcases Bool.eq_false_or_eq_true (nameL e.2.1 e.2.2 == y) with h1 | h1 <;> simp only [h1] <;> rfl
  have hlen : ((es.filter fun e => nameL e.2.1 e.2.2 == y).map fun e => wd e.1).length ≤ 1000 := by
    rw [List.length_map]; exact Nat.le_trans (List.length_filter_le _ _) hl
  show smG (fun _ => none, rho0 [96, 87] [.hdr (es.map ent), .str n]) = _
  unfold smG
  show (match meP .lower (.str n) [] with | some (.str y) => (if ((fun _ => none : Rho) 87).isNone && noMatch codeN y then match runC (gaF (upd (rho0 [96, 87] [.hdr (es.map ent), .str n]) 87 (some (.str y)))) ((es.map ent).map fun p => [p]) with | some rs => okLen rs | none => none else none) | _ => none) = _
  rw [hn]
  simp only [hm, hrun, okLen_of hlen]
  rfl

-- the book
noncomputable def kS (x : Nat) : PV := .tup (flP x)
noncomputable def kH (x : Nat) : PV := .lst (flP x)
theorem k_max : ([(false, false), (false, true), (true, false), (true, true)].map fun p => bestP true [.flt (if p.1 then 4607182418800017408 else 0), .flt (if p.2 then 4607182418800017408 else 0)]) =
    [(false, false), (false, true), (true, false), (true, true)].map fun p => some (.flt (if p.1 || p.2 then 4607182418800017408 else 0)) := by kernel_rfl
theorem k_min : ([(false, false), (false, true), (true, false), (true, true)].map fun p => bestP false [.flt (if p.1 then 4607182418800017408 else 0), .flt (if p.2 then 4607182418800017408 else 0)]) =
    [(false, false), (false, true), (true, false), (true, true)].map fun p => some (.flt (if p.1 && p.2 then 4607182418800017408 else 0)) := by kernel_rfl
theorem max_bit (x y i : Nat) : bestP true [bitF x i, bitF y i] = some (bitF (x ||| y) i) := by
  have := all_of k_max (x.testBit i, y.testBit i) (by cases x.testBit i <;> cases y.testBit i <;> simp)
  unfold bitF; rw [Nat.testBit_or]; exact this
theorem min_bit (x y i : Nat) : bestP false [bitF x i, bitF y i] = some (bitF (x &&& y) i) := by
  have := all_of k_min (x.testBit i, y.testBit i) (by cases x.testBit i <;> cases y.testBit i <;> simp)
  unfold bitF; rw [Nat.testBit_and]; exact this
noncomputable def xMax : X := .comp .Z (.nm 41) (.nm 42) (.two 43 44) (.cst (.bool true)) (.bi .max (.cons (.nm 43) (.cons (.nm 44) .nil)))
noncomputable def xMin : X := .comp .Z (.nm 41) (.nm 42) (.two 43 44) (.cst (.bool true)) (.bi .min (.cons (.nm 43) (.cons (.nm 44) .nil)))
theorem zip3 {F : List PV → Option (List PV)} {a0 a1 a2 b0 b1 b2 c0 c1 c2 : PV} (h0 : F [a0, b0] = some [c0]) (h1 : F [a1, b1] = some [c1]) (h2 : F [a2, b2] = some [c2]) : runC F [[a0, b0], [a1, b1], [a2, b2]] = some [c0, c1, c2] := by
  simp only [runC, h0, h1, h2]; rfl
theorem ev_max1 (ρ : Rho) (a b : UInt64) : (fun p q => condV (ev S3 (.cst (.bool true)) ((Tg.two 43 44).bind [p, q] ((Tg.two 43 44).clear ρ))) (ev S3 (.bi .max (.cons (.nm 43) (.cons (.nm 44) .nil))) ((Tg.two 43 44).bind [p, q] ((Tg.two 43 44).clear ρ))) = condV (some (.bool true)) (bestP true [p, q])) (.flt a) (.flt b) := by
  generalize hp : PV.flt a = p
  generalize hq : PV.flt b = q
  show condV _ _ = condV _ _
  have e43 : (Tg.two 43 44).bind [p, q] ((Tg.two 43 44).clear ρ) 43 = some p := rfl
  have e44 : (Tg.two 43 44).bind [p, q] ((Tg.two 43 44).clear ρ) 44 = some q := rfl
  simp only [ev, e43, e44]; subst hp; subst hq; rfl
theorem ev_max {ρ : Rho} {x y : Nat} (h1 : ρ 41 = some (kS x)) (h2 : ρ 42 = some (kS y)) : ev S3 xMax ρ = some (kH (x ||| y)) := by
  unfold xMax ev
  rw [show ev S3 (.nm 41) ρ = _ from h1, show ev S3 (.nm 42) ρ = _ from h2]
  show (match runC _ [[bitF x 0, bitF y 0], [bitF x 1, bitF y 1], [bitF x 2, bitF y 2]] with | some rs => okLen rs | none => none) = _
  rw [zip3 (c0 := bitF (x ||| y) 0) (c1 := bitF (x ||| y) 1) (c2 := bitF (x ||| y) 2)]
  · rfl
  all_goals
    refine (ev_max1 _ _ _).trans ?_
    exact congrArg (condV (some (.bool true))) (max_bit x y _)
theorem ev_min1 (ρ : Rho) (a b : UInt64) : (fun p q => condV (ev S3 (.cst (.bool true)) ((Tg.two 43 44).bind [p, q] ((Tg.two 43 44).clear ρ))) (ev S3 (.bi .min (.cons (.nm 43) (.cons (.nm 44) .nil))) ((Tg.two 43 44).bind [p, q] ((Tg.two 43 44).clear ρ))) = condV (some (.bool true)) (bestP false [p, q])) (.flt a) (.flt b) := by
  generalize hp : PV.flt a = p
  generalize hq : PV.flt b = q
  show condV _ _ = condV _ _
  have e43 : (Tg.two 43 44).bind [p, q] ((Tg.two 43 44).clear ρ) 43 = some p := rfl
  have e44 : (Tg.two 43 44).bind [p, q] ((Tg.two 43 44).clear ρ) 44 = some q := rfl
  simp only [ev, e43, e44]; subst hp; subst hq; rfl
theorem ev_min {ρ : Rho} {x y : Nat} (h1 : ρ 41 = some (kS x)) (h2 : ρ 42 = some (kS y)) : ev S3 xMin ρ = some (kH (x &&& y)) := by
  unfold xMin ev
  rw [show ev S3 (.nm 41) ρ = _ from h1, show ev S3 (.nm 42) ρ = _ from h2]
  show (match runC _ [[bitF x 0, bitF y 0], [bitF x 1, bitF y 1], [bitF x 2, bitF y 2]] with | some rs => okLen rs | none => none) = _
  rw [zip3 (c0 := bitF (x &&& y) 0) (c1 := bitF (x &&& y) 1) (c2 := bitF (x &&& y) 2)]
  · rfl
  all_goals
    refine (ev_min1 _ _ _).trans ?_
    exact congrArg (condV (some (.bool true))) (min_bit x y _)

theorem run_hadd {S : SG} {st : Sta} {x : Nat} {a b : X} {l : List PV} {n v : Str} (h : st.1 x = some (.hdr l)) (ha : ev S a st.2 = some (.str n)) (hb : ev S b st.2 = some (.str v)) (h1 : noMatch codeN n = true) (h2 : noMatch codeV v = true) (h3 : joinSame v = true) (h4 : l.length ≤ 1000) :
    run S (.hadd x a b) st = some (.nx, (upd st.1 x (some (.hdr (l ++ [.tup [.str n, .str v]]))), st.2)) := by
  simp only [run, h, ha, hb, h1, h2, h3, h4, decide_true, Bool.and_true, if_true]
theorem run_app {S : SG} {st : Sta} {x : Nat} {e : X} {l : List PV} {p : PV} (h : st.1 x = some (.lst l)) (he : ev S e st.2 = some p) (h4 : l.length ≤ 1000) :
    run S (.app x e) st = some (.nx, (upd st.1 x (some (.lst (l ++ [p]))), st.2)) := by
  simp only [run, h, he, h4, if_true]
theorem run_seq {S : SG} {a b : SX} {st st' : Sta} {r : Option (Fl × Sta)} (h : run S a st = some (.nx, st')) (h2 : run S b st' = r) : run S (.seq a b) st = r := by
  rw [← h2]; simp only [run, h]
end Mine

-- P6
namespace Mine

theorem run_fors {α : Type} {S : SG} {st : Sta} {a : X} {i : Nat} {body : SX} {l : List α} {k : α → PV} (ha : ev S a st.2 = some (.lst (l.map k))) :
    run S (.fors .L a (.cst .none) (.one i) body) st = forRun (run S body) (.one i) (l.map fun x => [k x]) st := by
  rw [show (l.map fun x => [k x]) = (l.map k).map fun p => [p] by rw [List.map_map]; rfl]
  simp only [run, ha]
  rfl

noncomputable def bDr : SX := (.seq (.hadd 59 (.fn .cal (.cons (.fn .mix (.cons (.nm 41) (.cons (.nm 42) .nil))) .nil)) (.cst (.str "drawn"))) (.seq (.app 60 xMax) (.seq (.app 61 xMin) .skip)))
noncomputable def bMa : SX := (.seq (.hadd 59 (.me .upper (.fn .cal (.cons (.fn .mix (.cons (.nm 62) (.cons (.nm 63) .nil))) .nil)) .nil) (.cst (.str "made"))) .skip)
noncomputable def dr (p : Nat × Nat) : En := (false, p.1, p.2)
noncomputable def ma (p : Nat × Nat) : En := (true, p.1, p.2)
theorem boo3 : sx_boo_3 = .fors .L (.nm 57) (.cst .none) (.one 41) (.seq (.fors .L (.nm 58) (.cst .none) (.one 42) bDr) .skip) := rfl
theorem boo6 : sx_boo_6 = .fors .L (.fn .unl (.cons (.nm 60) .nil)) (.cst .none) (.one 62) (.seq (.fors .L (.fn .unl (.cons (.nm 61) .nil)) (.cst .none) (.one 63) bMa) .skip) := rfl

structure DrI (R : List Nat) (ps : List (Nat × Nat)) (st : Sta) : Prop where
  o59 : st.1 59 = some (.hdr (ps.map fun p => ent (dr p)))
  o60 : st.1 60 = some (.lst (ps.map fun p => kH (p.1 ||| p.2)))
  o61 : st.1 61 = some (.lst (ps.map fun p => kH (p.1 &&& p.2)))
  n : st.1 41 = none ∧ st.1 42 = none ∧ st.1 62 = none ∧ st.1 63 = none
  r58 : st.2 58 = some (.lst (R.map kS))

theorem ev_drawn {ρ : Rho} {x y : Nat} (hx : x < 8) (hy : y < 8) (h1 : ρ 41 = some (kS x)) (h2 : ρ 42 = some (kS y)) : ev S3 (.fn .cal (.cons (.fn .mix (.cons (.nm 41) (.cons (.nm 42) .nil))) .nil)) ρ = some (.str (nameL x y)) := by
  have hm : S3 .mix [kS x, kS y] = some (mixP x y) := mix_t x y
  have hc : S3 .cal [mixP x y] = some (.str (nameL x y)) := cal_mix hx hy
  simp only [ev, h1, h2, hm, hc]
theorem ev_made {ρ : Rho} {x y : Nat} (hx : x < 8) (hy : y < 8) (h1 : ρ 62 = some (kH x)) (h2 : ρ 63 = some (kH y)) : ev S3 (.me .upper (.fn .cal (.cons (.fn .mix (.cons (.nm 62) (.cons (.nm 63) .nil))) .nil)) .nil) ρ = some (.str (nameU x y)) := by
  have hm : S3 .mix [kH x, kH y] = some (mixP x y) := mix_l x y
  have hc : S3 .cal [mixP x y] = some (.str (nameL x y)) := cal_mix hx hy
  simp only [ev, h1, h2, hm, hc, up_is hx hy]

theorem dr_turn {R : List Nat} {ps : List (Nat × Nat)} {st : Sta} {a b : Nat} (h : DrI R ps st) (ha : a < 8) (hb : b < 8) (h41 : st.2 41 = some (kS a)) (hl : ps.length ≤ 1000) :
    ∃ st', run S3 bDr (st.1, upd st.2 42 (some (kS b))) = some (.nx, st') ∧ DrI R (ps ++ [(a, b)]) st' ∧ st'.2 41 = some (kS a) := by
  have e1 : upd st.2 42 (some (kS b)) 41 = some (kS a) := by rw [upd_ne (by decide)]; exact h41
  have e2 : upd st.2 42 (some (kS b)) 42 = some (kS b) := upd_at _ _ _
  obtain ⟨v1, v2, _, _⟩ := noV
  refine ⟨(upd (upd (upd st.1 59 (some (.hdr (ps.map (fun p => ent (dr p)) ++ [.tup [.str (nameL a b), .str "drawn"]])))) 60 (some (.lst (ps.map (fun p => kH (p.1 ||| p.2)) ++ [kH (a ||| b)])))) 61 (some (.lst (ps.map (fun p => kH (p.1 &&& p.2)) ++ [kH (a &&& b)]))), upd st.2 42 (some (kS b))), ?_, ?_, ?_⟩
  · refine run_seq (run_hadd h.o59 (ev_drawn ha hb e1 e2) rfl (noL ha hb) v1 v2 (by rw [List.length_map]; exact hl)) ?_
    refine run_seq (run_app (l := ps.map fun (p : Nat × Nat) => kH (p.1 ||| p.2)) (by exact h.o60) (ev_max e1 e2) (by rw [List.length_map]; exact hl)) ?_
    refine run_seq (run_app (l := ps.map fun (p : Nat × Nat) => kH (p.1 &&& p.2)) (by exact h.o61) (ev_min e1 e2) (by rw [List.length_map]; exact hl)) rfl
  · refine ⟨?_, ?_, ?_, ?_, ?_⟩
    · rw [List.map_append]; rfl
    · rw [List.map_append]; rfl
    · rw [List.map_append]; rfl
    · exact h.n
    · exact h.r58
  · exact e1
theorem snoc_map (a : Nat) (pre : List Nat) (b : Nat) : (pre ++ [b]).map (fun y => (a, y)) = pre.map (fun y => (a, y)) ++ [(a, b)] := by rw [List.map_append]; rfl

theorem dr_row {R : List Nat} {ps : List (Nat × Nat)} {st : Sta} {a : Nat} (hR : ∀ y ∈ R, y < 8) (h : DrI R ps st) (ha : a < 8) (h41 : st.2 41 = some (kS a)) (hl : ps.length + R.length ≤ 1000) :
    ∃ st', run S3 (.fors .L (.nm 58) (.cst .none) (.one 42) bDr) st = some (.nx, st') ∧ DrI R (ps ++ R.map fun y => (a, y)) st' := by
  rw [run_fors (l := R) (k := kS) (show ev S3 (.nm 58) st.2 = _ from h.r58)]
  obtain ⟨st', h1, h2, _⟩ := forRun_ind (f := run S3 bDr) (tg := .one 42) (g := fun x => [kS x]) (fun pre st => DrI R (ps ++ pre.map fun y => (a, y)) st ∧ st.2 41 = some (kS a)) R st ⟨by simpa using h, h41⟩ (fun pre b r st e hi => by
    refine ⟨by simp [Tg.free, hi.1.n.2.1], ?_⟩
    have hlen := congrArg List.length e
    simp only [List.length_append, List.length_cons] at hlen
    obtain ⟨st', h1, h2, h3⟩ := dr_turn hi.1 ha (hR b (by rw [← e]; simp)) hi.2 (by rw [List.length_append, List.length_map]; omega)
    exact ⟨st', h1, by rw [snoc_map, ← List.append_assoc]; exact h2, h3⟩)
  exact ⟨st', h1, h2⟩
theorem prs_snoc (pre : List Nat) (a : Nat) (R : List Nat) : prs (pre ++ [a]) R = prs pre R ++ R.map fun y => (a, y) := by
  unfold prs; rw [List.flatMap_append, List.flatMap_cons, List.flatMap_nil, List.append_nil]

theorem dr_all {L R : List Nat} {st : Sta} (hL : ∀ x ∈ L, x < 8) (hR : ∀ y ∈ R, y < 8) (h : DrI R [] st) (h57 : st.2 57 = some (.lst (L.map kS))) (hl : L.length * R.length ≤ 1000) :
    ∃ st', run S3 sx_boo_3 st = some (.nx, st') ∧ DrI R (prs L R) st' := by
  rw [boo3, run_fors (l := L) (k := kS) (show ev S3 (.nm 57) st.2 = _ from h57)]
  refine forRun_ind (tg := .one 41) (g := fun x => [kS x]) (fun pre st => DrI R (prs pre R) st) L st h (fun pre a r st e hi => ?_)
  refine ⟨by simp [Tg.free, hi.n.1], ?_⟩
  have hlen := congrArg List.length e
  simp only [List.length_append, List.length_cons] at hlen
  have hi' : DrI R (prs pre R) (st.1, upd st.2 41 (some (kS a))) := ⟨hi.o59, hi.o60, hi.o61, hi.n, hi.r58⟩
  obtain ⟨st', h1, h2⟩ := dr_row hR hi' (hL a (by rw [← e]; simp)) (show upd st.2 41 (some (kS a)) 41 = _ from upd_at _ _ _) (by
    rw [prs_len]
    have : (pre.length + 1) * R.length ≤ L.length * R.length := Nat.mul_le_mul_right _ (by omega)
    rw [Nat.succ_mul] at this
    omega)
  exact ⟨st', run_seq h1 rfl, by rw [prs_snoc]; exact h2⟩

structure MaI (u v : List (Nat × Nat)) (l : List En) (st : Sta) : Prop where
  o59 : st.1 59 = some (.hdr (l.map ent))
  n : st.1 62 = none ∧ st.1 63 = none
  r60 : st.2 60 = some (.lst (u.map fun p => kH (p.1 ||| p.2)))
  r61 : st.2 61 = some (.lst (v.map fun p => kH (p.1 &&& p.2)))
theorem k_eqH : (p8.map fun a => eqP (kH a.1) (kH a.2)) = p8.map fun a => some (a.1 == a.2) := by kernel_rfl
theorem eqH {x y : Nat} (hx : x < 8) (hy : y < 8) : eqP (kH x) (kH y) = some (x == y) := all_of k_eqH (x, y) (mem_p8 hx hy)
theorem unlH {l : List Nat} (h : ∀ x ∈ l, x < 8) (hl : l.length ≤ 1000) : an_unl [.lst (l.map kH)] = some (.lst ((dd l).map kH)) := unl_map (fun x hx y hy => eqH (h y hy) (h x hx)) hl

theorem ma_turn {u v : List (Nat × Nat)} {l : List En} {st : Sta} {a b : Nat} (h : MaI u v l st) (ha : a < 8) (hb : b < 8) (h62 : st.2 62 = some (kH a)) (hl : l.length ≤ 1000) :
    ∃ st', run S3 bMa (st.1, upd st.2 63 (some (kH b))) = some (.nx, st') ∧ MaI u v (l ++ [ma (a, b)]) st' ∧ st'.2 62 = some (kH a) := by
  have e1 : upd st.2 63 (some (kH b)) 62 = some (kH a) := by rw [upd_ne (by decide)]; exact h62
  have e2 : upd st.2 63 (some (kH b)) 63 = some (kH b) := upd_at _ _ _
  obtain ⟨_, _, v1, v2⟩ := noV
  refine ⟨_, run_seq (run_hadd h.o59 (ev_made ha hb e1 e2) rfl (noU ha hb) v1 v2 (by rw [List.length_map]; exact hl)) rfl, ⟨?_, h.n, ?_, ?_⟩, e1⟩
  · show upd st.1 59 _ 59 = _
    rw [upd_at, List.map_append]; rfl
  · exact h.r60
  · exact h.r61
theorem ma_row {u v : List (Nat × Nat)} {l : List En} {st : Sta} {a : Nat} (hv : ∀ p ∈ v, p.1 < 8 ∧ p.2 < 8) (hvl : v.length ≤ 1000) (h : MaI u v l st) (ha : a < 8) (h62 : st.2 62 = some (kH a)) (hl : l.length + v.length ≤ 1000) :
    ∃ st', run S3 (.fors .L (.fn .unl (.cons (.nm 61) .nil)) (.cst .none) (.one 63) bMa) st = some (.nx, st') ∧ MaI u v (l ++ (dd (v.map fun p => p.1 &&& p.2)).map fun y => ma (a, y)) st' := by
  have hb : ∀ y ∈ v.map (fun p => p.1 &&& p.2), y < 8 := fun y hy => by
    obtain ⟨p, hp, rfl⟩ := List.mem_map.mp hy
    exact (bits (hv p hp).1 (hv p hp).2).2.1
  have hdl := dd_len (v.map fun p => p.1 &&& p.2)
  rw [List.length_map] at hdl
  have hev : ev S3 (.fn .unl (.cons (.nm 61) .nil)) st.2 = some (.lst ((dd (v.map fun p => p.1 &&& p.2)).map kH)) := by
    have hu : S3 .unl [.lst (v.map fun p => kH (p.1 &&& p.2))] = some (.lst ((dd (v.map fun p => p.1 &&& p.2)).map kH)) := by
      have := unlH hb (by rw [List.length_map]; exact hvl)
      rw [List.map_map] at this
      exact this
    simp only [ev, h.r61, hu]
  rw [run_fors (l := dd (v.map fun p => p.1 &&& p.2)) (k := kH) hev]
  obtain ⟨st', h1, h2, _⟩ := forRun_ind (f := run S3 bMa) (tg := .one 63) (g := fun x => [kH x]) (fun pre st => MaI u v (l ++ pre.map fun y => ma (a, y)) st ∧ st.2 62 = some (kH a)) (dd (v.map fun p => p.1 &&& p.2)) st ⟨by simpa using h, h62⟩ (fun pre b r st e hi => by
    refine ⟨by simp [Tg.free, hi.1.n.2], ?_⟩
    have hlen := congrArg List.length e
    simp only [List.length_append, List.length_cons] at hlen
    obtain ⟨st', h1, h2, h3⟩ := ma_turn hi.1 ha (hb b (mem_dd.mp (by rw [← e]; simp))) hi.2 (by rw [List.length_append, List.length_map]; omega)
    exact ⟨st', h1, by rw [List.map_append, ← List.append_assoc]; exact h2, h3⟩)
  exact ⟨st', h1, h2⟩
theorem ma_all {v : List (Nat × Nat)} {l : List En} {st : Sta} (hv : ∀ p ∈ v, p.1 < 8 ∧ p.2 < 8) (h : MaI v v l st) (hl : l.length + v.length * v.length ≤ 1000) (hvl : v.length ≤ 1000) :
    ∃ st', run S3 sx_boo_6 st = some (.nx, st') ∧ MaI v v (l ++ (prs (dd (v.map fun p => p.1 ||| p.2)) (dd (v.map fun p => p.1 &&& p.2))).map ma) st' := by
  have hb : ∀ y ∈ v.map (fun p => p.1 ||| p.2), y < 8 := fun y hy => by
    obtain ⟨p, hp, rfl⟩ := List.mem_map.mp hy
    exact (bits (hv p hp).1 (hv p hp).2).1
  have hdl := dd_len (v.map fun p => p.1 ||| p.2)
  have hdl2 := dd_len (v.map fun p => p.1 &&& p.2)
  rw [List.length_map] at hdl hdl2
  have hev : ev S3 (.fn .unl (.cons (.nm 60) .nil)) st.2 = some (.lst ((dd (v.map fun p => p.1 ||| p.2)).map kH)) := by
    have hu : S3 .unl [.lst (v.map fun p => kH (p.1 ||| p.2))] = some (.lst ((dd (v.map fun p => p.1 ||| p.2)).map kH)) := by
      have := unlH hb (by rw [List.length_map]; exact hvl)
      rw [List.map_map] at this
      exact this
    simp only [ev, h.r60, hu]
  rw [boo6, run_fors (l := dd (v.map fun p => p.1 ||| p.2)) (k := kH) hev]
  refine forRun_ind (tg := .one 62) (g := fun x => [kH x]) (fun pre st => MaI v v (l ++ (prs pre (dd (v.map fun p => p.1 &&& p.2))).map ma) st) _ st (by simpa [prs] using h) (fun pre a r st e hi => ?_)
  refine ⟨by simp [Tg.free, hi.n.1], ?_⟩
  have hlen := congrArg List.length e
  simp only [List.length_append, List.length_cons] at hlen
  have hi' : MaI v v (l ++ (prs pre (dd (v.map fun p => p.1 &&& p.2))).map ma) (st.1, upd st.2 62 (some (kH a))) := ⟨hi.o59, hi.n, hi.r60, hi.r61⟩
  obtain ⟨st', h1, h2⟩ := ma_row hv hvl hi' (hb a (mem_dd.mp (by rw [← e]; simp))) (show upd st.2 62 (some (kH a)) 62 = _ from upd_at _ _ _) (by
    rw [List.length_append, List.length_map, prs_len]
    have : (pre.length + 1) * v.length ≤ v.length * v.length := Nat.mul_le_mul_right _ (by omega)
    rw [Nat.succ_mul] at this
    have : pre.length * (dd (v.map fun p => p.1 &&& p.2)).length ≤ pre.length * v.length := Nat.mul_le_mul_left _ hdl2
    omega)
  refine ⟨st', run_seq h1 rfl, ?_⟩
  rw [prs_snoc, List.map_append, List.map_map, ← List.append_assoc]; exact h2

noncomputable def bookE (L R : List Nat) : List En := (prs L R).map dr ++ (prs (ups L R) (lws L R)).map ma
theorem boo_is {L R : List Nat} (hL : ∀ x ∈ L, x < 8) (hR : ∀ y ∈ R, y < 8) (hl : L.length * R.length ≤ 20) : an_boo [.lst (L.map kS), .lst (R.map kS)] = some (.hdr ((bookE L R).map ent)) := by
  have hv : ∀ p ∈ prs L R, p.1 < 8 ∧ p.2 < 8 := fun p hp => ⟨hL _ (mem_prs.mp hp).1, hR _ (mem_prs.mp hp).2⟩
  have hvl : (prs L R).length ≤ 20 := by rw [prs_len]; exact hl
  have hvv : (prs L R).length * (prs L R).length ≤ 20 * 20 := Nat.mul_le_mul hvl hvl
  let st0 : Sta := (upd (upd (upd (fun _ => none) 59 (some (.hdr []))) 60 (some (.lst []))) 61 (some (.lst [])), upd (upd (upd (rho0 [57, 58] [.lst (L.map kS), .lst (R.map kS)]) 59 none) 60 none) 61 none)
  obtain ⟨st1, r1, i1⟩ := dr_all (st := st0) hL hR ⟨rfl, rfl, rfl, ⟨rfl, rfl, rfl, rfl⟩, rfl⟩ rfl (by omega)
  let st2 : Sta := (upd (upd st1.1 60 none) 61 none, upd (upd st1.2 60 (some (.lst ((prs L R).map fun p => kH (p.1 ||| p.2))))) 61 (some (.lst ((prs L R).map fun p => kH (p.1 &&& p.2)))))
  obtain ⟨st3, r3, i3⟩ := ma_all (v := prs L R) (l := (prs L R).map dr) (st := st2) hv ⟨by
      show upd (upd st1.1 60 none) 61 none 59 = _
      rw [upd_ne (by decide), upd_ne (by decide), i1.o59, List.map_map]; rfl, i1.n.2.2, rfl, rfl⟩ (by rw [List.length_map]; omega) (by omega)
  have r4 : run S3 sx_boo_7 st3 = some (.rt (.hdr ((bookE L R).map ent)), st3) := by
    have e : rB st3.1 st3.2 59 = some (.hdr ((bookE L R).map ent)) := by
      unfold rB; rw [i3.o59]; rfl
    unfold sx_boo_7
    simp only [run, ev, e]
  show semSt S3 sx_boo_3 (semFrz 60 (semFrz 61 (semSt S3 sx_boo_6 (semSt S3 sx_boo_7 semEnd)))) st0 = _
  unfold semSt
  rw [r1]
  show semFrz 60 _ st1 = _
  unfold semFrz
  rw [i1.o60]
  show (match upd st1.1 60 none 61 with | some p => _ | none => none) = _
  rw [show upd st1.1 60 none 61 = some (.lst ((prs L R).map fun p => kH (p.1 &&& p.2))) by rw [upd_ne (by decide)]; exact i1.o61]
  show (match run S3 sx_boo_6 st2 with | some (Fl.nx, st') => _ | some (Fl.rt p, _) => some p | none => none) = _
  rw [r3]
  show (match run S3 sx_boo_7 st3 with | some (Fl.nx, st') => _ | some (Fl.rt p, _) => some p | none => none) = _
  rw [r4]
end Mine

-- P7
namespace Mine

noncomputable def kW (x : Nat) : PV := .str (wordN x)
noncomputable def cA27 : List Str := (["a0", "a2", "a2", "e2", "c2", "b2", "e2", "d2", "c2", "i2", "k2", "l2", "g2", "a0", "a1", "f2", "e1", "c1", "i2", "j2", "k2", "h2", "i1", "k1", "g2", "g1", "a0"] : List String).map Str.ofString
noncomputable def cB27 : List Str := (["00", "21", "22", "21", "21", "22", "22", "22", "22", "21", "21", "22", "21", "01", "12", "22", "12", "12", "22", "22", "22", "22", "12", "12", "22", "12", "02"] : List String).map Str.ofString
noncomputable def cC27 : List Str := (["a000", "a210", "a220", "e210", "c210", "b220", "e220", "d220", "c220", "i210", "k210", "l220", "g210", "a010", "a120", "f220", "e120", "c120", "i220", "j220", "k220", "h220", "i120", "k120", "g220", "g120", "a020"] : List String).map Str.ofString
noncomputable def cA (x y : Nat) : Str := cA27.getD (pc x y) ""
noncomputable def cB (x y : Nat) : Str := cB27.getD (pc x y) ""
noncomputable def cC (x y : Nat) : Str := cC27.getD (pc x y) ""
noncomputable def spots : PV := .lst (r8.map fun i => kS (lampN i))
noncomputable def words : PV := .lst (r8.map fun i => kW (lampN i))
noncomputable def lamps : PV := .lst (r8.map fun i => kI (lampN i))
noncomputable def posN (v : Nat) : Nat := [7, 0, 2, 1, 4, 5, 3, 6].getD v 0

theorem k_spot : (r8.map fun i => idxP spots (kI i)) = r8.map fun i => some (kS (lampN i)) := by kernel_rfl
theorem k_word : (r8.map fun i => idxP words (kI i)) = r8.map fun i => some (kW (lampN i)) := by kernel_rfl
theorem k_lamp : (r8.map fun i => idxP lamps (kI i)) = r8.map fun i => some (kI (lampN i)) := by kernel_rfl
theorem k_pos : (r8.map fun v => meP .index lamps [kI v]) = r8.map fun v => some (kI (posN v)) := by kernel_rfl
theorem k_wpos : (r8.map fun v => idxP words (kI (posN v))) = r8.map fun v => some (kW v) := by kernel_rfl
theorem k_lam8 : (r8.all fun i => decide (lampN i < 8)) = true := by kernel_rfl
theorem k_laminj : (p8.all fun a => (lampN a.1 == lampN a.2) == (a.1 == a.2)) = true := by kernel_rfl
theorem k_and1 : (r8.map fun a => binP .BitAnd (kI a) (.int 1)) = r8.map fun a => some (kI (a % 2)) := by kernel_rfl
theorem k_shr1 : (r8.map fun a => binP .RShift (kI a) (.int 1)) = r8.map fun a => some (kI (a / 2)) := by kernel_rfl
theorem k_shr2 : (r8.map fun a => binP .RShift (kI a) (.int 2)) = r8.map fun a => some (kI (a / 4)) := by kernel_rfl
theorem k_sub7 : (r8.map fun a => binP .Sub (.int 7) (kI a)) = r8.map fun a => some (kI (7 - a)) := by kernel_rfl
theorem k_dash1 : (r8.map fun x => binP .Add (.str "-") (kW x)) = r8.map fun x => some (.str ("-" ++ wordN x)) := by kernel_rfl
theorem k_dash2 : (r8.map fun x => binP .Add (kW x) (.str "-")) = r8.map fun x => some (.str (wordN x ++ "-")) := by kernel_rfl
theorem k_back : (p8.all fun a => ((a.1 ^^^ a.2) ||| (a.1 &&& a.2)) == (a.1 ||| a.2)) = true := by kernel_rfl
theorem k_cutA : (p8.map fun a => slcP (.str (nameL a.1 a.2)) .none (.int 2) .none) = p8.map fun a => some (.str (cA a.1 a.2)) := by kernel_rfl
theorem k_cutB : (p8.map fun a => slcP (.str (nameL a.1 a.2)) (.int 1) .none .none) = p8.map fun a => some (.str (cB a.1 a.2)) := by kernel_rfl
theorem k_cutC : (p8.map fun a => binP .Add (.str (nameL a.1 a.2)) (.str "0")) = p8.map fun a => some (.str (cC a.1 a.2)) := by kernel_rfl
theorem k_low : (p8.map fun a => (meP .lower (.str (cA a.1 a.2)) [], meP .lower (.str (cB a.1 a.2)) [], meP .lower (.str (cC a.1 a.2)) [])) = p8.map fun a => (some (.str (cA a.1 a.2)), some (.str (cB a.1 a.2)), some (.str (cC a.1 a.2))) := by kernel_rfl
theorem k_nom : (p8.all fun a => noMatch codeN (cA a.1 a.2) && noMatch codeN (cB a.1 a.2) && noMatch codeN (cC a.1 a.2)) = true := by kernel_rfl
theorem k_no : (p8.all fun a => p8.all fun b => !(nameL b.1 b.2 == cA a.1 a.2) && !(nameL b.1 b.2 == cB a.1 a.2) && !(nameL b.1 b.2 == cC a.1 a.2)) = true := by kernel_rfl

theorem lam8 {i : Nat} (h : i < 8) : lampN i < 8 := of_decide_eq_true (List.all_eq_true.mp k_lam8 i (mem_r8 h))
theorem laminj {i j : Nat} (hi : i < 8) (hj : j < 8) (h : lampN i = lampN j) : i = j := by
  have := List.all_eq_true.mp k_laminj (i, j) (mem_p8 hi hj)
  have := eq_of_beq this
  rw [h] at this
  simpa using this
theorem lam_nodup : ∀ {F : List Nat}, F.Nodup → (∀ i ∈ F, i < 8) → (F.map lampN).Nodup
  | [], _, _ => .nil
  | a :: F, nd, h => by
    have nd' := List.nodup_cons.mp nd
    refine List.nodup_cons.mpr ⟨fun q => ?_, lam_nodup nd'.2 fun i hi => h i (List.mem_cons_of_mem _ hi)⟩
    obtain ⟨b, hb, e⟩ := List.mem_map.mp q
    have := laminj (h b (List.mem_cons_of_mem _ hb)) (h a List.mem_cons_self) e
    exact nd'.1 (this ▸ hb)

-- expressions, read step by step
section
variable {S : SG} {ρ : Rho} {a b c : X} {p q r : PV} {l : List PV}
theorem ev_bin {op : Operator} (ha : ev S a ρ = some p) (hb : ev S b ρ = some q) (h : binP op p q = some r) : ev S (.bin op a b) ρ = some r := by simp only [ev, ha, hb, h]
theorem ev_idx (ha : ev S a ρ = some p) (hb : ev S b ρ = some q) (h : idxP p q = some r) : ev S (.idx a b) ρ = some r := by simp only [ev, ha, hb, h]
theorem ev_cmp {op : CmpOp} {z : Bool} (ha : ev S a ρ = some p) (hb : ev S b ρ = some q) (h : cmpP op p q = some z) : ev S (.cmp op a b) ρ = some (.bool z) := by simp only [ev, ha, hb, h, Option.map_some]
theorem ev_or (ha : ev S a ρ = some (.bool false)) (hb : ev S b ρ = some q) : ev S (.or a b) ρ = some q := by simp only [ev, ha, hb, truthP]
theorem ev_cons (ha : ev S a ρ = some p) (hb : ev S b ρ = some (.tup l)) : ev S (.cons a b) ρ = some (.tup (p :: l)) := by simp only [ev, ha, hb]
theorem ev_nil : ev S .nil ρ = some (.tup []) := by simp only [ev]
theorem ev_fn {f : FN} (ha : ev S a ρ = some (.tup l)) (h : S f l = some r) : ev S (.fn f a) ρ = some r := by simp only [ev, ha, h]
theorem ev_bi {f : BI} (ha : ev S a ρ = some (.tup l)) (h : biP f l = some r) : ev S (.bi f a) ρ = some r := by simp only [ev, ha, h]
theorem ev_me {m : ME} (ha : ev S a ρ = some p) (hb : ev S b ρ = some (.tup l)) (h : meP m p l = some r) : ev S (.me m a b) ρ = some r := by simp only [ev, ha, hb, h]
theorem ev_ga (ha : ev S a ρ = some (.hdr l)) (hb : ev S b ρ = some q) (h : S .geta [.hdr l, q] = some r) : ev S (.ga a b) ρ = some r := by simp only [ev, ha, hb, h]
theorem ev_slc {lo hi st : X} {pl ph ps : PV} (ha : ev S a ρ = some p) (hl : ev S lo ρ = some pl) (hh : ev S hi ρ = some ph) (hs : ev S st ρ = some ps) (h : slcP p pl ph ps = some r) : ev S (.slc a lo hi st) ρ = some r := by simp only [ev, ha, hl, hh, hs, h]
theorem ev_lst (ha : ev S a ρ = some (.tup l)) (h : l.length ≤ 1000) : ev S (.lst a) ρ = some (.lst l) := by simp only [ev, ha, okLen_of h]
noncomputable abbrev w0 : Rho := fun _ => none
theorem run_asg {x : Nat} (h : ev S a ρ = some p) : run S (.asg x a) (w0, ρ) = some (.nx, (w0, upd ρ x (some p))) := by
  simp only [run, h]; rfl
theorem run_asgC {x : Nat} {k : IK} {tg : Tg} {e : X} (h : ev S (.comp k a b tg c e) ρ = some p) : run S (.asgC x k a b tg c e) (w0, ρ) = some (.nx, (w0, upd ρ x (some p))) := by
  simp only [run, h]; rfl
theorem run_ifsF {t : SX} (h : ev S a ρ = some (.bool false)) : run S (.ifs a t .skip) (w0, ρ) = some (.nx, (w0, ρ)) := by
  have e : ev S a (rB w0 ρ) = some (.bool false) := h
  simp only [run, e, truthO, truthP]
theorem run_ret (h : ev S a ρ = some p) : run S (.ret a) (w0, ρ) = some (.rt p, (w0, ρ)) := by
  have e : ev S a (rB w0 ρ) = some p := h
  simp only [run, e]
theorem run_seqR {x y : SX} {st st' : Sta} {p : PV} (h : run S x st = some (.rt p, st')) : run S (.seq x y) st = some (.rt p, st') := by simp only [run, h]
theorem ev_compR {ρ : Rho} {e : X} {i : Nat} {n : Nat} {h : Nat → List PV} (hn : n ≤ 1000)
    (hc : ∀ a ∈ List.range n, condV (ev S c (upd (upd ρ i none) i (some (kI a)))) (ev S e (upd (upd ρ i none) i (some (kI a)))) = some (h a)) :
    ev S (.comp .R (.cst (.int (n : Int))) (.cst .none) (.one i) c e) ρ = okLen ((List.range n).flatMap h) := by
  have hit : items .R (.int (n : Int)) .none = some ((List.range n).map fun a => [kI a]) := by
    have hnr : near (n : Int) = true := by simp only [near, Bool.and_eq_true, decide_eq_true_eq]; omega
    show (if near (n : Int) then some ((List.range (n : Int).toNat).map fun (i : Nat) => [PV.int (i : Int)]) else none) = _
    rw [if_pos hnr]; rfl
  have hr : runC (fun ps => condV (ev S c ((Tg.one i).bind ps ((Tg.one i).clear ρ))) (ev S e ((Tg.one i).bind ps ((Tg.one i).clear ρ)))) ((List.range n).map fun a => [kI a]) = some ((List.range n).flatMap h) := runC_map fun a ha => hc a ha
  simp only [ev, hit, hr]
end

theorem neStr (n : Str) : cmpP .NotEq (.str n) (.str n) = some false := by simp [cmpP, eqP, eqS]
theorem neBool (b : Bool) : cmpP .NotEq (.bool b) (.bool b) = some false := by cases b <;> rfl
theorem neI (x : Nat) : cmpP .NotEq (kI x) (kI x) = some false := by
  show (eqP (kI x) (kI x)).map not = _
  rw [eqI]; simp
noncomputable def isStr : PV → Bool
  | .str _ => true
  | _ => false
theorem eqL_str : ∀ {l : List PV}, (∀ p ∈ l, isStr p = true) → eqL l l = some true
  | [], _ => rfl
  | p :: l, h => by
    have hp := h p List.mem_cons_self
    cases p with
    | str s => unfold eqL; rw [eqL_str fun q hq => h q (List.mem_cons_of_mem _ hq)]; simp [eqS]
    | _ => cases hp
theorem neLst {l : List PV} (h : ∀ p ∈ l, isStr p = true) : cmpP .NotEq (.lst l) (.lst l) = some false := by
  show (if l.length = l.length then eqL l l else some false).map not = _
  rw [if_pos rfl, eqL_str h]; rfl

-- lists of two words
noncomputable def resL (d m : Nat) : List PV := List.replicate d (wd false) ++ List.replicate m (wd true)
theorem repP_one (p : PV) : ∀ n, repP n [p] = List.replicate n p
  | 0 => rfl
  | n + 1 => by show [p] ++ repP n [p] = _; rw [repP_one p n]; rfl
theorem mulW {b : Bool} {d : Nat} (h : d ≤ 1000) : binP .Mult (.lst [wd b]) (kI d) = some (.lst (List.replicate d (wd b))) := by
  show (if decide (0 ≤ (d : Int)) && decide ((d : Int) ≤ 1000) && decide ([wd b].length ≤ 1000) then some (PV.lst (repP (d : Int).toNat [wd b])) else none) = _
  have h1 : decide (0 ≤ (d : Int)) = true := decide_eq_true (by omega)
  have h2 : decide ((d : Int) ≤ 1000) = true := decide_eq_true (by omega)
  have h3 : decide ([wd b].length ≤ 1000) = true := rfl
  rw [h1, h2, h3, repP_one]; rfl
theorem addW {d m : Nat} (h : d + m ≤ 1000) : binP .Add (.lst (List.replicate d (wd false))) (.lst (List.replicate m (wd true))) = some (.lst (resL d m)) := by
  show (if (List.replicate d (wd false)).length + (List.replicate m (wd true)).length ≤ 1000 then some (PV.lst (resL d m)) else none) = _
  rw [if_pos (by simpa using h)]
theorem resL_str {d m : Nat} : ∀ p ∈ resL d m, isStr p = true := fun p hp => by
  rcases List.mem_append.mp hp with h | h
  · rw [(List.mem_replicate.mp h).2]; rfl
  · rw [(List.mem_replicate.mp h).2]; rfl
theorem rep_str {b : Bool} {d : Nat} : ∀ p ∈ List.replicate d (wd b), isStr p = true := fun p hp => by rw [(List.mem_replicate.mp hp).2]; rfl
theorem count_rep (b c : Bool) (r : List PV) (n : Nat) (hr : countP (wd c) r = some n) : ∀ d, countP (wd c) (List.replicate d (wd b) ++ r) = some (n + if b = c then d else 0)
  | 0 => by simpa using hr
  | d + 1 => by
    show countP (wd c) (wd b :: (List.replicate d (wd b) ++ r)) = _
    unfold countP
    rw [count_rep b c r n hr d]
    cases b <;> cases c <;> simp [show eqP (wd false) (wd false) = some true by decide +kernel, show eqP (wd true) (wd true) = some true by decide +kernel, show eqP (wd false) (wd true) = some false by decide +kernel, show eqP (wd true) (wd false) = some false by decide +kernel] <;> omega
theorem in_res (c : Bool) : ∀ {l : List PV}, (∀ p ∈ l, isStr p = true) → (inP (wd c) l).isSome = true
  | [], _ => rfl
  | p :: l, h => by
    have hp := h p List.mem_cons_self
    have ih := in_res c fun q hq => h q (List.mem_cons_of_mem _ hq)
    obtain ⟨y, hy⟩ := Option.isSome_iff_exists.mp ih
    cases p with
    | str s => unfold inP; rw [hy]; rfl
    | _ => cases hp
theorem countW (c : Bool) (d m : Nat) : meP .count (.lst (resL d m)) [wd c] = some (kI (if c then m else d)) := by
  show (if (inP (wd c) (resL d m)).isSome then (countP (wd c) (resL d m)).map fun (j : Nat) => PV.int (j : Int) else none) = _
  rw [if_pos (in_res c resL_str)]
  have h1 : countP (wd c) (List.replicate m (wd true)) = some (0 + if true = c then m else 0) := by simpa using count_rep true c [] 0 rfl m
  unfold resL
  rw [count_rep false c _ _ h1 d]
  cases c <;> simp [kI]
theorem filt_range {α : Type} (l : List α) : ∀ d, (List.range d).filterMap (l[·]?) = l.take d
  | 0 => by simp
  | d + 1 => by
    rw [List.range_succ, List.filterMap_append, filt_range l d, List.take_add_one]
    congr 1
theorem cutW {d m : Nat} (h : d + m ≤ 1000) : slcP (.lst (resL d m)) .none (kI d) .none = some (.lst (List.replicate d (wd false))) := by
  have hl : (resL d m).length = d + m := by simp [resL]
  have hz : (resL d m).length ≤ 1000 := by omega
  have hp : pickL (resL d m) none (some (d : Int)) none = List.replicate d (wd false) := by
    unfold pickL
    rw [sliceBounds_plain, hl]
    have hc : clipAt (d + m) (d : Int) = d := by unfold clipAt; simp; omega
    show (sliceRange ((0 : Nat) : Int) ((clipAt (d + m) (d : Int) : Nat) : Int) 1).filterMap _ = _
    rw [hc, sliceRange_one, Nat.sub_zero]
    rw [show (List.range d).map (0 + ·) = List.range d by simp, filt_range]
    unfold resL
    rw [List.take_append_of_le_length (by simp)]; simp
  show (if (none : Option Int) = some 0 then none else if (resL d m).length ≤ 1000 then some (PV.lst (pickL (resL d m) none (some (d : Int)) none)) else none) = _
  rw [if_neg (by simp), if_pos hz, hp]
theorem gtI {d m : Nat} (h : d ≤ m) : cmpP .Gt (kI d) (kI m) = some false := by
  show some (decide ((m : Int) < (d : Int))) = _
  rw [decide_eq_false (by omega)]
end Mine

-- P8
namespace Mine

noncomputable def bLaw : SX := (.seq (.asg 84 (.bin .BitXor (.idx (.nm 74) (.nm 80)) (.idx (.nm 74) (.nm 82)))) (.seq (.asg 85 (.bin .BitAnd (.idx (.nm 74) (.nm 80)) (.idx (.nm 74) (.nm 82)))) (.seq (.asg 86 (.fn .mix (.cons (.idx (.nm 72) (.nm 80)) (.cons (.idx (.nm 72) (.nm 82)) .nil)))) (.seq (.asg 87 (.fn .cal (.cons (.nm 86) .nil))) (.seq (.ifs (.cmp .NotEq (.nm 87) (.fn .due (.cons (.idx (.nm 74) (.nm 80)) (.cons (.idx (.nm 74) (.nm 82)) .nil)))) (.seq (.ret (.cst (.bool false))) .skip) .skip) (.seq (.asg 88 (.fn .oft (.cons (.nm 76) (.cons (.nm 77) (.cons (.nm 84) (.cons (.nm 85) .nil)))))) (.seq (.asg 89 (.fn .oft (.cons (.nm 78) (.cons (.nm 79) (.cons (.nm 84) (.cons (.nm 85) .nil)))))) (.seq (.ifs (.cmp .NotEq (.ga (.nm 75) (.me .upper (.nm 87) .nil)) (.bin .Add (.bin .Mult (.lst (.cons (.cst (.str "drawn")) .nil)) (.nm 88)) (.bin .Mult (.lst (.cons (.cst (.str "made")) .nil)) (.nm 89)))) (.seq (.ret (.cst (.bool false))) .skip) .skip) (.seq (.asg 90 (.ga (.nm 75) (.nm 87))) (.seq (.ifs (.or (.cmp .NotEq (.slc (.nm 90) (.cst .none) (.nm 88) (.cst .none)) (.bin .Mult (.lst (.cons (.cst (.str "drawn")) .nil)) (.nm 88))) (.cmp .Gt (.me .count (.nm 90) (.cons (.cst (.str "drawn")) .nil)) (.me .count (.nm 90) (.cons (.cst (.str "made")) .nil)))) (.seq (.ret (.cst (.bool false))) .skip) .skip) (.seq (.asg 91 (.fn .wri (.cons (.nm 86) .nil))) (.seq (.asgC 92 .L (.nm 73) (.cst .none) (.one 95) (.fn .ell (.cons (.nm 91) (.cons (.nm 95) .nil))) (.nm 95)) (.seq (.ifs (.cmp .NotEq (.nm 92) (.comp .R (.cst (.int 8)) (.cst .none) (.one 54) (.cmp .Eq (.bin .BitAnd (.idx (.nm 74) (.nm 54)) (.bin .Sub (.cst (.int 7)) (.nm 84))) (.nm 85)) (.idx (.nm 73) (.nm 54)))) (.seq (.ret (.cst (.bool false))) .skip) .skip) (.seq (.ifs (.cmp .NotEq (.fn .ell (.cons (.nm 91) (.cons (.bin .Add (.cst (.str "-")) (.idx (.nm 73) (.nm 80))) .nil))) (.cmp .Eq (.bin .BitAnd (.nm 84) (.cst (.int 1))) (.cst (.int 1)))) (.seq (.ret (.cst (.bool false))) .skip) .skip) (.seq (.ifs (.cmp .NotEq (.fn .ell (.cons (.nm 91) (.cons (.bin .Add (.idx (.nm 73) (.nm 82)) (.cst (.str "-"))) .nil))) (.cmp .Eq (.bin .RShift (.nm 84) (.cst (.int 2))) (.cst (.int 1)))) (.seq (.ret (.cst (.bool false))) .skip) .skip) (.seq (.asg 51 (.bin .Add (.bin .Add (.bin .BitAnd (.nm 84) (.cst (.int 1))) (.bin .BitAnd (.bin .RShift (.nm 84) (.cst (.int 1))) (.cst (.int 1)))) (.bin .RShift (.nm 84) (.cst (.int 2))))) (.seq (.ifs (.cmp .NotEq (.fn .lev (.cons (.idx (.nm 73) (.nm 80)) (.cons (.idx (.nm 73) (.nm 82)) (.cons (.cst (.int 3)) .nil)))) (.nm 51)) (.seq (.ret (.cst (.bool false))) .skip) .skip) (.seq (.asg 93 (.idx (.nm 73) (.me .index (.nm 74) (.cons (.bin .BitOr (.nm 84) (.nm 85)) .nil)))) (.seq (.asg 94 (.idx (.nm 73) (.me .index (.nm 74) (.cons (.nm 85) .nil)))) (.seq (.ifs (.cmp .NotEq (.fn .lev (.cons (.nm 93) (.cons (.nm 94) (.cons (.cst (.int 3)) .nil)))) (.nm 51)) (.seq (.ret (.cst (.bool false))) .skip) .skip) .skip))))))))))))))))))))

/-- what stays in the law's loops -/
structure J (F G : List Nat) (ρ : Rho) : Prop where
  h70 : ρ 70 = some (.lst (F.map kI))
  h71 : ρ 71 = some (.lst (G.map kI))
  h72 : ρ 72 = some spots
  h73 : ρ 73 = some words
  h74 : ρ 74 = some lamps
  h75 : ρ 75 = some (.hdr ((bookE (F.map lampN) (G.map lampN)).map ent))
  h76 : ρ 76 = some (.lst ((F.map lampN).map kI))
  h77 : ρ 77 = some (.lst ((G.map lampN).map kI))
  h78 : ρ 78 = some (.lst ((ups (F.map lampN) (G.map lampN)).map kI))
  h79 : ρ 79 = some (.lst ((lws (F.map lampN) (G.map lampN)).map kI))
theorem J.upd {F G : List Nat} {ρ : Rho} (h : J F G ρ) {n : Nat} (hn : n < 70 ∨ 79 < n) (p : Option PV) : J F G (upd ρ n p) := by
  have e : ∀ m, 70 ≤ m → m ≤ 79 → Mine.upd ρ n p m = ρ m := fun m h1 h2 => upd_ne (by omega)
  exact ⟨(e 70 (by decide) (by decide)).trans h.h70, (e 71 (by decide) (by decide)).trans h.h71, (e 72 (by decide) (by decide)).trans h.h72, (e 73 (by decide) (by decide)).trans h.h73, (e 74 (by decide) (by decide)).trans h.h74,
    (e 75 (by decide) (by decide)).trans h.h75, (e 76 (by decide) (by decide)).trans h.h76, (e 77 (by decide) (by decide)).trans h.h77, (e 78 (by decide) (by decide)).trans h.h78, (e 79 (by decide) (by decide)).trans h.h79⟩

/-- two short lists of places, each place once -/
structure Sm (F : List Nat) : Prop where
  l : F.length ≤ 3
  n : F.Nodup
  b : ∀ i ∈ F, i < 8
theorem Sm.lam {F : List Nat} (h : Sm F) : Sm (F.map lampN) := ⟨by rw [List.length_map]; exact h.l, lam_nodup h.n h.b, fun x hx => by
  obtain ⟨i, hi, rfl⟩ := List.mem_map.mp hx; exact lam8 (h.b i hi)⟩
section
variable {L R : List Nat} (hL : Sm L) (hR : Sm R)
include hL hR
theorem prs9 : (prs L R).length ≤ 9 := by rw [prs_len]; exact Nat.mul_le_mul hL.l hR.l
theorem ups9 : (ups L R).length ≤ 9 := Nat.le_trans (dd_len _) (by rw [List.length_map]; exact prs9 hL hR)
theorem lws9 : (lws L R).length ≤ 9 := Nat.le_trans (dd_len _) (by rw [List.length_map]; exact prs9 hL hR)
theorem ups8 : ∀ x ∈ ups L R, x < 8 := fun x hx => by
  obtain ⟨p, hp, rfl⟩ := List.mem_map.mp (mem_dd.mp hx)
  have := mem_prs.mp hp
  exact (bits (hL.b _ this.1) (hR.b _ this.2)).1
theorem lws8 : ∀ x ∈ lws L R, x < 8 := fun x hx => by
  obtain ⟨p, hp, rfl⟩ := List.mem_map.mp (mem_dd.mp hx)
  have := mem_prs.mp hp
  exact (bits (hL.b _ this.1) (hR.b _ this.2)).2.1
theorem ul81 : (ups L R).length * (lws L R).length ≤ 81 := Nat.mul_le_mul (ups9 hL hR) (lws9 hL hR)
theorem book_len : (bookE L R).length ≤ 90 := by
  unfold bookE
  rw [List.length_append, List.length_map, List.length_map, prs_len (ups L R)]
  have := prs9 hL hR
  have := ul81 hL hR
  omega
theorem book8 : ∀ e ∈ bookE L R, En8 e := fun e he => by
  rcases List.mem_append.mp he with h | h
  · obtain ⟨p, hp, rfl⟩ := List.mem_map.mp h
    have := mem_prs.mp hp
    exact ⟨hL.b _ this.1, hR.b _ this.2⟩
  · obtain ⟨p, hp, rfl⟩ := List.mem_map.mp h
    have := mem_prs.mp hp
    exact ⟨ups8 hL hR _ this.1, lws8 hL hR _ this.2⟩
theorem cnt_le9 (a c : Nat) : cnt L R a c ≤ 9 := Nat.le_trans (List.length_filter_le _ _) (prs9 hL hR)
theorem cnt_le81 (a c : Nat) : cnt (ups L R) (lws L R) a c ≤ 81 := Nat.le_trans (List.length_filter_le _ _) (by rw [prs_len]; exact ul81 hL hR)
omit hL hR in
theorem filt_key {x y : Nat} (hx : x < 8) (hy : y < 8) {f : Nat × Nat → En} (hf : ∀ p, (f p).2 = p) {b : Bool} (hb : ∀ p, (f p).1 = b) {ps : List (Nat × Nat)} (h8 : ∀ p ∈ ps, p.1 < 8 ∧ p.2 < 8) :
    ((ps.map f).filter fun e => nameL e.2.1 e.2.2 == nameL x y).map (fun e => wd e.1) = List.replicate (ps.filter (isK (x ^^^ y) (x &&& y))).length (wd b) := by
  rw [List.filter_map, List.map_map]
  have e1 : ps.filter ((fun e : En => nameL e.2.1 e.2.2 == nameL x y) ∘ f) = ps.filter (isK (x ^^^ y) (x &&& y)) := List.filter_congr fun p hp => by
    show (nameL (f p).2.1 (f p).2.2 == nameL x y) = _
    rw [hf p]
    exact key_is (h8 p hp).1 (h8 p hp).2 hx hy
  rw [e1]
  have e2 : ((fun e : En => wd e.1) ∘ f) = fun _ => wd b := funext fun p => by show wd (f p).1 = _; rw [hb p]
  rw [e2, List.map_const']
theorem geta_book {x y : Nat} {n : Str} (hx : x < 8) (hy : y < 8) (hn : meP .lower (.str n) [] = some (.str (nameL x y))) :
    an_geta [.hdr ((bookE L R).map ent), .str n] = some (.lst (resL (cnt L R (x ^^^ y) (x &&& y)) (cnt (ups L R) (lws L R) (x ^^^ y) (x &&& y)))) := by
  rw [geta_ents hn (noL hx hy) (book8 hL hR) (Nat.le_trans (book_len hL hR) (by decide))]
  unfold bookE
  rw [List.filter_append, List.map_append, filt_key hx hy (f := dr) (b := false) (fun _ => rfl) (fun _ => rfl) (fun p hp => ⟨hL.b _ (mem_prs.mp hp).1, hR.b _ (mem_prs.mp hp).2⟩),
    filt_key hx hy (f := ma) (b := true) (fun _ => rfl) (fun _ => rfl) (fun p hp => ⟨ups8 hL hR _ (mem_prs.mp hp).1, lws8 hL hR _ (mem_prs.mp hp).2⟩)]
  rfl
theorem geta_none {n : Str} (hn : meP .lower (.str n) [] = some (.str n)) (hm : noMatch codeN n = true) (h : ∀ x < 8, ∀ y < 8, (nameL x y == n) = false) : an_geta [.hdr ((bookE L R).map ent), .str n] = some (.lst []) := by
  rw [geta_ents hn hm (book8 hL hR) (Nat.le_trans (book_len hL hR) (by decide))]
  rw [List.filter_eq_nil_iff.mpr fun e he => by
    have := book8 hL hR e he
    rw [h _ this.1 _ this.2]; decide]
  rfl
end

theorem ofr8 {β : Type} {f g : Nat → β} (h : r8.map f = r8.map g) {x : Nat} (hx : x < 8) : f x = g x := all_of h x (mem_r8 hx)

/-- a block that goes on to its end -/
noncomputable def Nx (S : SG) (b : SX) (ρ : Rho) (P : Rho → Prop) : Prop := ∃ ρ', run S b (w0, ρ) = some (.nx, (w0, ρ')) ∧ P ρ'
theorem nx_asg {S : SG} {x : Nat} {e : X} {b : SX} {ρ : Rho} {p : PV} {P : Rho → Prop} (h : ev S e ρ = some p) (k : Nx S b (upd ρ x (some p)) P) : Nx S (.seq (.asg x e) b) ρ P :=
  let ⟨ρ', h1, h2⟩ := k; ⟨ρ', run_seq (run_asg h) h1, h2⟩
theorem nx_asgC {S : SG} {x : Nat} {k : IK} {tg : Tg} {a c d e : X} {b : SX} {ρ : Rho} {p : PV} {P : Rho → Prop} (h : ev S (.comp k a d tg c e) ρ = some p) (n : Nx S b (upd ρ x (some p)) P) : Nx S (.seq (.asgC x k a d tg c e) b) ρ P :=
  let ⟨ρ', h1, h2⟩ := n; ⟨ρ', run_seq (run_asgC h) h1, h2⟩
theorem nx_ifs {S : SG} {c : X} {t b : SX} {ρ : Rho} {P : Rho → Prop} (h : ev S c ρ = some (.bool false)) (k : Nx S b ρ P) : Nx S (.seq (.ifs c t .skip) b) ρ P :=
  let ⟨ρ', h1, h2⟩ := k; ⟨ρ', run_seq (run_ifsF h) h1, h2⟩
theorem nx_skip {S : SG} {ρ : Rho} {P : Rho → Prop} (h : P ρ) : Nx S .skip ρ P := ⟨ρ, rfl, h⟩

noncomputable def ellB (x y k : Nat) : Bool := k &&& (7 - (x ^^^ y)) == x &&& y
theorem flt_str {f : Nat → Bool} : ∀ p ∈ (r8.filter f).map fun i => kW (lampN i), isStr p = true := fun p hp => by
  obtain ⟨i, _, rfl⟩ := List.mem_map.mp hp; rfl

theorem ev_taken {ρ : Rho} {x y : Nat} (hx : x < 8) (hy : y < 8) (h73 : ρ 73 = some words) (h91 : ρ 91 = some (.str (formL x y))) :
    ev SL (.comp .L (.nm 73) (.cst .none) (.one 95) (.fn .ell (.cons (.nm 91) (.cons (.nm 95) .nil))) (.nm 95)) ρ = some (.lst ((r8.filter fun i => ellB x y (lampN i)).map fun i => kW (lampN i))) := by
  rw [ev_compL (S := SL) (ea := .nm 73) (L := r8) (k := fun i => kW (lampN i)) (h := fun i => if ellB x y (lampN i) then [kW (lampN i)] else []) h73, flat_if (fun i => ellB x y (lampN i)) fun i => kW (lampN i)]
  · exact okLen_of (by rw [List.length_map]; exact Nat.le_trans (List.length_filter_le _ _) (by decide))
  · intro i hi
    have hi8 : i < 8 := List.mem_range.mp hi
    have e91 : upd (upd ρ 95 none) 95 (some (kW (lampN i))) 91 = some (.str (formL x y)) := h91
    have e95 : upd (upd ρ 95 none) 95 (some (kW (lampN i))) 95 = some (kW (lampN i)) := rfl
    have hf : SL .ell [.str (formL x y), kW (lampN i)] = some (.bool (ellB x y (lampN i))) := ell_is hx hy (lam8 hi8)
    simp only [ev, e91, e95, hf, condV, truthP]
    cases ellB x y (lampN i) <;> rfl
theorem ev_agree {ρ : Rho} {x y : Nat} (hx : x < 8) (hy : y < 8) (h73 : ρ 73 = some words) (h74 : ρ 74 = some lamps) (h84 : ρ 84 = some (kI (x ^^^ y))) (h85 : ρ 85 = some (kI (x &&& y))) :
    ev SL (.comp .R (.cst (.int 8)) (.cst .none) (.one 54) (.cmp .Eq (.bin .BitAnd (.idx (.nm 74) (.nm 54)) (.bin .Sub (.cst (.int 7)) (.nm 84))) (.nm 85)) (.idx (.nm 73) (.nm 54))) ρ =
      some (.lst ((r8.filter fun i => ellB x y (lampN i)).map fun i => kW (lampN i))) := by
  obtain ⟨b1, b2, b3⟩ := bits hx hy
  rw [show (.cst (.int 8) : X) = .cst (.int ((8 : Nat) : Int)) from rfl, ev_compR (S := SL) (n := 8) (h := fun i => if ellB x y (lampN i) then [kW (lampN i)] else []) (by decide), flat_if (fun i => ellB x y (lampN i)) fun i => kW (lampN i)]
  · exact okLen_of (by rw [List.length_map]; exact Nat.le_trans (List.length_filter_le _ _) (by decide))
  · intro i hi
    have hi8 : i < 8 := List.mem_range.mp hi
    have h7 : binP .Sub (.int 7) (kI (x ^^^ y)) = some (kI (7 - (x ^^^ y))) := ofr8 k_sub7 b3
    have e : ev SL (.cmp .Eq (.bin .BitAnd (.idx (.nm 74) (.nm 54)) (.bin .Sub (.cst (.int 7)) (.nm 84))) (.nm 85)) (upd (upd ρ 54 none) 54 (some (kI i))) = some (.bool (ellB x y (lampN i))) :=
      ev_cmp (ev_bin (ev_idx (p := lamps) (q := kI i) h74 rfl (ofr8 k_lamp hi8)) (ev_bin (p := .int 7) rfl h84 h7) (andI (lam8 hi8) (by omega))) h85 (cmpI _ _)
    have e2 : ev SL (.idx (.nm 73) (.nm 54)) (upd (upd ρ 54 none) 54 (some (kI i))) = some (kW (lampN i)) := ev_idx (p := words) (q := kI i) h73 rfl (ofr8 k_word hi8)
    rw [e, e2]
    simp only [condV, truthP]
    cases ellB x y (lampN i) <;> rfl

theorem body_ok {F G : List Nat} {ρ : Rho} {i j : Nat} (hF : Sm F) (hG : Sm G) (hi : i < 8) (hj : j < 8) (J0 : J F G ρ) (h80 : ρ 80 = some (kI i)) (h82 : ρ 82 = some (kI j)) :
    Nx SL bLaw ρ fun ρ' => J F G ρ' ∧ ρ' 80 = some (kI i) := by
  have hx := lam8 hi
  have hy := lam8 hj
  have hL := hF.lam
  have hR := hG.lam
  have c2 := can2 hx hy
  generalize hxe : lampN i = x at hx c2
  generalize hye : lampN j = y at hy c2
  obtain ⟨b1, b2, b3⟩ := bits hx hy
  have ix : idxP lamps (kI i) = some (kI x) := hxe ▸ ofr8 k_lamp hi
  have iy : idxP lamps (kI j) = some (kI y) := hye ▸ ofr8 k_lamp hj
  have sx : idxP spots (kI i) = some (kS x) := hxe ▸ ofr8 k_spot hi
  have sy : idxP spots (kI j) = some (kS y) := hye ▸ ofr8 k_spot hj
  have wx : idxP words (kI i) = some (kW x) := hxe ▸ ofr8 k_word hi
  have wy : idxP words (kI j) = some (kW y) := hye ▸ ofr8 k_word hj
  have bk : (x ^^^ y) ||| (x &&& y) = x ||| y := eq_of_beq (List.all_eq_true.mp k_back (x, y) (mem_p8 hx hy))
  have l9 := cnt_le9 hL hR (x ^^^ y) (x &&& y)
  have l81 := cnt_le81 hL hR (x ^^^ y) (x &&& y)
  have dk := daykin hL.l hL.n hR.n hL.b b3 (x &&& y)
  have ofd := oft_is hL.b hR.b (by have := prs9 hL hR; rw [prs_len] at this; omega) (x ^^^ y) (x &&& y)
  have ofm := oft_is (ups8 hL hR) (lws8 hL hR) (by have := ul81 hL hR; omega) (x ^^^ y) (x &&& y)
  have gU := geta_book hL hR hx hy (lowU hx hy)
  have gL := geta_book hL hR hx hy (lowL hx hy)
  generalize cnt (F.map lampN) (G.map lampN) (x ^^^ y) (x &&& y) = d at l9 dk ofd gU gL
  generalize cnt (ups (F.map lampN) (G.map lampN)) (lws (F.map lampN) (G.map lampN)) (x ^^^ y) (x &&& y) = m at l81 dk ofm gU gL
  unfold bLaw
  -- apart, common, blend, name
  refine nx_asg (ev_bin (ev_idx (p := lamps) J0.h74 h80 ix) (ev_idx (p := lamps) J0.h74 h82 iy) (xorI hx hy)) ?_
  refine nx_asg (ev_bin (ev_idx (p := lamps) J0.h74 h80 ix) (ev_idx (p := lamps) J0.h74 h82 iy) (andI hx hy)) ?_
  refine nx_asg (ev_fn (ev_cons (ev_idx (p := spots) J0.h72 h80 sx) (ev_cons (ev_idx (p := spots) J0.h72 h82 sy) ev_nil)) (mix_t x y)) ?_
  refine nx_asg (ev_fn (ev_cons (p := mixP x y) rfl ev_nil) (cal_mix hx hy)) ?_
  refine nx_ifs (ev_cmp (p := .str (nameL x y)) rfl (ev_fn (ev_cons (ev_idx (p := lamps) J0.h74 h80 ix) (ev_cons (ev_idx (p := lamps) J0.h74 h82 iy) ev_nil)) (due_is hx hy)) (neStr _)) ?_
  -- drawn, made
  refine nx_asg (ev_fn (ev_cons J0.h76 (ev_cons J0.h77 (ev_cons (p := kI (x ^^^ y)) rfl (ev_cons (p := kI (x &&& y)) rfl ev_nil)))) ofd) ?_
  refine nx_asg (ev_fn (ev_cons J0.h78 (ev_cons J0.h79 (ev_cons (p := kI (x ^^^ y)) rfl (ev_cons (p := kI (x &&& y)) rfl ev_nil)))) ofm) ?_
  refine nx_ifs (ev_cmp (ev_ga J0.h75 (ev_me (p := .str (nameL x y)) rfl ev_nil (up_is hx hy)) gU)
    (ev_bin (ev_bin (ev_lst (ev_cons (p := wd false) rfl ev_nil) (by decide)) (q := kI d) rfl (mulW (by omega))) (ev_bin (ev_lst (ev_cons (p := wd true) rfl ev_nil) (by decide)) (q := kI m) rfl (mulW (by omega))) (addW (by omega))) (neLst resL_str)) ?_
  refine nx_asg (ev_ga J0.h75 (q := .str (nameL x y)) rfl gL) ?_
  refine nx_ifs (ev_or (ev_cmp (ev_slc (p := .lst (resL d m)) (pl := .none) (ph := kI d) (ps := .none) rfl rfl rfl rfl (cutW (by omega))) (ev_bin (ev_lst (ev_cons (p := wd false) rfl ev_nil) (by decide)) (q := kI d) rfl (mulW (by omega))) (neLst rep_str))
    (ev_cmp (ev_me (p := .lst (resL d m)) rfl (ev_cons (p := wd false) rfl ev_nil) (countW false d m)) (ev_me (p := .lst (resL d m)) rfl (ev_cons (p := wd true) rfl ev_nil) (countW true d m)) (gtI dk))) ?_
  -- shape, taken
  refine nx_asg (ev_fn (ev_cons (p := mixP x y) rfl ev_nil) (wri_mix hx hy)) ?_
  refine nx_asgC (ev_taken hx hy J0.h73 rfl) ?_
  refine nx_ifs (ev_cmp (p := .lst ((r8.filter fun i => ellB x y (lampN i)).map fun i => kW (lampN i))) rfl (ev_agree hx hy J0.h73 J0.h74 rfl rfl) (neLst flt_str)) ?_
  -- the stroke
  have and1 : binP .BitAnd (kI (x ^^^ y)) (.int 1) = some (kI ((x ^^^ y) % 2)) := ofr8 k_and1 b3
  have shr1 : binP .RShift (kI (x ^^^ y)) (.int 1) = some (kI ((x ^^^ y) / 2)) := ofr8 k_shr1 b3
  have shr2 : binP .RShift (kI (x ^^^ y)) (.int 2) = some (kI ((x ^^^ y) / 4)) := ofr8 k_shr2 b3
  have and2 : binP .BitAnd (kI ((x ^^^ y) / 2)) (.int 1) = some (kI ((x ^^^ y) / 2 % 2)) := ofr8 k_and1 (by omega)
  refine nx_ifs (ev_cmp (ev_fn (ev_cons (p := .str (formL x y)) rfl (ev_cons (ev_bin (p := .str "-") rfl (ev_idx (p := words) J0.h73 h80 wx) (ofr8 k_dash1 hx)) ev_nil)) (ell1_is hx hy))
    (ev_cmp (ev_bin (p := kI (x ^^^ y)) rfl (q := .int 1) rfl and1) (q := kI 1) rfl (cmpI _ _)) (neBool _)) ?_
  refine nx_ifs (ev_cmp (ev_fn (ev_cons (p := .str (formL x y)) rfl (ev_cons (ev_bin (ev_idx (p := words) J0.h73 h82 wy) (q := .str "-") rfl (ofr8 k_dash2 hy)) ev_nil)) (ell2_is hx hy))
    (ev_cmp (ev_bin (p := kI (x ^^^ y)) rfl (q := .int 2) rfl shr2) (q := kI 1) rfl (cmpI _ _)) (neBool _)) ?_
  -- the span
  refine nx_asg (p := kI ((x ^^^ y) % 2 + (x ^^^ y) / 2 % 2 + (x ^^^ y) / 4)) (ev_bin (ev_bin (ev_bin (p := kI (x ^^^ y)) rfl (q := .int 1) rfl and1) (ev_bin (ev_bin (p := kI (x ^^^ y)) rfl (q := .int 1) rfl shr1) (q := .int 1) rfl and2) rfl) (ev_bin (p := kI (x ^^^ y)) rfl (q := .int 2) rfl shr2) rfl) ?_
  refine nx_ifs (ev_cmp (ev_fn (ev_cons (ev_idx (p := words) J0.h73 h80 wx) (ev_cons (ev_idx (p := words) J0.h73 h82 wy) (ev_cons (p := .int 3) rfl ev_nil))) (lev_is hx hy)) (q := kI ((x ^^^ y) % 2 + (x ^^^ y) / 2 % 2 + (x ^^^ y) / 4)) rfl (neI _)) ?_
  refine nx_asg (ev_idx (p := words) J0.h73 (ev_me (p := lamps) J0.h74 (ev_cons (ev_bin (p := kI (x ^^^ y)) rfl (q := kI (x &&& y)) rfl ((orI b3 b2).trans (by rw [bk]))) ev_nil) (ofr8 k_pos b1)) (ofr8 k_wpos b1)) ?_
  refine nx_asg (ev_idx (p := words) J0.h73 (ev_me (p := lamps) J0.h74 (ev_cons (p := kI (x &&& y)) rfl ev_nil) (ofr8 k_pos b2)) (ofr8 k_wpos b2)) ?_
  refine nx_ifs (ev_cmp (ev_fn (ev_cons (p := kW (x ||| y)) rfl (ev_cons (p := kW (x &&& y)) rfl (ev_cons (p := .int 3) rfl ev_nil))) ((lev_is b1 b2).trans (by rw [show (x ||| y) ^^^ (x &&& y) = x ^^^ y from (congrArg (·.2.2.1) c2).symm]; rfl))) (q := kI ((x ^^^ y) % 2 + (x ^^^ y) / 2 % 2 + (x ^^^ y) / 4)) rfl (neI _)) ?_
  refine nx_skip ⟨?_, h80⟩
  repeat' (first | exact J0 | refine J.upd ?_ (by decide) _)
end Mine

-- HG
namespace Mine

noncomputable def dictK (K : Frag) (a : Addr) : Array DictEntry := match K.lookup a with | some ⟨_, _, .dict es _, _⟩ => es | _ => #[]
noncomputable def isDictK (K : Frag) (a : Addr) : Bool := match K.lookup a with | some ⟨_, _, .dict es _, _⟩ => es.toList.all fun e => (match e.key with | .str _ _ => true | _ => false) | _ => false
theorem ns_K {K : Frag} {h : Heap} {a : Addr} (X : K.In h) (e : isDictK K a = true) : h.Ns a (nsFind (dictK K a)) := by
  unfold isDictK at e
  split at e
  · rename_i c d es n sl ho
    refine ⟨_, es, n, X _ _ ho, rfl, fun en hen => ?_, fun x => ?_⟩
    · have := List.all_eq_true.mp e en (Array.mem_toList_iff.mpr hen)
      split at this
      · rename_i q; exact ⟨_, _, q⟩
      · cases this
    · unfold dictK; rw [ho]
  · cases e

noncomputable def fdK (K : Frag) (a : Addr) : Option FuncData := match K.lookup a with | some ⟨_, _, .func fd, _⟩ => some fd | _ => none
noncomputable def codeK (K : Frag) (v : Value) (q : Str) : Bool := match v with
  | .ref c => match K.lookup c with
    | some ⟨_, _, .fields vs, _⟩ => match (vs[1]? : Option Value) with | some (Value.str x _) => x == q | _ => false
    | _ => false
  | _ => false
theorem code_K {K : Frag} {h : Heap} {v : Value} {q : Str} (X : K.In h) (e : codeK K v q = true) : h.CodeRec v q := by
  unfold codeK at e
  split at e
  · split at e
    · rename_i vs _ ho
      split at e
      · rename_i x t hx
        rw [beq_iff_eq] at e
        subst e
        exact ⟨_, _, vs, t, rfl, X _ _ ho, rfl, hx⟩
      · cases e
    · cases e
  · cases e
theorem fd_K {K : Frag} {a : Addr} {fd : FuncData} (e : fdK K a = some fd) : ∃ o, K.lookup a = some o ∧ o.data = .func fd := by
  unfold fdK at e
  split at e
  · rename_i ho; cases e; exact ⟨_, ho, rfl⟩
  · cases e
structure FnK (K : Frag) (a : Addr) (t : Arguments × List Stmt × Scope) : Prop where
  is : (fdK K a).isSome = true
  pa : (fdK K a).map (·.params) = some t.1
  bo : (fdK K a).map (·.body) = some (.stmts t.2.1)
  sc : (fdK K a).map (·.scope) = some t.2.2
  gl : (fdK K a).map (·.globals) = some mainGlobals
  bu : (fdK K a).map (·.builtins) = some builtinsNs
  cl : (fdK K a).map (·.closure) = some []
  df : (fdK K a).map (·.defaults) = some .none
  co : (fdK K a).map (fun fd => codeK K fd.code fd.qualname) = some true
theorem FnK.at {K : Frag} {h : Heap} {a : Addr} {t : Arguments × List Stmt × Scope} (x : FnK K a t) (X : K.In h) : FnAt h a t := by
  obtain ⟨fd, e⟩ := Option.isSome_iff_exists.mp x.is
  obtain ⟨o, ho, hd⟩ := fd_K e
  have g : ∀ {α : Type} {f : FuncData → α} {v : α}, (fdK K a).map f = some v → f fd = v := fun q => by rw [e] at q; simpa using q
  exact ⟨o, fd, X _ _ ho, hd, g x.pa, g x.bo, g x.sc, g x.gl, g x.bu, g x.cl, g x.df, code_K X (g (f := fun fd => codeK K fd.code fd.qualname) x.co)⟩

structure InK (K : Frag) : Prop where
  is : (fdK K 76).isSome = true
  pa : (fdK K 76).map (·.params) = some inT.1
  bo : (fdK K 76).map (·.body) = some (.stmts inT.2.1)
  sc : (fdK K 76).map (·.scope) = some inT.2.2
  gl : (fdK K 76).map (·.globals) = some mainGlobals
  bu : (fdK K 76).map (·.builtins) = some builtinsNs
  cl : (fdK K 76).map (·.closure) = some []
  df : (fdK K 76).map (fun fd => match fd.defaults with | .ref d => (match K.lookup d with | some ⟨_, _, .seq vs _, _⟩ => some vs | _ => none) | _ => none) = some (some #[.none])
  co : (fdK K 76).map (fun fd => codeK K fd.code fd.qualname) = some true
theorem InK.at {K : Frag} {h : Heap} (x : InK K) (X : K.In h) : InAt h := by
  obtain ⟨fd, e⟩ := Option.isSome_iff_exists.mp x.is
  obtain ⟨o, ho, hd⟩ := fd_K e
  have g : ∀ {α : Type} {f : FuncData → α} {v : α}, (fdK K 76).map f = some v → f fd = v := fun q => by rw [e] at q; simpa using q
  have d := g x.df
  split at d
  · rename_i dt hdt
    split at d
    · rename_i c dd vs n sl hod
      cases d
      exact ⟨o, fd, dt, _, n, X _ _ ho, hd, g x.pa, g x.bo, g x.sc, g x.gl, g x.bu, g x.cl, hdt, X _ _ hod, rfl, code_K X (g (f := fun fd => codeK K fd.code fd.qualname) x.co)⟩
    · cases d
  · cases d

noncomputable def patK (K : Frag) (p : Addr) (code : Array Nat) : Bool := match K.lookup p with
  | some ⟨.type cl, none, .fields fs, _⟩ => cl == "re.Pattern" && (Builtin.Re.reRawNat (fs.getD 2 .none) == 0 && (Builtin.Re.reRawNat (fs.getD 6 .none) == 0 && (match fs.getD 5 .none with
    | .ref c => (match K.lookup c with | some ⟨_, _, .seq items _, _⟩ => (items.map Builtin.Re.reRawOf).map (·.toNat) == code | _ => false)
    | _ => false)))
  | _ => false
theorem pat_K {K : Frag} {h : Heap} {p : Addr} {code : Array Nat} (X : K.In h) (e : patK K p code = true) : PatAt h p code := by
  unfold patK at e
  split at e
  · rename_i cl fs sl ho
    simp only [Bool.and_eq_true, beq_iff_eq] at e
    obtain ⟨e1, e2, e3, e4⟩ := e
    split at e4
    · rename_i c hc
      split at e4
      · rename_i cc d items n sl2 hoc
        exact ⟨_, _, fs, c, items, n, X _ _ ho, by rw [e1], rfl, rfl, e2, e3, hc, X _ _ hoc, rfl, beq_iff_eq.mp e4⟩
      · cases e4
    · cases e4
  · cases e

/-- what of the top's fragment we need -/
structure TopK (K : Frag) : Prop where
  f : KF K
  kp : keepIn K (.ref 182) = true
  ia : InK K
  g : isDictK K mainGlobals = true
  b : isDictK K builtinsNs = true
  c : isDictK K cStatics = true
  c1 : nsFind (dictK K cStatics) sharingNotToldKey = none
  c2 : nsFind (dictK K cStatics) "sys.recursionlimit" = none
  fn : ∀ f : FN, f ≠ .geta → nsFind (dictK K mainGlobals) f.nm = some (.ref f.at)
  co : (gcon.map fun x => nsFind (dictK K mainGlobals) x.1) = gcon.map fun x => some x.2.1
  bu : (gbui.map fun x => (nsFind (dictK K mainGlobals) x.1, nsFind (dictK K builtinsNs) x.1)) = gbui.map fun x => (none, some x.2)
  re : (gref.map fun x => nsFind (dictK K mainGlobals) x.1) = gref.map fun x => some (.ref x.2)
  pn : patK K 48 codeN = true
  pv : patK K 53 codeV = true
  cv : FnK K 83 (fnIn (clsIn 1 (topAt 7)))
  ad : FnK K 179 (fnIn (clsIn 16 (topAt 7)))
  fo : ∀ f : FN, FnK K f.at (fnOf f)
  la : FnK K 267 lawT
theorem TopK.gb {K : Frag} {h : Heap} (x : TopK K) (X : K.In h) : Gb K h where
  inn := X
  nb := ⟨_, ns_K X x.c, x.c1⟩
  nl := ⟨_, ns_K X x.c, x.c2⟩
  ns := ⟨_, _, ns_K X x.g, ns_K X x.b, x.fn, List.map_inj_left.mp x.co, fun y hy => by
    have := List.map_inj_left.mp x.bu y hy
    simpa using this, List.map_inj_left.mp x.re⟩
  pn := pat_K X x.pn
  pv := pat_K X x.pv
  cv := x.cv.at X
  ad := x.ad.at X
  fo := fun f => (x.fo f).at X
theorem TopK.f2 {K : Frag} (x : TopK K) : KF2 K := ⟨x.kp, fun h X => x.ia.at X⟩

theorem ok_law : FnOkT lawT [68] ["script"] where
  co := by rfl
  ge := by rfl
  kd := by rfl
  ids := by rfl
  nd := by decide +kernel
  lk := by decide +kernel
  bind := by
    intro fd vals hp hd hl
    obtain ⟨v, rfl⟩ := len1 (l := vals) hl
    unfold bindArgs
    rw [hp, hd]
    rfl
noncomputable def an_law : List PV → Option PV
  | [p] => semRun SL sx_law (fun _ => none, rho0 [68] [p])
  | _ => none
/-- the law, called -/
theorem law_call {prog : Program} {w : World} {K : Frag} (x : TopK K) : ∀ (A : Around), Rm A 9 → ∀ (s : Shared) (T : TM) (H : List Addr) (vs : List Value) (ps : List PV) (r : PV), Gb K s.heap → TDom T s.toks → Laid H s.heap →
    RepL (hv H (gs s T)) vs ps → an_law ps = some r → Ok (model prog w) A (call (.ref 267) vs) s T (fun v g => Rep (hv H g) v r) :=
  call_hasT (n := 8) ok_law (fun A rm => Pb.of (law_body x.f x.f2 rm)) (fun ps r h => by
    unfold an_law at h
    split at h
    · exact ⟨rfl, h⟩
    · cases h) (fun h gb => x.la.at gb.inn)

theorem reps_ints {g : GS} : ∀ {vs : List Value} {ns : List Int}, IntsAre vs ns → RepL g vs (ns.map .int)
  | _, _, .nil => .nil
  | _, _, .cons i t r => .cons (.int i t) (reps_ints r)

/-- the law on a script, from the head's facts -/
theorem law_good {a : Addr} {prog : Program} {w : World} {K : Frag} (x : TopK K) {s : Shared} {ns : List Int} {vs : List Value} {c : ClaimW} {cl : Str → Option Addr} {mean : ExcName → Option Value} {args : List WData}
    (X : K.In s.heap) (ht : 699 ≤ s.toks) (hI : IntsAre vs ns) (ho : s.heap.get? a = some { cls := .type "list", data := .seq vs.toArray }) (hg : s.gens = #[])
    (hn : ∀ cls, c.raises args cls = false) (hp : c.post args (.bool true) args = true) (hlaw : an_law [.lst (ns.map .int)] = some (.bool true)) (E : Value → Shared → Prop) :
    wpAny (model prog w) callerA (call (.ref 267) [.ref a]) (fun v s' => GoodWG c cl mean args s (.ok (.ret v)) s') E s := by
  have rm : Rm callerA 9 := ⟨rfl, by decide +kernel, by decide +kernel⟩
  have d : TDom (fun _ => none) s.toks := ⟨Nat.lt_of_lt_of_le (by decide) ht, fun t b h => by cases h⟩
  refine (law_call x callerA rm s (fun _ => none) [] [.ref a] [.lst (ns.map .int)] (.bool true) (x.gb X) d (fun a ha => by simp at ha) (.cons (.lst ⟨0, hv_in ho (by simp)⟩ (reps_ints hI)) .nil) hlaw).wp fun v s' T' r g t => ?_
  cases r
  obtain ⟨h', tk, rfl, k⟩ := g.k
  exact GoodW.toG ⟨.inl ⟨.bool true, .bool true, [], rfl, hn, .bool true, hp, unshared_nil⟩, k, rfl, hg⟩
end Mine

-- HX
namespace Mine

/-- what stands in the heap, as a fragment -/
noncomputable def frag (h : Heap) (as : List Addr) : Frag := as.filterMap fun a => (h.get? a).map fun o => (a, o)
theorem frag_look {h : Heap} {b : Addr} {o : Obj} : ∀ {as : List Addr}, (frag h as).lookup b = some o → h.get? b = some o
  | [], e => by simp [frag] at e
  | a :: as, e => by
    unfold frag at e
    rw [List.filterMap_cons] at e
    cases q : h.get? a with
    | none => rw [q] at e; exact frag_look (as := as) e
    | some o' =>
      rw [q] at e
      simp only [Option.map_some, List.lookup_cons] at e
      split at e
      · rename_i hb
        cases e
        rw [beq_iff_eq.mp hb]; exact q
      · exact frag_look (as := as) e
theorem frag_in (h : Heap) (as : List Addr) : (frag h as).In h := fun _ _ e => frag_look e

noncomputable def FNs : List FN := [.rgb, .hsv, .ell, .sub, .lev, .unl, .mix, .cal, .due, .wri, .boo, .oft, .geta]
noncomputable def fnObs (K : Frag) (a : Addr) := (fdK K a).map fun fd => (fd.params, fd.body, fd.scope, fd.globals, fd.builtins, fd.closure, fd.defaults, codeK K fd.code fd.qualname)
noncomputable def fnVal (t : Arguments × List Stmt × Scope) := some (t.1, FuncBody.stmts t.2.1, t.2.2, mainGlobals, builtinsNs, ([] : List (Str × Addr)), Value.none, true)
theorem fn_of {K : Frag} {a : Addr} {t : Arguments × List Stmt × Scope} (e : fnObs K a = fnVal t) : FnK K a t := by
  unfold fnObs fnVal at e
  obtain ⟨fd, hfd, h⟩ := Option.map_eq_some_iff.mp e
  simp only [Prod.mk.injEq] at h
  obtain ⟨h1, h2, h3, h4, h5, h6, h7, h8⟩ := h
  exact ⟨by rw [hfd]; rfl, by rw [hfd]; exact congrArg some h1, by rw [hfd]; exact congrArg some h2, by rw [hfd]; exact congrArg some h3, by rw [hfd]; exact congrArg some h4, by rw [hfd]; exact congrArg some h5,
    by rw [hfd]; exact congrArg some h6, by rw [hfd]; exact congrArg some h7, by rw [hfd]; exact congrArg some h8⟩
noncomputable def inObs (K : Frag) := (fdK K 76).map fun fd => (fd.params, fd.body, fd.scope, fd.globals, fd.builtins, fd.closure, (match fd.defaults with | .ref d => (match K.lookup d with | some ⟨_, _, .seq vs _, _⟩ => some vs | _ => none) | _ => none), codeK K fd.code fd.qualname)
noncomputable def inVal := some (inT.1, FuncBody.stmts inT.2.1, inT.2.2, mainGlobals, builtinsNs, ([] : List (Str × Addr)), some #[Value.none], true)
theorem in_of {K : Frag} (e : inObs K = inVal) : InK K := by
  unfold inObs inVal at e
  obtain ⟨fd, hfd, h⟩ := Option.map_eq_some_iff.mp e
  simp only [Prod.mk.injEq] at h
  obtain ⟨h1, h2, h3, h4, h5, h6, h7, h8⟩ := h
  exact ⟨by rw [hfd]; rfl, by rw [hfd]; exact congrArg some h1, by rw [hfd]; exact congrArg some h2, by rw [hfd]; exact congrArg some h3, by rw [hfd]; exact congrArg some h4, by rw [hfd]; exact congrArg some h5,
    by rw [hfd]; exact congrArg some h6, by rw [hfd]; exact congrArg some h7, by rw [hfd]; exact congrArg some h8⟩

noncomputable def boolsK (K : Frag) : Bool := hasDictIn K 182 && (plainOver K 182 && (makesIn K 182 && (keepIn K (.ref 182) && (isDictK K mainGlobals && (isDictK K builtinsNs && (isDictK K cStatics && (patK K 48 codeN && patK K 53 codeV)))))))
noncomputable def obsA (K : Frag) := (findIn K (.ref 182) "__getattribute__", findIn K (.ref 182) "__getattr__", findIn K (.ref 182) "get_all", findIn K (.ref 182) "add_header", findIn K (.ref 182) "_convert_string_type",
  findIn K (.ref 182) "_headers", findIn K (.ref 182) "__setattr__", findIn K (.ref 182) "__init__", takerIn K 182 "_headers", typeIn K (.ref 121), typeIn K (.ref 179), typeIn K (.ref 83), typeIn K (.ref 76), boolsK K)
noncomputable def valA := (some (some (Value.builtin "object.__getattribute__")), some (none : Option Value), some (some (Value.ref 121)), some (some (Value.ref 179)), some (some (Value.ref 83)),
  some (none : Option Value), some (some (Value.builtin "object.__setattr__")), some (some (Value.ref 76)), some (none : Option Value), some (Value.type "function"), some (Value.type "function"), some (Value.type "function"), some (Value.type "function"), true)
noncomputable def obsB (K : Frag) := (nsFind (dictK K cStatics) sharingNotToldKey, nsFind (dictK K cStatics) "sys.recursionlimit", nsFind (dictK K mainGlobals) "law", (FNs.dropLast.map fun f => nsFind (dictK K mainGlobals) f.nm),
  (gcon.map fun x => nsFind (dictK K mainGlobals) x.1), (gbui.map fun x => (nsFind (dictK K mainGlobals) x.1, nsFind (dictK K builtinsNs) x.1)), (gref.map fun x => nsFind (dictK K mainGlobals) x.1))
noncomputable def valB := ((none : Option Value), (none : Option Value), some (Value.ref 267), (FNs.dropLast.map fun f => some (Value.ref f.at)), (gcon.map fun x => some x.2.1), (gbui.map fun x => ((none : Option Value), some x.2)), (gref.map fun x => some (Value.ref x.2)))
noncomputable def obsC (K : Frag) := (inObs K, fnObs K 83, fnObs K 179, FNs.map (fun f => fnObs K f.at), fnObs K 267)
noncomputable def valC := (inVal, fnVal (fnIn (clsIn 1 (topAt 7))), fnVal (fnIn (clsIn 16 (topAt 7))), FNs.map (fun f => fnVal (fnOf f)), fnVal lawT)

theorem fns_all (f : FN) : f ∈ FNs := by cases f <;> (unfold FNs; repeat (first | exact List.Mem.head _ | apply List.Mem.tail))
theorem fns_most (f : FN) (hf : f ≠ .geta) : f ∈ FNs.dropLast := by
  cases f <;> first
    | exact absurd rfl hf
    | (unfold FNs; dsimp only [List.dropLast]; repeat (first | exact List.Mem.head _ | apply List.Mem.tail))
theorem topK_of {K : Frag} (a : obsA K = valA) (b : obsB K = valB) (c : obsC K = valC) : TopK K ∧ nsFind (dictK K mainGlobals) "law" = some (.ref 267) := by
  have bo : boolsK K = true := congrArg (fun x => x.2.2.2.2.2.2.2.2.2.2.2.2.2) a
  unfold boolsK at bo
  simp only [Bool.and_eq_true] at bo
  obtain ⟨d1, d2, d3, d4, d5, d6, d7, d8, d9⟩ := bo
  have c4' := List.map_inj_left.mp (congrArg (fun x => x.2.2.2.1) c : FNs.map (fun f => fnObs K f.at) = FNs.map (fun f => fnVal (fnOf f)))
  have b4' := List.map_inj_left.mp (congrArg (fun x => x.2.2.2.1) b : (FNs.dropLast.map fun f => nsFind (dictK K mainGlobals) f.nm) = FNs.dropLast.map fun f => some (Value.ref f.at))
  exact ⟨{
    f := ⟨(congrArg (fun x => x.1) a), (congrArg (fun x => x.2.1) a), (congrArg (fun x => x.2.2.1) a), (congrArg (fun x => x.2.2.2.1) a), (congrArg (fun x => x.2.2.2.2.1) a), (congrArg (fun x => x.2.2.2.2.2.2.2.2.2.1) a), (congrArg (fun x => x.2.2.2.2.2.2.2.2.2.2.1) a), (congrArg (fun x => x.2.2.2.2.2.2.2.2.2.2.2.1) a), d1, (congrArg (fun x => x.2.2.2.2.2.1) a), (congrArg (fun x => x.2.2.2.2.2.2.1) a), d2, (congrArg (fun x => x.2.2.2.2.2.2.2.2.1) a), d3, (congrArg (fun x => x.2.2.2.2.2.2.2.1) a), (congrArg (fun x => x.2.2.2.2.2.2.2.2.2.2.2.2.1) a)⟩
    kp := d4
    ia := in_of (congrArg (fun x => x.1) c)
    g := d5
    b := d6
    c := d7
    c1 := (congrArg (fun x => x.1) b)
    c2 := (congrArg (fun x => x.2.1) b)
    fn := fun f hf => b4' f (fns_most f hf)
    co := (congrArg (fun x => x.2.2.2.2.1) b)
    bu := (congrArg (fun x => x.2.2.2.2.2.1) b)
    re := (congrArg (fun x => x.2.2.2.2.2.2) b)
    pn := d8
    pv := d9
    cv := fn_of (congrArg (fun x => x.2.1) c)
    ad := fn_of (congrArg (fun x => x.2.2.1) c)
    fo := fun f => fn_of (c4' f (fns_all f))
    la := fn_of (congrArg (fun x => x.2.2.2.2) c) }, (congrArg (fun x => x.2.2.1) b)⟩
end Mine

-- P9
namespace Mine

theorem row_ok {F G : List Nat} {ρ : Rho} {i : Nat} (hF : Sm F) (hG : Sm G) (hi : i < 8) (J0 : J F G ρ) (h80 : ρ 80 = some (kI i)) :
    ∃ st', run SL (.fors .L (.nm 71) (.cst .none) (.one 82) bLaw) (w0, ρ) = some (.nx, st') ∧ st'.1 = w0 ∧ J F G st'.2 := by
  rw [run_fors (l := G) (k := kI) (show ev SL (.nm 71) ρ = _ from J0.h71)]
  obtain ⟨st', h1, h2, h3, _⟩ := forRun_ind (f := run SL bLaw) (tg := .one 82) (g := fun x => [kI x]) (fun _ st => st.1 = w0 ∧ J F G st.2 ∧ st.2 80 = some (kI i)) G (w0, ρ) ⟨rfl, J0, h80⟩ (fun pre j r st e hI => by
    obtain ⟨ω, ρ1⟩ := st
    obtain ⟨rfl, J1, h1⟩ := hI
    refine ⟨rfl, ?_⟩
    obtain ⟨ρ2, r2, J2, h2⟩ := body_ok hF hG hi (hG.b j (by rw [← e]; simp)) (J1.upd (n := 82) (by decide) (some (kI j))) (ρ := upd ρ1 82 (some (kI j))) h1 rfl
    exact ⟨(w0, ρ2), r2, rfl, J2, h2⟩)
  exact ⟨st', h1, h2, h3⟩
theorem all_ok {F G : List Nat} {ρ : Rho} (hF : Sm F) (hG : Sm G) (J0 : J F G ρ) :
    ∃ st', run SL (.fors .L (.nm 70) (.cst .none) (.one 80) (.seq (.fors .L (.nm 71) (.cst .none) (.one 82) bLaw) .skip)) (w0, ρ) = some (.nx, st') ∧ st'.1 = w0 ∧ J F G st'.2 := by
  rw [run_fors (l := F) (k := kI) (show ev SL (.nm 70) ρ = _ from J0.h70)]
  exact forRun_ind (tg := .one 80) (g := fun x => [kI x]) (fun _ st => st.1 = w0 ∧ J F G st.2) F (w0, ρ) ⟨rfl, J0⟩ (fun pre i r st e hI => by
    obtain ⟨ω, ρ1⟩ := st
    obtain ⟨rfl, J1⟩ := hI
    refine ⟨rfl, ?_⟩
    obtain ⟨st2, r2, w2, J2⟩ := row_ok hF hG (hF.b i (by rw [← e]; simp)) (J1.upd (n := 80) (by decide) (some (kI i))) (ρ := upd ρ1 80 (some (kI i))) rfl
    exact ⟨st2, run_seq r2 rfl, w2, J2⟩)

/-- a block that returns -/
noncomputable def Rt (S : SG) (b : SX) (ρ : Rho) (p : PV) : Prop := ∃ st, run S b (w0, ρ) = some (.rt p, st)
theorem rt_asg {S : SG} {x : Nat} {e : X} {b : SX} {ρ : Rho} {p r : PV} (h : ev S e ρ = some p) (k : Rt S b (upd ρ x (some p)) r) : Rt S (.seq (.asg x e) b) ρ r :=
  let ⟨st, h1⟩ := k; ⟨st, run_seq (run_asg h) h1⟩
theorem rt_asgC {S : SG} {x : Nat} {k : IK} {tg : Tg} {a c d e : X} {b : SX} {ρ : Rho} {p r : PV} (h : ev S (.comp k a d tg c e) ρ = some p) (n : Rt S b (upd ρ x (some p)) r) : Rt S (.seq (.asgC x k a d tg c e) b) ρ r :=
  let ⟨st, h1⟩ := n; ⟨st, run_seq (run_asgC h) h1⟩
theorem rt_ifs {S : SG} {c : X} {t b : SX} {ρ : Rho} {r : PV} (h : ev S c ρ = some (.bool false)) (k : Rt S b ρ r) : Rt S (.seq (.ifs c t .skip) b) ρ r :=
  let ⟨st, h1⟩ := k; ⟨st, run_seq (run_ifsF h) h1⟩
theorem rt_nx {S : SG} {a b : SX} {ρ : Rho} {r : PV} {st' : Sta} (h : run S a (w0, ρ) = some (.nx, st')) (hw : st'.1 = w0) (k : Rt S b st'.2 r) : Rt S (.seq a b) ρ r := by
  obtain ⟨ω, ρ'⟩ := st'
  obtain rfl : ω = w0 := hw
  obtain ⟨st, h1⟩ := k
  exact ⟨st, run_seq h h1⟩
theorem rt_loops {F G : List Nat} {b : SX} {ρ : Rho} {r : PV} (hF : Sm F) (hG : Sm G) (J0 : J F G ρ) (k : ∀ ρ', J F G ρ' → Rt SL b ρ' r) :
    Rt SL (.seq (.fors .L (.nm 70) (.cst .none) (.one 80) (.seq (.fors .L (.nm 71) (.cst .none) (.one 82) bLaw) .skip)) b) ρ r :=
  let ⟨st', r1, w1, J1⟩ := all_ok hF hG J0; rt_nx r1 w1 (k _ J1)
theorem rt_ret {S : SG} {e : X} {b : SX} {ρ : Rho} {p : PV} (h : ev S e ρ = some p) : Rt S (.seq (.ret e) b) ρ p := ⟨_, run_seqR (run_ret h)⟩

-- the turns
theorem pick_map {α β : Type} (f : α → β) (l : List α) (a b c : Option Int) : pickL (l.map f) a b c = (pickL l a b c).map f := by
  unfold pickL
  rw [List.length_map, List.map_filterMap]
  congr 1; funext i
  simp
theorem allInt_map : ∀ l : List Int, allInt (l.map .int) = some l
  | [] => rfl
  | a :: l => by show (allInt (l.map .int)).map (a :: ·) = _; rw [allInt_map l]; rfl
noncomputable def addN (i : Nat) : Int := [7, 1, 0, 2, 3, 1].getD i 0
noncomputable def turn (ns : List Int) (i : Nat) : Nat := (((pickL ns (some (i : Int)) (some 63) (some 6)).sum + addN i).fmod 8).toNat
theorem turn8 (ns : List Int) (i : Nat) : turn ns i < 8 := by
  unfold turn
  have h1 := Int.fmod_nonneg_of_pos ((pickL ns (some (i : Int)) (some 63) (some 6)).sum + addN i) (b := 8) (by decide)
  have h2 := Int.fmod_lt_of_pos ((pickL ns (some (i : Int)) (some 63) (some 6)).sum + addN i) (b := 8) (by decide)
  omega
theorem k_add : ((List.range 6).map fun i => idxP (.tup [.int 7, .int 1, .int 0, .int 2, .int 3, .int 1]) (kI i)) = (List.range 6).map fun i => some (.int (addN i)) := by kernel_rfl
theorem ev_turns {ρ : Rho} {ns : List Int} (h68 : ρ 68 = some (.lst (ns.map .int))) (hz : ns.length ≤ 63) :
    ev SL (.comp .R (.cst (.int 6)) (.cst .none) (.one 83) (.cst (.bool true)) (.bin .Mod (.bin .Add (.bi .sum (.cons (.slc (.nm 68) (.nm 83) (.cst (.int 63)) (.cst (.int 6))) .nil)) (.idx (.tup (.cons (.cst (.int 7)) (.cons (.cst (.int 1)) (.cons (.cst (.int 0)) (.cons (.cst (.int 2)) (.cons (.cst (.int 3)) (.cons (.cst (.int 1)) .nil))))))) (.nm 83))) (.cst (.int 8)))) ρ =
      some (.lst [kI (turn ns 0), kI (turn ns 1), kI (turn ns 2), kI (turn ns 3), kI (turn ns 4), kI (turn ns 5)]) := by
  refine (ev_compR (S := SL) (n := 6) (h := fun i => [kI (turn ns i)]) (by decide) ?_).trans ?_
  rotate_left
  · rw [flat_one]; rfl
  · intro i hi
    have hs : slcP (.lst (ns.map .int)) (kI i) (.int 63) (.int 6) = some (.lst ((pickL ns (some (i : Int)) (some 63) (some 6)).map .int)) := by
      rw [← pick_map]
      show (if (some (6 : Int)) = some 0 then none else if (ns.map PV.int).length ≤ 1000 then some (PV.lst (pickL (ns.map PV.int) (some (i : Int)) (some 63) (some 6))) else none) = _
      rw [if_neg (by decide), if_pos (by rw [List.length_map]; omega)]
    have hb : biP .sum [.lst ((pickL ns (some (i : Int)) (some 63) (some 6)).map .int)] = some (.int (pickL ns (some (i : Int)) (some 63) (some 6)).sum) := by
      show (allInt _).map _ = _
      rw [allInt_map]; rfl
    have hm : binP .Mod (.int ((pickL ns (some (i : Int)) (some 63) (some 6)).sum + addN i)) (.int 8) = some (kI (turn ns i)) := by
      have h1 := Int.fmod_nonneg_of_pos ((pickL ns (some (i : Int)) (some 63) (some 6)).sum + addN i) (b := 8) (by decide)
      show (if (8 : Int) = 0 then none else some (PV.int (((pickL ns (some (i : Int)) (some 63) (some 6)).sum + addN i).fmod 8))) = _
      rw [if_neg (by decide)]
      unfold kI turn
      rw [Int.toNat_of_nonneg h1]
    have ht : ev SL (.tup (.cons (.cst (.int 7)) (.cons (.cst (.int 1)) (.cons (.cst (.int 0)) (.cons (.cst (.int 2)) (.cons (.cst (.int 3)) (.cons (.cst (.int 1)) .nil))))))) (upd (upd ρ 83 none) 83 (some (kI i))) = some (.tup [.int 7, .int 1, .int 0, .int 2, .int 3, .int 1]) := rfl
    exact congrArg (condV (some (.bool true))) (ev_bin (ev_bin (ev_bi (ev_cons (ev_slc (S := SL) (ρ := upd (upd ρ 83 none) 83 (some (kI i))) (a := .nm 68) (lo := .nm 83) (hi := .cst (.int 63)) (st := .cst (.int 6)) (p := .lst (ns.map .int)) (pl := kI i) (ph := .int 63) (ps := .int 6) h68 rfl rfl rfl hs) ev_nil) hb) (ev_idx ht (b := .nm 83) (q := kI i) rfl (all_of k_add i hi)) (op := .Add) rfl) (b := .cst (.int 8)) (q := .int 8) rfl hm)

theorem k_72 (ρ : Rho) : ev SL (.bin .Add (.comp .R (.cst (.int 6)) (.cst .none) (.one 54) (.cst (.bool true)) (.fn .hsv (.cons (.bin .Div (.nm 54) (.cst (.flt 4618441417868443648))) (.cons (.cst (.flt 4607182418800017408)) (.cons (.cst (.flt 4607182418800017408)) .nil))))) (.lst (.cons (.fn .hsv (.cons (.cst (.flt 0)) (.cons (.cst (.flt 0)) (.cons (.cst (.flt 4607182418800017408)) .nil)))) (.cons (.fn .hsv (.cons (.cst (.flt 0)) (.cons (.cst (.flt 0)) (.cons (.cst (.flt 0)) .nil)))) .nil)))) ρ = some spots := by kernel_rfl
theorem ev_words {ρ : Rho} (h : ρ 72 = some spots) : ev SL (.comp .L (.nm 72) (.cst .none) (.one 52) (.cst (.bool true)) (.fn .wri (.cons (.nm 52) .nil))) ρ = some words := by
  rw [ev_compL (S := SL) (ea := .nm 72) (L := r8) (k := fun i => kS (lampN i)) (h := fun i => [kW (lampN i)]) h, flat_one]
  · rfl
  · intro i hi
    have hf : SL .wri [kS (lampN i)] = some (kW (lampN i)) := ofr8 k_wri1 (lam8 (List.mem_range.mp hi))
    rw [ev_fn (ev_cons (p := kS (lampN i)) rfl ev_nil) hf]
    rfl
theorem ev_pick {ρ : Rho} {n m : Nat} {F : List Nat} {t : PV} {k : Nat → PV} (hF : ∀ i ∈ F, i < 8) (hl : F.length ≤ 3) (h : ρ n = some (.lst (F.map kI))) (ht : ρ m = some t) (hm : m ≠ 54) (hk : ∀ i < 8, idxP t (kI i) = some (k (lampN i))) :
    ev SL (.comp .L (.nm n) (.cst .none) (.one 54) (.cst (.bool true)) (.idx (.nm m) (.nm 54))) ρ = some (.lst ((F.map lampN).map k)) := by
  rw [ev_compL (S := SL) (ea := .nm n) (L := F) (k := kI) (h := fun i => [k (lampN i)]) h, flat_one, List.map_map]
  · exact okLen_of (by rw [List.length_map]; omega)
  · intro i hi
    have e1 : ev SL (.nm m) (upd (upd ρ 54 none) 54 (some (kI i))) = some t := by show upd (upd ρ 54 none) 54 _ m = _; rw [upd_ne hm, upd_ne hm]; exact ht
    rw [ev_idx e1 (b := .nm 54) (q := kI i) (show upd (upd ρ 54 none) 54 (some (kI i)) 54 = _ from upd_at _ _ _) (hk i (hF i hi))]
    rfl
theorem unlI {l : List Nat} (hl : l.length ≤ 1000) : an_unl [.lst (l.map kI)] = some (.lst ((dd l).map kI)) := unl_map (fun x _ y _ => eqI y x) hl
theorem ev_pairs {ρ : Rho} {L R : List Nat} {op : Operator} {f : Nat → Nat → Nat} (hL : Sm L) (hR : Sm R) (h76 : ρ 76 = some (.lst (L.map kI))) (h77 : ρ 77 = some (.lst (R.map kI))) (hf : ∀ x < 8, ∀ y < 8, binP op (kI x) (kI y) = some (kI (f x y))) :
    ev SL (.fn .unl (.cons (.comp2 (.nm 76) (.one 14) (.nm 77) (.one 15) (.cst (.bool true)) (.bin op (.nm 14) (.nm 15))) .nil)) ρ = some (.lst ((dd ((prs L R).map fun p => f p.1 p.2)).map kI)) := by
  have h9 := prs9 hL hR
  refine ev_fn (ev_cons ?_ ev_nil) (unlI (by rw [List.length_map]; omega))
  rw [ev_comp2 (S := SL) (ea := .nm 76) (eb := .nm 77) (i := 14) (j := 15) (L := L) (R := R) (k := kI) (kr := kI) (h := fun x y => [kI (f x y)]) h76 (fun _ _ => h77), flat_one, List.map_map]
  · exact okLen_of (by rw [List.length_map]; omega)
  · intro x hx y hy
    rw [ev_bin (p := kI x) (q := kI y) rfl rfl (hf x (hL.b x hx) y (hR.b y hy))]
    rfl
theorem dd3 (a b c : Nat) (ha : a < 8) (hb : b < 8) (hc : c < 8) : Sm (dd [a, b, c]) := ⟨dd_len _, dd_nodup _, fun i hi => by
  have := mem_dd.mp hi
  simp only [List.mem_cons, List.not_mem_nil, or_false] at this
  rcases this with rfl | rfl | rfl <;> assumption⟩
theorem dd_ne (a b c : Nat) : ∃ i F, dd [a, b, c] = i :: F := by
  have : a ∈ dd [a, b, c] := mem_dd.mpr (by simp)
  cases h : dd [a, b, c] with
  | nil => rw [h] at this; cases this
  | cons i F => exact ⟨i, F, rfl⟩
theorem key_no {x y : Nat} (hx : x < 8) (hy : y < 8) : (∀ a < 8, ∀ b < 8, (nameL a b == cA x y) = false) ∧ (∀ a < 8, ∀ b < 8, (nameL a b == cB x y) = false) ∧ (∀ a < 8, ∀ b < 8, (nameL a b == cC x y) = false) := by
  have h := List.all_eq_true.mp k_no (x, y) (mem_p8 hx hy)
  refine ⟨fun a ha b hb => ?_, fun a ha b hb => ?_, fun a ha b hb => ?_⟩ <;>
    (have := List.all_eq_true.mp h (a, b) (mem_p8 ha hb)
     simp only [Bool.and_eq_true, Bool.not_eq_true'] at this)
  · exact this.1.1
  · exact this.1.2
  · exact this.2

set_option maxHeartbeats 4000000 in
/-- the law, in the small language, is true of each script -/
theorem law_true {ns : List Int} (hz : ns.length ≤ 63) : an_law [.lst (ns.map .int)] = some (.bool true) := by
  have key : Rt SL sx_law (rho0 [68] [.lst (ns.map .int)]) (.bool true) := by
    have t8 := turn8 ns
    have et := ev_turns (ρ := rho0 [68] [.lst (ns.map .int)]) (ns := ns) rfl hz
    unfold sx_law
    refine rt_asgC et ?_
    have g0 := t8 0; have g1 := t8 1; have g2 := t8 2; have g3 := t8 3; have g4 := t8 4; have g5 := t8 5
    generalize turn ns 0 = t0 at g0 ⊢
    generalize turn ns 1 = t1 at g1 ⊢
    generalize turn ns 2 = t2 at g2 ⊢
    generalize turn ns 3 = t3 at g3 ⊢
    generalize turn ns 4 = t4 at g4 ⊢
    generalize turn ns 5 = t5 at g5 ⊢
    have s1 : slcP (.lst [kI t0, kI t1, kI t2, kI t3, kI t4, kI t5]) (.int 0) .none (.int 2) = some (.lst ([t0, t2, t4].map kI)) := by kernel_rfl
    have s2 : slcP (.lst [kI t0, kI t1, kI t2, kI t3, kI t4, kI t5]) (.int 1) .none (.int 2) = some (.lst ([t1, t3, t5].map kI)) := by kernel_rfl
    refine rt_asg (ev_fn (ev_cons (ev_slc (a := .nm 69) (p := .lst [kI t0, kI t1, kI t2, kI t3, kI t4, kI t5]) (pl := .int 0) (ph := .none) (ps := .int 2) rfl rfl rfl rfl s1) ev_nil) (unlI (by show (3 : Nat) ≤ 1000; decide))) ?_
    refine rt_asg (ev_fn (ev_cons (ev_slc (a := .nm 69) (p := .lst [kI t0, kI t1, kI t2, kI t3, kI t4, kI t5]) (pl := .int 1) (ph := .none) (ps := .int 2) rfl rfl rfl rfl s2) ev_nil) (unlI (by show (3 : Nat) ≤ 1000; decide))) ?_
    have hF := dd3 t0 t2 t4 g0 g2 g4
    have hG := dd3 t1 t3 t5 g1 g3 g5
    have nF := dd_ne t0 t2 t4
    have nG := dd_ne t1 t3 t5
    generalize dd [t0, t2, t4] = F at hF nF ⊢
    generalize dd [t1, t3, t5] = G at hG nG ⊢
    have hL := hF.lam
    have hR := hG.lam
    refine rt_asg (k_72 _) ?_
    refine rt_asg (ev_words rfl) ?_
    refine rt_ifs (ev_cmp (p := words) (q := words) rfl rfl (by kernel_rfl)) ?_
    refine rt_asg (p := lamps) rfl ?_
    refine rt_asg (ev_fn (ev_cons (ev_pick (t := spots) (k := kS) hF.b hF.l rfl rfl (by decide) fun i hi => ofr8 k_spot hi) (ev_cons (ev_pick (t := spots) (k := kS) hG.b hG.l rfl rfl (by decide) fun i hi => ofr8 k_spot hi) ev_nil)) (boo_is hL.b hR.b (by have := prs9 hL hR; rw [prs_len] at this; omega))) ?_
    refine rt_asgC (ev_pick (t := lamps) (k := kI) hF.b hF.l rfl rfl (by decide) fun i hi => ofr8 k_lamp hi) ?_
    refine rt_asg (ev_pick (t := lamps) (k := kI) hG.b hG.l rfl rfl (by decide) fun i hi => ofr8 k_lamp hi) ?_
    refine rt_asg (ev_pairs (f := fun x y => x ||| y) hL hR rfl rfl fun x hx y hy => orI hx hy) ?_
    refine rt_asg (ev_pairs (f := fun x y => x &&& y) hL hR rfl rfl fun x hx y hy => andI hx hy) ?_
    refine rt_loops hF hG ⟨rfl, rfl, rfl, rfl, rfl, rfl, rfl, rfl, rfl, rfl⟩ fun ρ' J1 => ?_
    obtain ⟨i, F', eF⟩ := nF
    obtain ⟨j, G', eG⟩ := nG
    have hi : i < 8 := hF.b i (by rw [eF]; simp)
    have hj : j < 8 := hG.b j (by rw [eG]; simp)
    have hx := lam8 hi
    have hy := lam8 hj
    have z1 : idxP (.lst ((F.map lampN).map kI)) (.int 0) = some (kI (lampN i)) := by rw [eF]; rfl
    have z2 : idxP (.lst ((G.map lampN).map kI)) (.int 0) = some (kI (lampN j)) := by rw [eG]; rfl
    refine rt_asg (ev_fn (ev_cons (ev_idx (a := .nm 76) (q := .int 0) J1.h76 rfl z1) (ev_cons (ev_idx (a := .nm 77) (q := .int 0) J1.h77 rfl z2) ev_nil)) (due_is hx hy)) ?_
    generalize lampN i = x at hx ⊢
    generalize lampN j = y at hy ⊢
    have lo := all_of k_low (x, y) (mem_p8 hx hy)
    simp only [Prod.mk.injEq] at lo
    have no := List.all_eq_true.mp k_nom (x, y) (mem_p8 hx hy)
    simp only [Bool.and_eq_true] at no
    obtain ⟨ka, kb, kc⟩ := key_no hx hy
    have ga := geta_none hL hR lo.1 no.1.1 ka
    have gb := geta_none hL hR lo.2.1 no.1.2 kb
    have gc := geta_none hL hR lo.2.2 no.2 kc
    have ca : slcP (.str (nameL x y)) .none (.int 2) .none = some (.str (cA x y)) := all_of k_cutA (x, y) (mem_p8 hx hy)
    have cb : slcP (.str (nameL x y)) (.int 1) .none .none = some (.str (cB x y)) := all_of k_cutB (x, y) (mem_p8 hx hy)
    have cc : binP .Add (.str (nameL x y)) (.str "0") = some (.str (cC x y)) := all_of k_cutC (x, y) (mem_p8 hx hy)
    exact rt_ret (ev_cmp (ev_bin (ev_bin (ev_ga (a := .nm 75) J1.h75 (ev_slc (a := .nm 81) (p := .str (nameL x y)) (pl := .none) (ph := .int 2) (ps := .none) rfl rfl rfl rfl ca) ga) (ev_ga (a := .nm 75) J1.h75 (ev_slc (a := .nm 81) (p := .str (nameL x y)) (pl := .int 1) (ph := .none) (ps := .none) rfl rfl rfl rfl cb) gb) (r := .lst []) rfl)
      (ev_ga (a := .nm 75) J1.h75 (ev_bin (a := .nm 81) (p := .str (nameL x y)) (q := .str "0") rfl rfl cc) gc) (r := .lst []) rfl) (q := .lst []) rfl rfl)
  obtain ⟨st, h⟩ := key
  show semRun SL sx_law (w0, rho0 [68] [.lst (ns.map .int)]) = _
  unfold semRun
  rw [h]
end Mine

-- HZ
namespace Mine
noncomputable def vw : Program := view PySem.Challenge.pw_uj0008_01 [28]
noncomputable def lo : List Str := (["_sre", "_wall", "tspecials", "_name_disallowed_re", "_value_disallowed_re", "_formatparam", "Headers", "rgb_to_hsv", "hsv_to_rgb", "ELLIPSIS_MARKER", "_ellipsis_match", "_MAX_STRING_SIZE", "_MOVE_COST", "_CASE_COST", "_substitution_cost", "_levenshtein_distance", "_law_unlike", "_law_mix", "_law_called", "_law_due", "_law_written", "_law_book", "_law_often"] : List String).map Str.ofString
noncomputable def adrs : List Addr := [182, 181, 3, 0, 2, 121, 120, 179, 178, 83, 82, 76, 75, 69, 48, 47, 53, 52, 267, 266, 193, 192, 200, 199, 207, 206, 214, 213, 221, 220, 228, 227, 233, 232, 240, 239, 245, 244, 252, 251, 257, 256, 262, 261]
noncomputable def obsK (s : Shared) := (obsA (frag s.heap adrs), obsB (frag s.heap adrs), obsC (frag s.heap adrs), s.toks)
noncomputable def valK (_ : World) := (valA, valB, valC, 699)
/-- the top, run -/
theorem top_run : LeftO PySem.Challenge.pw_uj0008_01 vw lo (fun _ => true) obsK valK 3124 := fun w => by
  unfold openEnds fencedOpening topFrom
  rw [PySem.W.Fast.te10274390034422433532, PySem.W.Fast.te1435165496053646825, PySem.W.Fast.te14289696077712309145, PySem.W.Fast.te14082659384304107361, PySem.W.Fast.te14364793385576792824]
  kernel_rfl
/-- the script of the call, as the row lays it -/
theorem row_bridge {w : World} {s₀ s₁ : Shared} {mg mb : Str → Option Value} (G : Ground vw lo PySem.Challenge.rw_uj0008_01.row.records (fun _ _ => True) w s₀ mg mb s₁.heap) (y : obsK s₀ = valK w) {fa a : Addr} {ns : List Int} {vs : List Value} {as : List Addr}
    (hmg : mg "law" = some (.ref fa)) (hg : s₁.gens = #[]) (L : PySem.W.Laid PySem.Challenge.rw_uj0008_01.row.records w s₀ s₁ [ofPy (PyData.list (ns.map PyData.int))] [.ref a] as) (hI : IntsAre vs ns) (hl : s₁.heap.IsList a vs.toArray) (hz : ns.length ≤ 63) (E : Value → Shared → Prop)
    {cl : Str → Option Addr} {mean : ExcName → Option Value} :
    wpAny (model PySem.Challenge.rw_uj0008_01.row.prog w) callerA (call (.ref fa) [.ref a]) (fun v s' => GoodWG PySem.Challenge.rw_uj0008_01.row.claim cl mean [ofPy (PyData.list (ns.map PyData.int))] s₁ (.ok (.ret v)) s') E s₁ := by
  simp only [obsK, valK, Prod.mk.injEq] at y
  obtain ⟨y1, y2, y3, y4⟩ := y
  obtain ⟨x, hlaw⟩ := topK_of y1 y2 y3
  have X : (frag s₀.heap adrs).In s₁.heap := (frag_in s₀.heap adrs).keeps L.keeps
  have hfa : fa = 267 := by
    obtain ⟨o, es, ep, e1, d1, _, f1⟩ := G.T.g
    obtain ⟨o', es', ep', e2, d2, _, f2⟩ := ns_K X x.g
    rw [e1] at e2; cases e2; rw [d1] at d2; cases d2
    have := (f1 "law").trans hmg
    rw [f2 "law", hlaw] at this
    cases this; rfl
  subst hfa
  have ht : 699 ≤ s₁.toks := PySem.W.X.script_toks L y4
  exact law_good x X ht hI (PySem.W.X.script_obj L hl) hg (fun _ => rfl) (by kernel_rfl) (law_true hz) E
set_option maxHeartbeats 8000000 in
/-- the row is well said, piece by piece -/
theorem ws : PySem.Challenge.rw_uj0008_01.wellSaid = true := by
  unfold OpenLaw.wellSaid OpenRow.wellSaid OpenRow.partSaid looksOpen
  repeat' (first | with_reducible apply look_both | decide +kernel)
end Mine
set_option maxRecDepth 100000 in
set_option maxHeartbeats 8000000 in
theorem PySem.Challenge.cw_uj0008_01_holds : PySem.Challenge.rw_uj0008_01.Holds := by
  refine PySem.W.holds_law Mine.ws fun said => ?_
  refine PySem.W.holds_openX (q := Mine.vw) (loose := Mine.lo) (Xt := fun _ => true) (XP := fun _ _ => True) (Yf := Mine.obsK) (Ya := Mine.valK) (N := 3124) Mine.top_run (fun _ _ => trivial) (fun _ _ _ _ _ => trivial) (by rfl) (by rfl) (by rfl) (fun s _ => PySem.W.recFacts_of rfl) (by rfl) said (by decide +kernel) ⟨rfl, rfl, rfl, rfl, rfl, by decide +kernel⟩ ?hw ?hc
  case hw => w_witness2
  case hc =>
    intro w s₀ s₁ mg mb G y fa o pm cd doc dV kV ho hd hcd hD hmg hg args vals as L hpre hlay hrd hwl hlo
    clear ho hd hcd hD
    wrow_args hpre hlay hrd hwl hlo
    rename IntsAre _ _ => hI
    rename ¬ (_ < _) => hc
    rename Heap.IsList _ _ _ => hl
    exact Mine.row_bridge G y hmg hg L hI hl (by omega) _
