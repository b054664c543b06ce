import PyProof.Rows.All
import Wide.All
import OpenK.AllK
import Wide.FinOn
import KE.KRevSl
import PySem.Challenge.RW_ik0189_01

set_option Elab.async false
set_option autoImplicit false
set_option linter.all false
set_option maxRecDepth 100000
set_option compiler.extract_closed false
set_option hygiene false

open PySem PySem.W PyProof.Rows PySem.Calls
namespace Mine

section
/-! many parts at once -/
inductive Ex2 {α β : Type} (p : α → β → Prop) : Prop
  | mk (a : α) (b : β) (x : p a b) : Ex2 p
inductive Ex3 {α β γ : Type} (p : α → β → γ → Prop) : Prop
  | mk (a : α) (b : β) (c : γ) (x : p a b c) : Ex3 p
inductive Ex4 {α β γ δ : Type} (p : α → β → γ → δ → Prop) : Prop
  | mk (a : α) (b : β) (c : γ) (d : δ) (x : p a b c d) : Ex4 p
inductive Ex5 {α β γ δ ε : Type} (p : α → β → γ → δ → ε → Prop) : Prop
  | mk (a : α) (b : β) (c : γ) (d : δ) (e : ε) (x : p a b c d e) : Ex5 p
inductive Ex6 {α β γ δ ε ζ : Type} (p : α → β → γ → δ → ε → ζ → Prop) : Prop
  | mk (a : α) (b : β) (c : γ) (d : δ) (e : ε) (f : ζ) (x : p a b c d e f) : Ex6 p
inductive Ex7 {α β γ δ ε ζ η : Type} (p : α → β → γ → δ → ε → ζ → η → Prop) : Prop
  | mk (a : α) (b : β) (c : γ) (d : δ) (e : ε) (f : ζ) (g : η) (x : p a b c d e f g) : Ex7 p
inductive Ex8 {α β γ δ ε ζ η θ : Type} (p : α → β → γ → δ → ε → ζ → η → θ → Prop) : Prop
  | mk (a : α) (b : β) (c : γ) (d : δ) (e : ε) (f : ζ) (g : η) (h : θ) (x : p a b c d e f g h) : Ex8 p
inductive An3 (a b c : Prop) : Prop
  | mk (_ : a) (_ : b) (_ : c) : An3 a b c
inductive An5 (a b c d e : Prop) : Prop
  | mk (_ : a) (_ : b) (_ : c) (_ : d) (_ : e) : An5 a b c d e
inductive An6 (a b c d e f : Prop) : Prop
  | mk (_ : a) (_ : b) (_ : c) (_ : d) (_ : e) (_ : f) : An6 a b c d e f
inductive An7 (a b c d e f g : Prop) : Prop
  | mk (_ : a) (_ : b) (_ : c) (_ : d) (_ : e) (_ : f) (_ : g) : An7 a b c d e f g
inductive An9 (a b c d e f g h i : Prop) : Prop
  | mk (_ : a) (_ : b) (_ : c) (_ : d) (_ : e) (_ : f) (_ : g) (_ : h) (_ : i) : An9 a b c d e f g h i
inductive An10 (a b c d e f g h i j : Prop) : Prop
  | mk (_ : a) (_ : b) (_ : c) (_ : d) (_ : e) (_ : f) (_ : g) (_ : h) (_ : i) (_ : j) : An10 a b c d e f g h i j
/-! A small logic: heaps alone, the token counter hidden. -/

structure Cfg where
  p : Program
  w : World
  g : Array GenState
  d : Drawn
  os : OsState

def Cfg.st (c : Cfg) (h : Heap) (t : Nat) : Shared := ⟨h, c.g, c.d, t, c.os⟩
def Cfg.M (c : Cfg) : Model := model c.p c.w
def Cfg.lift {α : Type} (c : Cfg) (Q : α → Heap → Prop) (a : α) (s : Shared) : Prop := ∃ h t, s = c.st h t ∧ Q a h

def WP {α : Type} (c : Cfg) (A : Around) (m : Sem α) (Q : α → Heap → Prop) (E : Value → Heap → Prop) (h : Heap) : Prop :=
  ∀ tk, wpAny c.M A m (c.lift Q) (c.lift E) (c.st h tk)
def CP (c : Cfg) (A : Around) (k : Code) (R : Result → Heap → Prop) (h : Heap) : Prop :=
  ∀ tk, codeAny c.M A k (c.lift R) (c.st h tk)

section
variable {α β : Type} {c : Cfg} {A : Around} {E : Value → Heap → Prop} {h : Heap}

theorem lift_mk {Q : α → Heap → Prop} {a : α} {h : Heap} {t : Nat} (q : Q a h) : c.lift Q a (c.st h t) := ⟨h, t, rfl, q⟩

theorem lift_on {m : Sem α} {P : α → Heap → Prop} {R : α → Shared → Prop} {E' : Value → Shared → Prop} {s : Shared} (x : wpAny c.M A m (c.lift P) (c.lift fun _ _ => False) s) (k : ∀ a h t, P a h → R a (c.st h t)) : wpAny c.M A m R E' s :=
  wpAny_mono x (fun a _ ⟨h, t, e, q⟩ => e ▸ k a h t q) fun _ _ ⟨_, _, _, q⟩ => q.elim
theorem WP.mono {m : Sem α} {Q Q' : α → Heap → Prop} {E' : Value → Heap → Prop} (x : WP c A m Q E h) (hQ : ∀ a h, Q a h → Q' a h) (hE : ∀ e h, E e h → E' e h) : WP c A m Q' E' h :=
  fun tk => wpAny_mono (x tk) (fun a s ⟨h, t, e, q⟩ => ⟨h, t, e, hQ a h q⟩) (fun a s ⟨h, t, e, q⟩ => ⟨h, t, e, hE a h q⟩)
theorem WP.monoQ {m : Sem α} {Q Q' : α → Heap → Prop} (x : WP c A m Q E h) (hQ : ∀ a h, Q a h → Q' a h) : WP c A m Q' E h := x.mono hQ fun _ _ e => e

/-- what a lifted continuation says -/
theorem unl {m : α → Sem β} {Q : β → Heap → Prop} {a : α} {s : Shared} (x : c.lift (fun a h => WP c A (m a) Q E h) a s) : wpAny c.M A (m a) (c.lift Q) (c.lift E) s := by
  obtain ⟨h, t, rfl, q⟩ := x
  exact q t

theorem WP.pure {a : α} {Q : α → Heap → Prop} (q : Q a h) : WP c A (Pure.pure a) Q E h := fun tk => wpAny_pure (lift_mk q)
theorem WP.throw {e : Value} {Q : α → Heap → Prop} (q : E e h) : WP c A (MonadExcept.throw e : Sem α) Q E h := fun tk => wpAny_throw (lift_mk q)
theorem WP.bind {m : Sem α} {f : α → Sem β} {Q : β → Heap → Prop} (x : WP c A m (fun a h => WP c A (f a) Q E h) E h) : WP c A (m >>= f) Q E h :=
  fun tk => wpAny_bind (wpAny_mono (x tk) (fun _ _ q => unl q) fun _ _ e => e)
theorem WP.of_eq {m : Sem α} {a : α} {Q : α → Heap → Prop} (e : m = Pure.pure a) (q : Q a h) : WP c A m Q E h := e ▸ WP.pure q
theorem WP.holding {vs : List Value} {m : Sem α} {Q : α → Heap → Prop} (x : WP c A m Q E h) : WP c A (PySem.holding vs m) Q E h := fun tk => wpAny_holding (x tk)
theorem WP.keep {vs : List Value} {m : Sem α} {Q : α → Heap → Prop} (x : WP c A m Q E h) : WP c A (m.keep vs) Q E h := fun tk => wpAny_keep (x tk)
theorem WP.standAt {pos : Pos} {Q : Unit → Heap → Prop} (q : Q () h) : WP c A (PySem.standAt pos) Q E h := fun tk => wpAny_standAt (lift_mk q)
theorem WP.point {Q : Unit → Heap → Prop} (q : Q () h) : WP c A PySem.point Q E h := fun tk => wpAny_point (lift_mk q)
theorem WP.rule {t : String} {Q : Unit → Heap → Prop} (q : Q () h) : WP c A (PySem.rule t) Q E h := fun tk => wpAny_rule (lift_mk q)
theorem WP.ask {Q : Setting → Heap → Prop} (q : Q ⟨c.p, c.w.params⟩ h) : WP c A PySem.ask Q E h := fun tk => wpAny_askSetting (lift_mk q)
theorem WP.load {a : Addr} {o : Obj} {Q : Obj → Heap → Prop} (e : h.get? a = some o) (q : Q o h) : WP c A (PySem.load a) Q E h := fun tk => wpAny_load e (lift_mk q)
theorem WP.loadPart {a : Addr} {p : Option Value} {o : Obj} {Q : Obj → Heap → Prop} (e : h.get? a = some o) (q : Q o h) : WP c A (PySem.loadPart a p) Q E h := fun tk => wpAny_loadPart e (lift_mk q)
theorem WP.update {a : Addr} {f : Obj → Obj} {o : Obj} {Q : Unit → Heap → Prop} (e : h.get? a = some o) (q : Q () (h.update a f)) : WP c A (PySem.update a f) Q E h :=
  fun tk => wpAny_update e (lift_mk q)
theorem WP.alloc {o : Obj} {Q : Addr → Heap → Prop} (q : Q h.objs.size (h.push o)) : WP c A (PySem.alloc o) Q E h := fun tk => wpAny_alloc (lift_mk q)
theorem WP.mkInt {i : Int} {Q : Value → Heap → Prop} (q : ∀ t, Q (.int i t) h) : WP c A (PySem.mkInt i) Q E h := fun tk => wpAny_mkInt (lift_mk (q tk))
theorem WP.mkText {x : Str} {Q : Value → Heap → Prop} (q : ∀ t, Q (.str x t) h) : WP c A (PySem.mkText x) Q E h := fun tk => wpAny_mkText (lift_mk (q tk))
theorem WP.mkStr {x : Str} {Q : Value → Heap → Prop} (q : ∀ t, Q (.str x t) h) (hx : x.length ≤ sizeLine) : WP c A (PySem.mkStr x) Q E h := fun tk => wpAny_mkStr (lift_mk (q tk)) hx
theorem WP.attempt {m : Sem α} {Q : Except Value α → Heap → Prop} (x : WP c A m (fun a => Q (.ok a)) (fun e => Q (.error e)) h) : WP c A m.attempt Q E h :=
  fun tk => wpAny_attempt (wpAny_mono (x tk) (fun _ _ q => q) fun _ _ q => q)
theorem WP.tryCatch {m : Sem α} {k : Value → Sem α} {Q : α → Heap → Prop} (x : WP c A m Q (fun e h => WP c A (k e) Q E h) h) : WP c A (MonadExcept.tryCatch m k) Q E h :=
  fun tk => wpAny_tryCatch (wpAny_mono (x tk) (fun _ _ q => q) fun _ _ q => unl q)
theorem WP.onRaise {m : Sem α} {k : Value → Sem Unit} {Q : α → Heap → Prop} (x : WP c A m Q (fun e h => WP c A (k e) (fun _ h => E e h) E h) h) : WP c A (m.onRaise k) Q E h :=
  fun tk => wpAny_onRaise (wpAny_mono (x tk) (fun _ _ q => q) fun e s q => by
    obtain ⟨h, t, rfl, q⟩ := q
    exact wpAny_mono (q t) (fun _ _ q => q) fun _ _ q => q)
theorem WP.ite {b : Prop} [Decidable b] {x y : Sem α} {Q : α → Heap → Prop} (hx : b → WP c A x Q E h) (hy : ¬ b → WP c A y Q E h) : WP c A (if b then x else y) Q E h := by
  split
  · exact hx ‹_›
  · exact hy ‹_›
theorem WP.operate {vs : List Value} {m : Sem Value} {Q : Value → Heap → Prop} (x : WP c A m Q E h) : WP c A (PySem.operate vs m) Q E h := fun tk Γ p hΓ => by
  have := x tk Γ p hΓ
  rw [Sem.wp_operate]
  exact this
theorem WP.release {vs ks : List Value} {Q : Unit → Heap → Prop} (q : Q () h) : WP c A (PySem.release vs ks) Q E h := fun tk Γ p hΓ => by
  show Sem.wp c.M Γ (release.go ks _) _ _ p _
  rw [Sem.wp_release_go]
  exact lift_mk q
theorem WP.bindName {env : Env} {x : Str} {v : Value} {Q : Unit → Heap → Prop} (q : WP c A (storeName env x v) Q E h) : WP c A (PySem.bindName env x v) Q E h :=
  fun tk => wpAny_bindName (q tk)
theorem WP.false_elim {m : Sem α} {Q : α → Heap → Prop} (x : False) : WP c A m Q E h := x.elim

theorem WP.call {f : Value} {pos : List Value} {kw : List (Str × Value)} {Q : Value → Heap → Prop}
    (x : CP c A (.call f ⟨pos, kw⟩) (fun r h => match r with | .ok (.ret v) => Q v h | .ok _ => False | .error e => E e h) h) : WP c A (PySem.call f pos kw) Q E h := fun tk => by
  refine wpAny_call ?_
  have := x tk
  refine fun Γ p hc hb => ?_
  refine wpCode_mono ?_ (this Γ p hc hb)
  rintro r s ⟨h, t, rfl, q⟩
  cases r with
  | error e => exact lift_mk q
  | ok f => cases f with
    | ret v => exact lift_mk q
    | _ => exact q
end
end

/-- the places that no step may touch: those of the heap at the start -/
class Born where
  old : Addr → Prop
variable [Born]

/-! Heaps: the part that never changes (a base), the frames, the objects at work. -/

def Ext (h h' : Heap) : Prop := ∀ a o, h.get? a = some o → ∃ o', h'.get? a = some o' ∧ o'.data = o.data ∧ o'.cls = o.cls ∧ (o.cls ≠ .type "frame" ∨ Born.old a → o' = o)
def Base (b h : Heap) : Prop := ∀ a o, b.get? a = some o → h.get? a = some o ∧ o.cls ≠ .type "frame"

theorem Ext.refl (h : Heap) : Ext h h := fun _ o e => ⟨o, e, rfl, rfl, fun _ => rfl⟩
theorem Ext.trans {h₁ h₂ h₃ : Heap} (x : Ext h₁ h₂) (y : Ext h₂ h₃) : Ext h₁ h₃ := fun a o e => by
  obtain ⟨o₂, e₂, d₂, c₂, k₂⟩ := x a o e
  obtain ⟨o₃, e₃, d₃, c₃, k₃⟩ := y a o₂ e₂
  exact ⟨o₃, e₃, d₃.trans d₂, c₃.trans c₂, fun n => (k₃ (c₂ ▸ n)).trans (k₂ n)⟩
theorem Ext.push (h : Heap) (o : Obj) : Ext h (h.push o) := fun _ o' e => ⟨o', Heap.get?_push_of_some _ e, rfl, rfl, fun _ => rfl⟩
theorem Ext.same {h h' : Heap} {a : Addr} (hs : Heap.SameBut a h h') (ha : h.get? a = none) : Ext h h' := fun b o e => ⟨o, (hs.2 b (fun q => by rw [q, ha] at e; cases e)).trans e, rfl, rfl, fun _ => rfl⟩
theorem Ext.stay {h h' : Heap} (x : Ext h h') {a : Addr} {o : Obj} (e : h.get? a = some o) (n : o.cls ≠ .type "frame") : h'.get? a = some o := by
  obtain ⟨o', e', _, _, k⟩ := x a o e
  rw [k (.inl n)] at e'; exact e'
theorem Ext.ns {h h' : Heap} (x : Ext h h') {a : Addr} {m : Str → Option Value} (n : h.Ns a m) : h'.Ns a m := by
  obtain ⟨o, es, ep, e, d, r⟩ := n
  obtain ⟨o', e', d', _, _⟩ := x a o e
  exact ⟨o', es, ep, e', d'.trans d, r⟩
theorem Base.ext {b h h' : Heap} (x : Base b h) (y : Ext h h') : Base b h' := fun a o e => ⟨y.stay (x a o e).1 (x a o e).2, (x a o e).2⟩
theorem Base.stays {b h : Heap} (x : Base b h) : b.StaysIn h := fun a o e => (x a o e).1
theorem Base.fresh {b h : Heap} (x : Base b h) : b.get? h.objs.size = none := x.stays.fresh
theorem fresh_push (h : Heap) : h.get? h.objs.size = none := by
  cases q : h.get? h.objs.size with
  | none => rfl
  | some o => exact absurd (Heap.lt_size q) (Nat.lt_irrefl _)

open Classical in
noncomputable def only (h : Heap) (P : Addr → Prop) : Heap := ⟨h.objs.mapIdx fun i o => if P i then o else { o with data := .freed }, h.life⟩
theorem only_size (h : Heap) (P : Addr → Prop) : (only h P).objs.size = h.objs.size := by simp [only]
theorem only_get {h : Heap} {P : Addr → Prop} {a : Addr} {o : Obj} : (only h P).get? a = some o ↔ P a ∧ h.get? a = some o := by
  rw [Heap.get?_some_iff, Heap.get?_some_iff]
  simp only [only, Array.getElem?_mapIdx, Option.map_eq_some_iff]
  constructor
  · rintro ⟨⟨o', e, q⟩, f⟩
    by_cases hp : P a
    · rw [if_pos hp] at q; subst q; exact ⟨hp, e, f⟩
    · rw [if_neg hp] at q; subst q; simp [Obj.isFreed] at f
  · rintro ⟨hp, e, f⟩
    exact ⟨⟨o, e, if_pos hp⟩, f⟩

abbrev Vars := Str → Option Value
/-- a frame (or a comprehension's own dict): its address, its class, its names -/
abbrev Fent := Addr × String × Vars

structure Sit (b₀ h₀ b : Heap) (fs : List Fent) (N : List (Addr × Obj)) (h : Heap) : Prop where
  ext : Ext h₀ h
  bb : b₀.StaysIn b
  bh : Base b h
  new : ∀ a o, b.get? a = some o → b₀.get? a = some o ∨ h₀.get? a = none
  fr : ∀ p ∈ fs, (h.Ns p.1 p.2.2 ∧ ∃ o, h.get? p.1 = some o ∧ o.cls = .type p.2.1) ∧ b.get? p.1 = none ∧ h₀.get? p.1 = none
  nw : ∀ p ∈ N, h.get? p.1 = some p.2 ∧ p.2.cls ≠ .type "frame" ∧ b.get? p.1 = none ∧ h₀.get? p.1 = none
  nd : (fs.map (·.1) ++ N.map (·.1)).Nodup

abbrev Grow (b h b' h' : Heap) : Prop := Sit b h b' [] [] h'

section
variable {b₀ h₀ b h b' h' : Heap} {fs : List Fent} {N : List (Addr × Obj)} {o : Obj} {L a : Addr} {m : Vars}

theorem Sit.start (x : Base b h) : Sit b h b [] [] h := ⟨Ext.refl h, fun _ _ e => e, x, fun _ _ e => .inl e, (fun _ q => nomatch q), (fun _ q => nomatch q), List.nodup_nil⟩
theorem Sit.done (S : Sit b₀ h₀ b fs N h) : Grow b₀ h₀ b h := ⟨S.ext, S.bb, S.bh, S.new, (fun _ q => nomatch q), (fun _ q => nomatch q), List.nodup_nil⟩

/-- an old address is none of the fresh ones -/
theorem Sit.lt (S : Sit b₀ h₀ b fs N h) : ∀ x ∈ fs.map (·.1) ++ N.map (·.1), x < h.objs.size := fun x hx => by
  rcases List.mem_append.mp hx with q | q
  · obtain ⟨p, hp, rfl⟩ := List.mem_map.mp q; exact (S.fr p hp).1.1.lt
  · obtain ⟨p, hp, rfl⟩ := List.mem_map.mp q; exact Heap.lt_size (S.nw p hp).1
theorem Sit.none0 (S : Sit b₀ h₀ b fs N h) : h₀.get? h.objs.size = none := by
  cases q : h₀.get? h.objs.size with
  | none => rfl
  | some o => obtain ⟨o', e', _⟩ := S.ext _ _ q; exact absurd (Heap.lt_size e') (Nat.lt_irrefl _)

theorem Sit.grow (S : Sit b₀ h₀ b fs N h) (G : Grow b h b' h') : Sit b₀ h₀ b' fs N h' where
  ext := S.ext.trans G.ext
  bb := fun a o e => G.bb a o (S.bb a o e)
  bh := G.bh
  new := fun a o e => (G.new a o e).elim (fun q => S.new a o q) fun q => .inr (by
    cases q0 : h₀.get? a with
    | none => rfl
    | some o0 => obtain ⟨o', e', _⟩ := S.ext a o0 q0; rw [q] at e'; cases e')
  fr := fun p hp => by
    refine ⟨⟨G.ext.ns (S.fr p hp).1.1, by obtain ⟨o, e, cc⟩ := (S.fr p hp).1.2; obtain ⟨o', e', _, cc', _⟩ := G.ext _ o e; exact ⟨o', e', cc'.trans cc⟩⟩, ?_, (S.fr p hp).2.2⟩
    cases q : b'.get? p.1 with
    | none => rfl
    | some o =>
      rcases G.new _ _ q with r | r
      · rw [(S.fr p hp).2.1] at r; cases r
      · obtain ⟨o', _, _, e', _⟩ := (S.fr p hp).1.1
        rw [r] at e'; cases e'
  nw := fun p hp => by
    refine ⟨G.ext.stay (S.nw p hp).1 (S.nw p hp).2.1, (S.nw p hp).2.1, ?_, (S.nw p hp).2.2.2⟩
    cases q : b'.get? p.1 with
    | none => rfl
    | some o =>
      rcases G.new _ _ q with r | r
      · rw [(S.nw p hp).2.2.1] at r; cases r
      · rw [(S.nw p hp).1] at r; cases r
  nd := S.nd

/-- a step that changes nothing but adds -/
theorem Sit.ext' (S : Sit b₀ h₀ b fs N h) (x : Ext h h') : Sit b₀ h₀ b fs N h' :=
  S.grow ⟨x, fun _ _ e => e, S.bh.ext x, fun _ _ e => .inl e, (fun _ q => nomatch q), (fun _ q => nomatch q), List.nodup_nil⟩

theorem Sit.pushN (S : Sit b₀ h₀ b fs N h) (hf : o.isFreed = false := by rfl) (hc : o.cls ≠ .type "frame" := by decide) : Sit b₀ h₀ b fs ((h.objs.size, o) :: N) (h.push o) where
  ext := S.ext.trans (Ext.push h o)
  bb := S.bb
  bh := S.bh.ext (Ext.push h o)
  new := S.new
  fr := fun p hp => ⟨⟨(S.fr p hp).1.1.push o, let ⟨o', e, cc⟩ := (S.fr p hp).1.2; ⟨o', Heap.get?_push_of_some _ e, cc⟩⟩, (S.fr p hp).2⟩
  nw := fun p hp => by
    rcases List.mem_cons.mp hp with rfl | hp
    · exact ⟨Heap.get?_push_size _ hf, hc, S.bh.fresh, S.none0⟩
    · exact ⟨Heap.get?_push_of_some _ (S.nw p hp).1, (S.nw p hp).2⟩
  nd := by
    have q := S.nd
    have l := S.lt
    rw [List.nodup_append] at q ⊢
    refine ⟨q.1, ?_, ?_⟩
    · rw [List.map_cons, List.nodup_cons]
      exact ⟨fun z => absurd (l _ (List.mem_append_right _ z)) (Nat.lt_irrefl _), q.2.1⟩
    · intro x hx y hy
      rw [List.map_cons] at hy
      rcases List.mem_cons.mp hy with rfl | hy
      · exact Nat.ne_of_lt (l _ (List.mem_append_left _ hx))
      · exact q.2.2 x hx y hy

theorem Sit.pushF {C : String} (S : Sit b₀ h₀ b fs N h) (hn : (h.push o).Ns h.objs.size m) (hC : o.cls = .type C) (hfr : o.isFreed = false) : Sit b₀ h₀ b ((h.objs.size, C, m) :: fs) N (h.push o) where
  ext := S.ext.trans (Ext.push h o)
  bb := S.bb
  bh := S.bh.ext (Ext.push h o)
  new := S.new
  fr := fun p hp => by
    rcases List.mem_cons.mp hp with rfl | hp
    · exact ⟨⟨hn, o, Heap.get?_push_size _ hfr, hC⟩, S.bh.fresh, S.none0⟩
    · exact ⟨⟨(S.fr p hp).1.1.push o, let ⟨o', e, cc⟩ := (S.fr p hp).1.2; ⟨o', Heap.get?_push_of_some _ e, cc⟩⟩, (S.fr p hp).2⟩
  nw := fun p hp => ⟨Heap.get?_push_of_some _ (S.nw p hp).1, (S.nw p hp).2⟩
  nd := by
    have l := S.lt
    show ((h.objs.size :: fs.map (·.1)) ++ N.map (·.1)).Nodup
    rw [List.cons_append, List.nodup_cons]
    exact ⟨fun z => absurd (l _ z) (Nat.lt_irrefl _), S.nd⟩

theorem mem_nodup_ne {α : Type} {l : List α} {x y : α} {pre post : List α} (e : l = pre ++ x :: post) (nd : l.Nodup) (hy : y ∈ pre ++ post) : y ≠ x := by
  subst e
  rw [List.nodup_append] at nd
  rcases List.mem_append.mp hy with q | q
  · exact nd.2.2 y q x (.head _)
  · exact fun z => (List.nodup_cons.mp nd.2.1).1 (z ▸ q)

/-- the first frame's map changes -/
theorem Sit.setF {m' : Vars} {C : String} (S : Sit b₀ h₀ b ((L, C, m) :: fs) N h) (hn : h'.Ns L m') (hs : Heap.SameBut L h h') (hC : ∃ o, h'.get? L = some o ∧ o.cls = .type C) : Sit b₀ h₀ b ((L, C, m') :: fs) N h' where
  ext := by
    have z := (S.fr _ (.head _)).2.2
    refine fun a o e => ?_
    obtain ⟨o', e', r⟩ := S.ext a o e
    exact ⟨o', (hs.2 a (fun q => by rw [q, z] at e; cases e)).trans e', r⟩
  bb := S.bb
  bh := fun a o e => by
    have z := (S.fr _ (.head _)).2.1
    exact ⟨(hs.2 a (fun q => by rw [q, z] at e; cases e)).trans (S.bh a o e).1, (S.bh a o e).2⟩
  new := S.new
  fr := fun p hp => by
    rcases List.mem_cons.mp hp with rfl | hp
    · exact ⟨⟨hn, hC⟩, (S.fr _ (.head _)).2⟩
    · have nd := S.nd
      have : p.1 ≠ L := fun q => by
        replace nd : (L :: (fs.map (·.1) ++ N.map (·.1))).Nodup := nd
        exact (List.nodup_cons.mp nd).1 (q ▸ List.mem_append_left _ (List.mem_map_of_mem hp))
      exact ⟨⟨(S.fr p (.tail _ hp)).1.1.sameBut hs this, let ⟨o', e, cc⟩ := (S.fr p (.tail _ hp)).1.2; ⟨o', (hs.2 _ this).trans e, cc⟩⟩, (S.fr p (.tail _ hp)).2⟩
  nw := fun p hp => by
    have nd := S.nd
    have : p.1 ≠ L := fun q => by
      replace nd : (L :: (fs.map (·.1) ++ N.map (·.1))).Nodup := nd
      exact (List.nodup_cons.mp nd).1 (q ▸ List.mem_append_right _ (List.mem_map_of_mem hp))
    exact ⟨(hs.2 _ this).trans (S.nw p hp).1, (S.nw p hp).2⟩
  nd := S.nd

/-- an object at work changes -/
theorem Sit.updN {o o' : Obj} {pre post : List (Addr × Obj)} (S : Sit b₀ h₀ b fs (pre ++ (a, o) :: post) h) (hs : Heap.SameBut a h h') (ho : h'.get? a = some o') (hc : o'.cls ≠ .type "frame") : Sit b₀ h₀ b fs (pre ++ (a, o') :: post) h' where
  ext := by
    have z := (S.nw (a, o) (by simp)).2.2.2
    refine fun x ox e => ?_
    obtain ⟨o', e', r⟩ := S.ext x ox e
    exact ⟨o', (hs.2 x (fun q => by rw [q, z] at e; cases e)).trans e', r⟩
  bb := S.bb
  bh := fun x ox e => by
    have z := (S.nw (a, o) (by simp)).2.2.1
    exact ⟨(hs.2 x (fun q => by rw [q, z] at e; cases e)).trans (S.bh x ox e).1, (S.bh x ox e).2⟩
  new := S.new
  fr := fun p hp => by
    have nd := S.nd
    rw [List.nodup_append] at nd
    have : p.1 ≠ a := nd.2.2 _ (List.mem_map_of_mem hp) a (by simp)
    exact ⟨⟨(S.fr p hp).1.1.sameBut hs this, let ⟨o', e, cc⟩ := (S.fr p hp).1.2; ⟨o', (hs.2 _ this).trans e, cc⟩⟩, (S.fr p hp).2⟩
  nw := fun p hp => by
    have nd := S.nd
    rw [List.nodup_append] at nd
    have ne : ∀ p ∈ pre ++ post, p.1 ≠ a := fun p hp => mem_nodup_ne (l := (pre ++ (a, o) :: post).map (·.1)) (pre := pre.map (·.1)) (post := post.map (·.1)) (by simp) nd.2.1 (by rw [← List.map_append]; exact List.mem_map_of_mem hp)
    rcases List.mem_append.mp hp with q | q
    · exact ⟨(hs.2 _ (ne p (List.mem_append_left _ q))).trans (S.nw p (List.mem_append_left _ q)).1, (S.nw p (List.mem_append_left _ q)).2⟩
    · rcases List.mem_cons.mp q with rfl | q
      · exact ⟨ho, hc, (S.nw (a, o) (by simp)).2.2⟩
      · exact ⟨(hs.2 _ (ne p (List.mem_append_right _ q))).trans (S.nw p (by simp [q])).1, (S.nw p (by simp [q])).2⟩
  nd := by simpa using S.nd

/-- an object at work comes to rest -/
theorem Sit.freeze {o : Obj} {pre post : List (Addr × Obj)} (S : Sit b₀ h₀ b fs (pre ++ (a, o) :: post) h) : ∃ b', Sit b₀ h₀ b' fs (pre ++ post) h ∧ b.StaysIn b' ∧ b'.get? a = some o := by
  have A := S.nw (a, o) (by simp)
  refine ⟨only h fun x => (∃ ox, b.get? x = some ox) ∨ x = a, ⟨S.ext, fun x ox e => only_get.mpr ⟨.inl ⟨ox, S.bb x ox e⟩, (S.bh x ox (S.bb x ox e)).1⟩, ?_, ?_, ?_, ?_, ?_⟩, fun x ox e => only_get.mpr ⟨.inl ⟨ox, e⟩, (S.bh x ox e).1⟩, only_get.mpr ⟨.inr rfl, A.1⟩⟩
  · intro x ox e
    obtain ⟨hp, e⟩ := only_get.mp e
    refine ⟨e, ?_⟩
    rcases hp with ⟨o2, e2⟩ | z
    · have := S.bh x o2 e2; rw [e] at this; exact Option.some.inj this.1 ▸ this.2
    · rw [z] at e; have e3 := A.1.symm.trans e; exact Option.some.inj e3 ▸ A.2.1
  · intro x ox e
    obtain ⟨hp, e⟩ := only_get.mp e
    rcases hp with ⟨o2, e2⟩ | z
    · have := (S.bh x o2 e2).1; rw [e] at this; cases this; exact S.new x ox e2
    · rw [z]; exact .inr A.2.2.2
  · intro p hp
    refine ⟨(S.fr p hp).1, ?_, (S.fr p hp).2.2⟩
    cases q : (only h fun x => (∃ ox, b.get? x = some ox) ∨ x = a).get? p.1 with
    | none => rfl
    | some ox =>
      rcases (only_get.mp q).1 with ⟨o2, e2⟩ | z
      · rw [(S.fr p hp).2.1] at e2; cases e2
      · have nd := S.nd
        rw [List.nodup_append] at nd
        exact absurd z (nd.2.2 _ (List.mem_map_of_mem hp) a (by simp))
  · intro p hp
    have hp' : p ∈ pre ++ (a, o) :: post := by
      rcases List.mem_append.mp hp with q | q
      · exact List.mem_append_left _ q
      · exact List.mem_append_right _ (.tail _ q)
    refine ⟨(S.nw p hp').1, (S.nw p hp').2.1, ?_, (S.nw p hp').2.2.2⟩
    cases q : (only h fun x => (∃ ox, b.get? x = some ox) ∨ x = a).get? p.1 with
    | none => rfl
    | some ox =>
      rcases (only_get.mp q).1 with ⟨o2, e2⟩ | z
      · rw [(S.nw p hp').2.2.1] at e2; cases e2
      · have nd := S.nd
        rw [List.nodup_append] at nd
        exact absurd z (mem_nodup_ne (l := (pre ++ (a, o) :: post).map (·.1)) (pre := pre.map (·.1)) (post := post.map (·.1)) (by simp) nd.2.1 (by rw [← List.map_append]; exact List.mem_map_of_mem hp))
  · refine List.Sublist.nodup ?_ S.nd
    refine List.Sublist.append_left ?_ _
    simp
theorem Sit.pushB (S : Sit b₀ h₀ b fs N h) (hf : o.isFreed = false := by rfl) (hc : o.cls ≠ .type "frame" := by decide) : ∃ b', Sit b₀ h₀ b' fs N (h.push o) ∧ b.StaysIn b' ∧ b'.get? h.objs.size = some o :=
  Sit.freeze (pre := []) (S.pushN hf hc)
end

section
/-! The rules of the syntax. -/

/-- two ways on; what follows a statement; what follows a turn -/
def Br (b : Bool) (P R : Prop) : Prop := match b with | true => P | false => R
def Fl (f : Flow) (P : Prop) (Q : Flow → Prop) : Prop := match f with | .next => P | f => Q f
def Tu (f : Flow) (P : Prop) (Q : Flow → Prop) : Prop := match f with | .ret v => Q (.ret v) | .brk => Q .next | _ => P
theorem br {P R : Prop} {b : Bool} (ht : b = true → P) (hf : b = false → R) : Br b P R := by cases b; exact hf rfl; exact ht rfl
theorem brT {P R : Prop} (p : P) : Br true P R := p
theorem brF {P R : Prop} (p : R) : Br false P R := p
theorem brNT {P R : Prop} (p : R) : Br (!true) P R := p
theorem brNF {P R : Prop} (p : P) : Br (!false) P R := p
theorem flN {P : Prop} {Q : Flow → Prop} (p : P) : Fl .next P Q := p
theorem flR {P : Prop} {Q : Flow → Prop} {v : Value} (p : Q (.ret v)) : Fl (.ret v) P Q := p
theorem flB {P : Prop} {Q : Flow → Prop} (p : Q .brk) : Fl .brk P Q := p
theorem flC {P : Prop} {Q : Flow → Prop} (p : Q .cont) : Fl .cont P Q := p
theorem tuN {P : Prop} {Q : Flow → Prop} (p : P) : Tu .next P Q := p
theorem tuR {P : Prop} {Q : Flow → Prop} {v : Value} (p : Q (.ret v)) : Tu (.ret v) P Q := p
theorem tuB {P : Prop} {Q : Flow → Prop} (p : Q .next) : Tu .brk P Q := p
theorem tuC {P : Prop} {Q : Flow → Prop} (p : P) : Tu .cont P Q := p
section
variable {c : Cfg} {A : Around} {E : Value → Heap → Prop} {h : Heap} {env : Env}

theorem r_execs_nil {Q : Flow → Heap → Prop} (q : Q .next h) : WP c A (execs [] env) Q E h := by rw [PySem.execs_nil]; exact .pure q
theorem r_execs_cons {s : Stmt} {rest : List Stmt} {Q : Flow → Heap → Prop}
    (x : WP c A (exec s env) (fun f h => Fl f (WP c A (execs rest env) Q E h) fun f => Q f h) E h) : WP c A (execs (s :: rest) env) Q E h := by
  rw [PySem.execs_cons]
  refine .bind (x.monoQ fun f h y => ?_)
  cases f <;> first | exact y | exact .pure y

theorem r_Constant {k : Const} {n : Nat} {pos : Pos} {Q : Value → Heap → Prop} (x : WP c A (constValue env k) Q E h) : WP c A (eval (.Constant k n pos) env) Q E h := by
  rw [eval_Constant]; exact x
theorem r_int {i : Int} {n : Nat} {pos : Pos} {Q : Value → Heap → Prop} (q : ∀ t, Q (.int i t) h) : WP c A (eval (.Constant (.int i) n pos) env) Q E h := r_Constant (.mkInt q)
theorem r_str {x : Str} {n : Nat} {pos : Pos} {Q : Value → Heap → Prop} (q : ∀ t, Q (.str x t) h) : WP c A (eval (.Constant (.str x) n pos) env) Q E h := r_Constant (.mkText q)
theorem r_none {n : Nat} {pos : Pos} {Q : Value → Heap → Prop} (q : Q .none h) : WP c A (eval (.Constant .none n pos) env) Q E h := r_Constant (.pure q)
theorem r_bool {b : Bool} {n : Nat} {pos : Pos} {Q : Value → Heap → Prop} (q : Q (.bool b) h) : WP c A (eval (.Constant (.bool b) n pos) env) Q E h := r_Constant (.pure q)

theorem r_Name {x : Str} {pos : Pos} {Q : Value → Heap → Prop} (q : WP c A (loadName env x) Q E h) (hd : (x == ("__debug__" : Str)) = false) : WP c A (eval (.Name x pos) env) Q E h := by
  rw [eval_Name env x pos hd]; exact .bind (.standAt q)
theorem r_BinOp {l r : Expr} {op : Operator} {pos : Pos} {Q : Value → Heap → Prop}
    (x : WP c A (eval l env) (fun a h => WP c A (eval r env) (fun b h => WP c A (binaryOp op a b) Q E h) E h) E h) : WP c A (eval (.BinOp l op r pos) env) Q E h := by
  rw [eval_BinOp]
  exact .bind (x.monoQ fun a h y => .bind (.holding (y.monoQ fun b h z => .bind (.standAt (.operate z)))))
theorem r_Compare {l r : Expr} {op : CmpOp} {pos : Pos} {Q : Value → Heap → Prop}
    (x : WP c A (eval l env) (fun a h => WP c A (eval r env) (fun b h => WP c A (compareOp op a b) Q E h) E h) E h)
    (hm : behindInMarks op r = false := by first | rfl | decide) : WP c A (eval (.Compare l [op] [r] pos) env) Q E h := by
  rw [eval_Compare1, markedBehindIn_of_false hm]
  exact .bind (x.monoQ fun a h y => .bind (.holding (y.monoQ fun b h z => .bind (.standAt (.operate z)))))
theorem r_UnaryOp {op : UnaryOp} {e : Expr} {pos : Pos} {Q : Value → Heap → Prop} (x : WP c A (eval e env) (fun v h => WP c A (unaryOp op v) Q E h) E h) : WP c A (eval (.UnaryOp op e pos) env) Q E h := by
  rw [arm_eval_UnaryOp]
  exact .bind (x.monoQ fun v h y => .bind (.standAt (.holding y)))
theorem r_IfExp {test body orelse : Expr} {pos : Pos} {Q : Value → Heap → Prop}
    (x : WP c A (isTrue test env (eval test env)) (fun b h => Br b (WP c A (eval body env) Q E h) (WP c A (eval orelse env) Q E h)) E h) : WP c A (eval (.IfExp test body orelse pos) env) Q E h := by
  rw [arm_eval_IfExp]
  refine .bind (x.monoQ fun b h y => ?_)
  cases b <;> exact y
theorem r_Or {x y : Expr} {pos : Pos} {Q : Value → Heap → Prop}
    (p : WP c A (eval x env) (fun v h => WP c A (truthy v) (fun t h => Br t (Q v h) (WP c A (eval y env) Q E h)) E h) E h) : WP c A (eval (.BoolOp .Or [x, y] pos) env) Q E h := by
  show WP c A (do
    let v ← eval x env
    standAt pos
    let t ← holding [v] (truthy v)
    match BoolOp.Or, t with
    | .And, false | .Or, true => pure v
    | _, _ => eval y env) Q E h
  refine .bind (p.monoQ fun v h q => .bind (.standAt (.bind (.holding (q.monoQ fun t h r => ?_)))))
  cases t
  · exact r
  · exact .pure r
theorem r_And {x y : Expr} {pos : Pos} {Q : Value → Heap → Prop}
    (p : WP c A (eval x env) (fun v h => WP c A (truthy v) (fun t h => Br t (WP c A (eval y env) Q E h) (Q v h)) E h) E h) : WP c A (eval (.BoolOp .And [x, y] pos) env) Q E h := by
  show WP c A (do
    let v ← eval x env
    standAt pos
    let t ← holding [v] (truthy v)
    match BoolOp.And, t with
    | .And, false | .Or, true => pure v
    | _, _ => eval y env) Q E h
  refine .bind (p.monoQ fun v h q => .bind (.standAt (.bind (.holding (q.monoQ fun t h r => ?_)))))
  cases t
  · exact .pure r
  · exact r

/-! tests -/
theorem r_tCompare {l r : Expr} {op : CmpOp} {pos : Pos} {whole : Sem Value} {Q : Bool → Heap → Prop}
    (x : WP c A (eval l env) (fun a h => WP c A (eval r env) (fun b h => WP c A (compareOp op a b) (fun v h => WP c A (truthy v) Q E h) E h) E h) E h)
    (hm : behindInMarks op r = false := by first | rfl | decide) : WP c A (isTrue (.Compare l [op] [r] pos) env whole) Q E h := by
  rw [isTrue_Compare1, markedBehindIn_of_false hm]
  exact .bind (x.monoQ fun a h y => .bind (.holding (y.monoQ fun b h z => .bind (.standAt (.bind (.operate (z.monoQ fun v h q => .holding q)))))))
theorem r_tNot {e : Expr} {pos : Pos} {whole : Sem Value} {Q : Bool → Heap → Prop} (x : WP c A (isTrue e env (eval e env)) (fun b h => Q (!b) h) E h) : WP c A (isTrue (.UnaryOp .Not e pos) env whole) Q E h := by
  rw [arm_isTrue_UnaryOp]
  exact .bind (x.monoQ fun b h q => .pure q)
theorem r_tBoolOp {op : BoolOp} {es : List Expr} {pos : Pos} {whole : Sem Value} {Q : Bool → Heap → Prop} (x : WP c A (allTrue op es env) Q E h) : WP c A (isTrue (.BoolOp op es pos) env whole) Q E h := x
theorem r_all_nil {op : BoolOp} {Q : Bool → Heap → Prop} (q : Q (op == .And) h) : WP c A (allTrue op [] env) Q E h := by rw [arm_allTrue_nil]; exact .pure q
theorem r_or_nil {Q : Bool → Heap → Prop} (q : Q false h) : WP c A (allTrue .Or [] env) Q E h := r_all_nil q
theorem r_and_nil {Q : Bool → Heap → Prop} (q : Q true h) : WP c A (allTrue .And [] env) Q E h := r_all_nil q
theorem r_and_cons {e : Expr} {es : List Expr} {Q : Bool → Heap → Prop} (x : WP c A (isTrue e env (eval e env)) (fun b h => Br b (WP c A (allTrue .And es env) Q E h) (Q false h)) E h) : WP c A (allTrue .And (e :: es) env) Q E h := by
  rw [arm_allTrue_cons]
  refine .bind (x.monoQ fun b h q => ?_)
  cases b
  · exact .pure q
  · exact q
theorem r_or_cons {e : Expr} {es : List Expr} {Q : Bool → Heap → Prop} (x : WP c A (isTrue e env (eval e env)) (fun b h => Br b (Q true h) (WP c A (allTrue .Or es env) Q E h)) E h) : WP c A (allTrue .Or (e :: es) env) Q E h := by
  rw [arm_allTrue_cons]
  refine .bind (x.monoQ fun b h q => ?_)
  cases b
  · exact q
  · exact .pure q
/-- a test that is no comparison -/
theorem r_tPlain {e : Expr} {whole : Sem Value} {Q : Bool → Heap → Prop} (x : WP c A whole (fun v h => WP c A (truthy v) Q E h) E h)
    (he : isTrue e env whole = (do let v ← whole; standAt e.pos; holding [v] (truthy v)) := by rfl) : WP c A (isTrue e env whole) Q E h := by
  rw [he]
  exact .bind (x.monoQ fun v h q => .bind (.standAt (.holding q)))
theorem r_truthy_bool {b : Bool} {Q : Bool → Heap → Prop} (q : Q b h) : WP c A (truthy (.bool b)) Q E h := .pure q

/-! statements -/
theorem r_Assign {x : Str} {pos' pos : Pos} {value : Expr} {Q : Flow → Heap → Prop} (y : WP c A (eval value env) (fun v h => WP c A (storeName env x v) (fun _ => Q .next) E h) E h)
    (hs : swapsWith value (some (.Name x pos')) pos.line env = pure false := by rfl) : WP c A (exec (.Assign [.Name x pos'] value pos) env) Q E h := by
  rw [exec_Assign_Name env x pos' value pos hs]
  exact .bind (.standAt (.bind (y.monoQ fun v h z => .bind (.standAt (.bind (.bindName (z.monoQ fun _ _ q => .pure q)))))))
theorem r_AugAssign {x : Str} {pos' pos : Pos} {op : Operator} {value : Expr} {Q : Flow → Heap → Prop}
    (y : WP c A (loadName env x) (fun old h => WP c A (eval value env) (fun v h => WP c A (inplaceOp op old v) (fun r h => WP c A (storeName env x r) (fun _ => Q .next) E h) E h) E h) E h) :
    WP c A (exec (.AugAssign (.Name x pos') op value pos) env) Q E h := by
  rw [exec_AugAssign_Name]
  exact .bind (.standAt (.bind (y.monoQ fun old h z => .bind (.holding (z.monoQ fun v h z => .bind (.standAt (.bind (.operate (z.monoQ fun r h z => .bind (.standAt (.bind (.bindName (z.monoQ fun _ _ q => .pure q))))))))))))) 
theorem r_If {test : Expr} {body orelse : List Stmt} {pos : Pos} {Q : Flow → Heap → Prop}
    (x : WP c A (isTrue test env (eval test env)) (fun b h => Br b (WP c A (execs body env) Q E h) (WP c A (execs orelse env) Q E h)) E h) : WP c A (exec (.If test body orelse pos) env) Q E h := by
  rw [exec_If]
  refine .bind (.standAt (.bind (x.monoQ fun b h y => ?_)))
  cases b <;> exact y
theorem r_Return {e : Expr} {pos : Pos} {Q : Flow → Heap → Prop} (x : WP c A (eval e env) (fun v => Q (.ret v)) E h) : WP c A (exec (.Return (some e) pos) env) Q E h := by
  rw [exec_Return_some]
  exact .bind (.standAt (.bind (x.monoQ fun v h q => .pure q)))
theorem r_Expr {e : Expr} {pos : Pos} {Q : Flow → Heap → Prop} (x : WP c A (eval e env) (fun v h => (∀ a, v ≠ .ref a) ∧ Q .next h) E h)
    (hi : interactive env = false := by rfl) (hs : swapsWith e none pos.line env = pure false := by rfl) : WP c A (exec (.Expr e pos) env) Q E h := by
  rw [exec_Expr env e pos hi hs]
  exact .bind (.standAt (.bind (x.monoQ fun v h q => .of_eq (dropValue_plain q.1) q.2)))

/-! lists of items, arguments -/
theorem r_items_nil {pos : Pos} {Q : List Value → Heap → Prop} (q : Q [] h) : WP c A (spliced (backTo pos (starEach [] env))) Q E h := .pure q
theorem r_items_cons {pos : Pos} {e : Expr} {rest : List Expr} {Q : List Value → Heap → Prop}
    (x : WP c A (eval e env) (fun v h => WP c A (spliced (backTo pos (starEach rest env))) (fun vs h => Q (v :: vs) h) E h) E h)
    (he : starEach (e :: rest) env = (false, eval e env) :: starEach rest env := by rfl) : WP c A (spliced (backTo pos (starEach (e :: rest) env))) Q E h := by
  rw [he]
  show WP c A (do
    let v ← eval e env
    let here ← (pure [v] : Sem (List Value))
    return here ++ (← holding here (spliced (backTo pos (starEach rest env))))) Q E h
  exact .bind (x.monoQ fun v h y => .bind (.pure (.bind (.holding (y.monoQ fun vs h q => .pure q)))))
theorem r_Tuple {elts : List Expr} {k : Nat} {pos : Pos} {Q : Value → Heap → Prop} (x : WP c A (spliced (backTo pos (starEach elts env))) (fun vs h => WP c A (newTuple vs) Q E h) E h) : WP c A (eval (.Tuple elts k pos) env) Q E h := by
  rw [arm_eval_Tuple]
  exact .bind (.standAt (.bind x))
theorem r_List {elts : List Expr} {pos : Pos} {Q : Value → Heap → Prop} (x : WP c A (spliced (backTo pos (starEach elts env))) (fun vs h => WP c A (newList vs) Q E h) E h) : WP c A (eval (.List elts pos) env) Q E h := by
  rw [arm_eval_List]
  exact .bind (.standAt (.bind x))

theorem r_evalArgs_pos {f : Value} {pos : Pos} {args : List Expr} {Q : Args → Heap → Prop} (x : WP c A (spliced (backTo pos (starEach args env))) (fun vs h => Q ⟨vs, []⟩ h) E h)
    (hp : (backTo pos (starEach args env)).any (·.1) = false) : WP c A (evalArgs f true (backTo pos (starEach args env)) []) Q E h := by
  revert x hp
  generalize backTo pos (starEach args env) = l
  intro x hp
  unfold evalArgs
  cases l with
  | nil =>
    show WP c A (spliced [] >>= _) Q E h
    refine .bind (x.monoQ fun vs h q => ?_)
    refine .bind (.pure (.holding ?_))
    exact .bind (.pure (.bind (.pure (.pure q))))
  | cons y ys =>
    obtain ⟨b, y⟩ := y
    cases b with
    | true => simp at hp
    | false =>
      show WP c A (spliced _ >>= _) Q E h
      refine .bind (x.monoQ fun vs h q => ?_)
      refine .holding ?_
      exact .bind (.pure (.bind (.pure (.pure q))))
end
end

section
/-! What stands around a call, names, calls of defs. -/

def FrOk (h : Heap) (env : Env) : Prop := env.scope.kind ≠ .module ∧ ∃ L o es ep, env.frame = some L ∧ h.get? L = some o ∧ o.cls = .type "frame" ∧ o.data = .dict es ep ∧ ¬ Born.old L
theorem FrOk.ext {h h' : Heap} {env : Env} (x : FrOk h env) (y : Ext h h') : FrOk h' env := by
  obtain ⟨k, L, o, es, ep, f, e, c, d, nb⟩ := x
  obtain ⟨o', e', d', c', _⟩ := y L o e
  exact ⟨k, L, o', es, ep, f, e', c'.trans c, d'.trans d, nb⟩

structure Good (A : Around) (h : Heap) (k : Nat) : Prop where
  hd : A.handled = none
  depth : A.depth + k < 1000
  units : A.units + 20 * k < 9900
  frames : ∃ fs, A.frames = some fs ∧ ∀ env ∈ fs, FrOk h env
  mb : ∃ mb, h.Ns builtinsNs mb ∧ ∀ x, x ≠ ("__name__" : Str) → mb x = bootBuiltins x
  old : ∀ a, Born.old a → ∃ o, h.get? a = some o

section
variable {A : Around} {h h' : Heap} {k : Nat} {env : Env}
theorem Good.ext (x : Good A h k) (y : Ext h h') : Good A h' k := ⟨x.hd, x.depth, x.units, let ⟨fs, e, q⟩ := x.frames; ⟨fs, e, fun env m => (q env m).ext y⟩, let ⟨mb, n, u⟩ := x.mb; ⟨mb, y.ns n, u⟩, fun a e => let ⟨o, g⟩ := x.old a e; let ⟨o', g', _⟩ := y a o g; ⟨o', g'⟩⟩
theorem Good.in1 (x : Good A h (k + 1)) : Good A.in1 h k := ⟨x.hd, by have := x.depth; simp only [Around.in1_depth]; omega, by have := x.units; simp only [Around.in1_units]; omega, x.frames, x.mb, x.old⟩
theorem Good.le {k' : Nat} (x : Good A h k) (y : k' ≤ k) : Good A h k' := ⟨x.hd, by have := x.depth; omega, by have := x.units; omega, x.frames, x.mb, x.old⟩
theorem Good.c (x : Good A h k) : A.units < cLine := by have := x.units; show A.units < 9900; omega
theorem Good.deeper (x : Good A h (k + 1)) (y : Ext h h') (f : FrOk h' env) : Good (A.deeper env) h' k := ⟨x.hd, by have := x.depth; show A.depth + 1 + k < 1000; omega, by have := x.units; show A.units + 3 + 20 * k < 9900; omega, by
  obtain ⟨fs, e, q⟩ := x.frames
  refine ⟨env :: fs, by show A.frames.map _ = _; rw [e]; rfl, fun env' m => ?_⟩
  rcases List.mem_cons.mp m with rfl | m
  · exact f
  · exact (q env' m).ext y, let ⟨mb, n, u⟩ := x.mb; ⟨mb, y.ns n, u⟩, fun a e => let ⟨o, g⟩ := x.old a e; let ⟨o', g', _⟩ := y a o g; ⟨o', g'⟩⟩
end

structure World (K : Frag) (b : Heap) : Prop where
  k : K.In b
  mg : ∃ mg, b.Ns mainGlobals mg
  bm : ∃ mg bm ob, b.Ns mainGlobals mg ∧ mg "__builtins__" = some (.ref bm) ∧ bm ≠ builtinsNs ∧ b.get? bm = some ob ∧ ob.cls = .type "module" ∧ ob.dict = some builtinsNs ∧ ob.data = .plain
  nolimit : b.NoLimit
theorem World.stays {K : Frag} {b b' : Heap} (W : World K b) (s : b.StaysIn b') : World K b' :=
  ⟨fun a o e => s a o (W.k a o e), let ⟨mg, x⟩ := W.mg; ⟨mg, x.keeps s⟩, let ⟨mg, bm, ob, x, e, n, g, r⟩ := W.bm; ⟨mg, bm, ob, x.keeps s, e, n, s _ _ g, r⟩, W.nolimit.keeps s⟩

def upd (m : Vars) (x : Str) (v : Value) : Vars := fun y => if y = x then some v else m y
theorem upd_hd {m : Vars} {x : Str} {v : Value} : upd m x v x = some v := if_pos rfl
theorem upd_tl {m : Vars} {x y : Str} {v : Value} {r : Option Value} (n : decide (y = x) = false) (e : m y = r) : upd m x v y = r := (if_neg (of_decide_eq_false n)).trans e

/-- one entry of a ledger, and the ledger with another object there -/
inductive Rep (a : Addr) (o : Obj) : List (Addr × Obj) → (Obj → List (Addr × Obj)) → Prop
  | head {l} : Rep a o ((a, o) :: l) (fun o' => (a, o') :: l)
  | tail {p l g} : Rep a o l g → Rep a o (p :: l) (fun o' => p :: g o')
theorem Rep.split {a : Addr} {o : Obj} {N : List (Addr × Obj)} {g : Obj → List (Addr × Obj)} (r : Rep a o N g) : ∃ pre post, N = pre ++ (a, o) :: post ∧ ∀ o', g o' = pre ++ (a, o') :: post := by
  induction r with
  | head => exact ⟨[], _, rfl, fun _ => rfl⟩
  | tail r ih => obtain ⟨pre, post, e, q⟩ := ih; exact ⟨_ :: pre, post, by rw [e]; rfl, fun o' => by show _ :: _ = _; rw [q]; rfl⟩
theorem Rep.mem {a : Addr} {o : Obj} {N : List (Addr × Obj)} {g : Obj → List (Addr × Obj)} (r : Rep a o N g) : (a, o) ∈ N := by
  obtain ⟨pre, post, e, _⟩ := r.split; rw [e]; simp
/-- one entry of a ledger, and the ledger without it -/
inductive Out (a : Addr) (o : Obj) : List (Addr × Obj) → List (Addr × Obj) → Prop
  | head {l} : Out a o ((a, o) :: l) l
  | tail {p l l'} : Out a o l l' → Out a o (p :: l) (p :: l')
theorem Out.split {a : Addr} {o : Obj} {N N' : List (Addr × Obj)} (r : Out a o N N') : ∃ pre post, N = pre ++ (a, o) :: post ∧ N' = pre ++ post := by
  induction r with
  | head => exact ⟨[], _, rfl, rfl⟩
  | tail r ih => obtain ⟨pre, post, e, q⟩ := ih; exact ⟨_ :: pre, post, by rw [e]; rfl, by rw [q]; rfl⟩

section
variable {b₀ h₀ b h h' : Heap} {fs : List Fent} {N N' : List (Addr × Obj)} {o o' : Obj} {a L : Addr} {m : Vars} {g : Obj → List (Addr × Obj)}
theorem Sit.rep (S : Sit b₀ h₀ b fs N h) (r : Rep a o N g) (hs : Heap.SameBut a h h') (ho : h'.get? a = some o') (hc : o'.cls ≠ .type "frame") : Sit b₀ h₀ b fs (g o') h' := by
  obtain ⟨pre, post, e, q⟩ := r.split
  subst e; rw [q]; exact S.updN hs ho hc
theorem Sit.out (S : Sit b₀ h₀ b fs N h) (r : Out a o N N') : ∃ b', Sit b₀ h₀ b' fs N' h ∧ b.StaysIn b' ∧ b'.get? a = some o := by
  obtain ⟨pre, post, e, q⟩ := r.split
  subst e; subst q; exact S.freeze
theorem Sit.atN (S : Sit b₀ h₀ b fs N h) (r : Rep a o N g) : h.get? a = some o := (S.nw _ r.mem).1
theorem Sit.atB (S : Sit b₀ h₀ b fs N h) (e : b.get? a = some o) : h.get? a = some o := (S.bh _ _ e).1
end

section
variable {c : Cfg} {A : Around} {E : Value → Heap → Prop} {h : Heap} {env : Env} {b₀ h₀ b : Heap} {fs : List Fent} {N : List (Addr × Obj)} {L a : Addr} {m : Vars} {x : Str} {v : Value} {pos : Pos} {K : Frag} {o : Obj} {g : Obj → List (Addr × Obj)}

theorem loadLocal {C : String} {Q : Value → Heap → Prop} (S : Sit b₀ h₀ b ((L, C, m) :: fs) N h) (hv : m x = some v) (q : Q v h) (hL : env.locals = L) (hk : env.scope.kind = .function) (hx : env.kindOf x = some .local) : WP c A (loadName env x) Q E h := fun tk =>
  wpAny_loadName_local hk hx (by rw [hL]; exact (S.fr _ (.head _)).1.1) hv (lift_mk q)
theorem loadCell {Q : Value → Heap → Prop} (hc : env.cells.lookup x = some a) (e : h.get? a = some o) (hd : o.data = .cell (some v)) (q : Q v h) (hk : env.scope.kind = .function) (hx : env.kindOf x = some .cell) : WP c A (loadName env x) Q E h := fun tk =>
  wpAny_loadName_cell hk hx hc ⟨o, e, hd⟩ (lift_mk q)
theorem loadFree {Q : Value → Heap → Prop} (hc : env.cells.lookup x = some a) (e : h.get? a = some o) (hd : o.data = .cell (some v)) (q : Q v h) (hk : env.scope.kind = .function) (hx : env.kindOf x = some .free) (hn : (x == ("__classdict__" : Str)) = false) : WP c A (loadName env x) Q E h := fun tk =>
  wpAny_loadName_free hk hx hc ⟨o, e, hd⟩ (lift_mk q) hn

theorem loadGlob {Q : Value → Heap → Prop} (W : World K b) (B : Base b h) (e : nsIn K mainGlobals x = some (some v)) (q : Q v h) (hg : env.globals = mainGlobals) : WP c A (loadGlobal env x) Q E h := fun tk => by
  obtain ⟨mg, G⟩ := W.mg
  exact loadGlobal_global (by rw [hg]; exact G.keeps B.stays) (mg_of W.k G e) (lift_mk q)
theorem loadBuiltin {Q : Value → Heap → Prop} (W : World K b) (B : Base b h) (mbh : ∃ mb, h.Ns builtinsNs mb ∧ ∀ x, x ≠ ("__name__" : Str) → mb x = bootBuiltins x) (e : nsIn K mainGlobals x = some none) (hv : bootBuiltins x = some v) (hn : x ≠ ("__name__" : Str)) (q : Q v h) (hg : env.globals = mainGlobals) (hb : env.builtins = builtinsNs) : WP c A (loadGlobal env x) Q E h := fun tk => by
  obtain ⟨mg, G⟩ := W.mg
  obtain ⟨mb, M, u⟩ := mbh
  exact loadGlobal_builtin (by rw [hg]; exact G.keeps B.stays) (mg_none_of W.k G e) (by rw [hb]; exact M) ((u x hn).trans hv) (lift_mk q)
theorem nameGlob {Q : Value → Heap → Prop} (q : WP c A (loadGlobal env x) Q E h) (hk : env.scope.kind = .function) (hx : env.kindOf x = some .globalImplicit) (hd : (x == ("__debug__" : Str)) = false) : WP c A (eval (.Name x pos) env) Q E h := fun tk =>
  Name_function_global hk hx (q tk) hd

theorem ns_put {hash : Int} {tk : Tok} (n : h.Ns L m) : (h.update L (Obj.putName x hash (.str x tk) v)).Ns L (upd m x v) := by
  obtain ⟨o, es, ep, ho, hd, hk, hm⟩ := n
  obtain ⟨cl, d, dt, sl⟩ := o
  obtain rfl : dt = _ := hd
  cases hi : es.findIdx? (·.key.isStr x) with
  | some i =>
    have e : Obj.putName x hash (.str x tk) v ⟨cl, d, .dict es ep, sl⟩ = ⟨cl, d, .dict (es.modify i fun e => { e with val := v }) ep, sl⟩ := by
      simp only [Obj.putName_eq, Obj.putNameByArray, hi]
    refine ⟨_, _, ep, Heap.get?_update_self _ ho (by rw [e]; rfl), by rw [e], hk.modify _ _, fun y => ?_⟩
    show _ = if y = x then some v else m y
    rw [← hm]; exact findBy_modify (fun n v => v.isStr n) Value.isStr_inj es x y v i hi
  | none =>
    have e : Obj.putName x hash (.str x tk) v ⟨cl, d, .dict es ep, sl⟩ = ⟨cl, d, .dict (es.push ⟨hash, .str x tk, v⟩) (ep + 1), sl⟩ := by
      simp only [Obj.putName_eq, Obj.putNameByArray, hi]
    refine ⟨_, _, ep + 1, Heap.get?_update_self _ ho (by rw [e]; rfl), by rw [e], hk.push _ _ _ _, fun y => ?_⟩
    show _ = if y = x then some v else m y
    rw [← hm]
    exact findBy_push (fun n v => v.isStr n) es x y _ _ v (fun z => by
      show (x == z) = decide (z = x)
      by_cases h : z = x
      · subst h; simp
      · have : ¬ x = z := fun e => h e.symm
        simp [h, this]) hi
theorem putName_cls {hash : Int} {key : Value} {o : Obj} : (Obj.putName x hash key v o).cls = o.cls := by
  obtain ⟨cl, d, dt, sl⟩ := o
  cases dt <;> try rfl
  rename_i es n
  simp only [Obj.putName_eq, Obj.putNameByArray]
  split <;> rfl
theorem nsSet_ok {C : String} {Q : Unit → Heap → Prop} (n : h.Ns L m) (hC : ∃ o, h.get? L = some o ∧ o.cls = .type C)
    (q : ∀ h', h'.Ns L (upd m x v) → Heap.SameBut L h h' → (∃ o, h'.get? L = some o ∧ o.cls = .type C) → Q () h') : WP c A (nsSet L x v) Q E h := by
  obtain ⟨o, es, ep, ho, hd, hk, hm⟩ := id n
  obtain ⟨o', ho', hc'⟩ := hC
  have e2 := ho.symm.trans ho'; cases e2
  unfold nsSet strHash
  refine .bind (.bind (.ask (.pure (.bind (.mkText fun t => .bind (.loadPart ho ?_))))))
  have hany : es.any (·.refKey) = false := by
    rw [Array.any_eq_false']; intro e he; obtain ⟨n, t, h⟩ := hk e he; simp [DictEntry.refKey, h]
  simp only [hd, aRefKeyMayBeTheName_eq, aRefKeyMayBeTheNameByArray, hany, Bool.and_false, Bool.false_eq_true, if_false]
  intro tk
  have nn := ns_put (x := x) (v := v) (hash := (if x.cps.isEmpty = true then 0 else reduceHash ((c.w.params).strHash x.cps))) (tk := t) n
  obtain ⟨o2, _, _, ho2, _⟩ := id nn
  refine wpAny_updatePart ho (lift_mk (q _ nn (Heap.SameBut.update ..) ⟨o2, ho2, ?_⟩))
  have := Heap.get?_update_self (Obj.putName x (if x.cps.isEmpty = true then 0 else reduceHash ((c.w.params).strHash x.cps)) (.str x t) v) ho (by
    cases hf : (Obj.putName x (if x.cps.isEmpty = true then 0 else reduceHash ((c.w.params).strHash x.cps)) (.str x t) v o).isFreed with
    | false => rfl
    | true =>
      have z := (Heap.get?_some_iff.mp ho2).2
      have z1 := (Heap.get?_some_iff.mp ho2).1
      have z3 := (Heap.get?_some_iff.mp ho).1
      have : (h.update L (Obj.putName x (if x.cps.isEmpty = true then 0 else reduceHash ((c.w.params).strHash x.cps)) (.str x t) v)).objs[L]? = some (Obj.putName x (if x.cps.isEmpty = true then 0 else reduceHash ((c.w.params).strHash x.cps)) (.str x t) v o) := by
        cases h; simp only [Heap.update, Array.getElem?_modify, if_true]; simp only at z3; rw [z3]; rfl
      rw [this] at z1; cases z1; rw [hf] at z; cases z)
  rw [ho2] at this
  rw [Option.some.inj this, putName_cls, hc']
theorem storeLocal {C : String} {Q : Unit → Heap → Prop} (S : Sit b₀ h₀ b ((L, C, m) :: fs) N h) (q : ∀ h', Sit b₀ h₀ b ((L, C, upd m x v) :: fs) N h' → Q () h') (hL : env.locals = L) (hk : env.scope.kind = .function) (hx : env.kindOf x = some .local) : WP c A (storeName env x v) Q E h := by
  rw [storeName_local hx (by rw [hk]; rfl), hL]
  exact nsSet_ok (S.fr _ (.head _)).1.1 (S.fr _ (.head _)).1.2 fun h' n s e => q h' (S.setF n s e)
theorem storeCell {Q : Unit → Heap → Prop} {v₀ : Option Value} {cl : Value} {dd : Option Addr} {sl : Array (Option Value)} (S : Sit b₀ h₀ b fs N h) (hc : env.cells.lookup x = some a) (r : Rep a ⟨cl, dd, .cell v₀, sl⟩ N g) (q : ∀ h', Sit b₀ h₀ b fs (g ⟨cl, dd, .cell (some v), sl⟩) h' → Q () h')
    (hk : env.scope.kind = .function) (hx : env.kindOf x = some .cell) : WP c A (storeName env x v) Q E h := by
  have e := S.atN r
  unfold storeName
  simp only [hx, hk]
  unfold cellOf
  rw [hc]
  refine .bind (.pure ?_)
  unfold cellSet
  refine .bind (.load e ?_)
  refine .update e (q _ (S.rep r (Heap.SameBut.update ..) (Heap.get?_update_self _ e rfl) ?_))
  exact (S.nw _ r.mem).2.1
end

/-! calls of defs -/
def storeAll (env : Env) : List (Str × Value) → Sem Unit
  | [] => pure ()
  | (n, v) :: r => do storeName env n v; storeAll env r
def cellObj (v : Option Value) : Obj := { cls := .type "cell", data := .cell v }
def cellsN (n : Nat) : List (Str × NameKind) → List (Addr × Obj) → List (Addr × Obj)
  | [], N => N
  | (_, k) :: r, N => if k == .cell then cellsN (n + 1) r ((n, cellObj none) :: N) else cellsN n r N

section
variable {c : Cfg} {A : Around} {E : Value → Heap → Prop} {h : Heap} {env : Env} {b₀ h₀ b : Heap} {fs : List Fent} {N : List (Addr × Obj)} {L a : Addr} {m : Vars} {x : Str} {v : Value} {pos : Pos} {K : Frag} {o : Obj}

theorem Sit.cells : ∀ (names : List (Str × NameKind)) {N : List (Addr × Obj)} {h : Heap}, Sit b₀ h₀ b fs N h → Sit b₀ h₀ b fs (cellsN h.objs.size names N) (pushCells h names)
  | [], _, _, S => S
  | (n, k) :: r, N, h, S => by
    unfold cellsN pushCells
    split
    · have := Sit.cells r (S.pushN (o := cellObj none))
      rwa [Heap.size_push] at this
    · exact Sit.cells r S

def newE (scope : Scope) (L : Addr) (globals : Addr) (cells : List (Str × Addr)) (qual : Str) (func : Option Addr) (code : Value) (around : Option Env) (builtins : Addr) : Env :=
  match around with
  | some outer => { scope, locals := L, globals, cells, qual, func, code := outer.code, frame := outer.frame, builtins := outer.builtins }
  | none => { scope, locals := L, globals, cells, qual, func, code, frame := some L, builtins }

/-- what is known of a frame's environment -/
structure EnvOk (env : Env) (L : Addr) (names : List (Str × NameKind)) (cells : List (Str × Addr)) : Prop where
  kind : env.scope.kind = .function
  names : env.scope.names = names
  locals : env.locals = L
  globals : env.globals = mainGlobals
  cells : env.cells = cells
  builtins : env.builtins = builtinsNs
theorem EnvOk.look {env : Env} {L : Addr} {names : List (Str × NameKind)} {cells : List (Str × Addr)} (H : EnvOk env L names cells) {x : Str} {k : NameKind} (e : names.lookup x = some k) : env.kindOf x = some k := by
  unfold Env.kindOf; rw [H.names]; exact e
theorem EnvOk.cell {env : Env} {L : Addr} {names : List (Str × NameKind)} {cells : List (Str × Addr)} (H : EnvOk env L names cells) {x : Str} {a : Addr} (e : cells.lookup x = some a) : env.cells.lookup x = some a := by
  rw [H.cells]; exact e
theorem EnvOk.inter {env : Env} {L : Addr} {names : List (Str × NameKind)} {cells : List (Str × Addr)} (H : EnvOk env L names cells) : interactive env = false := by
  unfold interactive; rw [H.kind]; rfl
theorem Good.now {A : Around} {h₀ h b₀ b : Heap} {fs : List Fent} {N : List (Addr × Obj)} {k : Nat} {env : Env} {L : Addr} {m : Vars} (G : Good A h₀ (k + 1)) (S : Sit b₀ h₀ b fs N h) (hm : (L, "frame", m) ∈ fs) (hf : env.frame = some L) (hk : env.scope.kind = .function) : Good (A.deeper env) h k :=
  G.deeper S.ext (by
    obtain ⟨⟨⟨o, es, ep, e, d, _⟩, o', e', cc⟩, _, hn⟩ := S.fr _ hm
    have := e.symm.trans e'; cases this
    exact ⟨by rw [hk]; decide, L, o, es, ep, hf, e, cc, d, fun z => by
      obtain ⟨o2, g2⟩ := G.old L z
      rw [show h₀.get? L = none from hn] at g2
      cases g2⟩)

theorem r_layCells (f : Str × NameKind → List (Str × Addr) → Sem (ForInStep (List (Str × Addr))))
    (hf : ∀ name kind cells, f (name, kind) cells = if kind == .cell then (do let a ← alloc { cls := .type "cell", data := .cell none }; pure (.yield ((name, a) :: cells))) else pure (.yield cells))
    (names : List (Str × NameKind)) (acc : List (Str × Addr)) (Q : List (Str × Addr) → Heap → Prop) (q : Q (cellsFrom h.objs.size names acc) (pushCells h names)) : WP c A (forIn names acc f) Q E h := fun tk =>
  wpAny_layCells f hf names acc (c.st h tk) _ (lift_mk q)

theorem storeAll_eq (env : Env) (f : Str × Value → PUnit → Sem (ForInStep PUnit)) (hf : ∀ n v u, f (n, v) u = (do storeName env n v; pure (.yield ⟨⟩))) : ∀ l : List (Str × Value), forIn l ⟨⟩ f = (do storeAll env l; pure ⟨⟩)
  | [] => rfl
  | (n, v) :: r => by
    rw [List.forIn_cons, hf]
    simp only [bind_assoc, pure_bind, storeAll, storeAll_eq env f hf r]

theorem newEnv_ok {scope : Scope} {globals : Addr} {closure : List (Str × Addr)} {binds : List (Str × Value)} {qual : Str} {func : Option Addr} {code : Value} {around : Option Env} {builtins : Addr} {Q : Env → Heap → Prop}
    (S : Sit b₀ h₀ b fs N h)
    (q : ∀ L h', L = h.objs.size → Ext h h' → Sit b₀ h₀ b ((L, (if around.isSome then "dict" else "frame"), fun _ => none) :: fs) (cellsN (L + 1) scope.names N) h' →
      WP c A (storeAll (newE scope L globals (cellsFrom (L + 1) scope.names closure) qual func code around builtins) binds) (fun _ h => Q (newE scope L globals (cellsFrom (L + 1) scope.names closure) qual func code around builtins) h) E h') :
    WP c A (newFunctionEnv scope globals closure binds qual func code around builtins) Q E h := by
  unfold newFunctionEnv
  refine .bind (.alloc ?_)
  refine .bind (r_layCells _ ?_ _ _ _ ?_)
  · intro name kind cells
    rfl
  have S₁ := (S.pushF (o := { cls := .type (if around.isSome then "dict" else "frame"), data := .dict #[] }) (Heap.Ns.new h _) rfl rfl).cells scope.names
  rw [Heap.size_push] at S₁ ⊢
  have hsz : h.objs.size + 1 ≤ (pushCells (h.push { cls := .type (if around.isSome then "dict" else "frame"), data := .dict #[] }) scope.names).objs.size := by
    have z : (h.push { cls := .type (if around.isSome then "dict" else "frame"), data := .dict #[] }).get? h.objs.size = some _ := Heap.get?_push_size _ rfl
    exact Heap.lt_size (pushCells_keeps scope.names _ _ _ z)
  have e := q h.objs.size _ rfl (fun a o e => ⟨o, pushCells_keeps _ _ _ _ (Heap.get?_push_of_some _ e), rfl, rfl, fun _ => rfl⟩) S₁
  cases around with
  | none =>
    show WP c A (forIn binds PUnit.unit _ >>= fun _ => pure _) Q E _
    rw [storeAll_eq (newE scope h.objs.size globals (cellsFrom (h.objs.size + 1) scope.names closure) qual func code Option.none builtins) _ (fun n v u => rfl)]
    exact .bind (.bind (e.monoQ fun _ _ q => .pure (.pure q)))
  | some outer =>
    show WP c A (forIn binds PUnit.unit _ >>= fun _ => pure _) Q E _
    rw [storeAll_eq (newE scope h.objs.size globals (cellsFrom (h.objs.size + 1) scope.names closure) qual func code (some outer) builtins) _ (fun n v u => rfl)]
    exact .bind (.bind (e.monoQ fun _ _ q => .pure (.pure q)))
theorem store_nil {Q : Unit → Heap → Prop} (q : Q () h) : WP c A (storeAll env []) Q E h := .pure q
theorem store_cons {n : Str} {r : List (Str × Value)} {Q : Unit → Heap → Prop} (q : WP c A (storeName env n v) (fun _ h => WP c A (storeAll env r) Q E h) E h) : WP c A (storeAll env ((n, v) :: r)) Q E h := .bind q
end
end

section
def retOf : Flow → Value
  | .ret v => v
  | _ => .none

section
variable {c : Cfg} {A : Around} {E : Value → Heap → Prop} {h : Heap} {b : Heap} {a : Addr} {K : Frag} {o : Obj} {fd : FuncData} {args : Args} {R : Result → Heap → Prop} {k : Nat}

abbrev defE (fd : FuncData) (a L : Addr) : Env := newE fd.scope L fd.globals (cellsFrom (L + 1) fd.scope.names fd.closure) (fd.qualname ++ ".<locals>.") (some a) fd.code none fd.builtins

theorem defE_ok {L : Addr} (hk : fd.scope.kind = .function) (hg : fd.globals = mainGlobals) (hb : fd.builtins = builtinsNs) : EnvOk (defE fd a L) L fd.scope.names (cellsFrom (L + 1) fd.scope.names fd.closure) := ⟨hk, rfl, rfl, hg, rfl, hb⟩

/-- a def is called: the body is walked over its own frame -/
theorem callDef {body : List Stmt} (W : World K b) (B : Base b h) (G : Good A h (k + 1)) (ho : h.get? a = some o) (hd : o.data = .func fd) (hcd : h.CodeRec fd.code fd.qualname) (hbody : fd.body = .stmts body)
    (hco : fd.scope.isCoroutine = false) (hgen : fd.scope.isGenerator = false) (hk : fd.scope.kind = .function) (hg : fd.globals = mainGlobals) (hb : fd.builtins = builtinsNs)
    (x : WP c A.in1 (bindArgs fd args) (fun binds h₁ => ∃ b₁ N₁, Sit b h b₁ [] N₁ h₁ ∧ ∀ L h₂ env, env = defE fd a L → env.frame = some L → EnvOk env L fd.scope.names (cellsFrom (L + 1) fd.scope.names fd.closure) → Sit b h b₁ [(L, "frame", fun _ => none)] (cellsN (L + 1) fd.scope.names N₁) h₂ →
      WP c A.in1 (storeAll env binds) (fun _ h₃ => Base b h₃ ∧ WP c (A.deeper env) (execs body env) (fun f h' => R (.ok (.ret (retOf f))) h') (fun _ _ => False) h₃) (fun _ _ => False) h₂) (fun _ _ => False) h) :
    CP c A (.call (.ref a) args) R h := fun tk => by
  refine codeAny_call_function (by show A.depth < 1000; have := G.depth; omega) ho hd hco hgen hbody hcd ?_
  refine wpAny_mono (x tk) (fun binds s q => ?_) fun _ _ q => ?_
  · obtain ⟨h₁, t₁, rfl, b₁, N₁, S, q⟩ := q
    have := newEnv_ok (c := c) (A := A.in1) (E := fun _ _ => False) (binds := binds) (scope := fd.scope) (globals := fd.globals) (closure := fd.closure) (qual := fd.qualname ++ ".<locals>.") (func := some a) (code := fd.code) (around := none) (builtins := fd.builtins)
      (Q := fun env h₃ => Base b h₃ ∧ WP c (A.deeper env) (execs body env) (fun f h' => R (.ok (.ret (retOf f))) h') (fun _ _ => False) h₃) S (fun L h' _ _ S' => q L h' _ rfl rfl (defE_ok hk hg hb) S')
    refine wpAny_mono (this t₁) (fun env s q => ?_) fun _ _ q => ?_
    · obtain ⟨h₃, t₃, rfl, B₃, q⟩ := q
      refine ⟨W.nolimit.keeps B₃.stays, codeAny_func ?_⟩
      refine wpAny_mono (q t₃) (fun f s q => ?_) fun _ _ q => ?_
      · obtain ⟨h₄, t₄, rfl, q⟩ := q
        cases f <;> exact lift_mk q
      · obtain ⟨_, _, _, q⟩ := q; exact q.elim
    · obtain ⟨_, _, _, q⟩ := q; exact q.elim
  · obtain ⟨_, _, _, q⟩ := q; exact q.elim

theorem callDefE {body : Expr} (W : World K b) (B : Base b h) (G : Good A h (k + 1)) (ho : h.get? a = some o) (hd : o.data = .func fd) (hcd : h.CodeRec fd.code fd.qualname) (hbody : fd.body = .expr body)
    (hco : fd.scope.isCoroutine = false) (hgen : fd.scope.isGenerator = false) (hk : fd.scope.kind = .function) (hg : fd.globals = mainGlobals) (hb : fd.builtins = builtinsNs)
    (x : WP c A.in1 (bindArgs fd args) (fun binds h₁ => ∃ b₁ N₁, Sit b h b₁ [] N₁ h₁ ∧ ∀ L h₂ env, env = defE fd a L → env.frame = some L → EnvOk env L fd.scope.names (cellsFrom (L + 1) fd.scope.names fd.closure) → Sit b h b₁ [(L, "frame", fun _ => none)] (cellsN (L + 1) fd.scope.names N₁) h₂ →
      WP c A.in1 (storeAll env binds) (fun _ h₃ => Base b h₃ ∧ WP c (A.deeper env) (eval body env) (fun v h' => R (.ok (.ret v)) h') (fun _ _ => False) h₃) (fun _ _ => False) h₂) (fun _ _ => False) h) :
    CP c A (.call (.ref a) args) R h := fun tk => by
  refine kla_callFunE (by show A.depth < 1000; have := G.depth; omega) ho hd hco hgen hbody hcd ?_
  refine wpAny_mono (x tk) (fun binds s q => ?_) fun _ _ q => ?_
  · obtain ⟨h₁, t₁, rfl, b₁, N₁, S, q⟩ := q
    have := newEnv_ok (c := c) (A := A.in1) (E := fun _ _ => False) (binds := binds) (scope := fd.scope) (globals := fd.globals) (closure := fd.closure) (qual := fd.qualname ++ ".<locals>.") (func := some a) (code := fd.code) (around := none) (builtins := fd.builtins)
      (Q := fun env h₃ => Base b h₃ ∧ WP c (A.deeper env) (eval body env) (fun v h' => R (.ok (.ret v)) h') (fun _ _ => False) h₃) S (fun L h' _ _ S' => q L h' _ rfl rfl (defE_ok hk hg hb) S')
    refine wpAny_mono (this t₁) (fun env s q => ?_) fun _ _ q => ?_
    · obtain ⟨h₃, t₃, rfl, B₃, q⟩ := q
      refine ⟨W.nolimit.keeps B₃.stays, kla_codeExpr ?_⟩
      refine wpAny_mono (q t₃) (fun f s q => ?_) fun _ _ q => ?_
      · obtain ⟨h₄, t₄, rfl, q⟩ := q
        exact lift_mk q
      · obtain ⟨_, _, _, q⟩ := q; exact q.elim
    · obtain ⟨_, _, _, q⟩ := q; exact q.elim
  · obtain ⟨_, _, _, q⟩ := q; exact q.elim

/-- what a call gives: a value and more objects -/
def Gives (c : Cfg) (A : Around) (b h : Heap) (f : Value) (args : List Value) (kw : List (Str × Value)) (P : Heap → Value → Prop) : Prop :=
  ∀ E, WP c A (call f args kw) (fun v h' => ∃ b', Grow b h b' h' ∧ P b' v) E h

end
end

section
/-! calls in the text -/
def KeepOk (f : Value) (h : Heap) : Prop := (∀ a, f ≠ .ref a) ∨ ∃ a o fd, f = .ref a ∧ h.get? a = some o ∧ o.data = .func fd
theorem KeepOk.val {f : Value} {h : Heap} (x : ∀ a, f ≠ .ref a) : KeepOk f h := .inl x
theorem KeepOk.fn {a : Addr} {o : Obj} {fd : FuncData} {h : Heap} (x : h.get? a = some o) (y : o.data = .func fd) : KeepOk (.ref a) h := .inr ⟨a, o, fd, rfl, x, y⟩
theorem keeperOf_val {f : Value} (x : ∀ a, f ≠ .ref a) : keeperOf f = pure .machine := by
  cases f <;> first | rfl | exact absurd rfl (x _)

section
variable {c : Cfg} {A : Around} {E : Value → Heap → Prop} {h : Heap} {env : Env}

theorem callTail {m : Sem Value} {Q : Value → Heap → Prop} (x : WP c A m Q E h) : WP c A (m >>= fun r => holding [r] point >>= fun _ => pure r) Q E h :=
  .bind (x.monoQ fun r h q => .bind (.holding (.point (.pure q))))

theorem r_callWith {pos : Pos} {f : Value} {first : List Value} {args : List (Bool × Sem Value)} {Q : Value → Heap → Prop} (hplain : args.any (·.1) = false)
    (x : WP c A (evalArgs f true args []) (fun a h => KeepOk f h ∧ WP c A (call f (first ++ a.pos) a.kw) Q E h) E h) : WP c A (callWith pos f first args []) Q E h := by
  unfold callWith
  refine .bind (.holding (x.monoQ fun a h y => .bind (.standAt ?_)))
  obtain ⟨ko, y⟩ := y
  simp only [hplain, List.any_nil, Bool.or_false]
  rcases ko with hv | ⟨q, o, fd, rfl, e, d⟩
  · refine .bind (.of_eq (keeperOf_val hv) ?_)
    exact callTail y
  · refine .bind (m := keeperOf (.ref q)) ?_
    unfold keeperOf
    refine .bind (.load e ?_)
    rw [d]
    refine .pure ?_
    first
      | exact callTail (.ite (fun _ => y) fun _ => by unfold callMarked; exact .keep y)
      | (refine .ite (fun _ => callTail y) fun _ => callTail ?_
         unfold callMarked; exact .keep y)
      | exact callTail (by unfold callMarked; exact .keep y)

/-- f(a, b, ..) by a name -/
theorem r_Call {x : Str} {npos pos : Pos} {args : List Expr} {Q : Value → Heap → Prop}
    (y : WP c A (eval (.Name x npos) env) (fun f h => WP c A (spliced (backTo pos (starEach args env))) (fun vs h => KeepOk f h ∧ WP c A (call f vs []) Q E h) E h) E h)
    (hp : (backTo pos (starEach args env)).any (·.1) = false) : WP c A (eval (.Call (.Name x npos) args [] pos) env) Q E h := by
  show WP c A (eval (.Name x npos) env >>= fun f => callWith pos f [] (backTo pos (starEach args env)) []) Q E h
  exact .bind (y.monoQ fun f h z => r_callWith hp (r_evalArgs_pos (z.monoQ fun vs h q => ⟨q.1, q.2⟩) hp))

/-- x.m(a, b, ..) of a built-in type's method -/
theorem r_Method {o : Expr} {name : Str} {apos pos : Pos} {args : List Expr} {T id : String} {Q : Value → Heap → Prop}
    (pa : PlainAttrs T) (slot : Slot T name id) (hty : typeOf (.builtin id) = pure (.type "method_descriptor"))
    (x : WP c A (eval o env) (fun ov h => ((c.st h 0).TypeIs ov T ∧ ∀ a, ov = .ref a → ∃ ob, h.get? a = some ob ∧ ob.dict = none) ∧
      WP c A (spliced (backTo pos (starEach args env))) (fun vs h => WP c A (call (.builtin id) (ov :: vs) []) Q E h) E h) E h)
    (hbase : attributeBase o name env (eval o env) = eval o env := by rfl)
    (hfew : ((backTo pos (starEach args env)).all (fun x => !x.1) && (backToKw pos (keywordEach [] env)).all (fun x => x.1.isSome)
      && decide (args.length + ([] : List Keyword).length + (if ([] : List Keyword).isEmpty then 0 else 1) < 30)) = true := by rfl)
    (hline : (apos.endLine == pos.line) = true := by rfl) (hp : (backTo pos (starEach args env)).any (·.1) = false := by rfl) :
    WP c A (eval (.Call (.Attribute o name apos) args [] pos) env) Q E h := fun tk => by
  refine wpAny_Call_method hbase hfew hline pa slot hty (wpAny_mono (x tk) (fun ov s q => ?_) fun _ _ e => e)
  obtain ⟨h₁, t₁, rfl, ⟨hT, hd⟩, q⟩ := q
  refine ⟨?_, hd, ?_⟩
  · cases ov <;> exact hT
  · have : WP c A (callWith pos (.builtin id) [ov] (backTo pos (starEach args env)) []) Q E h₁ :=
      r_callWith hp (r_evalArgs_pos (q.monoQ fun vs h q => ⟨.inl (fun _ e => by cases e), q⟩) hp)
    exact this t₁

/-- a call of one of the text's defs -/
theorem r_callRef {a : Addr} {args : List Value} {kw : List (Str × Value)} {Q : Value → Heap → Prop} (x : CP c A (.call (.ref a) ⟨args, kw⟩) (fun r h => match r with | .ok (.ret v) => Q v h | .ok _ => False | .error e => E e h) h) :
    WP c A (call (.ref a) args kw) Q E h := .call x
end
section
variable {c : Cfg} {A : Around} {E : Value → Heap → Prop} {h : Heap} {b : Heap} {a : Addr} {K : Frag} {fd : FuncData} {args : List Value} {k : Nat} {oc : Value} {od : Option Addr} {sl : Array (Option Value)}

/-- one of the text's own defs, by places alone -/
theorem callK {body : List Stmt} {binds : List (Str × Value)} {Q : Value → Heap → Prop} (W : World K b) (B : Base b h) (G : Good A h (k + 1)) (ho : K.lookup a = some ⟨oc, od, .func fd, sl⟩) (hcd : codeIn K fd.code fd.qualname = true)
    (x : ∀ L h₂ env, env = defE fd a L → env.frame = some L → EnvOk env L fd.scope.names (cellsFrom (L + 1) fd.scope.names fd.closure) → Sit b h b [(L, "frame", fun _ => none)] (cellsN (L + 1) fd.scope.names []) h₂ →
      WP c A.in1 (storeAll env binds) (fun _ h₃ => Base b h₃ ∧ WP c (A.deeper env) (execs body env) (fun f h' => Q (retOf f) h') (fun _ _ => False) h₃) (fun _ _ => False) h₂)
    (hbind : bindArgs fd ⟨args, []⟩ = pure binds := by rfl) (hbody : fd.body = .stmts body := by rfl)
    (hco : fd.scope.isCoroutine = false := by rfl) (hgen : fd.scope.isGenerator = false := by rfl) (hk : fd.scope.kind = .function := by rfl) (hg : fd.globals = mainGlobals := by rfl) (hb : fd.builtins = builtinsNs := by rfl) :
    WP c A (call (.ref a) args) Q E h := by
  refine r_callRef (callDef (R := fun r h => match r with | .ok (.ret v) => Q v h | .ok _ => False | .error e => E e h) W B G (B.stays _ _ (W.k _ _ ho)) rfl (codeRec_of (fun a o e => B.stays _ _ (W.k a o e)) hcd) hbody hco hgen hk hg hb ?_)
  exact .of_eq hbind ⟨b, [], Sit.start B, x⟩
end
theorem cells_none : ∀ (names : List (Str × NameKind)) (n : Nat), names.all (fun x => x.2 != .cell) = true → (∀ N, cellsN n names N = N) ∧ ∀ acc, cellsFrom n names acc = acc
  | [], _, _ => ⟨fun _ => rfl, fun _ => rfl⟩
  | (x, k) :: r, n, e => by
    rw [List.all_cons, Bool.and_eq_true] at e
    have hk : (k == NameKind.cell) = false := by simpa using e.1
    have ih := cells_none r n e.2
    refine ⟨fun N => ?_, fun acc => ?_⟩
    · unfold cellsN; rw [hk]; exact ih.1 N
    · unfold cellsFrom; rw [hk]; exact ih.2 acc
section
variable {c : Cfg} {A : Around} {E : Value → Heap → Prop} {h : Heap} {b : Heap} {a : Addr} {K : Frag} {fd : FuncData} {args : List Value} {k : Nat} {oc : Value} {od : Option Addr} {sl : Array (Option Value)}
/-- .. that keeps no cells -/
theorem callK0 {body : List Stmt} {binds : List (Str × Value)} {Q : Value → Heap → Prop} (W : World K b) (B : Base b h) (G : Good A h (k + 1)) (ho : K.lookup a = some ⟨oc, od, .func fd, sl⟩) (hcd : codeIn K fd.code fd.qualname = true)
    (x : ∀ L h₂ env, env.frame = some L → EnvOk env L fd.scope.names [] → Sit b h b [(L, "frame", fun _ => none)] [] h₂ →
      WP c A.in1 (storeAll env binds) (fun _ h₃ => Base b h₃ ∧ WP c (A.deeper env) (execs body env) (fun f h' => Q (retOf f) h') (fun _ _ => False) h₃) (fun _ _ => False) h₂)
    (hbind : bindArgs fd ⟨args, []⟩ = pure binds := by rfl) (hbody : fd.body = .stmts body := by rfl) (hcl : fd.closure = [] := by rfl) (hnc : fd.scope.names.all (fun x => x.2 != .cell) = true := by rfl)
    (hco : fd.scope.isCoroutine = false := by rfl) (hgen : fd.scope.isGenerator = false := by rfl) (hk : fd.scope.kind = .function := by rfl) (hg : fd.globals = mainGlobals := by rfl) (hb : fd.builtins = builtinsNs := by rfl) :
    WP c A (call (.ref a) args) Q E h := by
  refine callK W B G ho hcd (fun L h₂ env _ hf H S => ?_) hbind hbody hco hgen hk hg hb
  rw [(cells_none _ _ hnc).1] at S
  rw [(cells_none _ _ hnc).2, hcl] at H
  exact x L h₂ env hf H S
end
end

section
/-! What stands when the top has run: the defs (taken out of the given text by their places), their code objects, the names. -/
def fnO (i : Nat) (cd : Addr) (dV kV : Value) (m : Str) (mt : Nat) : Obj := match PySem.Challenge.pw_ik0189_01.main.body[i]? with
  | some (.FunctionDef name args body _ _ _ scope _ _ _) => ⟨.type "function", none, .func ⟨name, name, args, .stmts body, scope, 3, [], dV, kV, .none, .str m mt, none, .ref cd, .none, 0⟩, #[]⟩
  | _ => default
def cdO (vs : Array Value) : Obj := ⟨.type "code", none, .fields vs, #[]⟩
def ent (P : Params) (x : Str) (t : Nat) (v : Value) : DictEntry := ⟨PyData.keyHash P x, .str x t, v⟩
noncomputable def KK (P : Params) : Frag := [
  (2, ⟨.none, none, .dict #[] 0, #[]⟩),
  (3, ⟨.type "dict", none, .dict #[ent P "__name__" 165 (.str "law_ik0189_01" 416), ent P "__doc__" 166 .none, ent P "__package__" 167 .none, ent P "__loader__" 168 (.builtin "__main__.__loader__#opaque"), ent P "__spec__" 169 .none, ent P "__annotations__" 170 (.ref 6), ent P "__builtins__" 171 (.ref 4), ent P "__file__" 173 (.str "/claim/cut.py" 172), ent P "__cached__" 174 .none, ent P "_wall" 193 (.ref 21), ent P "_deduplicate" 204 (.ref 29), ent P "_deduplicate_unhashable" 213 (.ref 36), ent P "_compare_args_orderless" 225 (.ref 43), ent P "cmp_to_key" 236 (.ref 50), ent P "_initial_missing" 237 (.ref 51), ent P "reduce" 249 (.ref 59), ent P "_plain_name" 260 (.ref 66), ent P "ABCMeta" 286 (.ref 83), ent P "_ABCLike" 329 (.ref 116), ent P "_abc_plain_meta" 336 (.ref 125), ent P "fspath" 348 (.ref 132), ent P "_check_arg_types" 361 (.ref 139), ent P "_get_sep" 370 (.ref 146), ent P "join" 381 (.ref 153), ent P "splitroot" 390 (.ref 160), ent P "dirname" 400 (.ref 167), ent P "normpath" 415 (.ref 174), ent P "_law_text" 425 (.ref 181), ent P "_law_way" 434 (.ref 188), ent P "_law_rows" 446 (.ref 195), ent P "_law_kinds" 452 (.ref 200), ent P "law" 458 (.ref 205)] 32, #[]⟩),
  (22, ⟨.type "dict", none, .dict #[ent P "unhashable_fallback" 196 (.bool false)] 1, #[]⟩),
  (28, cdO #[(.str "_deduplicate" 197), (.str "_deduplicate" 198), (.str "/claim/cut.py" 199), (.int 5 0), (.int 1 0), (.int 0 0), (.int 1 0), (.int 3 0), (.ref 23), (.bool true), (.int 181 0), (.ref 24), .none, (.ref 25), (.ref 26), (.ref 27), (.int 202 0), (.int 5 0), (.str "/claim/cut.py" 203)]),
  (29, fnO 2 28 .none (.ref 22) "cpy313.typing" 194),
  (35, cdO #[(.str "_deduplicate_unhashable" 205), (.str "_deduplicate_unhashable" 206), (.str "/claim/cut.py" 207), (.int 12 0), (.int 1 0), (.int 0 0), (.int 0 0), (.int 3 0), (.ref 30), (.bool true), (.int 181 0), (.ref 31), .none, (.ref 32), (.ref 33), (.ref 34), (.int 211 0), (.int 12 0), (.str "/claim/cut.py" 212)]),
  (36, fnO 3 35 .none .none "cpy313.typing" 194),
  (42, cdO #[(.str "_compare_args_orderless" 214), (.str "_compare_args_orderless" 215), (.str "/claim/cut.py" 216), (.int 18 0), (.int 2 0), (.int 0 0), (.int 0 0), (.int 3 0), (.ref 37), (.bool true), (.int 181 0), (.ref 38), .none, (.ref 39), (.ref 40), (.ref 41), (.int 223 0), (.int 18 0), (.str "/claim/cut.py" 224)]),
  (43, fnO 4 42 .none .none "cpy313.typing" 194),
  (49, cdO #[(.str "cmp_to_key" 228), (.str "cmp_to_key" 229), (.str "/claim/cut.py" 230), (.int 29 0), (.int 1 0), (.int 0 0), (.int 0 0), (.int 3 0), (.ref 44), (.bool true), (.int 181 0), (.ref 45), .none, (.ref 46), (.ref 47), (.ref 48), (.int 234 0), (.int 29 0), (.str "/claim/cut.py" 235)]),
  (50, fnO 6 49 .none .none "cpy313.functools" 226),
  (51, ⟨.type "object", none, .plain, #[]⟩),
  (52, ⟨.type "tuple", none, .seq #[.ref 51] 0, #[]⟩),
  (58, cdO #[(.str "reduce" 238), (.str "reduce" 239), (.str "/claim/cut.py" 240), (.int 55 0), (.int 3 0), (.int 0 0), (.int 0 0), (.int 3 0), (.ref 53), (.bool true), (.int 181 0), (.ref 54), .none, (.ref 55), (.ref 56), (.ref 57), (.int 247 0), (.int 55 0), (.str "/claim/cut.py" 248)]),
  (59, fnO 8 58 (.ref 52) .none "cpy313.functools" 226),
  (131, cdO #[(.str "fspath" 339), (.str "fspath" 340), (.str "/claim/cut.py" 341), (.int 98 0), (.int 1 0), (.int 0 0), (.int 0 0), (.int 3 0), (.ref 126), (.bool true), (.int 181 0), (.ref 127), .none, (.ref 128), (.ref 129), (.ref 130), (.int 346 0), (.int 98 0), (.str "/claim/cut.py" 347)]),
  (132, fnO 17 131 .none .none "os" 337),
  (145, cdO #[(.str "_get_sep" 364), (.str "_get_sep" 365), (.str "/claim/cut.py" 366), (.int 127 0), (.int 1 0), (.int 0 0), (.int 0 0), (.int 3 0), (.ref 140), (.bool true), (.int 181 0), (.ref 141), .none, (.ref 142), (.ref 143), (.ref 144), (.int 368 0), (.int 127 0), (.str "/claim/cut.py" 369)]),
  (146, fnO 21 145 .none .none "cpy313.posixpath" 362),
  (152, cdO #[(.str "join" 371), (.str "join" 372), (.str "/claim/cut.py" 373), (.int 132 0), (.int 1 0), (.int 0 0), (.int 0 0), (.int 7 0), (.ref 147), (.bool true), (.int 181 0), (.ref 148), .none, (.ref 149), (.ref 150), (.ref 151), (.int 379 0), (.int 132 0), (.str "/claim/cut.py" 380)]),
  (153, fnO 22 152 .none .none "cpy313.posixpath" 362),
  (159, cdO #[(.str "splitroot" 382), (.str "splitroot" 383), (.str "/claim/cut.py" 384), (.int 149 0), (.int 1 0), (.int 0 0), (.int 0 0), (.int 3 0), (.ref 154), (.bool true), (.int 181 0), (.ref 155), .none, (.ref 156), (.ref 157), (.ref 158), (.int 388 0), (.int 149 0), (.str "/claim/cut.py" 389)]),
  (160, fnO 23 159 .none .none "cpy313.posixpath" 362),
  (166, cdO #[(.str "dirname" 391), (.str "dirname" 392), (.str "/claim/cut.py" 393), (.int 163 0), (.int 1 0), (.int 0 0), (.int 0 0), (.int 3 0), (.ref 161), (.bool true), (.int 181 0), (.ref 162), .none, (.ref 163), (.ref 164), (.ref 165), (.int 398 0), (.int 163 0), (.str "/claim/cut.py" 399)]),
  (167, fnO 24 166 .none .none "cpy313.posixpath" 362),
  (173, cdO #[(.str "normpath" 401), (.str "normpath" 402), (.str "/claim/cut.py" 403), (.int 171 0), (.int 1 0), (.int 0 0), (.int 0 0), (.int 3 0), (.ref 168), (.bool true), (.int 181 0), (.ref 169), .none, (.ref 170), (.ref 171), (.ref 172), (.int 413 0), (.int 171 0), (.str "/claim/cut.py" 414)]),
  (174, fnO 25 173 .none .none "cpy313.posixpath" 362),
  (180, cdO #[(.str "_law_text" 418), (.str "_law_text" 419), (.str "/claim/cut.py" 420), (.int 197 0), (.int 1 0), (.int 0 0), (.int 0 0), (.int 3 0), (.ref 175), (.bool true), (.int 181 0), (.ref 176), .none, (.ref 177), (.ref 178), (.ref 179), (.int 423 0), (.int 197 0), (.str "/claim/cut.py" 424)]),
  (181, fnO 27 180 .none .none "law_ik0189_01" 416),
  (187, cdO #[(.str "_law_way" 426), (.str "_law_way" 427), (.str "/claim/cut.py" 428), (.int 203 0), (.int 1 0), (.int 0 0), (.int 0 0), (.int 3 0), (.ref 182), (.bool true), (.int 181 0), (.ref 183), .none, (.ref 184), (.ref 185), (.ref 186), (.int 432 0), (.int 203 0), (.str "/claim/cut.py" 433)]),
  (188, fnO 28 187 .none .none "law_ik0189_01" 416),
  (194, cdO #[(.str "_law_rows" 435), (.str "_law_rows" 436), (.str "/claim/cut.py" 437), (.int 210 0), (.int 1 0), (.int 0 0), (.int 0 0), (.int 3 0), (.ref 189), (.bool true), (.int 181 0), (.ref 190), .none, (.ref 191), (.ref 192), (.ref 193), (.int 444 0), (.int 210 0), (.str "/claim/cut.py" 445)]),
  (195, fnO 29 194 .none .none "law_ik0189_01" 416),
  (199, cdO #[(.str "_law_kinds" 447), (.str "_law_kinds" 448), (.str "/claim/cut.py" 449), (.int 223 0), (.int 1 0), (.int 0 0), (.int 0 0), (.int 3 0), (.ref 196), (.bool true), (.int 181 0), (.ref 197), .none, .none, .none, (.ref 198), (.int 450 0), (.int 223 0), (.str "/claim/cut.py" 451)]),
  (200, fnO 30 199 .none .none "law_ik0189_01" 416),
  (204, cdO #[(.str "law" 453), (.str "law" 454), (.str "/claim/cut.py" 455), (.int 232 0), (.int 1 0), (.int 0 0), (.int 0 0), (.int 3 0), (.ref 201), (.bool true), (.int 181 0), (.ref 202), .none, .none, .none, (.ref 203), (.int 456 0), (.int 232 0), (.str "/claim/cut.py" 457)]),
  (205, fnO 31 204 .none .none "law_ik0189_01" 416)]
abbrev KKas : List Addr := [2, 3, 22, 28, 29, 35, 36, 42, 43, 49, 50, 51, 52, 58, 59, 131, 132, 145, 146, 152, 153, 159, 160, 166, 167, 173, 174, 180, 181, 187, 188, 194, 195, 199, 200, 204, 205]
theorem KKas_ok (P : Params) : KKas = (KK P).map (·.1) := by kernel_rfl
/-- of the text's statements only the law's own def is read by the head -/
def vw : Program := view PySem.Challenge.pw_ik0189_01 [31]
abbrev vwLoose : List Str := ["_wall", "_deduplicate", "_deduplicate_unhashable", "_compare_args_orderless", "cmp_to_key", "_initial_missing", "reduce", "_plain_name", "ABCMeta", "_ABCLike", "_abc_plain_meta", "fspath", "_check_arg_types", "_get_sep", "join", "splitroot", "dirname", "normpath", "_law_text", "_law_way", "_law_rows", "_law_kinds"]
abbrev rwO : OpenRow := PySem.Challenge.rw_ik0189_01.row
noncomputable abbrev hookK : Hook := kmHook KK KKas KKas_ok [45, 202]
/-- the top runs, and what the head asks of its end stands (topRun, treeTable, openSeen in the library's quick twins) -/
theorem left_ok : LeftO rwO.prog vw vwLoose (fun _ => true) (Hook.obs hookK) (Hook.val hookK) 2638 := fun w => by
  unfold openEnds topFrom
  rw [PySem.W.Fast.te14082659384304107361, PySem.W.Fast.te14364793385576792824, PySem.W.Fast.te4187177175401517315]
  kernel_rfl
end

section
abbrev Wd (c : Cfg) (b : Heap) : Prop := World (KK c.w.params) b
section
variable (P : Params)
theorem g_isinstance : nsIn (KK P) mainGlobals "isinstance" = some none := by kernel_rfl
theorem g_bytes : nsIn (KK P) mainGlobals "bytes" = some none := by kernel_rfl
theorem g_fspath : nsIn (KK P) mainGlobals "fspath" = some (some (.ref 132)) := by kernel_rfl
theorem g_get_sep : nsIn (KK P) mainGlobals "_get_sep" = some (some (.ref 146)) := by kernel_rfl
theorem g_join : nsIn (KK P) mainGlobals "join" = some (some (.ref 153)) := by kernel_rfl
theorem b_isinstance : bootBuiltins "isinstance" = some (.builtin "isinstance") := by kernel_rfl
theorem b_bytes : bootBuiltins "bytes" = some (.type "bytes") := by kernel_rfl
end
end

/-! names by their letters -/
theorem look_hd {a : String} {k : NameKind} {l : List (Str × NameKind)} : List.lookup (Str.ofString a) ((Str.ofString a, k) :: l) = some k := by rw [List.lookup_cons, beq_self_eq_true]
theorem ofS_inj {a b : String} (e : Str.ofString a = Str.ofString b) : a = b := by
  rw [Str.ofString_eq_toList, Str.ofString_eq_toList] at e
  have e1 : (a.toList.map Char.toNat).toArray = (b.toList.map Char.toNat).toArray := congrArg Str.cps e
  have e2 : a.toList.map Char.toNat = b.toList.map Char.toNat := by simpa using e1
  have inj : ∀ l l' : List Char, l.map Char.toNat = l'.map Char.toNat → l = l' := by
    intro l
    induction l with
    | nil => intro l' h; cases l' with
      | nil => rfl
      | cons y l' => cases h
    | cons x l ih =>
      intro l' h
      cases l' with
      | nil => cases h
      | cons y l' =>
        rw [List.map_cons, List.map_cons] at h
        injection h with h1 h2
        rw [ih _ h2, show x = y from Char.toNat_inj.mp h1]
  exact String.toList_inj.mp (inj _ _ e2)
theorem ofS_ne {a b : String} (n : ¬ a = b) : ¬ Str.ofString a = Str.ofString b := fun e => n (ofS_inj e)
theorem look_tl {α : Type} {a b : String} {k : α} {l : List (Str × α)} {r : Option α} (n : ¬ a = b) (e : List.lookup (Str.ofString a) l = r) : List.lookup (Str.ofString a) ((Str.ofString b, k) :: l) = r := by
  rw [List.lookup_cons, beq_eq_false_iff_ne.mpr (ofS_ne n)]; exact e
theorem lookc_hd {a : String} {k : Addr} {l : List (Str × Addr)} : List.lookup (Str.ofString a) ((Str.ofString a, k) :: l) = some k := by rw [List.lookup_cons, beq_self_eq_true]
theorem upd_hdS {m : Vars} {a : String} {v : Value} : upd m (Str.ofString a) v (Str.ofString a) = some v := upd_hd
theorem upd_tlS {m : Vars} {a b : String} {v : Value} {r : Option Value} (n : ¬ a = b) (e : m (Str.ofString a) = r) : upd m (Str.ofString b) v (Str.ofString a) = r := upd_tl (decide_eq_false (ofS_ne n)) e
theorem beqS {a b : String} (n : ¬ a = b) : (Str.ofString a == Str.ofString b) = false := beq_eq_false_iff_ne.mpr (ofS_ne n)

section
variable {c : Cfg} {A : Around} {E : Value → Heap → Prop} {h : Heap} {env : Env} {b₀ h₀ b : Heap} {fs : List Fent} {N : List (Addr × Obj)} {L ad : Addr} {m : Vars} {a : String} {v : Value} {pos : Pos} {K : Frag} {o : Obj} {g : Obj → List (Addr × Obj)}
  {names : List (Str × NameKind)} {cells : List (Str × Addr)} {C : String}

theorem n_local {Q : Value → Heap → Prop} (S : Sit b₀ h₀ b ((L, C, m) :: fs) N h) (H : EnvOk env L names cells) (hv : m (Str.ofString a) = some v) (hx : names.lookup (Str.ofString a) = some .local) (hd : ¬ a = "__debug__") (q : Q v h) : WP c A (eval (.Name (Str.ofString a) pos) env) Q E h :=
  r_Name (loadLocal S hv q H.locals H.kind (H.look hx)) (beqS hd)
theorem n_localL {Q : Value → Heap → Prop} (S : Sit b₀ h₀ b ((L, C, m) :: fs) N h) (H : EnvOk env L names cells) (hv : m (Str.ofString a) = some v) (hx : names.lookup (Str.ofString a) = some .local) (q : Q v h) : WP c A (loadName env (Str.ofString a)) Q E h :=
  loadLocal S hv q H.locals H.kind (H.look hx)
theorem n_cellN {Q : Value → Heap → Prop} {cl : Value} {dd : Option Addr} {sl : Array (Option Value)} (S : Sit b₀ h₀ b fs N h) (H : EnvOk env L names cells) (hc : cells.lookup (Str.ofString a) = some ad) (r : Rep ad ⟨cl, dd, .cell (some v), sl⟩ N g) (hx : names.lookup (Str.ofString a) = some .cell) (hd : ¬ a = "__debug__") (q : Q v h) : WP c A (eval (.Name (Str.ofString a) pos) env) Q E h :=
  r_Name (loadCell (H.cell hc) (S.atN r) rfl q H.kind (H.look hx)) (beqS hd)
theorem n_freeN {Q : Value → Heap → Prop} {cl : Value} {dd : Option Addr} {sl : Array (Option Value)} (S : Sit b₀ h₀ b fs N h) (H : EnvOk env L names cells) (hc : cells.lookup (Str.ofString a) = some ad) (r : Rep ad ⟨cl, dd, .cell (some v), sl⟩ N g) (hx : names.lookup (Str.ofString a) = some .free) (hd : ¬ a = "__debug__") (hd2 : ¬ a = "__classdict__") (q : Q v h) : WP c A (eval (.Name (Str.ofString a) pos) env) Q E h :=
  r_Name (loadFree (H.cell hc) (S.atN r) rfl q H.kind (H.look hx) (beqS hd2)) (beqS hd)
theorem n_freeB {Q : Value → Heap → Prop} {cl : Value} {dd : Option Addr} {sl : Array (Option Value)} (S : Sit b₀ h₀ b fs N h) (H : EnvOk env L names cells) (hc : cells.lookup (Str.ofString a) = some ad) (r : b.get? ad = some ⟨cl, dd, .cell (some v), sl⟩) (hx : names.lookup (Str.ofString a) = some .free) (hd : ¬ a = "__debug__") (hd2 : ¬ a = "__classdict__") (q : Q v h) : WP c A (eval (.Name (Str.ofString a) pos) env) Q E h :=
  r_Name (loadFree (H.cell hc) (S.atB r) rfl q H.kind (H.look hx) (beqS hd2)) (beqS hd)
theorem n_glob {Q : Value → Heap → Prop} (W : World K b₀) (S : Sit b₀ h₀ b fs N h) (H : EnvOk env L names cells) (e : nsIn K mainGlobals (Str.ofString a) = some (some v)) (hx : names.lookup (Str.ofString a) = some .globalImplicit) (hd : ¬ a = "__debug__") (q : Q v h) : WP c A (eval (.Name (Str.ofString a) pos) env) Q E h :=
  nameGlob (loadGlob (W.stays S.bb) S.bh e q H.globals) H.kind (H.look hx) (beqS hd)
theorem n_boot {Q : Value → Heap → Prop} {A' : Around} {kk : Nat} (W : World K b₀) (S : Sit b₀ h₀ b fs N h) (G : Good A' h₀ kk) (H : EnvOk env L names cells) (e : nsIn K mainGlobals (Str.ofString a) = some none ∧ bootBuiltins (Str.ofString a) = some v) (hx : names.lookup (Str.ofString a) = some .globalImplicit) (hd : ¬ a = "__debug__") (hd2 : ¬ a = "__name__") (q : Q v h) : WP c A (eval (.Name (Str.ofString a) pos) env) Q E h :=
  nameGlob (loadBuiltin (W.stays S.bb) S.bh (G.ext S.ext).mb e.1 e.2 (ofS_ne hd2) q H.globals H.builtins) H.kind (H.look hx) (beqS hd)
theorem n_store {Q : Unit → Heap → Prop} (S : Sit b₀ h₀ b ((L, C, m) :: fs) N h) (H : EnvOk env L names cells) (hx : names.lookup (Str.ofString a) = some .local) (q : ∀ h', Sit b₀ h₀ b ((L, C, upd m (Str.ofString a) v) :: fs) N h' → Q () h') : WP c A (storeName env (Str.ofString a) v) Q E h :=
  storeLocal S q H.locals H.kind (H.look hx)
theorem n_storeC {Q : Unit → Heap → Prop} {v₀ : Option Value} {cl : Value} {dd : Option Addr} {sl : Array (Option Value)} (S : Sit b₀ h₀ b fs N h) (H : EnvOk env L names cells) (hc : cells.lookup (Str.ofString a) = some ad) (r : Rep ad ⟨cl, dd, .cell v₀, sl⟩ N g) (hx : names.lookup (Str.ofString a) = some .cell) (q : ∀ h', Sit b₀ h₀ b fs (g ⟨cl, dd, .cell (some v), sl⟩) h' → Q () h') : WP c A (storeName env (Str.ofString a) v) Q E h :=
  storeCell S (H.cell hc) r q H.kind (H.look hx)
end

theorem body_ {b₀ h₀ b h : Heap} {fs : List Fent} {N : List (Addr × Obj)} {P : Prop} (S : Sit b₀ h₀ b fs N h) (p : P) : Base b₀ h ∧ P := ⟨fun a o e => S.bh a o (S.bb a o e), p⟩
theorem keepB {id : String} {h : Heap} {P : Prop} (p : P) : KeepOk (.builtin id) h ∧ P := ⟨.inl (fun _ e => by cases e), p⟩
theorem keepT {id : String} {h : Heap} {P : Prop} (p : P) : KeepOk (.type id) h ∧ P := ⟨.inl (fun _ e => by cases e), p⟩
theorem keepK {a : Addr} {K : Frag} {b₀ h₀ b h : Heap} {fs : List Fent} {N : List (Addr × Obj)} {P : Prop} (W : World K b₀) (S : Sit b₀ h₀ b fs N h) (e : fnIn K a = true) (p : P) : KeepOk (.ref a) h ∧ P := by
  refine ⟨?_, p⟩
  unfold fnIn at e
  split at e
  · rename_i q
    exact .inr ⟨a, _, _, rfl, S.atB (S.bb _ _ (W.k _ _ q)), rfl⟩
  · cases e
theorem use {c : Cfg} {A : Around} {E : Value → Heap → Prop} {b₀ h₀ b h : Heap} {fs : List Fent} {N : List (Addr × Obj)} {f : Value} {args : List Value} {kw : List (Str × Value)} {P : Heap → Value → Prop} {Q : Value → Heap → Prop}
    (g : Gives c A b h f args kw P) (S : Sit b₀ h₀ b fs N h) (q : ∀ v h' b', Sit b₀ h₀ b' fs N h' → b.StaysIn b' → P b' v → Q v h') : WP c A (call f args kw) Q E h :=
  (g E).monoQ fun v h' ⟨b', gr, p⟩ => q v h' b' (S.grow gr) gr.bb p

section
variable (P : Params)
theorem f132 : fnIn (KK P) 132 = true := by kernel_rfl
theorem f146 : fnIn (KK P) 146 = true := by kernel_rfl
theorem f153 : fnIn (KK P) 153 = true := by kernel_rfl
theorem gb_isinstance : nsIn (KK P) mainGlobals (Str.ofString "isinstance") = some none ∧ bootBuiltins (Str.ofString "isinstance") = some (.builtin "isinstance") := ⟨by kernel_rfl, by kernel_rfl⟩
theorem gb_issubclass : nsIn (KK P) mainGlobals (Str.ofString "issubclass") = some none ∧ bootBuiltins (Str.ofString "issubclass") = some (.builtin "issubclass") := ⟨by kernel_rfl, by kernel_rfl⟩
theorem gb_bytes : nsIn (KK P) mainGlobals (Str.ofString "bytes") = some none ∧ bootBuiltins (Str.ofString "bytes") = some (.type "bytes") := ⟨by kernel_rfl, by kernel_rfl⟩
theorem gb_str : nsIn (KK P) mainGlobals (Str.ofString "str") = some none ∧ bootBuiltins (Str.ofString "str") = some (.type "str") := ⟨by kernel_rfl, by kernel_rfl⟩
theorem gb_type : nsIn (KK P) mainGlobals (Str.ofString "type") = some none ∧ bootBuiltins (Str.ofString "type") = some (.type "type") := ⟨by kernel_rfl, by kernel_rfl⟩
theorem gb_len : nsIn (KK P) mainGlobals (Str.ofString "len") = some none ∧ bootBuiltins (Str.ofString "len") = some (.builtin "len") := ⟨by kernel_rfl, by kernel_rfl⟩
end

local macro_rules | `(tactic| leaf_len) => `(tactic| k_dflt rfl)
local macro_rules | `(tactic| mod_arm) => `(tactic| k_dflt simp)
local macro_rules | `(tactic| mem_news) => `(tactic| exact World.stays (by with_reducible assumption) (Sit.bb (by with_reducible assumption)))
local macro_rules | `(tactic| nest_cls) => `(tactic| exact Sit.bh (by with_reducible assumption))
local macro_rules | `(tactic| kln_le) => `(tactic| first | decide +kernel | with_reducible exact look_hd | with_reducible exact lookc_hd | (refine look_tl (by simp) ?_; kln_le) | fail "no")
local macro_rules | `(tactic| kpf_c) => `(tactic| first | with_reducible exact upd_hdS | (with_reducible refine' upd_tlS ?lkn ?_; (case lkn => simp); kpf_c) | fail "no")
local macro_rules | `(tactic| k_places) => `(tactic| first
  | with_reducible first | exact gb_isinstance _ | exact gb_bytes _ | exact gb_issubclass _ | exact gb_str _ | exact gb_type _ | exact gb_len _
  | fail "no")
local macro_rules | `(tactic| fold_lay) => `(tactic| first
  | with_reducible first | exact g_fspath _ | exact g_get_sep _ | exact g_join _
  | fail "no")
local macro_rules | `(tactic| got_up) => `(tactic| first
  | with_reducible (first
    | refine' n_local ?nS ?nH ?nv ?nx ?nd ?_
      case nS => assumption
      case nH => assumption
      case nx => kln_le
      case nv => kpf_c
      case nd => mod_arm
    | refine' n_boot ?nW ?nS ?nG ?nH ?ne ?nx ?nd ?nd2 ?_
      case nW => assumption
      case ne => k_places
      case nS => assumption
      case nG => assumption
      case nH => assumption
      case nx => kln_le
      case nd => mod_arm
      case nd2 => mod_arm
    | refine' n_glob ?nW ?nS ?nH ?ne ?nx ?nd ?_
      case nW => assumption
      case ne => fold_lay
      case nS => assumption
      case nH => assumption
      case nx => kln_le
      case nd => mod_arm)
  | fail "no")
local macro_rules | `(tactic| fold_depth) => `(tactic| first
  | with_reducible (first
    | refine' n_store ?nS ?nH ?nx ?_
      case nS => assumption
      case nH => assumption
      case nx => kln_le
      intro h S)
  | fail "no")
local macro_rules | `(tactic| isplit) => `(tactic| first
  | with_reducible (first
    | refine r_execs_cons ?_
    | refine r_execs_nil ?_
    | refine r_If ?_
    | refine r_Return ?_
    | refine r_Assign ?_ ?hs
      case hs => leaf_len
    | refine r_AugAssign ?_
    | refine r_Expr ?_ ?hi ?hs
      case hi => exact EnvOk.inter (by assumption)
      case hs => leaf_len
    | refine r_tCompare ?_ ?hm
      case hm => leaf_len
    | refine r_tNot ?_
    | refine r_tBoolOp ?_
    | refine r_and_cons ?_
    | refine r_or_cons ?_
    | refine r_or_nil ?_
    | refine r_and_nil ?_
    | refine r_tPlain ?_ ?he
      case he => leaf_len
    | refine r_truthy_bool ?_
    | refine r_str fun _ => ?_
    | refine r_int fun _ => ?_
    | refine r_none ?_
    | refine r_bool ?_)
  | got_up
  | fold_depth
  | with_reducible (first
    | refine r_BinOp ?_
    | refine r_Compare ?_ ?hm
      case hm => leaf_len
    | refine r_UnaryOp ?_
    | refine r_IfExp ?_
    | refine r_Or ?_
    | refine r_And ?_
    | refine r_Call ?_ ?hp
      case hp => leaf_len
    | refine r_items_nil ?_
    | refine r_items_cons ?_ ?he
      case he => leaf_len
    | refine r_Tuple ?_
    | refine r_List ?_
    | refine store_cons ?_
    | refine store_nil ?_
    | refine' body_ ?eS ?_
      case eS => assumption
    | refine keepB ?_
    | refine keepT ?_
    | refine' keepK ?eW ?eS ?ef ?_
      case eW => assumption
      case eS => assumption
      case ef => k_offL)
  | fail "no")
local macro_rules | `(tactic| isplit) => `(tactic| first
  | with_reducible (first
    | refine flN ?_
    | refine flR ?_
    | refine flB ?_
    | refine flC ?_
    | refine tuN ?_
    | refine tuR ?_
    | refine tuB ?_
    | refine tuC ?_
    | refine brT ?_
    | refine brF ?_
    | refine brNT ?_
    | refine brNF ?_
    | refine br (fun _ => ?_) (fun _ => ?_))
  | fail "no")
local macro_rules | `(tactic| k_offL) => `(tactic| first
  | with_reducible first | exact f132 _ | exact f146 _ | exact f153 _
  | fail "no")

section
variable {c : Cfg} {A : Around} {E : Value → Heap → Prop} {h : Heap}
theorem c_isi_bytes {x : Str} {t : Tok} {Q : Value → Heap → Prop} (q : Q (.bool false) h) : WP c A (call (.builtin "isinstance") [.str x t, .type "bytes"]) Q E h := fun tk => PySem.IsiPair.str_bytes (s := c.st h tk) (lift_mk (t := tk + 1) q)
end
local macro_rules | `(tactic| isplit) => `(tactic| first
  | with_reducible (first
    | refine c_isi_bytes ?_)
  | fail "no")
theorem get_sep_ok {c : Cfg} {A : Around} {b h : Heap} {x : Str} {t : Tok} (W : Wd c b) (B : Base b h) (G : Good A h 5) : Gives c A b h (.ref 146) [.str x t] [] (fun _ v => ∃ t, v = .str "/" t) := by
  intro E
  refine callK0 (binds := [("path", .str x t)]) W B G rfl (by rfl) fun L h' env hf H S => ?_
  dsimp only at H
  repeat isplit
  exact ⟨_, S.done, _, rfl⟩

section
def tupObj (vs : List Value) : Obj := { cls := .type "tuple", data := .seq vs.toArray }
def lstObj (vs : List Value) (n : Nat) : Obj := { cls := .type "list", data := .seq vs.toArray n }

section
variable {c : Cfg} {A : Around} {E : Value → Heap → Prop} {h : Heap} {b₀ h₀ b : Heap} {fs : List Fent} {N : List (Addr × Obj)} {Q : Value → Heap → Prop}
theorem r_newTuple {vs : List Value} (S : Sit b₀ h₀ b fs N h) (hsz : vs.length ≤ sizeLine) (q : ∀ a b' h', Sit b₀ h₀ b' fs N h' → b.StaysIn b' → b'.get? a = some (tupObj vs) → Q (.ref a) h') : WP c A (newTuple vs) Q E h := fun tk => by
  obtain ⟨b', S', st, e⟩ := S.pushB (o := tupObj vs) rfl (by show Value.type "tuple" ≠ _; decide)
  exact wpAny_newObj_type (lift_mk (q _ b' _ S' st e)) (by show vs.toArray.size ≤ sizeLine; rw [List.size_toArray]; exact hsz)
theorem r_newList {vs : List Value} (S : Sit b₀ h₀ b fs N h) (hsz : vs.length ≤ sizeLine) (q : ∀ a h', Sit b₀ h₀ b fs ((a, lstObj vs 0) :: N) h' → Q (.ref a) h') : WP c A (newList vs) Q E h := fun tk =>
  wpAny_newObj_type (lift_mk (q _ _ (S.pushN (o := lstObj vs 0) rfl (by show Value.type "list" ≠ _; decide)))) (by show vs.toArray.size ≤ sizeLine; rw [List.size_toArray]; exact hsz)

theorem c_type {v : Value} {T : String} (hT : (c.st h 0).TypeIs v T) (hn : (Value.type T == Value.type "builtin_function_or_method") = false) (q : Q (.type T) h) : WP c A (call (.type "type") [v]) Q E h := fun tk =>
  call_type_of (by cases v <;> exact hT) hn (lift_mk q)
theorem c_type_str {x : Str} {t : Tok} (q : Q (.type "str") h) : WP c A (call (.type "type") [.str x t]) Q E h := c_type rfl (by decide) q
end

namespace IS
theorem kind_n : builtinKind "issubclass.nested" = none := by decide +kernel
theorem plain_n : plainId "issubclass.nested" = true := by decide +kernel
theorem args_n (a b c : Value) : argsOk "issubclass.nested" ⟨[a, b, c], []⟩ := by unfold argsOk; kernel_rfl
theorem meta_str : typeOf (.type "str") = pure (.type "type") := by first | rfl | decide +kernel
theorem sub_str : isSubtype (.type "str") (.type "str") = pure true := by rw [isSubtype_type]; kernel_rfl
theorem sub_tt : isSubtype (.type "tuple") (.type "tuple") = pure true := by rw [isSubtype_type]; kernel_rfl
section
variable {prog : Program} {w : PySem.World} {A : Around} {E : Value → Shared → Prop} {s : Shared}
theorem nested_str {k : Value} {dep : Int} {tk : Tok} {Q : PySem.Fin → Shared → Prop} (hk : k = .int dep tk) (hq : Q (.done (.ret (.bool true))) s) :
    wpAny (model prog w) A (Builtin.«issubclass.nested» ⟨[.type "str", .type "str", k], []⟩) Q E s := by
  subst hk
  have hm := meta_str
  have hself := sub_str
  repeat (any_goals (first | assumption | (rw [hself]) | wp_step))
theorem nested_tup {a : Addr} {ob : Obj} {vs : List Value} {n : Nat} {Q : PySem.Fin → Shared → Prop} (ho : s.heap.get? a = some ob) (hc : ob.cls = .type "tuple") (hd : ob.data = .seq (.type "str" :: vs).toArray n) (hq : Q (.done (.ret (.bool true))) s) :
    wpAny (model prog w) A (Builtin.«issubclass.nested» ⟨[.type "str", .ref a, rawInt 0], []⟩) Q E s := by
  have hT : s.TypeIs (.ref a) "tuple" := ⟨ob, ho, hc⟩
  have hs := sub_tt
  obtain ⟨hp, g, d, tk, os⟩ := s
  have hn : ¬ ((Value.type "tuple" == Value.type "type") = true) := by decide
  have hn2 : ¬ ((Value.type "tuple" == Value.type "types.UnionType") = true) := by decide
  repeat (any_goals (first | assumption | rw [if_neg hn] | rw [if_neg hn2] | wp_step))
  rw [hd]
  refine wpAny_pure ?_
  simp only [Option.getD_some, List.forIn_toArray, List.forIn_cons]
  refine wpAny_bind (wpAny_bind (wpAny_bind (wpAny_call (codeAny_call_builtin plain_n F.entry_issubclass_nested ?_))))
  simp only [checkBuiltinCall, kind_n]
  have hm := meta_str
  have hself := sub_str
  cases hsig : Manifest.signature? "issubclass.nested" with
  | none =>
    refine wpAny_pure (nested_str rfl ?_)
    repeat (any_goals (first | assumption | wp_step))
  | some sig =>
    have := args_n (.type "str") (.type "str") (rawInt (0 + 1))
    simp only [argsOk, hsig] at this
    have h2 : Bind.checkArgs "issubclass.nested" sig ⟨[.type "str", .type "str", rawInt (0 + 1)], []⟩ = pure () := this
    show wpAny _ _ (Bind.checkArgs _ sig _) _ _ _
    rw [h2]
    refine wpAny_pure (nested_str rfl ?_)
    repeat (any_goals (first | assumption | wp_step))
theorem issub_str {a : Addr} {ob : Obj} {vs : List Value} {n : Nat} {Q : Value → Shared → Prop} (ho : s.heap.get? a = some ob) (hc : ob.cls = .type "tuple") (hd : ob.data = .seq (.type "str" :: vs).toArray n) (hq : Q (.bool true) s) :
    wpAny (model prog w) A (call (.builtin "issubclass") [.type "str", .ref a]) Q E s :=
  call_function_meets F.kind_issubclass F.plain_issubclass F.entry_issubclass (F.args_issubclass_2 _ _) (S := fun A R s' => s' = s ∧ R (.ok (.ret (.bool true))) s)
    (fun _ _ _ _ _ hs => by obtain ⟨rfl, hs⟩ := hs; exact issubclass_outer (nested_tup ho hc hd hs)) ⟨rfl, hq⟩
end
end IS
section
variable {c : Cfg} {A : Around} {E : Value → Heap → Prop} {h : Heap} {b₀ h₀ b : Heap} {fs : List Fent} {N : List (Addr × Obj)} {Q : Value → Heap → Prop}
theorem c_issub {a : Addr} {vs : List Value} (S : Sit b₀ h₀ b fs N h) (e : b.get? a = some (tupObj (.type "str" :: vs))) (q : Q (.bool true) h) : WP c A (call (.builtin "issubclass") [.type "str", .ref a]) Q E h := fun tk =>
  IS.issub_str (s := c.st h tk) (S.atB e) rfl rfl (lift_mk q)
end
end

section
/-! iterators and loops -/
structure Iter (c : Cfg) (A : Around) (b : Heap) (I : Addr) (It : Nat → Obj → Prop) (n : Nat) (val : Nat → Value → Prop) : Prop where
  nf : ∀ i o, It i o → o.cls ≠ .type "frame"
  item : ∀ i h o (E : Value → Heap → Prop) (Q : Option Value → Heap → Prop), i < n → Base b h → h.get? I = some o → It i o →
    (∀ v h' o', val i v → h'.get? I = some o' → It (i + 1) o' → (∀ x ox, x ≠ I → h.get? x = some ox → h'.get? x = some ox) → Q (some v) h') → WP c A (pyNext (.ref I)) Q E h
  done : ∀ h o (E : Value → Heap → Prop) (Q : Option Value → Heap → Prop), Base b h → h.get? I = some o → It n o → (∀ h', (∀ x ox, x ≠ I → h.get? x = some ox → h'.get? x = some ox) → Q none h') → WP c A (pyNext (.ref I)) Q E h
  self : ∀ i h o (E : Value → Heap → Prop) (Q : Value → Heap → Prop), Base b h → h.get? I = some o → It i o → Q (.ref I) h → WP c A (pyIter (.ref I)) Q E h

section
variable {c : Cfg} {A : Around} {E : Value → Heap → Prop} {h h' : Heap} {env : Env} {b₀ h₀ b b' : Heap} {fs : List Fent} {N : List (Addr × Obj)} {I : Addr} {o o' : Obj} {It : Nat → Obj → Prop} {n : Nat} {val : Nat → Value → Prop}
theorem Iter.stays (X : Iter c A b I It n val) (s : b.StaysIn b') : Iter c A b' I It n val where
  nf := X.nf
  item := fun i h o E Q hi B e it q => X.item i h o E Q hi (fun a o e => B a o (s a o e)) e it q
  done := fun h o E Q B e it q => X.done h o E Q (fun a o e => B a o (s a o e)) e it q
  self := fun i h o E Q B e it q => X.self i h o E Q (fun a o e => B a o (s a o e)) e it q

theorem Sit.itDone (S : Sit b₀ h₀ b fs ((I, o) :: N) h) (hk : ∀ x ox, x ≠ I → h.get? x = some ox → h'.get? x = some ox) : Sit b₀ h₀ b fs N h' := by
  have z := S.nw (I, o) (.head _)
  have nd := S.nd
  rw [List.nodup_append] at nd
  have nI : ∀ p ∈ N, p.1 ≠ I := fun p hp q => by
    have z2 : p.1 ∈ N.map (·.1) := List.mem_map_of_mem hp
    rw [q] at z2
    exact (List.nodup_cons.mp nd.2.1).1 z2
  have fI : ∀ p ∈ fs, p.1 ≠ I := fun p hp => nd.2.2 _ (List.mem_map_of_mem hp) I (by simp)
  refine ⟨fun x ox e => ?_, S.bb, fun x ox e => ?_, S.new, fun p hp => ?_, fun p hp => ?_, ?_⟩
  · obtain ⟨o', e', r⟩ := S.ext x ox e
    exact ⟨o', hk _ _ (fun q => by rw [q, z.2.2.2] at e; cases e) e', r⟩
  · exact ⟨hk _ _ (fun q => by rw [q, z.2.2.1] at e; cases e) (S.bh x ox e).1, (S.bh x ox e).2⟩
  · obtain ⟨o', e, cc⟩ := (S.fr p hp).1.2
    exact ⟨⟨(S.fr p hp).1.1.at' fun o e => hk _ _ (fI p hp) e, o', hk _ _ (fI p hp) e, cc⟩, (S.fr p hp).2⟩
  · exact ⟨hk _ _ (nI p hp) (S.nw p (.tail _ hp)).1, (S.nw p (.tail _ hp)).2⟩
  · exact List.Sublist.nodup (List.Sublist.append_left (by simp) _) S.nd
theorem Sit.itNext (S : Sit b₀ h₀ b fs ((I, o) :: N) h) (hk : ∀ x ox, x ≠ I → h.get? x = some ox → h'.get? x = some ox) (e : h'.get? I = some o') (nf : o'.cls ≠ .type "frame") : Sit b₀ h₀ b fs ((I, o') :: N) h' := by
  have z := S.nw (I, o) (.head _)
  have D := S.itDone hk
  exact ⟨D.ext, D.bb, D.bh, D.new, D.fr, fun p hp => by
    rcases List.mem_cons.mp hp with rfl | hp
    · exact ⟨e, nf, z.2.2⟩
    · exact D.nw p hp, S.nd⟩

theorem mark_none {A : Around} : A.mark none = A := by cases A; rfl
theorem unlP {Q : Value → Heap → Prop} {R : Result → Heap → Prop} {r : Result} {s : Shared} (x : c.lift R r s) : c.lift R r s := x

theorem r_For {target iter : Expr} {body : List Stmt} {pos : Pos} {Q : Flow → Heap → Prop}
    (x : WP c A (eval iter env) (fun v h => WP c A (pyIter v) (fun it h => CP c A (.forLoop target it body [] env) (fun r h => match r with | .ok f => Q f h | .error _ => False) h) E h) E h)
    (hs : ∀ x, foldedSetIterable iter env x = pure x := by intro _; rfl) : WP c A (exec (.For target iter body [] pos) env) Q E h := by
  rw [exec_For]
  refine .bind (.standAt (.bind (x.monoQ fun v h y => .bind (.of_eq (hs v) (.bind (.standAt (.bind (.holding (y.monoQ fun it h z => fun tk => ?_))))))))) 
  have z' := z; rw [← mark_none (A := A)] at z'
  refine wpAny_runOwn (fun Γ p hc hb => wpCode_mono ?_ (z' tk Γ p hc hb))
  rintro r s ⟨h', t', rfl, q⟩
  cases r with
  | ok f => exact lift_mk q
  | error e => exact q.elim

/-- a loop over an iterator, by what holds between the turns -/
inductive ForI (c : Cfg) (b₀ h₀ b₁ : Heap) (I : Addr) (It : Nat → Obj → Prop) (n : Nat) (Inv : Nat → Heap → List Fent → List (Addr × Obj) → Prop) : Nat → Shared → Prop
  | mk (i : Nat) (b : Heap) (fs : List Fent) (N : List (Addr × Obj)) (o : Obj) (h : Heap) (t : Nat) (hi : i ≤ n) (st : b₁.StaysIn b) (j : Inv i b fs N) (it : It i o) (S : Sit b₀ h₀ b fs ((I, o) :: N) h) : ForI c b₀ h₀ b₁ I It n Inv (n - i) (c.st h t)
theorem ForI.next {c : Cfg} {b₀ h₀ b₁ b : Heap} {I : Addr} {It : Nat → Obj → Prop} {n i : Nat} {Inv : Nat → Heap → List Fent → List (Addr × Obj) → Prop} {fs : List Fent} {N : List (Addr × Obj)} {o : Obj} {h : Heap} {t : Nat} (hi : i < n) (st : b₁.StaysIn b) (j : Inv (i + 1) b fs N) (it : It (i + 1) o)
    (S : Sit b₀ h₀ b fs ((I, o) :: N) h) : ∃ m, m < n - i ∧ ForI c b₀ h₀ b₁ I It n Inv m (c.st h t) := ⟨n - (i + 1), by omega, .mk _ _ _ _ _ _ _ hi st j it S⟩
/-- what an item's step leaves -/
inductive ForV (b₀ h₀ b : Heap) (I : Addr) (val : Nat → Value → Prop) (It : Nat → Obj → Prop) (fs : List Fent) (N : List (Addr × Obj)) (i : Nat) (h : Heap) : Option Value → Prop
  | mk (v : Value) (o : Obj) (hv : val i v) (it : It (i + 1) o) (S : Sit b₀ h₀ b fs ((I, o) :: N) h) : ForV b₀ h₀ b I val It fs N i h (some v)
theorem r_forLoop0 {x : Str} {px : Pos} {body : List Stmt} {Q : Flow → Heap → Prop} {b₁ : Heap} (X : Iter c A b₁ I It n val)
    (Inv : Nat → Heap → List Fent → List (Addr × Obj) → Prop)
    (turn : ∀ i v b fs N h o, i < n → val i v → b₁.StaysIn b → Inv i b fs N → Sit b₀ h₀ b fs ((I, o) :: N) h →
      WP c A (storeName env x v) (fun _ h => WP c A (execs body env) (fun f h' => Tu f (∃ b' fs' N', b₁.StaysIn b' ∧ Inv (i + 1) b' fs' N' ∧ Sit b₀ h₀ b' fs' ((I, o) :: N') h') fun f => Q f h') (fun _ _ => False) h) (fun _ _ => False) h)
    (done : ∀ b fs N h, b₁.StaysIn b → Inv n b fs N → Sit b₀ h₀ b fs N h → Q .next h)
    (S : Sit b₀ h₀ b fs ((I, o) :: N) h) (st : b₁.StaysIn b) (i0 : It 0 o) (j0 : Inv 0 b fs N) :
    CP c A (.forLoop (.Name x px) (.ref I) body [] env) (fun r h => match r with | .ok f => Q f h | .error _ => False) h := fun tk => by
  refine codeAny_forLoop_any (ForI c b₀ h₀ b₁ I It n Inv) ?_ n (ForI.mk (n := n) 0 b fs N o h tk (Nat.zero_le _) st j0 i0 S)
  rintro _ _ ⟨i, b, fs, N, o, h, t, hi, st, j, it, S⟩
  have B : Base b₁ h := fun a o e => S.bh a o (st a o e)
  have eI := (S.nw (I, o) (.head _)).1
  by_cases hlt : i < n
  · refine lift_on (X.item i h o (fun _ _ => False) (fun r h' => ForV b₀ h₀ b I val It fs N i h' r) hlt B eI it (fun v h' o' hv e' it' hk => .mk v o' hv it' (S.itNext hk e' (X.nf _ _ it'))) t) ?_
    rintro _ h₁ t₁ ⟨v, o', hv, it', S'⟩
    show wpAny _ _ (letOwnedTupleGo (.Name x px) (.ref I) v) _ _ _
    refine wpAny_pure ?_
    show wpAny _ _ (assign (.Name x px) env v) _ _ _
    rw [arm_assign_Name]
    refine wpAny_bind (wpAny_standAt (lift_on (WP.bindName (turn i v b fs N h₁ o' hlt hv st j S') t₁) fun _ h₂ t₂ q => ?_))
    refine lift_on (q t₂) fun f h₃ t₃ q => ?_
    cases f with
    | ret v => exact lift_mk q
    | brk => exact lift_mk q
    | next =>
      obtain ⟨b', fs', N', st', j', S''⟩ := q
      exact ForI.next hlt st' j' it' S''
    | cont =>
      obtain ⟨b', fs', N', st', j', S''⟩ := q
      exact ForI.next hlt st' j' it' S''
  · obtain rfl : i = n := by omega
    refine lift_on (X.done h o (fun _ _ => False) (fun r h' => r = none ∧ Sit b₀ h₀ b fs N h') B eI it (fun h' hk => ⟨rfl, S.itDone hk⟩) t) fun _ h₁ t₁ q => ?_
    rw [q.1]
    exact wpAny_execs_nil (lift_mk (done b fs N h₁ st j q.2))

/-- while, by a measure -/
theorem r_While0 {test : Expr} {body : List Stmt} {pos : Pos} {Q : Flow → Heap → Prop} (I : Nat → Heap → Prop)
    (turn : ∀ k h, I k h → WP c A (isTrue test env (eval test env)) (fun t h => Br t (WP c A (execs body env) (fun f h' => Tu f (∃ m, m < k ∧ I m h') fun f => Q f h') (fun _ _ => False) h) (Q .next h)) (fun _ _ => False) h) (k : Nat) (i0 : I k h) : WP c A (exec (.While test body [] pos) env) Q E h := fun tk => by
  refine wpAny_While ?_
  refine (codeAny_whileLoop (fun k s' => c.lift (fun _ : Unit => I k) () s') ?_ k ⟨h, tk, rfl, i0⟩)
  rintro k s' ⟨h, t, rfl, i⟩
  refine lift_on (turn k h i t) fun b h₁ t₁ q => ?_
  cases b with
  | true =>
    rw [if_pos rfl]
    refine lift_on (q t₁) fun f h₂ t₂ q => ?_
    cases f with
    | ret v => exact lift_mk q
    | brk => exact lift_mk q
    | next => exact q.imp fun _ q => ⟨q.1, lift_mk q.2⟩
    | cont => exact q.imp fun _ q => ⟨q.1, lift_mk q.2⟩
  | false =>
    rw [if_neg (by simp)]
    exact wpAny_execs_nil (lift_mk q)


theorem absN {P T : Flow → Heap → Prop} {f : Flow} {h : Heap} (k : ∀ f h, P f h → T f h) (p : P f h) : T f h := k f h p
theorem absV {P T : Value → Heap → Prop} {v : Value} {h : Heap} (k : ∀ v h, P v h → T v h) (p : P v h) : T v h := k v h p
theorem absH {P T : Heap → Prop} {h : Heap} (k : ∀ h, P h → T h) (p : P h) : T h := k h p
theorem r_execs_consQ {s : Stmt} {rest : List Stmt} {Q : Flow → Heap → Prop}
    (x : ∀ T : Flow → Heap → Prop, (∀ f h', Fl f (WP c A (execs rest env) Q E h') (fun f => Q f h') → T f h') → WP c A (exec s env) T E h) : WP c A (execs (s :: rest) env) Q E h :=
  r_execs_cons (x _ fun _ _ q => q)
theorem r_forLoop {x : Str} {px : Pos} {body : List Stmt} {Q : Flow → Heap → Prop} {b₁ : Heap} (X : Iter c A b₁ I It n val)
    (Inv : Nat → Heap → List Fent → List (Addr × Obj) → Prop)
    (turn : ∀ i v b fs N h o, ∀ T : Flow → Heap → Prop, (∀ f h', Tu f (∃ b' fs' N', b₁.StaysIn b' ∧ Inv (i + 1) b' fs' N' ∧ Sit b₀ h₀ b' fs' ((I, o) :: N') h') (fun f => Q f h') → T f h') → i < n → val i v → b₁.StaysIn b → Inv i b fs N → Sit b₀ h₀ b fs ((I, o) :: N) h →
      WP c A (storeName env x v) (fun _ h => WP c A (execs body env) T (fun _ _ => False) h) (fun _ _ => False) h)
    (done : ∀ b fs N h, b₁.StaysIn b → Inv n b fs N → Sit b₀ h₀ b fs N h → Q .next h)
    (S : Sit b₀ h₀ b fs ((I, o) :: N) h) (st : b₁.StaysIn b) (i0 : It 0 o) (j0 : Inv 0 b fs N) :
    CP c A (.forLoop (.Name x px) (.ref I) body [] env) (fun r h => match r with | .ok f => Q f h | .error _ => False) h :=
  r_forLoop0 X Inv (fun i v b fs N h o hi hv st j S => turn i v b fs N h o _ (fun _ _ q => q) hi hv st j S) done S st i0 j0
theorem r_While {test : Expr} {body : List Stmt} {pos : Pos} {Q : Flow → Heap → Prop} (I : Nat → Heap → Prop)
    (turn : ∀ k h, ∀ T : Flow → Heap → Prop, (∀ f h', Tu f (∃ m, m < k ∧ I m h') (fun f => Q f h') → T f h') → I k h → WP c A (isTrue test env (eval test env)) (fun t h => Br t (WP c A (execs body env) T (fun _ _ => False) h) (Q .next h)) (fun _ _ => False) h) (k : Nat) (i0 : I k h) : WP c A (exec (.While test body [] pos) env) Q E h :=
  r_While0 I (fun k h i => turn k h _ (fun _ _ q => q) i) k i0

/-! lists and tuples at rest -/
theorem iter_list {l : Addr} {vs : List Value} (hh : A.handled = none) (hl : b.IsList l vs.toArray) (hI : b.get? I = none) : Iter c A b I (fun i o => o.cls = .type "list_iterator" ∧ o.data = .fields #[.ref l, .int i 0]) vs.length (fun i v => vs[i]? = some v) := by
  have ne : l ≠ I := by rintro rfl; obtain ⟨o, e, _⟩ := hl; rw [hI] at e; cases e
  have W := fun w => Walks.list (prog := c.p) (w := w) hh I l ne vs.toArray
  have sz : vs.toArray.size = vs.length := by simp
  refine ⟨fun i o x => by rw [x.1]; decide, fun i h o E Q hi B e it q tk => ?_, fun h o E Q B e it q tk => ?_, fun i h o E Q B e it q tk => ?_⟩
  · refine (W c.w).item i (c.st h tk) _ _ (by rw [sz]; exact hi) ⟨⟨o, e, it⟩, hl.at fun o e => B.stays _ _ e⟩ fun v h' tk' hv st hk => ?_
    obtain ⟨⟨o', e', it'⟩, _⟩ := st
    exact ⟨h', tk', rfl, q v h' o' (by simpa using hv) e' it' fun x ox n e => hk x ox (by simpa using n) e⟩
  · refine (W c.w).done (c.st h tk) _ _ (by rw [sz]; exact ⟨⟨o, e, it⟩, hl.at fun o e => B.stays _ _ e⟩) fun h' tk' hk => ?_
    exact ⟨h', tk', rfl, q h' fun x ox n e => hk x ox (by simpa using n) e⟩
  · exact (W c.w).self i (c.st h tk) _ _ ⟨⟨o, e, it⟩, hl.at fun o e => B.stays _ _ e⟩ (lift_mk q)
theorem iter_tuple {l : Addr} {vs : List Value} (hh : A.handled = none) (hl : b.IsTuple l vs.toArray) (hI : b.get? I = none) : Iter c A b I (fun i o => o.cls = .type "tuple_iterator" ∧ o.data = .fields #[.ref l, .int i 0]) vs.length (fun i v => vs[i]? = some v) := by
  have ne : l ≠ I := by rintro rfl; obtain ⟨o, e, _⟩ := hl; rw [hI] at e; cases e
  have at' : ∀ {h : Heap}, Base b h → h.IsTuple l vs.toArray := fun B => let ⟨o, e, r⟩ := hl; ⟨o, B.stays _ _ e, r⟩
  have W := fun w => Walks.tuple (prog := c.p) (w := w) hh I l ne vs.toArray
  have sz : vs.toArray.size = vs.length := by simp
  refine ⟨fun i o x => by rw [x.1]; decide, fun i h o E Q hi B e it q tk => ?_, fun h o E Q B e it q tk => ?_, fun i h o E Q B e it q tk => ?_⟩
  · refine (W c.w).item i (c.st h tk) _ _ (by rw [sz]; exact hi) ⟨⟨o, e, it⟩, at' B⟩ fun v h' tk' hv st hk => ?_
    obtain ⟨⟨o', e', it'⟩, _⟩ := st
    exact ⟨h', tk', rfl, q v h' o' (by simpa using hv) e' it' fun x ox n e => hk x ox (by simpa using n) e⟩
  · refine (W c.w).done (c.st h tk) _ _ (by rw [sz]; exact ⟨⟨o, e, it⟩, at' B⟩) fun h' tk' hk => ?_
    exact ⟨h', tk', rfl, q h' fun x ox n e => hk x ox (by simpa using n) e⟩
  · exact (W c.w).self i (c.st h tk) _ _ ⟨⟨o, e, it⟩, at' B⟩ (lift_mk q)
theorem r_iterList {l : Addr} {vs : List Value} {Q : Value → Heap → Prop} (S : Sit b₀ h₀ b fs N h) (hh : A.handled = none) (hl : b.IsList l vs.toArray)
    (q : ∀ I o h' It, Sit b₀ h₀ b fs ((I, o) :: N) h' → It 0 o → Iter c A b I It vs.length (fun i v => vs[i]? = some v) → Q (.ref I) h') : WP c A (pyIter (.ref l)) Q E h := fun tk => by
  refine wpAny_pyIter_list (hl.at fun o e => S.bh.stays _ _ e) ?_
  exact lift_mk (q _ _ _ _ (S.pushN (o := { cls := .type "list_iterator", data := .fields #[.ref l, .int 0 0] }) rfl (by show Value.type "list_iterator" ≠ _; decide)) ⟨rfl, rfl⟩ (iter_list hh hl S.bh.fresh))
theorem r_iterTuple {l : Addr} {vs : List Value} {Q : Value → Heap → Prop} (S : Sit b₀ h₀ b fs N h) (hh : A.handled = none) (hl : b.IsTuple l vs.toArray)
    (q : ∀ I o h' It, Sit b₀ h₀ b fs ((I, o) :: N) h' → It 0 o → Iter c A b I It vs.length (fun i v => vs[i]? = some v) → Q (.ref I) h') : WP c A (pyIter (.ref l)) Q E h := fun tk => by
  have : h.IsTuple l vs.toArray := let ⟨o, e, r⟩ := hl; ⟨o, S.bh.stays _ _ e, r⟩
  refine wpAny_pyIter_tuple this ?_
  exact lift_mk (q _ _ _ _ (S.pushN (o := { cls := .type "tuple_iterator", data := .fields #[.ref l, .int 0 0] }) rfl (by show Value.type "tuple_iterator" ≠ _; decide)) ⟨rfl, rfl⟩ (iter_tuple hh hl S.bh.fresh))
end
end

local macro_rules | `(tactic| isplit) => `(tactic| first
  | with_reducible (first
    | refine c_type_str ?_
    | refine' c_issub ?nS ?ne ?_
      case nS => assumption
      case ne => assumption
    | refine' r_newTuple ?nS ?nz ?_
      case nS => assumption
      case nz => k_dflt (exact Nat.le_of_ble_eq_true rfl)
      intro ad b' h S st eo
    | refine' r_newList ?nS ?nz ?_
      case nS => assumption
      case nz => k_dflt (exact Nat.le_of_ble_eq_true rfl)
      intro ad h S)
  | fail "no")
theorem fspath_ok {c : Cfg} {A : Around} {b h : Heap} {x : Str} {t : Tok} (W : Wd c b) (B : Base b h) (G : Good A h 5) : Gives c A b h (.ref 132) [.str x t] [] (fun _ v => v = .str x t) := by
  intro E
  refine callK0 (binds := [("path", .str x t)]) W B G rfl (by rfl) fun L h' env hf H S => ?_
  dsimp only at H
  repeat isplit
  exact ⟨_, S.done, rfl⟩

section
/-! texts, numbers, subscripts, lists -/
section
variable {c : Cfg} {A : Around} {E : Value → Heap → Prop} {h : Heap} {env : Env} {b₀ h₀ b : Heap} {fs : List Fent} {N N' : List (Addr × Obj)} {x y : Str} {t u : Tok} {i j : Int} {Q : Value → Heap → Prop}

theorem bOp_eqS (q : Q (.bool (x == y)) h) : WP c A (compareOp .Eq (.str x t) (.str y u)) Q E h := fun tk => eq_str (lift_mk q)
theorem bOp_neS (q : Q (.bool (x != y)) h) : WP c A (compareOp .NotEq (.str x t) (.str y u)) Q E h := fun tk => ne_str (lift_mk q)
theorem bOp_ltS (q : Q (.bool (decide (x.cps.toList < y.cps.toList))) h) : WP c A (compareOp .Lt (.str x t) (.str y u)) Q E h := fun tk => lt_str (lift_mk q)
theorem bOp_addS (q : ∀ t, Q (.str (x ++ y) t) h) (hsz : x.length + y.length ≤ sizeLine) : WP c A (binaryOp .Add (.str x t) (.str y u)) Q E h := fun tk => add_str (fun t' k => lift_mk (q t')) hsz
theorem bOp_iaddS (q : ∀ t, Q (.str (x ++ y) t) h) (hsz : x.length + y.length ≤ sizeLine) : WP c A (inplaceOp .Add (.str x t) (.str y u)) Q E h := fun tk => iadd_str (fun t' k => lift_mk (q t')) hsz
theorem bOp_addI (q : ∀ t, Q (.int (i + j) t) h) : WP c A (binaryOp .Add (.int i t) (.int j u)) Q E h := fun tk => add_int (lift_mk (q _))
theorem bOp_modI (q : ∀ t, Q (.int (i.fmod j) t) h) (hj : j ≠ 0) : WP c A (binaryOp .Mod (.int i t) (.int j u)) Q E h := fun tk => mod_int hj (lift_mk (q _))
theorem bOp_divI (q : ∀ t, Q (.int (i.fdiv j) t) h) (hj : j ≠ 0) (hp : Builtin.divisionGoesByPylong i j = false) : WP c A (binaryOp .FloorDiv (.int i t) (.int j u)) Q E h := fun tk => floordiv_int hj (lift_mk (q _)) (.inl hp)
theorem bOp_gtI (q : Q (.bool (decide (j < i))) h) : WP c A (compareOp .Gt (.int i t) (.int j u)) Q E h := fun tk => gt_int (lift_mk q)
theorem bOp_ltI (q : Q (.bool (decide (i < j))) h) : WP c A (compareOp .Lt (.int i t) (.int j u)) Q E h := fun tk => lt_int (lift_mk q)
theorem bOp_eqI (q : Q (.bool (i == j)) h) : WP c A (compareOp .Eq (.int i t) (.int j u)) Q E h := fun tk => eq_int (lift_mk q)
theorem bOp_neI (q : Q (.bool (i != j)) h) : WP c A (compareOp .NotEq (.int i t) (.int j u)) Q E h := fun tk => ne_int (lift_mk q)
theorem len_ne0 {n : Nat} : ((n : Int) != 0) = (n != 0) := by rw [Bool.eq_iff_iff]; simp
theorem r_truthy_str {Q : Bool → Heap → Prop} (q : Q (x.length != 0) h) (hsz : x.length ≤ sizeLine) : WP c A (truthy (.str x t)) Q E h := fun tk =>
  P.truthy_str (by rw [sizeLine_eq] at hsz; omega) (lift_mk (t := tk + 1 + 1) (by rw [len_ne0]; exact q))
theorem strM {P : Prop} (p : P) : ((c.st h 0).TypeIs (.str x t) "str" ∧ ∀ a, Value.str x t = .ref a → ∃ ob, h.get? a = some ob ∧ ob.dict = none) ∧ P := ⟨⟨rfl, fun _ e => by cases e⟩, p⟩
theorem c_startswith (q : Q (.bool (Txt.startswith x y)) h) : WP c A (call (.builtin "str.startswith") [.str x t, .str y u] []) Q E h := fun tk => SC.startswith (lift_mk q)
theorem c_endswith (q : Q (.bool (Txt.endswith x y)) h) : WP c A (call (.builtin "str.endswith") [.str x t, .str y u] []) Q E h := fun tk => SC.endswith (lift_mk q)
theorem c_rfind (q : ∀ t, Q (.int (Txt.rfind x y) t) h) : WP c A (call (.builtin "str.rfind") [.str x t, .str y u] []) Q E h := fun tk => SC.rfind (lift_mk (q _))
theorem c_rstrip (q : ∀ t, Q (.str (Txt.rstripChars x y) t) h) (hsz : x.length ≤ sizeLine) : WP c A (call (.builtin "str.rstrip") [.str x t, .str y u] []) Q E h := fun tk => SC.rstripChars (fun t' k => lift_mk (q t')) hsz
theorem c_lenS (q : ∀ t, Q (.int x.length t) h) (hsz : x.length ≤ sizeLine) : WP c A (call (.builtin "len") [.str x t] []) Q E h := fun tk =>
  len_str (by rw [sizeLine_eq] at hsz; omega) (lift_mk (t := tk + 1 + 1) (q _))
theorem unaryNeg (q : ∀ t, Q (.int (-i) t) h) : WP c A (unaryOp .USub (.int i t)) Q E h := fun tk => PyProof.Rows.neg_int (lift_mk (q _))

/-- a text's method -/
theorem r_strMeth {o : Expr} {name : Str} {id : String} {apos pos : Pos} {args : List Expr} (slot : Slot "str" name id) (hty : typeOf (.builtin id) = pure (.type "method_descriptor"))
    (x : WP c A (eval o env) (fun ov h => ((c.st h 0).TypeIs ov "str" ∧ ∀ a, ov = .ref a → ∃ ob, h.get? a = some ob ∧ ob.dict = none) ∧
      WP c A (spliced (backTo pos (starEach args env))) (fun vs h => WP c A (call (.builtin id) (ov :: vs) []) Q E h) E h) E h)
    (z : attributeBase o name env (eval o env) = eval o env ∧ ((backTo pos (starEach args env)).all (fun x => !x.1) && (backToKw pos (keywordEach [] env)).all (fun x => x.1.isSome)
      && decide (args.length + ([] : List Keyword).length + (if ([] : List Keyword).isEmpty then 0 else 1) < 30)) = true ∧ (apos.endLine == pos.line) = true ∧ (backTo pos (starEach args env)).any (·.1) = false) :
    WP c A (eval (.Call (.Attribute o name apos) args [] pos) env) Q E h := r_Method F.plainAttrs_str slot hty x z.1 z.2.1 z.2.2.1 z.2.2.2

/-! subscripts -/
def GetIt (c : Cfg) (A : Around) (o i : Value) (Q : Value → Heap → Prop) (E : Value → Heap → Prop) (h : Heap) : Prop :=
  ∃ (T id : String), typeLookup (.type T) "__getitem__" = pure (some (.builtin id)) ∧ (c.st h 0).TypeIs o T ∧ WP c A (getItem o i) Q E h
theorem r_Sub {value slice : Expr} {pos : Pos} (x : WP c A (eval value env) (fun o h => WP c A (eval slice env) (fun i h => GetIt c A o i Q E h) E h) E h)
    (hs : ∃ ops : Value → Value → List Value, ∀ o i, subscripted slice false o i = operate (ops o i) (getItem o i)) : WP c A (eval (.Subscript value slice pos) env) Q E h := by
  rw [eval_Subscript]
  obtain ⟨ops, hs⟩ := hs
  refine .bind (x.monoQ fun o h y => .bind (.holding (y.monoQ fun i h z => .bind (.standAt fun tk => ?_))))
  obtain ⟨T, id, hl, hT, hg⟩ := z
  have hT' : (c.st h tk).TypeIs o T := by cases o <;> exact hT
  refine wpAny_bind ?_
  rw [getitemInPython_of_ne hT'.not_modules]
  refine wpAny_bind (wpAny_specialOf hT' hl ?_)
  have fin : wpAny c.M A (subscripted slice false o i) (fun r s₃ => wpAny c.M A (letTemporaryGo value o r >>= fun _ => pure r) (c.lift Q) (c.lift E) s₃) (c.lift E) (c.st h tk) := by
    rw [hs]
    exact wpAny_operating (wpAny_mono (hg tk) (fun r s₃ h₃ => wpAny_bind (wpAny_letTemporaryGo (wpAny_pure h₃))) fun _ _ x => x)
  first
    | exact wpAny_pure (wpAny_bind fin)
    | exact wpAny_bind (wpAny_pure (wpAny_bind fin))
    | exact wpAny_bind fin
theorem r_Slice {lower upper step : Option Expr} {p : Pos}
    (x : WP c A (evalPart lower env) (fun l h => WP c A (evalPart upper env) (fun u h => WP c A (evalPart step env) (fun st h => Q (.ref h.objs.size) (h.push { cls := .type "slice", data := .fields #[l, u, st] })) E h) E h) E h) :
    WP c A (eval (.Slice lower upper step p) env) Q E h := fun tk =>
  wpAny_Slice (wpAny_mono (x tk) (fun l s q => by
    obtain ⟨h₁, t₁, rfl, q⟩ := q
    refine wpAny_mono (q t₁) (fun u s q => ?_) fun _ _ e => e
    obtain ⟨h₂, t₂, rfl, q⟩ := q
    refine wpAny_mono (q t₂) (fun v s q => ?_) fun _ _ e => e
    obtain ⟨h₃, t₃, rfl, q⟩ := q
    exact lift_mk q) fun _ _ e => e)
theorem r_partNone (q : Q .none h) : WP c A (evalPart none env) Q E h := by rw [evalPart_none]; exact .pure q
theorem r_partSome {e : Expr} (q : WP c A (eval e env) Q E h) : WP c A (evalPart (some e) env) Q E h := by rw [evalPart_some]; exact q

theorem g_strSlice {vl vu : Value} {lo hi : Option Int} (S : Sit b₀ h₀ b fs N h) (pl : IsPart vl lo) (pu : IsPart vu hi) (hsz : x.length ≤ sizeLine)
    (q : ∀ t h', Sit b₀ h₀ b fs N h' → Q (.str (Txt.slice x lo hi) t) h') : GetIt c A (.str x t) (.ref h.objs.size) Q E (h.push { cls := .type "slice", data := .fields #[vl, vu, .none] }) := by
  have S' := S.ext' (Ext.push h { cls := .type "slice", data := .fields #[vl, vu, .none] })
  refine ⟨"str", _, F.slot_str_getitem.lookup, typeIs_str _ _ _, fun tk => ?_⟩
  have key : ∀ l u : Option (Int × Tok), vl = partValue l → vu = partValue u → lo = l.map (·.1) → hi = u.map (·.1) → wpAny c.M A (getItem (.str x t) (.ref h.objs.size)) (c.lift Q) (c.lift E) (c.st (h.push { cls := .type "slice", data := .fields #[vl, vu, .none] }) tk) := by
    intro l u e1 e2 e3 e4
    refine wpAny_getItem_str_slice (l := l) (u := u) (st := none) ⟨_, Heap.get?_push_size _ rfl, rfl, by rw [e1, e2]; rfl⟩ rfl ?_
    unfold sliceMade slicePicked
    rw [← e3, ← e4]
    refine post_val_or_str ⟨Nat.le_trans (Txt.slice_le x lo hi) hsz, fun t' k => lift_mk (t := k) (q _ _ S')⟩
  cases pl with
  | none => cases pu with
    | none => exact key none none rfl rfl rfl rfl
    | int j t => exact key none (some (j, t)) rfl rfl rfl rfl
  | int i t => cases pu with
    | none => exact key (some (i, t)) none rfl rfl rfl rfl
    | int j t' => exact key (some (i, t)) (some (j, t')) rfl rfl rfl rfl

/-! lists -/
variable {a : Addr} {vs ws : List Value} {n : Nat} {v : Value} {g : Obj → List (Addr × Obj)}
theorem lst_is (e : h.get? a = some (lstObj vs n)) : h.IsList a vs.toArray := ⟨_, e, rfl, n, rfl⟩
theorem lst_len (hsz : vs.length ≤ sizeLine) : ((vs.toArray.size : Nat) : Int) < 2 ^ 63 := by rw [sizeLine_eq] at hsz; rw [List.size_toArray]; omega
theorem r_truthy_list {Q : Bool → Heap → Prop} (e : h.get? a = some (lstObj vs n)) (hsz : vs.length ≤ sizeLine) (q : Q (!vs.isEmpty) h) : WP c A (truthy (.ref a)) Q E h := fun tk =>
  wpAny_truthy_list (lst_is e) (lst_len hsz) (lift_mk (t := tk + 1 + 1) (by rw [List.isEmpty_toArray]; exact q))
theorem c_lenL (e : h.get? a = some (lstObj vs n)) (hsz : vs.length ≤ sizeLine) (q : ∀ t, Q (.int vs.length t) h) : WP c A (call (.builtin "len") [.ref a] []) Q E h := fun tk =>
  call_len_list (lst_is e) (lst_len hsz) (lift_mk (t := tk + 1 + 1) (by rw [List.size_toArray]; exact q _))
theorem lstM (e : h.get? a = some (lstObj vs n)) {P : Prop} (p : P) : ((c.st h 0).TypeIs (.ref a) "list" ∧ ∀ a', Value.ref a = .ref a' → ∃ ob, h.get? a' = some ob ∧ ob.dict = none) ∧ P :=
  ⟨⟨⟨_, e, rfl⟩, fun a' e' => by cases e'; exact ⟨_, e, rfl⟩⟩, p⟩
theorem c_append (S : Sit b₀ h₀ b fs N h) (r : Rep a (lstObj vs n) N g) (hsz : vs.length ≤ sizeLine) (q : ∀ h' n', Sit b₀ h₀ b fs (g (lstObj (vs ++ [v]) n')) h' → Q .none h') : WP c A (call (.builtin "list.append") [.ref a, v] []) Q E h := fun tk => by
  have e := S.atN r
  refine wpAny_call_entry slot_list_append (lst_is e).typeIs entry_list_append ?_ (args_list_append _ _)
  show wpAny _ _ (updateSeq a (·.push v) >>= fun _ => ret .none) _ _ _
  refine wpAny_bind (wpAny_updateSeq (s := c.st h tk) (xs := vs.toArray) (n := n) e rfl (wpAny_pure ⟨.none, rfl, ?_⟩) (by simpa using hsz) (by simpa using hsz))
  have hd : ∃ n', Obj.mapSeq (·.push v) (lstObj vs n) = lstObj (vs ++ [v]) n' := by
    obtain ⟨n', hd'⟩ := Obj.data_mapSeq (o := lstObj vs n) (xs := vs.toArray) (n := n) rfl (·.push v)
    refine ⟨n', ?_⟩
    unfold Obj.mapSeq lstObj at hd' ⊢
    simp only at hd' ⊢
    simp only [Obj.mk.injEq, true_and, and_true]
    rw [hd']; simp
  obtain ⟨n', hd⟩ := hd
  refine lift_mk (t := tk) (q _ n' (S.rep r (Heap.SameBut.update ..) ?_ (by show Value.type "list" ≠ _; decide)))
  have := Heap.get?_update_self (Obj.mapSeq (·.push v)) e (by rw [hd]; rfl)
  rw [hd] at this; exact this
theorem c_pop (S : Sit b₀ h₀ b fs N h) (r : Rep a (lstObj (vs ++ [v]) n) N g) (hsz : vs.length + 1 ≤ sizeLine) (q : ∀ h' n', Sit b₀ h₀ b fs (g (lstObj vs n')) h' → Q v h') : WP c A (call (.builtin "list.pop") [.ref a] []) Q E h := fun tk => by
  have e := S.atN r
  refine call_meets F.slot_list_pop (lst_is e).typeIs F.entry_list_pop (F.args_list_pop_1 _) (MeetsSeq.list_pop_last a (vs ++ [v]).toArray n v (by simp) (by simpa using hsz)) ⟨e, ?_⟩
  have hd : ∃ n', Obj.mapSeq (fun xs => xs.eraseIdxIfInBounds ((vs ++ [v]).toArray.size - 1)) (lstObj (vs ++ [v]) n) = lstObj vs n' := by
    obtain ⟨n', hd'⟩ := Obj.data_mapSeq (o := lstObj (vs ++ [v]) n) (xs := (vs ++ [v]).toArray) (n := n) rfl (fun xs => xs.eraseIdxIfInBounds ((vs ++ [v]).toArray.size - 1))
    refine ⟨n', ?_⟩
    have e3 : (vs ++ [v]).toArray.eraseIdxIfInBounds ((vs ++ [v]).toArray.size - 1) = vs.toArray := by
      have : (vs ++ [v]).toArray.size - 1 < (vs ++ [v]).toArray.size := by simp
      rw [Array.eraseIdxIfInBounds, dif_pos this]
      apply Array.ext'
      rw [Array.toList_eraseIdx]
      simp [List.eraseIdx_append_of_length_le]
    unfold Obj.mapSeq lstObj at hd' ⊢
    simp only at hd' ⊢
    simp only [Obj.mk.injEq, true_and, and_true]
    rw [hd', e3]
  obtain ⟨n', hd⟩ := hd
  refine (lift_mk (c := c) (Q := Q) (t := tk) (q _ n' (S.rep r (Heap.SameBut.update ..) ?_ (by show Value.type "list" ≠ _; decide))))
  have := Heap.get?_update_self (Obj.mapSeq (fun xs => xs.eraseIdxIfInBounds ((vs ++ [v]).toArray.size - 1))) e (by rw [hd]; rfl)
  rw [hd] at this; exact this
theorem g_list (e : h.get? a = some (lstObj vs n)) (h0 : 0 ≤ i) (hf : i < 2 ^ 63) (hv : vs[i.toNat]? = some v) (q : Q v h) : GetIt c A (.ref a) (.int i t) Q E h :=
  ⟨"list", _, list_getitem_lookup, ⟨_, e, rfl⟩, fun tk => wpAny_getItem_list (lst_is e) h0 hf (by simpa using hv) (lift_mk q)⟩
theorem g_listLast (e : h.get? a = some (lstObj vs n)) (hsz : vs.length ≤ sizeLine) (hv : vs.getLast? = some v) (q : Q v h) : GetIt c A (.ref a) (.int (-1) t) Q E h := by
  refine ⟨"list", _, list_getitem_lookup, ⟨_, e, rfl⟩, fun tk => ?_⟩
  have hn : vs ≠ [] := by rintro rfl; cases hv
  have hl : 0 < vs.length := List.length_pos_iff.mpr hn
  refine wpAny_getItem_list_neg (lst_is e) (by decide) (by rw [List.size_toArray]; omega) (by decide) ?_ (lift_mk q)
  rw [List.size_toArray]
  have : ((-1 : Int) + (vs.length : Int)).toNat = vs.length - 1 := by omega
  rw [this, List.getElem?_toArray, ← List.getLast?_eq_getElem?]; exact hv
theorem g_listSlice {vl vu st : Value} {lo hi sti : Option Int} (S : Sit b₀ h₀ b fs N h) (e : h.get? a = some (lstObj vs n)) (pl : IsPart vl lo) (pu : IsPart vu hi) (ps : IsPart st sti) (h0 : sti ≠ some 0) (hsz : vs.length ≤ sizeLine)
    (q : ∀ a h', Sit b₀ h₀ b fs ((a, lstObj (slicePick vs.toArray lo hi sti).toList 0) :: N) h' → Q (.ref a) h') : GetIt c A (.ref a) (.ref h.objs.size) Q E (h.push { cls := .type "slice", data := .fields #[vl, vu, st] }) := by
  have S' := S.ext' (Ext.push h { cls := .type "slice", data := .fields #[vl, vu, st] })
  have e' := Heap.get?_push_of_some { cls := .type "slice", data := .fields #[vl, vu, st] } e
  refine ⟨"list", _, list_getitem_lookup, ⟨_, e', rfl⟩, fun tk => ?_⟩
  refine wpAny_getItem_list_slice (lst_is e') (Heap.IsSliceOf.new ..) pl pu ps h0 ?_ (by simpa using hsz)
  have := q _ _ (S'.pushN (o := lstObj (slicePick vs.toArray lo hi sti).toList 0) rfl (by show Value.type "list" ≠ _; decide))
  exact lift_mk (t := tk) this
theorem bOp_addL {a2 : Addr} {n2 : Nat} (S : Sit b₀ h₀ b fs N h) (e : h.get? a = some (lstObj vs n)) (e2 : h.get? a2 = some (lstObj ws n2)) (hsz : vs.length + ws.length ≤ sizeLine)
    (q : ∀ a h', Sit b₀ h₀ b fs ((a, lstObj (vs ++ ws) 0) :: N) h' → Q (.ref a) h') : WP c A (binaryOp .Add (.ref a) (.ref a2)) Q E h := fun tk => by
  have ee : vs.toArray ++ ws.toArray = (vs ++ ws).toArray := by simp
  refine concat_meets ⟨_, e, rfl⟩ ⟨_, e2, rfl⟩ noFill_list_add seq_list_add PySem.F.slot_list_add PySem.F.entry_list_add (PySem.F.args_list_add_2 _ _) (list_addW a a2 vs.toArray ws.toArray n n2 none none #[] #[] (by simpa using hsz)) ⟨e, e2, ?_⟩
  rw [ee]
  exact lift_mk (c := c) (Q := Q) (t := tk) (q _ _ (S.pushN (o := lstObj (vs ++ ws) 0) rfl (by show Value.type "list" ≠ _; decide)))
theorem r_listMeth {o : Expr} {name : Str} {id : String} {apos pos : Pos} {args : List Expr} (slot : Slot "list" name id) (hty : typeOf (.builtin id) = pure (.type "method_descriptor"))
    (x : WP c A (eval o env) (fun ov h => ((c.st h 0).TypeIs ov "list" ∧ ∀ a, ov = .ref a → ∃ ob, h.get? a = some ob ∧ ob.dict = none) ∧
      WP c A (spliced (backTo pos (starEach args env))) (fun vs h => WP c A (call (.builtin id) (ov :: vs) []) Q E h) E h) E h)
    (z : attributeBase o name env (eval o env) = eval o env ∧ ((backTo pos (starEach args env)).all (fun x => !x.1) && (backToKw pos (keywordEach [] env)).all (fun x => x.1.isSome)
      && decide (args.length + ([] : List Keyword).length + (if ([] : List Keyword).isEmpty then 0 else 1) < 30)) = true ∧ (apos.endLine == pos.line) = true ∧ (backTo pos (starEach args env)).any (·.1) = false) :
    WP c A (eval (.Call (.Attribute o name apos) args [] pos) env) Q E h := r_Method F.plainAttrs_list slot hty x z.1 z.2.1 z.2.2.1 z.2.2.2
theorem strsOf : ∀ {l : List (Str × Tok)} {xs : List Str}, l.map (·.1) = xs → StrsAre (strValues l) xs
  | [], _, e => e ▸ .nil
  | (x, t) :: l, _, e => e ▸ .cons x t (strsOf rfl)
theorem strsBack : ∀ {vs : List Value} {xs : List Str}, StrsAre vs xs → ∃ l : List (Str × Tok), strValues l = vs ∧ l.map (·.1) = xs
  | _, _, .nil => ⟨[], rfl, rfl⟩
  | _, _, .cons x t r => by obtain ⟨l, e1, e2⟩ := strsBack r; exact ⟨(x, t) :: l, by rw [← e1]; rfl, by rw [← e2]; rfl⟩
theorem c_join {xs : List Str} (e : h.get? a = some (lstObj vs n)) (hv : StrsAre vs xs) (hok : JoinOk x xs = true) (q : ∀ t, Q (.str (Txt.join x xs) t) h) : WP c A (call (.builtin "str.join") [.str x t, .ref a] []) Q E h := fun tk => by
  obtain ⟨l, rfl, e2⟩ := strsBack hv
  exact SC.join (lst_is e) e2 hok fun t' k => lift_mk (q t')
end
end

theorem slashLen : (Str.ofString "/").length = 1 := by decide +kernel
section
variable {c : Cfg} {A : Around} {E : Value → Heap → Prop} {h : Heap} {env : Env}
theorem r_TryOk {body : List Stmt} {h₀ : ExceptHandler} {hs : List ExceptHandler} {pos : Pos} {Q : Flow → Heap → Prop}
    (x : WP c A (execs body env) Q (fun _ _ => False) h) : WP c A (exec (.Try body (h₀ :: hs) [] [] pos) env) Q E h := fun tk => by
  refine wpAny_Try_except (wpAny_mono (x tk) (fun f s q => ?_) fun _ _ q => ?_)
  · obtain ⟨h', t', rfl, q⟩ := q
    cases f with
    | next => exact wpAny_execs_nil (lift_mk q)
    | _ => exact lift_mk q
  · obtain ⟨_, _, _, q⟩ := q; exact q.elim
end
local macro_rules | `(tactic| isplit) => `(tactic| first
  | with_reducible (first
    | refine bOp_eqS ?_
    | refine bOp_neS ?_
    | refine bOp_ltS ?_
    | refine bOp_eqI ?_
    | refine bOp_neI ?_
    | refine bOp_gtI ?_
    | refine bOp_ltI ?_
    | refine c_startswith ?_
    | refine c_endswith ?_
    | refine r_partNone ?_
    | refine r_partSome ?_
    | refine r_Slice ?_
    | refine strM ?_
    | refine r_TryOk ?_
    | refine bOp_addI fun _ => ?_
    | refine c_rfind fun _ => ?_
    | refine unaryNeg fun _ => ?_
    | refine' bOp_addS (fun _ => ?_) ?nz
      case nz => lcg_sub
    | refine' bOp_iaddS (fun _ => ?_) ?nz
      case nz => lcg_sub
    | refine' c_rstrip (fun _ => ?_) ?nz
      case nz => lcg_sub
    | refine' c_lenS (fun _ => ?_) ?nz
      case nz => lcg_sub
    | refine' bOp_modI (fun _ => ?_) ?nz
      case nz => k_dflt (decide)
    | refine' bOp_divI (fun _ => ?_) ?nz ?np
      case nz => k_dflt (decide)
      case np => leaf_len
    | refine' r_truthy_str ?_ ?nz
      case nz => lcg_sub
    | refine' r_strMeth ?sl ?ty ?_ ?nz
      case sl => nest_fact
      case ty => nest_room
      case nz => one_item
    | refine' r_listMeth ?sl ?ty ?_ ?nz
      case sl => nest_fact
      case ty => nest_room
      case nz => one_item
    | refine' r_Sub ?_ ?ns
      case ns => k_dflt (exact ⟨_, fun _ _ => rfl⟩)
    | refine' g_strSlice ?nS ?npl ?npu ?nz ?_
      case nS => assumption
      case npl => constructor
      case npu => constructor
      case nz => lcg_sub
      intro _ h S
    | refine' lstM ?ne ?_
      case ne => lcg_off
    | refine' r_truthy_list ?ne ?nz ?_
      case ne => lcg_off
      case nz => lcg_sub
    | refine' c_lenL ?ne ?nz fun _ => ?_
      case ne => lcg_off
      case nz => lcg_sub
    | refine' c_append ?nS ?nr ?nz ?_
      case nS => assumption
      case nr => lcg_src
      case nz => lcg_sub
      intro h n S
    | refine' g_listSlice ?nS ?ne ?npl ?npu ?nps ?n0 ?nz ?_
      case nS => assumption
      case ne => lcg_off
      case npl => constructor
      case npu => constructor
      case nps => constructor
      case n0 => mod_arm
      case nz => lcg_sub
      intro ad h S
    | refine' bOp_addL ?nS ?ne ?ne2 ?nz ?_
      case nS => assumption
      case ne => lcg_off
      case ne2 => lcg_off
      case nz => lcg_sub
      intro ad h S)
  | fail "no")
local macro_rules | `(tactic| nest_fact) => `(tactic| with_reducible first | exact F.slot_str_startswith | exact F.slot_str_endswith | exact F.slot_str_rfind | exact F.slot_str_rstrip | exact F.slot_str_split | exact F.slot_str_join | exact F.slot_list_append | exact F.slot_list_pop | exact F.slot_list_remove | exact F.slot_list_index)
local macro_rules | `(tactic| nest_room) => `(tactic| with_reducible first | exact F.type_str_startswith | exact F.type_str_endswith | exact F.type_str_rfind | exact F.type_str_rstrip | exact F.type_str_split | exact F.type_str_join | exact F.type_list_append | exact F.type_list_pop | exact F.type_list_remove | exact F.type_list_index)
local macro_rules | `(tactic| one_item) => `(tactic| k_dflt exact ⟨rfl, rfl, rfl, rfl⟩)
local macro_rules | `(tactic| lcg_src) => `(tactic| first
  | with_reducible first | exact Rep.head | (refine' Rep.tail ?zt; (case zt => lcg_src))
  | fail "no")
local macro_rules | `(tactic| lcg_off) => `(tactic| first | with_reducible assumption | (with_reducible refine' Sit.atN ?zS ?zr; (case zS => with_reducible assumption); (case zr => lcg_src)) | (with_reducible refine' Sit.atB ?zS ?zr; (case zS => with_reducible assumption); (case zr => with_reducible assumption)) | fail "no")
local macro_rules | `(tactic| lcg_sub) => `(tactic| k_dflt (first | with_reducible assumption | exact Nat.le_trans (by with_reducible assumption) (Nat.le_of_ble_eq_true rfl) | (simp only [sizeLine_eq, strLen_append, slashLen] at *; omega) | fail "no"))
local macro_rules | `(tactic| isplit) => `(tactic| first
  | with_reducible (first
    | refine r_execs_consQ ?_
      intro Tq kT
    | refine' absN ?kk ?_
      case kk => assumption
    | refine' absV ?kk ?_
      case kk => assumption
    | refine' absH ?kk ?_
      case kk => assumption)
  | fail "no")

def join2 (x y : Str) : Str := bif Txt.startswith y "/" then y else bif !(x.length != 0) then y else bif Txt.endswith x "/" then x ++ y else x ++ (("/" : Str) ++ y)

theorem bindJoin {c : Cfg} {A : Around} {E : Value → Heap → Prop} {h : Heap} {fd : FuncData} {va vb : Value} {Q : List (Str × Value) → Heap → Prop}
   (x : WP c A (newTuple [vb]) (fun t h => Q [("a", va), ("p", t)] h) E h) (e : bindArgs fd ⟨[va, vb], []⟩ = (do let t ← newTuple [vb]; pure [("a", va), ("p", t)])) : WP c A (bindArgs fd ⟨[va, vb], []⟩) Q E h := by
  rw [e]
  exact .bind (x.monoQ fun t h q => .pure q)
section
variable {c : Cfg} {A : Around} {E : Value → Heap → Prop} {h : Heap} {b : Heap} {a : Addr} {K : Frag} {fd : FuncData} {args : List Value} {k : Nat} {oc : Value} {od : Option Addr} {sl : Array (Option Value)}
/-- .. whose arguments make objects -/
theorem callKB {body : List Stmt} {Q : Value → Heap → Prop} (W : World K b) (B : Base b h) (G : Good A h (k + 1)) (ho : K.lookup a = some ⟨oc, od, .func fd, sl⟩) (hcd : codeIn K fd.code fd.qualname = true)
    (x : WP c A.in1 (bindArgs fd ⟨args, []⟩) (fun binds h₁ => ∃ b₁ N₁, Sit b h b₁ [] N₁ h₁ ∧ ∀ L h₂ env, env.frame = some L → EnvOk env L fd.scope.names [] → Sit b h b₁ [(L, "frame", fun _ => none)] N₁ h₂ →
      WP c A.in1 (storeAll env binds) (fun _ h₃ => Base b h₃ ∧ WP c (A.deeper env) (execs body env) (fun f h' => Q (retOf f) h') (fun _ _ => False) h₃) (fun _ _ => False) h₂) (fun _ _ => False) h)
    (hbody : fd.body = .stmts body := by rfl) (hcl : fd.closure = [] := by rfl) (hnc : fd.scope.names.all (fun x => x.2 != .cell) = true := by rfl)
    (hco : fd.scope.isCoroutine = false := by rfl) (hgen : fd.scope.isGenerator = false := by rfl) (hk : fd.scope.kind = .function := by rfl) (hg : fd.globals = mainGlobals := by rfl) (hb : fd.builtins = builtinsNs := by rfl) :
    WP c A (call (.ref a) args) Q E h := by
  refine r_callRef (callDef (R := fun r h => match r with | .ok (.ret v) => Q v h | .ok _ => False | .error e => E e h) W B G (B.stays _ _ (W.k _ _ ho)) rfl (codeRec_of (fun a o e => B.stays _ _ (W.k a o e)) hcd) hbody hco hgen hk hg hb ?_)
  refine x.monoQ fun binds h₁ ⟨b₁, N₁, S, q⟩ => ⟨b₁, N₁, S, fun L h₂ env _ hf H S => ?_⟩
  rw [(cells_none _ _ hnc).1] at S
  rw [(cells_none _ _ hnc).2, hcl] at H
  exact q L h₂ env hf H S
end
theorem use0 {c : Cfg} {A : Around} {E : Value → Heap → Prop} {b₀ h₀ b h : Heap} {fs : List Fent} {N : List (Addr × Obj)} {f : Value} {args : List Value} {kw : List (Str × Value)} {P : Value → Prop} {Q : Value → Heap → Prop}
    (g : Gives c A b h f args kw (fun _ v => P v)) (S : Sit b₀ h₀ b fs N h) (q : ∀ v h', Sit b₀ h₀ b fs N h' → P v → Q v h') : WP c A (call f args kw) Q E h :=
  (g E).monoQ fun v h' ⟨b', gr, p⟩ => q v h' (S.ext' gr.ext) p
local macro_rules | `(tactic| isplit) => `(tactic| first
  | with_reducible (first
    | refine' use0 (fspath_ok ?nW ?nB ?nG) ?nS ?_
      case nS => assumption
      case nW => mem_news
      case nB => nest_cls
      case nG => units_room
      intro _ h S p
      k_dflt subst p
    | refine' use0 (get_sep_ok ?nW ?nB ?nG) ?nS ?_
      case nS => assumption
      case nW => mem_news
      case nB => nest_cls
      case nG => units_room
      intro _ h S p
      k_dflt obtain ⟨_, rfl⟩ := p)
  | fail "no")
local macro_rules | `(tactic| units_room) => `(tactic| first
  | k_dflt exact Good.le (Good.now (by with_reducible assumption) (by with_reducible assumption) (.head _) (by with_reducible assumption) (EnvOk.kind (by with_reducible assumption))) (by decide)
  | fail "no")

local macro_rules | `(tactic| isplit) => `(tactic| first
  | with_reducible (first
    | refine' n_localL ?nS ?nH ?nv ?nx ?_
      case nS => assumption
      case nH => assumption
      case nx => kln_le
      case nv => kpf_c)
  | fail "no")
local macro_rules | `(tactic| isplit) => `(tactic| first
  | with_reducible (first
    | refine' r_For ?_ ?hs
      case hs => k_dflt (intro _; rfl))
  | fail "no")
local macro_rules | `(tactic| kpf_c) => `(tactic| first
  | with_reducible assumption
  | fail "no")
theorem is_tup {h : Heap} {a : Addr} {vs : List Value} (e : h.get? a = some (tupObj vs)) : h.IsTuple a vs.toArray := ⟨_, e, rfl, _, rfl⟩
theorem join_ok {c : Cfg} {A : Around} {b h : Heap} {x y : Str} {t u : Tok} (W : Wd c b) (B : Base b h) (G : Good A h 10) (hx : x.length ≤ 1000) (hy : y.length ≤ 1000) : Gives c A b h (.ref 153) [.str x t, .str y u] [] (fun _ v => ∃ t, v = .str (join2 x y) t) := by
  intro E
  refine callKB W B G rfl (by rfl) ?_
  refine bindJoin ?_ (by rfl)
  refine r_newTuple (Sit.start B) (by rw [sizeLine_eq]; simp) fun ad b' h' S st eo => ⟨b', [], S, fun L h' env hf H S => ?_⟩
  dsimp only at H
  clear st
  repeat isplit
  refine r_iterTuple S (show A.handled = none from G.hd) (is_tup eo) fun I o h' It S j X => ?_
  refine r_forLoop X (fun i b fs N => N = [] ∧ ∃ m, fs = [(L, "frame", m)] ∧ (∃ z t, m (Str.ofString "path") = some (.str z t) ∧ (i = 0 → z = x) ∧ (i ≠ 0 → z = join2 x y)) ∧ ∃ t, m (Str.ofString "sep") = some (.str "/" t)) ?turn ?done S (fun _ _ e => e) j ⟨rfl, _, rfl, ⟨x, t, by kpf_c, fun _ => rfl, fun q => absurd rfl q⟩, _, by kpf_c⟩
  case turn =>
    rintro i v b₂ fs N h o' Tq kT hi hv st ⟨rfl, m, rfl, ⟨z, tp, ep, ez, _⟩, ts, es⟩ S
    obtain rfl : i = 0 := by simpa using hi
    obtain rfl := ez rfl
    obtain rfl : Value.str y u = v := by simpa using hv
    repeat' isplit
    all_goals refine ⟨_, _, _, st, ⟨rfl, _, rfl, ⟨_, _, by kpf_c, fun q => absurd q (by simp), fun _ => ?_⟩, _, by kpf_c⟩, S⟩
    all_goals simp only [join2, *, cond_true, cond_false]
  case done =>
    rintro b fs N h st ⟨rfl, m, rfl, ⟨z, tp, ep, _, ez⟩, ts, es⟩ S
    repeat isplit
    exact ⟨_, S.done, tp, by rw [ez (by simp)]; rfl⟩

theorem brK1 {b : Bool} {P R : Prop} (h : b = true) (p : P) : Br b P R := by subst h; exact p
theorem brK0 {b : Bool} {P R : Prop} (h : b = false) (p : R) : Br b P R := by subst h; exact p
theorem brN1 {b : Bool} {P R : Prop} (h : b = true) (p : R) : Br (!b) P R := by subst h; exact p
theorem brN0 {b : Bool} {P R : Prop} (h : b = false) (p : P) : Br (!b) P R := by subst h; exact p
local macro_rules | `(tactic| isplit) => `(tactic| first
  | with_reducible (first
    | refine' brK1 ?hb ?_
      case hb => assumption
    | refine' brK0 ?hb ?_
      case hb => assumption
    | refine' brN1 ?hb ?_
      case hb => assumption
    | refine' brN0 ?hb ?_
      case hb => assumption)
  | fail "no")
section
variable {c : Cfg} {A : Around} {E : Value → Heap → Prop} {h : Heap} {env : Env} {x : Str} {n : Nat} {t u : Tok} {Q : Value → Heap → Prop}
theorem bOp_mulS (q : ∀ t, Q (.str (Txt.mul x n) t) h) (hx : x.length ≤ 1000) (hn : n ≤ 1000) : WP c A (binaryOp .Mult (.str x t) (.int n u)) Q E h := fun tk => by
  refine SB.mul ⟨?_, ?_, ?_⟩ fun t' k => lift_mk (q t')
  · have a : ¬ ((n : Int) < -(2 ^ 63 : Int)) := by omega
    have b : ¬ ((n : Int) ≥ 2 ^ 63) := by omega
    rw [decide_eq_false a, decide_eq_false b]; rfl
  · intro h1 _ h3
    have hn0 : 1 ≤ (n : Int) := by omega
    have : (1000 : Int) ≤ (2 ^ 63 - 1) / n := by
      rw [Int.le_ediv_iff_mul_le (by omega)]; omega
    omega
  · intro _ _
    unfold Builtin.Str.tooLong
    have : x.length * n ≤ 1000 * 1000 := Nat.mul_le_mul hx hn
    rw [sizeLine_eq]
    simp only [Int.toNat_natCast, decide_eq_false_iff_not]
    omega
theorem ext_of_but {h h' : Heap} (x : Heap.ExtBut h.objs.size h h') : Ext h h' := fun a o e => ⟨o, x a o (Nat.ne_of_lt (Heap.lt_size e)) e, rfl, rfl, fun _ => rfl⟩
theorem r_AssignTup {elts k tpos value pos} {Q : Flow → Heap → Prop}
    (x : WP c A (eval value env) (fun v h => WP c A (assign (.Tuple elts k tpos) env v) (fun _ => Q .next) E h) E h)
    (hs : swapsWithSole [.Tuple elts k tpos] value pos.line env = pure false) (hw : swappedStores [.Tuple elts k tpos] value env = pure none) :
    WP c A (exec (.Assign [.Tuple elts k tpos] value pos) env) Q E h := fun tk =>
  PyProof.Rows.Assign_Tuple (wpAny_mono (x tk) (fun v s q => unl q) fun _ _ e => e) hs hw
theorem r_unpack {b₀ h₀ b : Heap} {fs : List Fent} {N : List (Addr × Obj)} {elts : List Expr} {k : Nat} {pos : Pos} {a : Addr} {vs : List Value} {Q : Unit → Heap → Prop} (S : Sit b₀ h₀ b fs N h) (e : h.get? a = some (tupObj vs)) (hh : A.handled = none)
    (hn : (assignEach elts env).length = vs.length) (hstar : (assignEach elts env).findIdx? (·.1) = none)
    (q : ∀ h', Sit b₀ h₀ b fs N h' → WP c A (assignInOrder ((assignEach elts env).map (·.2)) vs) Q E h') : WP c A (assign (.Tuple elts k pos) env (.ref a)) Q E h := fun tk =>
  wpAny_assign_Tuple (items := vs.toArray) hh (is_tup e) (by simpa using hn) hstar fun h' x => q h' (S.ext' (ext_of_but x)) tk
end
local macro_rules | `(tactic| isplit) => `(tactic| first
  | with_reducible (first
    | refine' bOp_mulS (fun _ => ?_) ?hx ?hn
      case hx => lcg_sub
      case hn => lcg_sub)
  | fail "no")
def dirnameS (p : Str) : Str := bif (Txt.slice p none (some (Txt.rfind p "/" + 1))).length != 0 then
    bif (Txt.slice p none (some (Txt.rfind p "/" + 1)) != Txt.mul "/" (Txt.slice p none (some (Txt.rfind p "/" + 1))).length) then Txt.rstripChars (Txt.slice p none (some (Txt.rfind p "/" + 1))) "/"
    else Txt.slice p none (some (Txt.rfind p "/" + 1)) else Txt.slice p none (some (Txt.rfind p "/" + 1))
theorem fn160 (P : Params) : fnIn (KK P) 160 = true := by kernel_rfl
theorem fn167 (P : Params) : fnIn (KK P) 167 = true := by kernel_rfl
theorem fn174 (P : Params) : fnIn (KK P) 174 = true := by kernel_rfl
theorem g_splitroot (P : Params) : nsIn (KK P) mainGlobals (Str.ofString "splitroot") = some (some (.ref 160)) := by kernel_rfl
theorem g_dirname (P : Params) : nsIn (KK P) mainGlobals (Str.ofString "dirname") = some (some (.ref 167)) := by kernel_rfl
theorem g_normpath (P : Params) : nsIn (KK P) mainGlobals (Str.ofString "normpath") = some (some (.ref 174)) := by kernel_rfl
local macro_rules | `(tactic| fold_lay) => `(tactic| first
  | with_reducible first | exact g_splitroot _ | exact g_dirname _ | exact g_normpath _
  | fail "no")
local macro_rules | `(tactic| k_offL) => `(tactic| first
  | with_reducible first | exact fn160 _ | exact fn167 _ | exact fn174 _
  | fail "no")
theorem dirname_ok {c : Cfg} {A : Around} {b h : Heap} {x : Str} {t : Tok} (W : Wd c b) (B : Base b h) (G : Good A h 10) (hx : x.length ≤ 1000) : Gives c A b h (.ref 167) [.str x t] [] (fun _ v => ∃ t, v = .str (dirnameS x) t) := by
  intro E
  refine callK0 (binds := [("p", .str x t)]) W B G rfl (by rfl) fun L h' env hf H S => ?_
  dsimp only at H
  have hz : (Txt.slice x none (some (Txt.rfind x (Str.ofString "/") + 1))).length ≤ 1000 := Nat.le_trans (Txt.slice_le x _ _) hx
  repeat' isplit
  all_goals exact ⟨_, S.done, _, by simp only [dirnameS, *, cond_true, cond_false]; rfl⟩
theorem splitroot_ok {c : Cfg} {A : Around} {b h : Heap} {x : Str} {t : Tok} (W : Wd c b) (B : Base b h) (G : Good A h 10) (hx : x.length ≤ 1000)
    (h1 : (Txt.slice x none (some 1) != ("/" : Str)) = false) (h2 : (Txt.slice x (some 1) (some 2) != ("/" : Str)) = true) :
    Gives c A b h (.ref 160) [.str x t] [] (fun b' v => ∃ a t1 t2 t3, v = .ref a ∧ b'.get? a = some (tupObj [.str "" t1, .str "/" t2, .str (Txt.slice x (some 1) none) t3])) := by
  intro E
  refine callK0 (binds := [("p", .str x t)]) W B G rfl (by rfl) fun L h' env hf H S => ?_
  dsimp only at H
  repeat' isplit
  all_goals exact ⟨_, S.done, _, _, _, _, rfl, eo⟩

section
open PySem.Builtin PySem.Builtin.Str
section
variable {c : Cfg} {A : Around} {E : Value → Heap → Prop} {h : Heap} {env : Env} {b₀ h₀ b : Heap} {fs : List Fent} {N : List (Addr × Obj)} {x y : Str} {t u : Tok} {Q : Value → Heap → Prop}
theorem c_split (S : Sit b₀ h₀ b fs N h) (hx : x.length ≤ 1000) (hy : (y.length == 0) = false) (hn : (partsBetween x (occurrences x y 0 x.length (x.length + 1)) y.length).length ≤ sizeLine)
    (q : ∀ a vs h', Sit b₀ h₀ b fs ((a, lstObj vs 0) :: N) h' → StrsAre vs (Txt.split x y) → Q (.ref a) h') : WP c A (call (.builtin "str.split") [.str x t, .str y u] []) Q E h := fun tk => by
  have fin : ∀ (l : List (Str × Tok)) k, l.map (·.1) = Txt.split x y → c.lift Q (.ref h.objs.size) (c.st (h.push (lstObj (strValues l) 0)) k) := fun l k e =>
    lift_mk (q _ _ _ (S.pushN (o := lstObj (strValues l) 0) rfl (by show Value.type "list" ≠ _; decide)) (strsOf e))
  have hx' : x.length ≤ sizeLine := by rw [sizeLine_eq]; omega
  cases h1 : (decide (x.length < y.length) || decide (strKind x < strKind y)) with
  | false =>
    cases hf : (occurrences x y 0 x.length (x.length + 1)).isEmpty with
    | false =>
      refine call_meets F.slot_str_split (typeIs_str _ _ _) F.entry_str_split (F.args_str_split_2 _ _) (meets_str_split_sep x y t u h1 hy hf hx' hn) ?_
      show c.lift Q _ _
      rw [strsFrom_eq]
      exact fin _ _ ((numbered_texts _ _).trans ((if_neg (ne_true_of_eq_false h1)).trans (if_neg (ne_true_of_eq_false hf))).symm)
    | true =>
      exact call_meets F.slot_str_split (typeIs_str _ _ _) F.entry_str_split (F.args_str_split_2 _ _) (meets_str_split_not_found x y t u h1 hy hf)
        (fin [(x, t)] tk ((if_neg (ne_true_of_eq_false h1)).trans (if_pos hf)).symm)
  | true =>
    exact call_meets F.slot_str_split (typeIs_str _ _ _) F.entry_str_split (F.args_str_split_2 _ _) (meets_str_split_cannot_occur x y t u h1)
      (fin [(x, t)] tk (if_pos h1).symm)
theorem r_Continue {pos : Pos} {Q : Flow → Heap → Prop} (q : Q .cont h) : WP c A (exec (.Continue pos) env) Q E h := by
  rw [arm_exec_Continue]
  exact .bind (.standAt (.pure q))
theorem asg_nil {l : List Value} {Q : Unit → Heap → Prop} (q : Q () h) : WP c A (assignInOrder (List.map (fun x => x.snd) (assignEach [] env)) l) Q E h := .pure q
theorem asg_name {x : Str} {pos : Pos} {v : Value} {rest : List Expr} {vs : List Value} {Q : Unit → Heap → Prop} (q : WP c A (storeName env x v) (fun _ h => WP c A (assignInOrder (List.map (fun x => x.snd) (assignEach rest env)) vs) Q E h) E h) :
    WP c A (assignInOrder (List.map (fun x => x.snd) (assignEach (.Name x pos :: rest) env)) (v :: vs)) Q E h := by
  show WP c A (do holding vs (assign (.Name x pos) env v); assignInOrder (List.map (fun x => x.snd) (assignEach rest env)) vs) Q E h
  rw [arm_assign_Name]
  exact .bind (.holding (.bind (.standAt (.bindName q))))
end
theorem mid {b : Bool} {P R : Prop} (m : Bool) (hb : b = m) (p : Br m P R) : Br b P R := hb ▸ p
def nstep (acc : List Str) (k : Str) : List Str :=
  bif !(k.length != 0) then acc else bif k == "." then acc else
  bif k != ".." then acc ++ [k] else
  match acc.getLast? with
  | none => acc
  | some z => bif z == ".." then acc ++ [k] else acc.dropLast
def normComps (x : Str) : List Str := (Txt.split (Txt.slice x (some 1) none) "/").foldl nstep []
def normS (x : Str) : Str := ("/" : Str) ++ Txt.join "/" (normComps x)
structure NormOk (x : Str) : Prop where
  hx : x.length ≤ 1000
  h0 : (x.length != 0) = true
  h1 : (Txt.slice x none (some 1) != ("/" : Str)) = false
  h2 : (Txt.slice x (some 1) (some 2) != ("/" : Str)) = true
  hn : (partsBetween (Txt.slice x (some 1) none) (occurrences (Txt.slice x (some 1) none) "/" 0 (Txt.slice x (some 1) none).length ((Txt.slice x (some 1) none).length + 1)) 1).length ≤ 1000
  hk : (Txt.split (Txt.slice x (some 1) none) "/").length ≤ 1000
  hj : JoinOk "/" (normComps x) = true
  hl : (Txt.join "/" (normComps x)).length ≤ 1000
  ha : ∀ k ∈ Txt.split (Txt.slice x (some 1) none) "/", k.length ≤ 1000
end

theorem exN {P : Prop} (p : P) : (∀ a, Value.none ≠ .ref a) ∧ P := ⟨(fun _ e => nomatch e), p⟩
theorem exS {x : Str} {t : Tok} {P : Prop} (p : P) : (∀ a, Value.str x t ≠ .ref a) ∧ P := ⟨(fun _ e => nomatch e), p⟩
theorem strs_get : ∀ {vs : List Value} {xs : List Str}, StrsAre vs xs → ∀ {i : Nat} {v : Value}, vs[i]? = some v → ∃ k t, v = .str k t ∧ xs[i]? = some k
  | _, _, .nil, _, _, e => by simp at e
  | _, _, .cons x t r, 0, v, e => by simp at e; exact ⟨x, t, e.symm, rfl⟩
  | _, _, .cons x t r, i + 1, v, e => by simpa using strs_get r (i := i) (v := v) (by simpa using e)
theorem strs_app : ∀ {vs ws : List Value} {xs ys : List Str}, StrsAre vs xs → StrsAre ws ys → StrsAre (vs ++ ws) (xs ++ ys)
  | _, _, _, _, .nil, h => h
  | _, _, _, _, .cons x t r, h => .cons x t (strs_app r h)
theorem strs_len {vs : List Value} {xs : List Str} (h : StrsAre vs xs) : vs.length = xs.length := by
  induction h with
  | nil => rfl
  | cons x t r ih => simp [ih]
theorem strs_snoc {vs : List Value} {xs : List Str} {z : Str} (h : StrsAre vs (xs ++ [z])) : ∃ ws t, vs = ws ++ [.str z t] ∧ StrsAre ws xs := by
  induction xs generalizing vs with
  | nil => cases h with | cons x t r => cases r; exact ⟨[], t, rfl, .nil⟩
  | cons x xs ih =>
    cases h with
    | cons _ t r => obtain ⟨ws, t', rfl, q⟩ := ih r; exact ⟨_, t', rfl, .cons x t q⟩
theorem strs_nil {vs : List Value} (h : StrsAre vs []) : vs = [] := by cases h; rfl
theorem take_fold {α β : Type} (f : β → α → β) (b : β) (l : List α) (i : Nat) (k : α) (e : l[i]? = some k) : (l.take (i + 1)).foldl f b = f ((l.take i).foldl f b) k := by
  rw [List.take_add_one, e]; simp [List.foldl_append]
section
variable {acc : List Str} {k z : Str}
theorem ns_empty (h : (!(k.length != 0)) = true) : acc = nstep acc k := by simp only [nstep, h, cond_true]
theorem ns_dot (h : (!(k.length != 0)) = false) (h2 : (k == Str.ofString ".") = true) : acc = nstep acc k := by simp only [nstep, h, h2, cond_true, cond_false]
theorem ns_push (h : (!(k.length != 0)) = false) (h2 : (k == Str.ofString ".") = false) (h3 : (k != Str.ofString "..") = true) : acc ++ [k] = nstep acc k := by simp only [nstep, h, h2, h3, cond_true, cond_false]
theorem ns_nil (h : (!(k.length != 0)) = false) (h2 : (k == Str.ofString ".") = false) (h3 : (k != Str.ofString "..") = false) : [] = nstep [] k := by simp only [nstep, h, h2, h3, cond_true, cond_false, List.getLast?_nil]
theorem ns_up (h : (!(k.length != 0)) = false) (h2 : (k == Str.ofString ".") = false) (h3 : (k != Str.ofString "..") = false) (h4 : (z == Str.ofString "..") = true) : acc ++ [z] ++ [k] = nstep (acc ++ [z]) k := by
  simp only [nstep, h, h2, h3, h4, cond_true, cond_false, List.getLast?_concat]
theorem ns_drop (h : (!(k.length != 0)) = false) (h2 : (k == Str.ofString ".") = false) (h3 : (k != Str.ofString "..") = false) (h4 : (z == Str.ofString "..") = false) : acc = nstep (acc ++ [z]) k := by
  simp only [nstep, h, h2, h3, h4, cond_true, cond_false, List.getLast?_concat, List.dropLast_concat]
end
local macro_rules | `(tactic| isplit) => `(tactic| first
  | with_reducible (first
    | refine exN ?_
    | refine exS ?_
    | refine r_Continue ?_
    | refine' r_AssignTup ?_ ?hs ?hw
      case hs => leaf_len
      case hw => leaf_len
    | refine' r_unpack ?nS ?ne ?nh ?nn ?nt ?_
      case nS => assumption
      case ne => lcg_off
      case nh => one_sign
      case nn => leaf_len
      case nt => leaf_len
      intro h S
    | refine asg_nil ?_
    | refine asg_name ?_
    | refine' g_listLast ?ne ?nz ?nv ?_
      case ne => lcg_off
      case nz => lcg_sub
      case nv => k_dflt (first | with_reducible assumption | exact List.getLast?_concat)
    | refine' c_pop ?nS ?nr ?nz ?_
      case nS => assumption
      case nr => lcg_src
      case nz => lcg_sub
      intro h n S
    | refine' c_join ?ne ?nv ?nk fun _ => ?_
      case ne => lcg_off
      case nv => assumption
      case nk => assumption)
  | fail "no")
local macro_rules | `(tactic| one_sign) => `(tactic| first
  | k_dflt exact (show A.handled = none from Good.hd (by with_reducible assumption))
  | fail "no")
local macro_rules | `(tactic| isplit) => `(tactic| first
  | with_reducible (first
    | refine' use (splitroot_ok ?nW ?nB ?nG ?n1 ?n2 ?n3) ?nS ?_
      case nS => assumption
      case nW => mem_news
      case nB => nest_cls
      case nG => units_room
      case n1 => assumption
      case n2 => assumption
      case n3 => assumption
      intro _ h b' S st p
      k_dflt obtain ⟨_, _, _, _, rfl, eo⟩ := p)
  | fail "no")
theorem normpath_ok {c : Cfg} {A : Around} {b h : Heap} {x : Str} {t : Tok} (W : Wd c b) (B : Base b h) (G : Good A h 20) (X : NormOk x) :
    Gives c A b h (.ref 174) [.str x t] [] (fun _ v => ∃ t, v = .str (normS x) t) := by
  intro E
  generalize hh₀ : h = h₀ at *
  obtain ⟨hx, h0, h1, h2, hn, hk, hj, hl, ha⟩ := X
  refine callK0 (binds := [("path", .str x t)]) W B G rfl (by rfl) fun L h' env hf H S => ?_
  dsimp only at H
  have hs := Txt.slice_le x (some 1) none
  repeat' isplit
  refine c_split S (by omega) (by decide +kernel) (by rw [sizeLine_eq, slashLen]; exact Nat.le_trans hn (by decide)) fun D vs h S hv => ?_
  have hvl := strs_len hv
  repeat' isplit
  obtain ⟨b₁, S, st₁, e₁⟩ := S.out (.tail .head)
  clear st
  refine r_iterList S (show A.handled = none from G.hd) (lst_is e₁) fun I o h It S j X => ?_
  refine r_forLoop X (fun i b fs N => Ex5 fun m ad ws n z => An10 (fs = [(L, "frame", m)]) (N = [(ad, lstObj ws n)]) (StrsAre ws z) (z = ((Txt.split (Txt.slice x (some 1) none) (Str.ofString "/")).take i).foldl nstep []) (z.length ≤ i) (m (Str.ofString "new_comps") = some (.ref ad)) ((∃ t, m (Str.ofString "sep") = some (.str "/" t))) ((∃ t, m (Str.ofString "dot") = some (.str "." t))) ((∃ t, m (Str.ofString "dotdot") = some (.str ".." t))) ((∃ t, m (Str.ofString "initial_slashes") = some (.str "/" t))))
    ?turn ?done S (fun _ _ e => e) j ⟨_, _, _, _, _, rfl, rfl, .nil, rfl, Nat.le_refl _, by kpf_c, ⟨_, by kpf_c⟩, ⟨_, by kpf_c⟩, ⟨_, by kpf_c⟩, ⟨_, by kpf_c⟩⟩
  case turn =>
    rintro i v b₂ fs N h o' Tq kT hi hvi st ⟨m, ad, ws, n, z, rfl, rfl, hw, hz, hzl, em, ⟨t1, e1⟩, ⟨t2, e2⟩, ⟨t3, e3⟩, ⟨t4, e4⟩⟩ S
    obtain ⟨k, tk, rfl, ek⟩ := strs_get hv hvi
    have hzk := take_fold nstep [] _ i k ek
    rw [← hz] at hzk
    have hkl := ha k (List.mem_of_getElem? ek)
    have hwl := strs_len hw
    rw [hvl] at hi
    have hs4 : ((Str.ofString "/").length != 0) = true := by rw [slashLen]; rfl
    have step : ∀ z' ws' n' m' h', StrsAre ws' z' → z' = nstep z k → z'.length ≤ i + 1 → m' (Str.ofString "new_comps") = some (.ref ad) → (∃ t, m' (Str.ofString "sep") = some (.str "/" t)) → (∃ t, m' (Str.ofString "dot") = some (.str "." t)) → (∃ t, m' (Str.ofString "dotdot") = some (.str ".." t)) →
        (∃ t, m' (Str.ofString "initial_slashes") = some (.str "/" t)) → Sit b h₀ b₂ [(L, "frame", m')] [(I, o'), (ad, lstObj ws' n')] h' →
        ∃ b' fs' N', b₁.StaysIn b' ∧ (Ex5 fun m ad ws n z => An10 (fs' = [(L, "frame", m)]) (N' = [(ad, lstObj ws n)]) (StrsAre ws z) (z = ((Txt.split (Txt.slice x (some 1) none) (Str.ofString "/")).take (i + 1)).foldl nstep []) (z.length ≤ i + 1) (m (Str.ofString "new_comps") = some (.ref ad)) ((∃ t, m (Str.ofString "sep") = some (.str "/" t))) ((∃ t, m (Str.ofString "dot") = some (.str "." t))) ((∃ t, m (Str.ofString "dotdot") = some (.str ".." t))) ((∃ t, m (Str.ofString "initial_slashes") = some (.str "/" t)))) ∧ Sit b h₀ b' fs' ((I, o') :: N') h' :=
      fun z' ws' n' m' h' a1 a2 a3 a4 a5 a6 a7 a8 a9 => ⟨_, _, _, st, ⟨_, _, _, _, _, rfl, rfl, a1, by rw [hzk]; exact a2, a3, a4, a5, a6, a7, a8⟩, a9⟩
    clear hz hzk
    rcases List.eq_nil_or_concat z with rfl | ⟨zs, zl, rfl⟩
    · obtain rfl := strs_nil hw
      have he : ([] : List Value).isEmpty = true := rfl
      repeat' isplit
      all_goals first
        | exact step _ _ _ _ _ .nil (ns_empty (by with_reducible assumption)) (Nat.zero_le _) (by kpf_c) ⟨_, by kpf_c⟩ ⟨_, by kpf_c⟩ ⟨_, by kpf_c⟩ ⟨_, by kpf_c⟩ S
        | exact step _ _ _ _ _ .nil (ns_dot (by with_reducible assumption) (by with_reducible assumption)) (Nat.zero_le _) (by kpf_c) ⟨_, by kpf_c⟩ ⟨_, by kpf_c⟩ ⟨_, by kpf_c⟩ ⟨_, by kpf_c⟩ S
        | exact step _ _ _ _ _ (.cons _ _ .nil) (ns_push (acc := []) (by with_reducible assumption) (by with_reducible assumption) (by with_reducible assumption)) (by simp) (by kpf_c) ⟨_, by kpf_c⟩ ⟨_, by kpf_c⟩ ⟨_, by kpf_c⟩ ⟨_, by kpf_c⟩ S
        | exact step _ _ _ _ _ .nil (ns_nil (by with_reducible assumption) (by with_reducible assumption) (by with_reducible assumption)) (Nat.zero_le _) (by kpf_c) ⟨_, by kpf_c⟩ ⟨_, by kpf_c⟩ ⟨_, by kpf_c⟩ ⟨_, by kpf_c⟩ S
    · rw [List.concat_eq_append] at *
      obtain ⟨ws, tl, rfl, hw'⟩ := strs_snoc hw
      have he : (ws ++ [Value.str zl tl]).isEmpty = false := by simp
      have hwl2 : ws.length + 1 ≤ 1000 := by simp at hwl hzl; omega
      repeat' isplit
      all_goals first
        | exact step _ _ _ _ _ hw (ns_empty (by with_reducible assumption)) (by simp only [List.length_append, List.length_cons, List.length_nil] at hzl ⊢; omega) (by kpf_c) ⟨_, by kpf_c⟩ ⟨_, by kpf_c⟩ ⟨_, by kpf_c⟩ ⟨_, by kpf_c⟩ S
        | exact step _ _ _ _ _ hw (ns_dot (by with_reducible assumption) (by with_reducible assumption)) (by simp only [List.length_append, List.length_cons, List.length_nil] at hzl ⊢; omega) (by kpf_c) ⟨_, by kpf_c⟩ ⟨_, by kpf_c⟩ ⟨_, by kpf_c⟩ ⟨_, by kpf_c⟩ S
        | exact step _ _ _ _ _ (strs_app hw (.cons _ _ .nil)) (ns_push (by with_reducible assumption) (by with_reducible assumption) (by with_reducible assumption)) (by simp only [List.length_append, List.length_cons, List.length_nil] at hzl ⊢; omega) (by kpf_c) ⟨_, by kpf_c⟩ ⟨_, by kpf_c⟩ ⟨_, by kpf_c⟩ ⟨_, by kpf_c⟩ S
        | exact step _ _ _ _ _ (strs_app hw (.cons _ _ .nil)) (ns_up (by with_reducible assumption) (by with_reducible assumption) (by with_reducible assumption) (by with_reducible assumption)) (by simp only [List.length_append, List.length_cons, List.length_nil] at hzl ⊢; omega) (by kpf_c) ⟨_, by kpf_c⟩ ⟨_, by kpf_c⟩ ⟨_, by kpf_c⟩ ⟨_, by kpf_c⟩ S
        | exact step _ _ _ _ _ hw' (ns_drop (by with_reducible assumption) (by with_reducible assumption) (by with_reducible assumption) (by with_reducible assumption)) (by simp only [List.length_append, List.length_cons, List.length_nil] at hzl ⊢; omega) (by kpf_c) ⟨_, by kpf_c⟩ ⟨_, by kpf_c⟩ ⟨_, by kpf_c⟩ ⟨_, by kpf_c⟩ S
  case done =>
    rintro b₂ fs N h st ⟨m, ad, ws, n, z, rfl, rfl, hw, hz, hzl, em, ⟨t1, e1⟩, ⟨t2, e2⟩, ⟨t3, e3⟩, ⟨t4, e4⟩⟩ S
    rw [hvl, List.take_length] at hz
    have hz2 : z = normComps x := hz
    subst hz2
    have hq : ((Str.ofString "/" ++ Txt.join (Str.ofString "/") (normComps x)).length != 0) = true := by rw [strLen_append, slashLen]; simp
    repeat' isplit
    exact ⟨_, S.done, _, rfl⟩

section
variable {c : Cfg} {A : Around} {E : Value → Heap → Prop} {h : Heap} {env : Env} {b₀ h₀ b : Heap} {fs : List Fent} {N : List (Addr × Obj)} {x y : Str} {t u : Tok} {Q : Value → Heap → Prop}
theorem c_iterList {l : Addr} {vs : List Value} (S : Sit b₀ h₀ b fs N h) (hl : b.IsList l vs.toArray)
    (q : ∀ I o h' It, Sit b₀ h₀ b fs ((I, o) :: N) h' → It 0 o → (∀ A' : Around, A'.handled = none → Iter c A' b I It vs.length (fun i v => vs[i]? = some v)) → Q (.ref I) h') : WP c A (call (.builtin "iter") [.ref l] []) Q E h := fun tk => by
  refine call_function_entry (by decide +kernel) (by decide +kernel) kdk_entry_iter (kdk_args_iter _) ?_
  unfold Builtin.«iter»
  refine wpAny_bind (m := someArgs "iter" 1 2 _) (wpAny_of_eq (a := [.ref l]) (by first | rfl | kernel_rfl!) ?_)
  show wpAny _ _ (pyIter (.ref l) >>= _) _ _ _
  refine wpAny_bind (wpAny_pyIter_list (hl.at fun o e => S.bh.stays _ _ e) ?_)
  exact wpAny_pure ⟨_, rfl, lift_mk (t := tk) (q _ _ _ _ (S.pushN (o := { cls := .type "list_iterator", data := .fields #[.ref l, .int 0 0] }) rfl (by show Value.type "list_iterator" ≠ _; decide)) ⟨rfl, rfl⟩ (fun A' hh => iter_list hh hl S.bh.fresh))⟩
theorem bOp_isStr {a : Addr} (q : Q (.bool false) h) : WP c A (compareOp .Is (.str x t) (.ref a)) Q E h := fun tk => wpAny_is_other rfl (fun e => nomatch e) (lift_mk q)
theorem bOp_isRef {a a' : Addr} {o o' : Obj} (ha : h.get? a = some o) (ha' : h.get? a' = some o') (n : a ≠ a') (hc : o.cls ≠ .type "tuple") (q : Q (.bool false) h) : WP c A (compareOp .Is (.ref a) (.ref a')) Q E h := fun tk =>
  wpAny_is_ref_other n ha ha' hc (lift_mk q)
end
section
variable {c : Cfg} {A : Around} {E : Value → Heap → Prop} {h : Heap} {b : Heap} {a : Addr} {K : Frag} {fd : FuncData} {args : List Value} {kw : List (Str × Value)} {k : Nat} {oc : Value} {od : Option Addr} {sl : Array (Option Value)}
/-- .. with defaults, or words -/
theorem callKP {body : List Stmt} {binds : List (Str × Value)} {Q : Value → Heap → Prop} (W : World K b) (B : Base b h) (G : Good A h (k + 1)) (ho : K.lookup a = some ⟨oc, od, .func fd, sl⟩) (hcd : codeIn K fd.code fd.qualname = true)
    (hbind : ∀ S, peek K S (bindArgs fd ⟨args, kw⟩) = some binds)
    (x : ∀ L h₂ env, env.frame = some L → EnvOk env L fd.scope.names [] → Sit b h b [(L, "frame", fun _ => none)] [] h₂ →
      WP c A.in1 (storeAll env binds) (fun _ h₃ => Base b h₃ ∧ WP c (A.deeper env) (execs body env) (fun f h' => Q (retOf f) h') (fun _ _ => False) h₃) (fun _ _ => False) h₂)
    (hbody : fd.body = .stmts body := by rfl) (hcl : fd.closure = [] := by rfl) (hnc : fd.scope.names.all (fun x => x.2 != .cell) = true := by rfl)
    (hco : fd.scope.isCoroutine = false := by rfl) (hgen : fd.scope.isGenerator = false := by rfl) (hk : fd.scope.kind = .function := by rfl) (hg : fd.globals = mainGlobals := by rfl) (hb : fd.builtins = builtinsNs := by rfl) :
    WP c A (call (.ref a) args kw) Q E h := by
  refine r_callRef (callDef (R := fun r h => match r with | .ok (.ret v) => Q v h | .ok _ => False | .error e => E e h) W B G (B.stays _ _ (W.k _ _ ho)) rfl (codeRec_of (fun a o e => B.stays _ _ (W.k a o e)) hcd) hbody hco hgen hk hg hb ?_)
  refine fun tk => kp_binds (s := c.st h tk) (fun a o e => B.stays _ _ (W.k a o e)) hbind _ _ _ _ (lift_mk ⟨b, [], Sit.start B, fun L h₂ env _ hf H S => ?_⟩)
  rw [(cells_none _ _ hnc).1] at S
  rw [(cells_none _ _ hnc).2, hcl] at H
  exact x L h₂ env hf H S
end
/-- the function that a call is handed -/
def FnIn (b : Heap) (f : Value) : Prop := ∃ a o fd, f = .ref a ∧ b.get? a = some o ∧ o.data = .func fd
theorem FnIn.keep {b b' h : Heap} {f : Value} (x : FnIn b f) (s : b.StaysIn b') (B : Base b' h) : KeepOk f h := let ⟨a, o, fd, e, g, d⟩ := x; .inr ⟨a, o, fd, e, B.stays _ _ (s _ _ g), d⟩
theorem keepF {b b₀ h₀ h b₂ : Heap} {fs : List Fent} {N : List (Addr × Obj)} {f : Value} {P : Prop} (x : FnIn b f) (S : Sit b₀ h₀ b₂ fs N h) (s : b.StaysIn b₂) (p : P) : KeepOk f h ∧ P := ⟨x.keep s S.bh, p⟩
theorem g_reduce (P : Params) : nsIn (KK P) mainGlobals (Str.ofString "reduce") = some (some (.ref 59)) := by kernel_rfl
theorem g_imissing (P : Params) : nsIn (KK P) mainGlobals (Str.ofString "_initial_missing") = some (some (.ref 51)) := by kernel_rfl
theorem fn59 (P : Params) : fnIn (KK P) 59 = true := by kernel_rfl
theorem gb_iter (P : Params) : nsIn (KK P) mainGlobals (Str.ofString "iter") = some none ∧ bootBuiltins (Str.ofString "iter") = some (.builtin "iter") := ⟨by kernel_rfl, by kernel_rfl⟩
theorem k51 (P : Params) : (KK P).lookup 51 = some { cls := .type "object" } := by first | rfl | kernel_rfl
theorem k52 (P : Params) : (KK P).lookup 52 = some (tupObj [.ref 51]) := by first | rfl | kernel_rfl
local macro_rules | `(tactic| fold_lay) => `(tactic| with_reducible first | exact g_reduce _ | exact g_imissing _)
local macro_rules | `(tactic| k_offL) => `(tactic| with_reducible first | exact fn59 _ | fail "no")
local macro_rules | `(tactic| k_places) => `(tactic| with_reducible first | exact gb_iter _ | fail "no")
local macro_rules | `(tactic| isplit) => `(tactic| first
  | with_reducible (first
    | refine bOp_isStr ?_)
  | fail "no")
theorem reduce_ok {c : Cfg} {A : Around} {b h : Heap} {f init : Value} {sq : Addr} {vs : List Value} {n : Nat} (W : Wd c b) (B : Base b h) (G : Good A h 40) (hF : FnIn b f) (hs : b.get? sq = some (lstObj vs n)) (Inv : Nat → Heap → Value → Prop)
    (stays : ∀ i b b' v, Inv i b v → b.StaysIn b' → Inv i b' v) (i0 : Inv 0 b init) (hm : (∃ x t, init = .str x t) ∨ ∃ a o, init = .ref a ∧ b.get? a = some o ∧ a ≠ 51 ∧ o.cls ≠ .type "tuple")
    (step : ∀ i v x b' h' A', vs[i]? = some x → b.StaysIn b' → Base b' h' → Inv i b' v → Good A' h' 39 → Gives c A' b' h' f [v, x] [] (fun b'' v' => Inv (i + 1) b'' v')) :
    Gives c A b h (.ref 59) [f, .ref sq, init] [] (fun b' v => Inv vs.length b' v) := by
  intro E
  refine callKP (binds := [("function", f), ("sequence", .ref sq), ("initial", init)]) W B G rfl (by rfl) (fun S => by rfl) fun L h' env hf H S => ?_
  dsimp only at H
  have his : ∀ {A' : Around} {Q : Value → Heap → Prop} {E : Value → Heap → Prop} {h' : Heap}, Base b h' → Q (.bool false) h' → WP c A' (compareOp .Is init (.ref 51)) Q E h' := by
    intro A' Q E h' B' q
    rcases hm with ⟨x, t, rfl⟩ | ⟨a, o, rfl, e, n, hc⟩
    · exact bOp_isStr q
    · exact bOp_isRef (B'.stays _ _ e) (B'.stays _ _ (W.k _ _ (k51 _))) n hc q
  repeat' isplit
  refine c_iterList S (lst_is hs) fun I o h It S j X => ?_
  repeat' isplit
  refine his S.bh ?_
  repeat' isplit
  refine (X (A.deeper env) G.hd).self 0 _ _ _ _ S.bh (S.nw (I, o) (.head _)).1 j ?_
  refine r_forLoop (X (A.deeper env) G.hd) (fun i b fs N => N = [] ∧ ∃ m v, fs = [(L, "frame", m)] ∧ m (Str.ofString "value") = some v ∧ m (Str.ofString "function") = some f ∧ Inv i b v) ?turn ?done S (fun _ _ e => e) j ⟨rfl, _, _, rfl, by kpf_c, by kpf_c, i0⟩
  case turn =>
    rintro i x b₂ fs N h o' Tq kT hi hv st ⟨rfl, m, v, rfl, ev, ef, iv⟩ S
    repeat' isplit
    refine keepF hF S st ?_
    refine use (step i v x _ _ _ hv st S.bh iv ?_) S fun v' h' b' S st' iv' => ?_
    · exact Good.le (Good.now G S (.head _) hf H.kind) (by decide)
    repeat' isplit
    exact ⟨_, _, _, fun a o e => st' _ _ (st _ _ e), ⟨rfl, _, _, rfl, by kpf_c, by kpf_c, iv'⟩, S⟩
  case done =>
    rintro b₂ fs N h st ⟨rfl, m, v, rfl, ev, ef, iv⟩ S
    repeat' isplit
    exact ⟨_, S.done, iv⟩

theorem fn181 (P : Params) : fnIn (KK P) 181 = true := by kernel_rfl
theorem fn188 (P : Params) : fnIn (KK P) 188 = true := by kernel_rfl
theorem fn195 (P : Params) : fnIn (KK P) 195 = true := by kernel_rfl
theorem fn200 (P : Params) : fnIn (KK P) 200 = true := by kernel_rfl
theorem g_lawtext (P : Params) : nsIn (KK P) mainGlobals (Str.ofString "_law_text") = some (some (.ref 181)) := by kernel_rfl
theorem g_lawway (P : Params) : nsIn (KK P) mainGlobals (Str.ofString "_law_way") = some (some (.ref 188)) := by kernel_rfl
theorem g_lawrows (P : Params) : nsIn (KK P) mainGlobals (Str.ofString "_law_rows") = some (some (.ref 195)) := by kernel_rfl
theorem g_lawkinds (P : Params) : nsIn (KK P) mainGlobals (Str.ofString "_law_kinds") = some (some (.ref 200)) := by kernel_rfl
local macro_rules | `(tactic| fold_lay) => `(tactic| with_reducible first | exact g_lawtext _ | exact g_lawway _ | exact g_lawrows _ | exact g_lawkinds _ | fail "no")
local macro_rules | `(tactic| k_offL) => `(tactic| with_reducible first | exact fn181 _ | exact fn188 _ | exact fn195 _ | exact fn200 _ | fail "no")
def fdOf (K : Frag) (a : Addr) : FuncData := match K.lookup a with | some ⟨_, _, .func fd, _⟩ => fd | _ => default
section
variable {c : Cfg} {A : Around} {E : Value → Heap → Prop} {h : Heap} {env : Env} {b₀ h₀ b : Heap} {fs : List Fent} {N : List (Addr × Obj)} {x y : Str} {t u : Tok} {Q : Value → Heap → Prop} {a : Addr} {vs : List Value} {v : Value} {i : Int} {j : Nat}
theorem g_tuple (e : h.get? a = some (tupObj vs)) (hi : i = (j : Int)) (hj : vs[j]? = some v) (hs : j < 1000) (q : Q v h) : GetIt c A (.ref a) (.int i t) Q E h := by
  subst hi
  have hjl : j < vs.length := by
    rcases Nat.lt_or_ge j vs.length with h | h
    · exact h
    · rw [List.getElem?_eq_none h] at hj; cases hj
  refine ⟨"tuple", _, F.slot_tuple_getitem.lookup, ⟨_, e, rfl⟩, fun tk => ?_⟩
  refine PyProof.Rows.getItem_tuple (j := j) (x := v) ⟨_, e, rfl, _, rfl⟩ (by omega) (by omega) ?_ (by simpa using hj) (lift_mk q)
  unfold seqIndex?
  have h1 : ¬ ((j : Int) < 0) := by omega
  simp only [h1, if_false]
  rw [if_pos (by simp; omega)]
  simp
end
theorem f153l (P : Params) : (KK P).lookup 153 = some ⟨.type "function", none, .func (fdOf (KK P) 153), #[]⟩ := by first | rfl | kernel_rfl
def pieceAt (n : Nat) : Str := if n = 0 then "a" else if n = 1 then "b" else if n = 2 then ".." else if n = 3 then "c" else "a"
def piecesG : Nat → Nat → List Str
  | 0, _ => []
  | k + 1, n => if n = 0 then [] else pieceAt (n % 5) :: piecesG k (n / 5)
theorem piecesG_le : ∀ (k n : Nat), n ≤ k → piecesG k n = piecesG n n
  | 0, n, h => by rw [Nat.le_zero.mp h]
  | k + 1, 0, _ => rfl
  | k + 1, n + 1, h => by
    show pieceAt ((n + 1) % 5) :: piecesG k ((n + 1) / 5) = pieceAt ((n + 1) % 5) :: piecesG n ((n + 1) / 5)
    rw [piecesG_le k _ (by omega), piecesG_le n _ (by omega)]
def piecesOf (n : Nat) : List Str := piecesG n n
def textOf (n : Nat) : Str := (piecesOf n).foldl join2 "/"
theorem piecesOf_pos {n : Nat} (h : 0 < n) : piecesOf n = pieceAt (n % 5) :: piecesOf (n / 5) := by
  obtain ⟨m, rfl⟩ : ∃ m, n = m + 1 := ⟨n - 1, by omega⟩
  show pieceAt ((m + 1) % 5) :: piecesG m ((m + 1) / 5) = _
  rw [piecesG_le m _ (by omega)]; rfl
theorem piecesOf_zero : piecesOf 0 = [] := rfl
theorem piece_len (n : Nat) : (pieceAt n).length ≤ 2 := by unfold pieceAt; split; decide; split; decide; split; decide; split <;> decide
theorem join2_len (x y : Str) : (join2 x y).length ≤ x.length + y.length + 1 := by
  unfold join2
  cases Txt.startswith y "/" <;> cases (!(x.length != 0)) <;> cases Txt.endswith x "/" <;> simp only [cond_true, cond_false, strLen_append, slashLen] <;> omega
theorem fold_len : ∀ (l : List Str) (x : Str), (∀ y ∈ l, y.length ≤ 2) → (l.foldl join2 x).length ≤ x.length + 3 * l.length
  | [], x, _ => by simp
  | y :: l, x, h => by
    have h1 := fold_len l (join2 x y) (fun z hz => h z (.tail _ hz))
    have h2 := join2_len x y
    have h3 := h y (.head _)
    simp only [List.foldl_cons, List.length_cons]; omega
theorem pieces_len : ∀ (k n : Nat), n < 5 ^ k → (piecesOf n).length ≤ k ∧ ∀ y ∈ piecesOf n, y.length ≤ 2
  | 0, n, h => by
    have : n = 0 := by simpa using h
    subst this; rw [piecesOf_zero]; simp
  | k + 1, n, h => by
    rcases Nat.eq_zero_or_pos n with rfl | hn
    · rw [piecesOf_zero]; simp
    · rw [piecesOf_pos hn]
      have := pieces_len k (n / 5) (by rw [Nat.pow_succ] at h; omega)
      refine ⟨by simp only [List.length_cons]; omega, fun y hy => ?_⟩
      rcases List.mem_cons.mp hy with rfl | hy
      · exact piece_len _
      · exact this.2 y hy
theorem law_sz {ws : List Value} {z r l : List Str} (hw : StrsAre ws z) (hz : l = z ++ r) (pl : l.length ≤ 3) : ws.length ≤ 1000 := by
  have := congrArg List.length hz
  rw [List.length_append] at this
  rw [strs_len hw]; omega
theorem lawtext_ok {c : Cfg} {A : Around} {b h : Heap} {n : Nat} {t : Tok} (W : Wd c b) (B : Base b h) (G : Good A h 60) (hn : n < 125) : Gives c A b h (.ref 181) [.int n t] [] (fun _ v => ∃ t, v = .str (textOf n) t) := by
  intro E
  obtain ⟨pl, pe⟩ := pieces_len 3 n hn
  refine callK0 (binds := [("n", .int n t)]) W B G rfl (by rfl) fun L h' env hf H S => ?_
  dsimp only at H
  generalize hh₀ : h = h₀ at *
  repeat' isplit
  refine r_While (fun k h => Ex6 fun b' m ws nn z t => An5 (Sit b h₀ b' [(L, "frame", m)] [(ad, lstObj ws nn)] h) (m (Str.ofString "n") = some (.int (k : Nat) t)) (m (Str.ofString "pieces") = some (.ref ad)) (StrsAre ws z) (piecesOf n = z ++ piecesOf k)) ?turn n ⟨_, _, _, _, _, _, S, by kpf_c, by kpf_c, .nil, rfl⟩
  case turn =>
    rintro k h Tq kT ⟨b', m, ws, nn, z, tk, S, en, ep, hw, hz⟩
    have hwl : ws.length ≤ 1000 := law_sz hw hz pl
    repeat' isplit
    · have hk : 0 < k := by
        have := of_decide_eq_true (by with_reducible assumption : decide ((0 : Int) < ((k : Nat) : Int)) = true)
        omega
      rw [piecesOf_pos hk] at hz
      have hi : ∀ (vs : List Value) (t1 t2 t3 t4 t5 : Tok), vs = [.str "a" t1, .str "b" t2, .str ".." t3, .str "c" t4, .str "a" t5] → ∃ tt, vs[k % 5]? = some (.str (pieceAt (k % 5)) tt) := by
        rintro vs t1 t2 t3 t4 t5 rfl
        have : k % 5 < 5 := Nat.mod_lt _ (by decide)
        generalize k % 5 = r at *
        match r, this with
        | 0, _ => exact ⟨t1, rfl⟩
        | 1, _ => exact ⟨t2, rfl⟩
        | 2, _ => exact ⟨t3, rfl⟩
        | 3, _ => exact ⟨t4, rfl⟩
        | 4, _ => exact ⟨t5, rfl⟩
      obtain ⟨tt, hj⟩ := hi _ _ _ _ _ _ rfl
      refine g_tuple (j := k % 5) (S.atB eo) (by rw [Int.fmod_eq_emod_of_nonneg _ (by decide)]; rfl) hj (by omega) ?_
      repeat' isplit
      exact ⟨k / 5, Nat.div_lt_self hk (by decide), _, _, _, _, _, _, S, upd_hd.trans (by rw [Int.fdiv_eq_ediv_of_nonneg _ (by decide)]; rfl), by kpf_c, strs_app hw (.cons _ _ .nil), by rw [hz]; simp⟩
    · have hk : k = 0 := by
        have := of_decide_eq_false (by with_reducible assumption : decide ((0 : Int) < ((k : Nat) : Int)) = false)
        omega
      subst hk
      rw [piecesOf_zero, List.append_nil] at hz
      subst hz
      repeat' isplit
      obtain ⟨b₁, S, st, e⟩ := S.out .head
      have hl1 : ws.length = (piecesOf n).length := strs_len hw
      refine use0 (P := fun v => ∃ t, v = .str (textOf n) t) (fun E => (reduce_ok (W.stays S.bb) S.bh ?nG ⟨153, _, _, rfl, S.bb _ _ (W.k _ _ (f153l _)), rfl⟩ e (fun i _ v => ∃ t, v = .str (((piecesOf n).take i).foldl join2 "/") t) (fun _ _ _ _ q _ => q) ⟨_, rfl⟩ (.inl ⟨_, _, rfl⟩) ?step E).monoQ fun v h' ⟨b', g, t, e⟩ => ⟨b', g, t, by rw [e, hl1, List.take_length]; rfl⟩) S ?rest
      case nG => exact Good.le (Good.now G S (.head _) hf H.kind) (by decide)
      case step =>
        rintro i v x b' h' A' hx st' B' ⟨t, rfl⟩ G' E
        obtain ⟨y, u, rfl, ey⟩ := strs_get hw hx
        have hy := pe y (List.mem_of_getElem? ey)
        have hz := fold_len ((piecesOf n).take i) "/" (fun z hz => pe z (List.mem_of_mem_take hz))
        have hti : ((piecesOf n).take i).length ≤ 3 := by rw [List.length_take]; omega
        rw [slashLen] at hz
        refine (join_ok ((W.stays S.bb).stays st') B' (G'.le (by decide)) (by omega) (by omega) E).monoQ fun v h' ⟨b', g, t, e⟩ => ⟨b', g, t, by rw [e, take_fold _ _ _ _ _ ey]⟩
      case rest =>
        rintro v h' S ⟨t, rfl⟩
        repeat' isplit
        exact ⟨_, S.done, t, rfl⟩

def wayB : List Str → Bool
  | [] => false
  | [x] => dirnameS x == x
  | x :: y :: r => (dirnameS x == y) && !(y == x) && wayB (y :: r)
def TxtL (b : Heap) (v : Value) (xs : List Str) : Prop := ∃ a vs n, v = .ref a ∧ b.get? a = some (lstObj vs n) ∧ StrsAre vs xs
theorem TxtL.stays {b b' : Heap} {v : Value} {xs : List Str} (x : TxtL b v xs) (s : b.StaysIn b') : TxtL b' v xs := let ⟨a, vs, n, e, g, q⟩ := x; ⟨a, vs, n, e, s _ _ g, q⟩
local macro_rules | `(tactic| isplit) => `(tactic| first
  | with_reducible (first
    | refine' use0 (dirname_ok ?nW ?nB ?nG ?nx) ?nS ?_
      case nS => assumption
      case nW => mem_news
      case nB => nest_cls
      case nG => units_room
      case nx => lcg_sub
      intro _ h S p
      k_dflt obtain ⟨_, rfl⟩ := p)
  | fail "no")
theorem lawway_ok {c : Cfg} {A : Around} {b h : Heap} {x : Str} {r : List Str} {t : Tok} (W : Wd c b) (B : Base b h) (G : Good A h 60) (hw : wayB (x :: r) = true) (hl : ∀ y ∈ x :: r, y.length ≤ 1000) (hn : (x :: r).length ≤ 500) :
    Gives c A b h (.ref 188) [.str x t] [] (fun b' v => TxtL b' v (x :: r)) := by
  intro E
  generalize hh₀ : h = h₀ at *
  refine callK0 (binds := [("place", .str x t)]) W B G rfl (by rfl) fun L h' env hf H S => ?_
  dsimp only at H
  repeat' isplit
  refine r_While (fun k h => Ex7 fun m ws nn z y s t => An6 (Sit b h₀ b [(L, "frame", m)] [(ad, lstObj (ws ++ [.str y t]) nn)] h) (m (Str.ofString "way") = some (.ref ad)) (StrsAre ws z) (x :: r = z ++ y :: s) (wayB (y :: s) = true) (s.length = k)) ?turn r.length ⟨_, [], _, [], x, r, t, S, by kpf_c, .nil, rfl, hw, rfl⟩
  case turn =>
    rintro k h Tq kT ⟨m, ws, nn, z, y, s, t', S, em, hz, hd, hb, hk⟩
    have hyl : y.length ≤ 1000 := hl y (by rw [hd]; simp)
    have hzl : (ws ++ [Value.str y t']).length ≤ 1000 := by
      have := congrArg List.length hd
      rw [List.length_append] at this
      rw [List.length_append, strs_len hz]
      simp only [List.length_cons, List.length_nil] at this hn ⊢
      omega
    cases s with
    | nil =>
      have hq : (dirnameS y == y) = true := hb
      repeat' isplit
      obtain ⟨b₁, S, st, e⟩ := S.out .head
      refine ⟨_, S.done, _, _, _, rfl, e, ?_⟩
      rw [hd]
      exact strs_app hz (.cons _ _ .nil)
    | cons y2 s =>
      obtain ⟨⟨h1, h2⟩, h3⟩ : (dirnameS y = y2 ∧ ¬ y2 = y) ∧ wayB (y2 :: s) = true := by simpa [wayB] using hb
      subst h1
      have hq : (dirnameS y == y) = false := by simpa using h2
      repeat' isplit
      exact ⟨s.length, by rw [← hk]; simp, _, _, _, z ++ [y], _, s, _, S, by kpf_c, strs_app hz (.cons _ _ .nil), by rw [hd]; simp, h3, rfl⟩

section
open PySem.Builtin.Range
def rngObj (a b c : Int) (t u v : Tok) : Obj := { cls := .type "range", dict := none, data := .fields #[.int a t, .int b u, .int c v], slots := #[] }
section
variable {c : Cfg} {A : Around} {E : Value → Heap → Prop} {h : Heap} {env : Env} {b₀ h₀ b : Heap} {fs : List Fent} {N : List (Addr × Obj)} {t u w : Tok} {Q : Value → Heap → Prop} {r I : Addr} {x y z : Int} {n : Nat}
theorem c_range1 (S : Sit b₀ h₀ b fs N h) (q : ∀ r b' h' t1 t2 t3, Sit b₀ h₀ b' fs N h' → b.StaysIn b' → b'.get? r = some (rngObj 0 x 1 t1 t2 t3) → Q (.ref r) h') : WP c A (call (.type "range") [.int x t] []) Q E h := fun tk => by
  obtain ⟨b', S', st, e⟩ := S.pushB (o := rngObj 0 x 1 tk t (tk + 1)) rfl (by show Value.type "range" ≠ _; decide)
  exact call_range_1 (lift_mk (t := tk + 1 + 1) (q _ _ _ _ _ _ S' st e))
theorem c_range3 (S : Sit b₀ h₀ b fs N h) (hz : z ≠ 0) (hp : Builtin.divisionGoesByPylong (y - x) z = false) (q : ∀ r b' h' t1 t2 t3, Sit b₀ h₀ b' fs N h' → b.StaysIn b' → b'.get? r = some (rngObj x y z t1 t2 t3) → Q (.ref r) h') : WP c A (call (.type "range") [.int x t, .int y u, .int z w] []) Q E h := fun tk => by
  obtain ⟨b', S', st, e⟩ := S.pushB (o := rngObj x y z t u w) rfl (by show Value.type "range" ≠ _; decide)
  exact call_range_3 hz (lift_mk (t := tk) (q _ _ _ _ _ _ S' st e)) (.inl hp)
theorem iter_range (hh : A.handled = none) (hI : b.get? I = none) : Iter c A b I (fun i o => o = { cls := .type "range_iterator", dict := none, data := .fields #[rawInt (x + (i : Nat) * z), rawInt ((n : Int) - (i : Nat)), rawInt z], slots := #[] }) n (fun i v => ∃ t, v = .int (x + i * z) t) := by
  have W := fun w => Walks.range (prog := c.p) (w := w) hh I x z n
  refine ⟨fun i o x => by rw [x]; show Value.type "range_iterator" ≠ _; decide, fun i h o E Q hi B e it q tk => ?_, fun h o E Q B e it q tk => ?_, fun i h o E Q B e it q tk => ?_⟩
  · subst it
    refine (W c.w).item i (c.st h tk) _ _ hi e fun v h' tk' hv st hk => ?_
    exact ⟨h', tk', rfl, q v h' _ hv st rfl fun x ox n e => hk x ox (by simpa using n) e⟩
  · subst it
    refine (W c.w).done (c.st h tk) _ _ e fun h' tk' hk => ?_
    exact ⟨h', tk', rfl, q h' fun x ox n e => hk x ox (by simpa using n) e⟩
  · subst it
    exact (W c.w).self i (c.st h tk) _ _ e (lift_mk q)
theorem r_iterRange {t1 t2 t3 : Tok} (S : Sit b₀ h₀ b fs N h) (hh : A.handled = none) (hr : b.get? r = some (rngObj x y z t1 t2 t3)) (hs : Builtin.Range.small x y z = true) (hn : rangeSize x y z = (n : Int))
    (q : ∀ I o h' It, Sit b₀ h₀ b fs ((I, o) :: N) h' → It 0 o → Iter c A b I It n (fun i v => ∃ t, v = .int (x + i * z) t) → Q (.ref I) h') : WP c A (pyIter (.ref r)) Q E h := fun tk => by
  refine wpAny_pyIter_range (S.atB hr) hs ?_
  have S' := S.pushN (o := { cls := .type "range_iterator", data := .fields #[rawInt x, rawInt (rangeSize x y z), rawInt z] }) rfl (by show Value.type "range_iterator" ≠ _; decide)
  rw [hn] at S' ⊢
  exact lift_mk (q _ _ _ _ S' (by simp) (iter_range hh S.bh.fresh))
end
theorem down_size (n : Nat) : rangeSize (n : Int) (-1) (-1) = ((n + 1 : Nat) : Int) := by
  unfold rangeSize
  simp
  omega
theorem down_small (n : Nat) (h : n ≤ 1000) : Builtin.Range.small (n : Int) (-1) (-1) = true := by
  unfold Builtin.Range.small
  rw [down_size]
  unfold rangeFitsLong
  simp
  omega
end

open PySem.SeqAt

section
/-! data at rest: what a value stands for -/
inductive AllD {α β : Type} (P : α → β → Prop) : List α → List β → Prop
  | nil : AllD P [] []
  | cons {x y xs ys} : P x y → AllD P xs ys → AllD P (x :: xs) (y :: ys)
namespace AllD
variable {α β : Type} {P P' : α → β → Prop} {xs xs' : List α} {ys ys' : List β}
theorem len (h : AllD P xs ys) : xs.length = ys.length := by induction h with | nil => rfl | cons _ _ ih => simp [ih]
theorem mono (h : AllD P xs ys) (f : ∀ x y, P x y → P' x y) : AllD P' xs ys := by induction h with | nil => exact .nil | cons a _ ih => exact .cons (f _ _ a) ih
theorem app (h : AllD P xs ys) (h' : AllD P xs' ys') : AllD P (xs ++ xs') (ys ++ ys') := by induction h with | nil => exact h' | cons a _ ih => exact .cons a ih
theorem get (h : AllD P xs ys) {i : Nat} {x : α} (e : xs[i]? = some x) : ∃ y, ys[i]? = some y ∧ P x y := by
  induction h generalizing i with
  | nil => simp at e
  | cons a _ ih => cases i with
    | zero => simp at e; subst e; exact ⟨_, rfl, a⟩
    | succ i => simpa using ih (by simpa using e)
theorem get' (h : AllD P xs ys) {i : Nat} {y : β} (e : ys[i]? = some y) : ∃ x, xs[i]? = some x ∧ P x y := by
  induction h generalizing i with
  | nil => simp at e
  | cons a _ ih => cases i with
    | zero => simp at e; subst e; exact ⟨_, rfl, a⟩
    | succ i => simpa using ih (by simpa using e)
theorem mem (h : AllD P xs ys) {x : α} (e : x ∈ xs) : ∃ y ∈ ys, P x y := by
  obtain ⟨i, hi⟩ := List.mem_iff_getElem?.mp e
  obtain ⟨y, hy, p⟩ := h.get hi
  exact ⟨y, List.mem_of_getElem? hy, p⟩
theorem take (h : AllD P xs ys) (n : Nat) : AllD P (xs.take n) (ys.take n) := by
  induction h generalizing n with
  | nil => simp; exact .nil
  | cons a _ ih => cases n with
    | zero => exact .nil
    | succ n => exact .cons a (ih n)
theorem drop (h : AllD P xs ys) (n : Nat) : AllD P (xs.drop n) (ys.drop n) := by
  induction h generalizing n with
  | nil => simp; exact .nil
  | cons a r ih => cases n with
    | zero => exact .cons a r
    | succ n => exact ih n
theorem dropLast (h : AllD P xs ys) : AllD P xs.dropLast ys.dropLast := by
  rw [List.dropLast_eq_take, List.dropLast_eq_take, h.len]; exact h.take _
theorem snoc {zs : List β} {z : β} (h : AllD P xs (zs ++ [z])) : ∃ ws w, xs = ws ++ [w] ∧ AllD P ws zs ∧ P w z := by
  induction zs generalizing xs with
  | nil => cases h with | cons a r => cases r; exact ⟨[], _, rfl, .nil, a⟩
  | cons y zs ih => cases h with | cons a r => obtain ⟨ws, w, rfl, q, p⟩ := ih r; exact ⟨_ :: ws, w, rfl, .cons a q, p⟩
end AllD

structure DT (α : Type) [DecidableEq α] where
  D : Heap → Value → α → Prop
  k : Nat
  stays : ∀ {b b' : Heap} {v : Value} {x : α}, D b v x → b.StaysIn b' → D b' v x
  inj : ∀ {b : Heap} {v : Value} {x y : α}, D b v x → D b v y → x = y
  eq : ∀ {A : Around} {s : Shared} {v w : Value} {x y : α}, D s.heap v x → D s.heap w y → A.units + k < cLine → EqAt A s v w (decide (x = y))

theorem AllD.inj {α : Type} [DecidableEq α] (T : DT α) {b : Heap} {vs : List Value} {xs ys : List α} (h : AllD (T.D b) vs xs) (h' : AllD (T.D b) vs ys) : xs = ys := by
  induction h generalizing ys with
  | nil => cases h'; rfl
  | cons a _ ih => cases h' with | cons a' r' => rw [T.inj a a', ih r']

theorem beq_dec {α : Type} [DecidableEq α] [BEq α] [LawfulBEq α] (x y : α) : (x == y) = decide (x = y) := by
  by_cases h : x = y
  · subst h; simp
  · rw [beq_eq_false_iff_ne.mpr h, decide_eq_false h]
def DT.str : DT Str where
  D := fun _ v x => ∃ t, v = .str x t
  k := 0
  stays := fun h _ => h
  inj := fun ⟨_, e⟩ ⟨_, e'⟩ => by rw [e] at e'; injection e'
  eq := by
    rintro A s v w x y ⟨t, rfl⟩ ⟨u, rfl⟩ hu
    rw [← beq_dec]; exact EqAt.str_str _ _ _ _
def DT.int : DT Int where
  D := fun _ v x => ∃ t, v = .int x t
  k := 0
  stays := fun h _ => h
  inj := fun ⟨_, e⟩ ⟨_, e'⟩ => by rw [e] at e'; injection e'
  eq := by
    rintro A s v w x y ⟨t, rfl⟩ ⟨u, rfl⟩ hu
    rw [← beq_dec]; exact EqAt.int_int _ _ _ _
/-- a list of such -/
def ListD {α : Type} [DecidableEq α] (T : DT α) (b : Heap) (v : Value) (xs : List α) : Prop := ∃ a vs n, v = .ref a ∧ b.get? a = some (lstObj vs n) ∧ AllD (T.D b) vs xs
theorem list_all {α : Type} [DecidableEq α] {xs ys : List α} (hl : xs.length = ys.length) : (List.range xs.length).all (fun j => decide (xs[j]? = ys[j]?)) = decide (xs = ys) := by
  rw [Bool.eq_iff_iff, List.all_eq_true, decide_eq_true_iff]
  constructor
  · intro h
    apply List.ext_getElem? 
    intro i
    rcases Nat.lt_or_ge i xs.length with hi | hi
    · exact of_decide_eq_true (h i (by simpa using hi))
    · rw [List.getElem?_eq_none hi, List.getElem?_eq_none (by omega)]
  · rintro rfl j _
    simp
theorem AllD.at {α : Type} [DecidableEq α] {T : DT α} {b : Heap} {vs : List Value} {xs : List α} (h : AllD (T.D b) vs xs) {j : Nat} (hj : j < vs.toArray.size) : ∃ x, xs[j]? = some x ∧ T.D b vs.toArray[j] x :=
  h.get (by simpa using List.getElem?_eq_getElem (by simpa using hj))
theorem list_rc {α : Type} [DecidableEq α] {T : DT α} {A : Around} {s : Shared} {a a' : Addr} {vs ws : List Value} {n n' : Nat} {xs ys : List α} (e : s.heap.get? a = some (lstObj vs n)) (e' : s.heap.get? a' = some (lstObj ws n')) (h : AllD (T.D s.heap) vs xs) (h' : AllD (T.D s.heap) ws ys) (hu : A.units + T.k + 1 < cLine) :
    RcAt A s (.ref a) (.ref a') (decide (xs = ys)) := by
  by_cases hl : xs.length = ys.length
  · rw [← list_all hl]
    have hsz : vs.toArray.size = ws.toArray.size := by simp [h.len, h'.len, hl]
    have := RcAt.lists (A := A) (e := fun j => decide (xs[j]? = ys[j]?)) (lst_is e) (lst_is e') hsz (by omega) fun j h1 h2 => by
      obtain ⟨x, ex, dx⟩ := h.at h1
      obtain ⟨y, ey, dy⟩ := h'.at h2
      rw [ex, ey]
      have := T.eq (A := A.in1) dx dy (by show A.units + 1 + T.k < cLine; omega)
      simpa using this
    rw [List.size_toArray, h.len] at this
    exact this
  · rw [decide_eq_false (fun q => hl (congrArg _ q))]
    exact RcAt.lists_lengths (lst_is e) (lst_is e') (by simp [h.len, h'.len, hl]) (by omega)
theorem list_ne {α : Type} [DecidableEq α] {T : DT α} {A : Around} {s : Shared} {a a' : Addr} {vs ws : List Value} {n n' : Nat} {xs ys : List α} (e : s.heap.get? a = some (lstObj vs n)) (e' : s.heap.get? a' = some (lstObj ws n')) (h : AllD (T.D s.heap) vs xs) (h' : AllD (T.D s.heap) ws ys) (hu : A.units + T.k + 1 < cLine) :
    RcNeAt A s (.ref a) (.ref a') (!decide (xs = ys)) := by
  by_cases hl : xs.length = ys.length
  · rw [← list_all hl]
    have hsz : vs.toArray.size = ws.toArray.size := by simp [h.len, h'.len, hl]
    have := RcNeAt.lists (A := A) (e := fun j => decide (xs[j]? = ys[j]?)) (lst_is e) (lst_is e') hsz (by omega) fun j h1 h2 => by
      obtain ⟨x, ex, dx⟩ := h.at h1
      obtain ⟨y, ey, dy⟩ := h'.at h2
      rw [ex, ey]
      have := T.eq (A := A.in1) dx dy (by show A.units + 1 + T.k < cLine; omega)
      simpa using this
    rw [List.size_toArray, h.len] at this
    exact this
  · rw [decide_eq_false (fun q => hl (congrArg _ q))]
    exact RcNeAt.lists_lengths (lst_is e) (lst_is e') (by simp [h.len, h'.len, hl]) (by omega)
theorem ListD.stays {α : Type} [DecidableEq α] {T : DT α} {b b' : Heap} {v : Value} {xs : List α} (h : ListD T b v xs) (s : b.StaysIn b') : ListD T b' v xs := let ⟨a, vs, n, e, g, q⟩ := h; ⟨a, vs, n, e, s _ _ g, q.mono fun _ _ d => T.stays d s⟩
def DT.list {α : Type} [DecidableEq α] (T : DT α) : DT (List α) where
  D := ListD T
  k := T.k + 1
  stays := ListD.stays
  inj := by
    rintro b v xs ys ⟨a, vs, n, rfl, g, q⟩ ⟨a', vs', n', e, g', q'⟩
    injection e with e
    subst e
    rw [g] at g'
    injection g' with g'
    have : vs = vs' := by
      have := congrArg Obj.data g'
      injection this with h1 h2
      simpa using h1
    subst this
    exact q.inj T q'
  eq := by
    rintro A s v w xs ys ⟨a, vs, n, rfl, g, q⟩ ⟨a', vs', n', rfl, g', q'⟩ hu
    by_cases haa : a = a'
    · subst haa
      rw [g] at g'
      injection g' with g'
      have : vs = vs' := by
        have := congrArg Obj.data g'
        injection this with h1 h2
        simpa using h1
      subst this
      rw [decide_eq_true (q.inj T q')]
      exact EqAt.same _
    · exact EqAt.of_refs haa (list_rc g g' q q' (by omega))
def PairD {α β : Type} [DecidableEq α] [DecidableEq β] (T : DT α) (U : DT β) (b : Heap) (v : Value) (p : α × β) : Prop := ∃ a x y, v = .ref a ∧ b.get? a = some (tupObj [x, y]) ∧ T.D b x p.1 ∧ U.D b y p.2
def DT.pair {α β : Type} [DecidableEq α] [DecidableEq β] (T : DT α) (U : DT β) : DT (α × β) where
  D := PairD T U
  k := T.k + U.k + 1
  stays := fun ⟨a, x, y, e, g, p, q⟩ s => ⟨a, x, y, e, s _ _ g, T.stays p s, U.stays q s⟩
  inj := by
    rintro b v ⟨p1, p2⟩ ⟨q1, q2⟩ ⟨a, x, y, rfl, g, d1, d2⟩ ⟨a', x', y', e, g', d1', d2'⟩
    injection e with e
    subst e
    rw [g] at g'
    injection g' with g'
    have := congrArg Obj.data g'
    injection this with h1 h2
    simp at h1
    obtain ⟨rfl, rfl⟩ := h1
    exact Prod.ext (T.inj d1 d1') (U.inj d2 d2')
  eq := by
    rintro A s v w ⟨p1, p2⟩ ⟨q1, q2⟩ ⟨a, x, y, rfl, g, d1, d2⟩ ⟨a', x', y', rfl, g', d1', d2'⟩ hu
    by_cases haa : a = a'
    · subst haa
      rw [g] at g'
      injection g' with g'
      have := congrArg Obj.data g'
      injection this with h1 h2
      simp at h1
      obtain ⟨rfl, rfl⟩ := h1
      have e1 := T.inj d1 d1'
      have e2 := U.inj d2 d2'
      rw [decide_eq_true (by rw [show p1 = q1 from e1, show p2 = q2 from e2])]
      exact EqAt.same _
    · have := RcAt.tuples (A := A) (e := fun j => if j = 0 then decide (p1 = q1) else decide (p2 = q2)) (is_tup g) (is_tup g') (by omega) fun j h1 h2 => by
        have hj : j < 2 := by simpa using h1
        match j, hj with
        | 0, _ => exact T.eq (A := A.in1) d1 d1' (by show A.units + 1 + T.k < cLine; omega)
        | 1, _ => exact U.eq (A := A.in1) d2 d2' (by show A.units + 1 + U.k < cLine; omega)
      have e : ((List.range (min [x, y].toArray.size [x', y'].toArray.size)).all (fun j => if j = 0 then decide (p1 = q1) else decide (p2 = q2)) && [x, y].toArray.size == [x', y'].toArray.size) = decide ((p1, p2) = (q1, q2)) := by
        show ((List.range 2).all _ && true) = _
        simp [List.range, List.range.loop, Bool.eq_iff_iff]
      rw [e] at this
      exact EqAt.of_refs haa this

section
variable {α : Type} [DecidableEq α] {T : DT α} {c : Cfg} {A : Around} {E : Value → Heap → Prop} {h : Heap} {b₀ h₀ b : Heap} {fs : List Fent} {N : List (Addr × Obj)} {Q : Value → Heap → Prop} {a a' : Addr} {vs ws : List Value} {n n' : Nat} {xs ys : List α} {v : Value} {x : α}
theorem at_heap (S : Sit b₀ h₀ b fs N h) (d : AllD (T.D b) vs xs) : AllD (T.D h) vs xs := d.mono fun _ _ q => T.stays q S.bh.stays
open Classical in
theorem any_hit {s : Heap} (d : AllD (T.D s) vs xs) (f : α → Bool) : vs.toArray.any (fun w => decide (∃ y, T.D s w y ∧ f y = true)) = xs.any f := by
  rw [← Array.any_toList]
  simp only
  induction d with
  | nil => rfl
  | cons p _ ih =>
    rw [List.any_cons, List.any_cons, ih]
    congr 1
    rw [Bool.eq_iff_iff, decide_eq_true_iff]
    exact ⟨fun ⟨y, q, e⟩ => (T.inj p q) ▸ e, fun e => ⟨_, p, e⟩⟩
open Classical in
theorem hit_eq {A : Around} {s : Shared} (d : AllD (T.D s.heap) vs xs) (dx : T.D s.heap v x) (hu : A.units + T.k < cLine) : ∀ w, w ∈ vs.toArray → EqAt A s w v (decide (∃ y, T.D s.heap w y ∧ decide (y = x) = true)) := fun w hw => by
  obtain ⟨y, _, dy⟩ := d.mem (by simpa using hw)
  have := T.eq (A := A) dy dx hu
  have e : decide (∃ y, T.D s.heap w y ∧ decide (y = x) = true) = decide (y = x) := by
    rw [Bool.eq_iff_iff, decide_eq_true_iff]
    exact ⟨fun ⟨y', q, e⟩ => (T.inj dy q) ▸ e, fun e => ⟨_, dy, e⟩⟩
  rw [e]; exact this
theorem c_in (S : Sit b₀ h₀ b fs N h) (e : h.get? a = some (lstObj vs n)) (d : AllD (T.D b) vs xs) (dx : T.D b v x) (hu : A.units + T.k + 1 < cLine) (q : Q (.bool (xs.any fun y => decide (y = x))) h) : WP c A (compareOp .In v (.ref a)) Q E h := fun tk => by
  refine in_listAt _ (lst_is (h := (c.st h tk).heap) e) (hit_eq (A := A.in1) (at_heap S d) (T.stays dx S.bh.stays) (by show A.units + 1 + T.k < cLine; omega)) ?_
  rw [show (c.st h tk).heap = h from rfl, any_hit (at_heap S d) (fun y => decide (y = x))]
  exact lift_mk q
theorem c_notIn (S : Sit b₀ h₀ b fs N h) (e : h.get? a = some (lstObj vs n)) (d : AllD (T.D b) vs xs) (dx : T.D b v x) (hu : A.units + T.k + 1 < cLine) (q : Q (.bool (!xs.any fun y => decide (y = x))) h) : WP c A (compareOp .NotIn v (.ref a)) Q E h := fun tk => by
  refine notIn_listAt _ (lst_is (h := (c.st h tk).heap) e) (hit_eq (A := A.in1) (at_heap S d) (T.stays dx S.bh.stays) (by show A.units + 1 + T.k < cLine; omega)) ?_
  rw [show (c.st h tk).heap = h from rfl, any_hit (at_heap S d) (fun y => decide (y = x))]
  exact lift_mk q
theorem c_notInT (S : Sit b₀ h₀ b fs N h) (e : h.get? a = some (tupObj vs)) (d : AllD (T.D b) vs xs) (dx : T.D b v x) (hu : A.units + T.k + 1 < cLine) (q : Q (.bool (!xs.any fun y => decide (y = x))) h) : WP c A (compareOp .NotIn v (.ref a)) Q E h := fun tk => by
  refine notIn_tupleAt _ (is_tup (h := (c.st h tk).heap) e) (hit_eq (A := A.in1) (at_heap S d) (T.stays dx S.bh.stays) (by show A.units + 1 + T.k < cLine; omega)) ?_
  rw [show (c.st h tk).heap = h from rfl, any_hit (at_heap S d) (fun y => decide (y = x))]
  exact lift_mk q
theorem c_eqL (S : Sit b₀ h₀ b fs N h) (e : h.get? a = some (lstObj vs n)) (e' : h.get? a' = some (lstObj ws n')) (d : AllD (T.D b) vs xs) (d' : AllD (T.D b) ws ys) (hu : A.units + T.k + 1 < cLine) (q : Q (.bool (decide (xs = ys))) h) : WP c A (compareOp .Eq (.ref a) (.ref a')) Q E h := fun tk =>
  list_rc (s := c.st h tk) e e' (at_heap S d) (at_heap S d') hu _ _ _ _ (lift_mk q)
theorem c_neL (S : Sit b₀ h₀ b fs N h) (e : h.get? a = some (lstObj vs n)) (e' : h.get? a' = some (lstObj ws n')) (d : AllD (T.D b) vs xs) (d' : AllD (T.D b) ws ys) (hu : A.units + T.k + 1 < cLine) (q : Q (.bool (!decide (xs = ys))) h) : WP c A (compareOp .NotEq (.ref a) (.ref a')) Q E h := fun tk =>
  list_ne (s := c.st h tk) e e' (at_heap S d) (at_heap S d') hu _ _ _ _ (lift_mk q)
end
end

section
open PySem.Builtin PySem.Builtin.Str
theorem all_strs {b : Heap} : ∀ {vs : List Value} {xs : List Str}, StrsAre vs xs → AllD (DT.str.D b) vs xs
  | _, _, .nil => .nil
  | _, _, .cons x t r => .cons ⟨t, rfl⟩ (all_strs r)
theorem strs_all {b : Heap} {vs : List Value} {xs : List Str} (h : AllD (DT.str.D b) vs xs) : StrsAre vs xs := by
  induction h with
  | nil => exact .nil
  | cons p _ ih => obtain ⟨t, rfl⟩ := p; exact .cons _ t ih
theorem pick_dropLast (vs : List Value) : (slicePick vs.toArray none (some (-1)) none).toList = vs.dropLast := by
  rw [slicePick_plain]
  simp only [Option.elim, List.drop_zero]
  rw [List.dropLast_eq_take]
  congr 1
  unfold clipAt
  simp
  omega
theorem pick_take (vs : List Value) (k : Nat) : (slicePick vs.toArray none (some (k : Int)) none).toList = vs.take k := by rw [slicePick_upto']
theorem Good.room {A : Around} {h : Heap} {k j : Nat} (G : Good A h (k + 1)) (hj : j ≤ 20) : A.units + j < cLine := by have := G.units; show A.units + j < 9900; omega
def rstep (row : List Str) (p : Str) : List Str := bif p == ".." then row.dropLast else bif (!([Str.ofString "", Str.ofString "."] : List Str).any fun y => decide (y = p)) then row ++ [p] else row
def addRow (rows : List (List Str)) (r : List Str) : List (List Str) := bif (!rows.any fun y => decide (y = r)) then rows ++ [r] else rows
def rowOf (text : Str) : List Str := (Txt.split text "/").foldl rstep []
def downs (row : List Str) : List (List Str) := (List.range (row.length + 1)).map fun i => row.take (row.length - i)
def addText (rows : List (List Str)) (text : Str) : List (List Str) := (downs (rowOf text)).foldl addRow rows
def rowsS (texts : List Str) : List (List Str) := texts.foldl addText []
def SplitOk (x : Str) : Prop := x.length ≤ 1000 ∧ (partsBetween x (occurrences x "/" 0 x.length (x.length + 1)) (Str.ofString "/").length).length ≤ 1000 ∧ (Txt.split x "/").length ≤ 20
theorem gb_range (P : Params) : nsIn (KK P) mainGlobals (Str.ofString "range") = some none ∧ bootBuiltins (Str.ofString "range") = some (.type "range") := ⟨by kernel_rfl, by kernel_rfl⟩
local macro_rules | `(tactic| k_places) => `(tactic| with_reducible first | exact gb_range _ | fail "no")
abbrev rowsD := DT.list DT.str
theorem lawrows_ok {c : Cfg} {A : Around} {b h : Heap} {v : Value} {texts : List Str} (W : Wd c b) (B : Base b h) (G : Good A h 60) (hv : ListD DT.str b v texts) (ht : ∀ t ∈ texts, SplitOk t) (hn : texts.length ≤ 10) :
    Gives c A b h (.ref 195) [v] [] (fun b' w => ListD rowsD b' w (rowsS texts)) := by
  intro E
  generalize hh₀ : h = h₀ at *
  obtain ⟨ta, tvs, tn, rfl, te, td⟩ := hv
  refine callK0 (binds := [("texts", .ref ta)]) W B G rfl (by rfl) fun L h' env hf H S => ?_
  dsimp only at H
  repeat' isplit
  obtain ⟨R, hR⟩ : ∃ R, R = ad := ⟨_, rfl⟩
  subst hR
  refine r_iterList S (show A.handled = none from G.hd) (lst_is te) fun I o h It S j X => ?_
  have tl := td.len
  refine r_forLoop X (fun i b fs N => Ex4 fun m ws n rows => An6 (fs = [(L, "frame", m)]) (N = [(R, lstObj ws n)]) (AllD (rowsD.D b) ws rows) (rows = (texts.take i).foldl addText []) (rows.length ≤ 21 * i) (m (Str.ofString "rows") = some (.ref R))) ?turn ?done S (fun _ _ e => e) j ⟨_, _, _, _, rfl, rfl, .nil, rfl, Nat.zero_le _, by kpf_c⟩
  case turn =>
    rintro i v b₂ fs N h o' Tq kT hi hv st ⟨m, ws, n, rows, rfl, rfl, hw, hr, hrl, em⟩ S
    obtain ⟨text, etx, t, rfl⟩ := td.get hv
    obtain ⟨hx, hp, hk⟩ := ht text (List.mem_of_getElem? etx)
    have hzk := take_fold addText [] _ i text etx
    rw [← hr] at hzk
    clear hr
    rw [tl] at hi
    repeat' isplit
    refine c_split S hx (by rw [slashLen]; rfl) (Nat.le_trans hp (by decide)) fun D vs h S hvs => ?_
    obtain ⟨b₃, S, st3, e3⟩ := S.out .head
    obtain ⟨b₄, S, st4, e4⟩ := S.out .head
    have G2 := Good.now G S (.head _) hf H.kind
    have e3 := st4 _ _ e3
    have hvl := strs_len hvs
    refine r_iterList S (show A.handled = none from G.hd) (lst_is e3) fun I2 o2 h It2 S j2 X2 => ?_
    refine r_forLoop X2 (fun j b fs N => Ex3 fun m v row => An7 (fs = [(L, "frame", m)]) (N = [(I, o'), (R, lstObj ws n)]) (ListD DT.str b v row) (row = ((Txt.split text (Str.ofString "/")).take j).foldl rstep []) (row.length ≤ j) (m (Str.ofString "rows") = some (.ref R)) (m (Str.ofString "row") = some v)) ?turn2 ?done2 S (fun _ _ e => e) j2 ⟨_, _, _, rfl, rfl, ⟨_, _, _, rfl, e4, .nil⟩, rfl, Nat.le_refl _, by kpf_c, by kpf_c⟩
    case turn2 =>
      rintro j v b₅ fs N h o2' Tq kT hj hv5 st5 ⟨m, v5, row, rfl, rfl, ⟨ra, rvs, rn, rfl, re, rd⟩, hrw, hrl5, em, er⟩ S
      obtain ⟨piece, tp, rfl, ep⟩ := strs_get hvs hv5
      have hrk := take_fold rstep [] _ j piece ep
      rw [← hrw] at hrk
      clear hrw
      rw [hvl] at hj
      have rl : rvs.length ≤ 1000 := by rw [rd.len]; omega
      have step : ∀ b' h' N' ra' rvs' rn' row' m', b₅.StaysIn b' → Sit b h₀ b' [(L, "frame", m')] ((I2, o2') :: (I, o') :: (R, lstObj ws n) :: N') h' → N' = [] → b'.get? ra' = some (lstObj rvs' rn') → AllD (DT.str.D b') rvs' row' → row' = rstep row piece → row'.length ≤ j + 1 → m' (Str.ofString "rows") = some (.ref R) → m' (Str.ofString "row") = some (.ref ra') →
          ∃ b' fs' N', b₄.StaysIn b' ∧ (Ex3 fun m v row => An7 (fs' = [(L, "frame", m)]) (N' = [(I, o'), (R, lstObj ws n)]) (ListD DT.str b' v row) (row = ((Txt.split text (Str.ofString "/")).take (j + 1)).foldl rstep []) (row.length ≤ j + 1) (m (Str.ofString "rows") = some (.ref R)) (m (Str.ofString "row") = some v)) ∧ Sit b h₀ b' fs' ((I2, o2') :: N') h' := by
        rintro b' h' N' ra' rvs' rn' row' m' a0 a1 rfl a2 a3 a4 a5 a6 a7
        exact ⟨b', _, _, fun _ _ e => a0 _ _ (st5 _ _ e), ⟨_, _, _, rfl, rfl, ⟨_, _, _, rfl, a2, a3⟩, by rw [hrk]; exact a4, a5, a6, a7⟩, a1⟩
      have erv := S.atB re
      have rl2 : rvs.length + [Value.str piece tp].length ≤ 1000 := by rw [rd.len]; show row.length + 1 ≤ 1000; omega
      repeat' isplit
      · have hq : (piece == Str.ofString "..") = true := by with_reducible assumption
        obtain ⟨b₆, S, st6, e6⟩ := S.out .head
        rw [pick_dropLast] at e6
        exact step _ _ _ _ _ _ _ _ st6 S rfl e6 (rd.dropLast.mono fun _ _ q => q) (by rw [rstep, hq, cond_true]) (by rw [List.length_dropLast]; omega) (by kpf_c) (by kpf_c)
      · have hq : (piece == Str.ofString "..") = false := by with_reducible assumption
        refine c_notInT (T := DT.str) (xs := [Str.ofString "", Str.ofString "."]) S (S.atB eo) (.cons ⟨_, rfl⟩ (.cons ⟨_, rfl⟩ .nil)) ⟨_, rfl⟩ (G2.room (j := 1) (by decide)) ?_
        have st6 : b₅.StaysIn b' := by with_reducible assumption
        have re' := st6 _ _ re
        have erv := S.atB re'
        repeat' isplit
        · have hq2 : (!([Str.ofString "", Str.ofString "."] : List Str).any fun y => decide (y = piece)) = true := by with_reducible assumption
          obtain ⟨b₇, S, st7, e7⟩ := S.out .head
          obtain ⟨b₈, S, st8, _⟩ := S.out .head
          exact step _ _ _ _ _ _ _ _ (fun _ _ e => st8 _ _ (st7 _ _ (st6 _ _ e))) S rfl (st8 _ _ e7) ((rd.app (.cons ⟨_, rfl⟩ .nil)).mono fun _ _ q => q) (by rw [rstep, hq, hq2, cond_true, cond_false]) (by rw [List.length_append]; show row.length + 1 ≤ j + 1; omega) (by kpf_c) (by kpf_c)
        · have hq2 : (!([Str.ofString "", Str.ofString "."] : List Str).any fun y => decide (y = piece)) = false := by with_reducible assumption
          exact step _ _ _ _ _ _ _ _ st6 S rfl re' (rd.mono fun _ _ q => q) (by rw [rstep, hq, hq2, cond_false, cond_false]) (by omega) (by kpf_c) (by kpf_c)
    case done2 =>
      rintro b₅ fs N h st5 ⟨m, v5, row, rfl, rfl, ⟨ra, rvs, rn, rfl, re, rd⟩, hrw, hrl5, em, er⟩ S
      rw [hvl, List.take_length] at hrw
      have hro : row = rowOf text := hrw
      clear hrw
      rw [hvl] at hrl5
      have rl : rvs.length ≤ 1000 := by rw [rd.len]; omega
      have hrk20 : row.length ≤ 20 := Nat.le_trans hrl5 hk
      have erv := S.atB re
      repeat' isplit
      rw [rd.len]
      refine c_range3 S (by decide) (by rfl) fun r b₆ h t1 t2 t3 S st6 e6 => ?_
      have re := st6 _ _ re
      have hw6 := hw.mono fun _ _ q => rowsD.stays q (fun _ _ e => st6 _ _ (st5 _ _ (st4 _ _ (st3 _ _ e))))
      refine r_iterRange S (show A.handled = none from G.hd) e6 (down_small _ (by omega)) (down_size _) fun I3 o3 h It3 S j3 X3 => ?_
      clear rl hrl5
      refine r_forLoop X3 (fun k b fs N => Ex4 fun m ws n rows' => An7 (fs = [(L, "frame", m)]) (N = [(I, o'), (R, lstObj ws n)]) (AllD (rowsD.D b) ws rows') (rows' = ((downs row).take k).foldl addRow rows) (rows'.length ≤ 21 * i + k) (m (Str.ofString "rows") = some (.ref R)) (m (Str.ofString "row") = some (.ref ra))) ?turn3 ?done3 S (fun _ _ e => e) j3 ⟨_, _, _, _, rfl, rfl, hw6, rfl, hrl, by kpf_c, by kpf_c⟩
      case turn3 =>
        rintro k v b₇ fs N h o3' Tq kT hk7 ⟨tz, rfl⟩ st7 ⟨m, ws, n, rows', rfl, rfl, hw, hrs, hrl', em, er⟩ S
        have hsz : (row.length : Int) + (k : Int) * -1 = ((row.length - k : Nat) : Int) := by omega
        rw [hsz]
        have hdk : (downs row)[k]? = some (row.take (row.length - k)) := by
          unfold downs
          rw [List.getElem?_map, List.getElem?_range (by omega)]; rfl
        have hrk := take_fold addRow rows _ k _ hdk
        rw [← hrs] at hrk
        clear hrs hsz
        have re7 := st7 _ _ re
        have rvl : rvs.length ≤ 1000 := by rw [rd.len]; omega
        have wl : ws.length ≤ 1000 := by rw [hw.len]; omega
        have G3 := Good.now G S (.head _) hf H.kind
        repeat' isplit
        obtain ⟨b₈, S, st8, e8⟩ := S.out .head
        rw [pick_take] at e8
        refine c_notIn (T := rowsD) (x := row.take (row.length - k)) S (S.atN (.tail (.tail .head))) (hw.mono fun _ _ q => rowsD.stays q st8) ⟨_, _, _, rfl, e8, (rd.take _).mono fun _ _ q => q⟩ (G3.room (j := 2) (by decide)) ?_
        have re8 := st8 _ _ re7
        repeat' isplit
        · have hq : (!rows'.any fun y => decide (y = row.take (row.length - k))) = true := by with_reducible assumption
          obtain ⟨b₉, S, st9, e9⟩ := S.out .head
          rw [pick_take] at e9
          refine ⟨b₉, _, _, fun _ _ e => st9 _ _ (st8 _ _ (st7 _ _ e)), ⟨_, _, _, _, rfl, rfl, (hw.mono fun _ _ q => rowsD.stays q fun _ _ e => st9 _ _ (st8 _ _ e)).app (.cons ⟨_, _, _, rfl, e9, (rd.take _).mono fun _ _ q => q⟩ .nil), ?_, ?_, by kpf_c, by kpf_c⟩, S⟩
          · rw [hrk, addRow, hq, cond_true]
          · rw [List.length_append]; show rows'.length + 1 ≤ _; omega
        · have hq : (!rows'.any fun y => decide (y = row.take (row.length - k))) = false := by with_reducible assumption
          refine ⟨b₈, _, _, fun _ _ e => st8 _ _ (st7 _ _ e), ⟨_, _, _, _, rfl, rfl, hw.mono fun _ _ q => rowsD.stays q st8, ?_, ?_, by kpf_c, by kpf_c⟩, S⟩
          · rw [hrk, addRow, hq, cond_false]
          · omega
      case done3 =>
        rintro b₇ fs N h st7 ⟨m, ws, n, rows', rfl, rfl, hw, hrs, hrl', em, er⟩ S
        repeat' isplit
        refine ⟨b₇, _, _, fun _ _ e => st7 _ _ (st6 _ _ (st5 _ _ (st4 _ _ (st3 _ _ (st _ _ e))))), ⟨_, _, _, _, rfl, rfl, hw, ?_, by omega, by kpf_c⟩, S⟩
        rw [hzk, hrs, List.take_of_length_le (by unfold downs; simp), hro]
        rfl
  case done =>
    rintro b₂ fs N h st ⟨m, ws, n, rows, rfl, rfl, hw, hr, hrl, em⟩ S
    rw [tl, List.take_length] at hr
    repeat' isplit
    obtain ⟨b₃, S, st3, e3⟩ := S.out .head
    exact ⟨_, S.done, _, _, _, rfl, e3, by rw [← show rows = rowsS texts from hr]; exact hw.mono fun _ _ q => rowsD.stays q st3⟩
end
local macro_rules | `(tactic| k_places) => `(tactic| with_reducible first | exact gb_range _ | fail "no")

section
namespace FK
def bound : Obj := { cls := .type "builtin_function_or_method", data := .fields #[.builtin "dict.fromkeys", .type "dict"] }
theorem type_fk : typeOf (.builtin "dict.fromkeys") = pure (.type "classmethod_descriptor") := by show builtinType _ = _; rw [builtinType_eq_fast]; kernel_rfl
theorem entry_fk : entryFor table "dict.fromkeys" = some Builtin.«dict.fromkeys» := entryFor_of_tree (by kernel_rfl)
theorem entry_fkl : entryFor table "dict.fromkeys.loop" = some Builtin.«dict.fromkeys.loop» := entryFor_of_tree (by kernel_rfl)
theorem plain_fkl : plainId "dict.fromkeys.loop" = true := by decide +kernel
theorem quiet_fk {as : Args} : (Code.builtin "dict.fromkeys" as).quiet = true := Code.quiet_builtin _ (by decide +kernel)
theorem type_dict : isType (.type "dict") = pure true := by first | rfl | kernel_rfl | (unfold isType; rw [isSubtype_type]; kernel_rfl)
theorem owner_fk : (kfb_private% "ownerAndName") "dict.fromkeys" = ("dict", "fromkeys") := by first | decide +kernel | kernel_rfl
theorem plain_fk : plainId "dict.fromkeys" = true := by decide +kernel
theorem check_fk {v : Value} : checkBoundCall "dict.fromkeys" ⟨[.type "dict", v], []⟩ = pure () := by first | kernel_rfl | rfl
theorem newCall0 : checkBuiltinCall "dict.__new__" ⟨[.type "dict"], []⟩ = pure () := by kernel_rfl
theorem typeCall0 : checkTypeCall "dict" ⟨[], []⟩ = pure () := by kernel_rfl
theorem args_init1 (a : Value) : argsOk "dict.__init__" ⟨[a], []⟩ := by unfold argsOk; kernel_rfl
section
variable {prog : Program} {w : PySem.World} {A : Around} {E : Value → Shared → Prop} {s : Shared}
theorem run_get {P : PySem.Fin → Shared → Prop} (h : P (.done (.ret (.ref s.heap.objs.size))) { s with heap := s.heap.push bound }) {M : Model} :
    wpAny M A (Builtin.«classmethod_descriptor.__get__» ⟨[.builtin "dict.fromkeys", .none, .type "dict"], []⟩) P E s := by
  unfold Builtin.«classmethod_descriptor.__get__»
  refine wpAny_bind (wpAny_of_eq (a := (.builtin "dict.fromkeys", none, some (.type "dict"))) (by first | rfl | kernel_rfl) ?_)
  simp only [owner_fk]
  refine wpAny_bind (wpAny_of_eq (a := .type "dict") rfl ?_)
  refine wpAny_bind (wpAny_of_eq (a := true) type_dict ?_)
  refine KFB.if_not rfl ?_
  refine wpAny_bind (wpAny_of_eq (a := true) F.kt_sub_dict ?_)
  refine KFB.if_not rfl ?_
  exact wpAny_bind (wpAny_newObj_type (wpAny_pure h))
theorem getm {K : Frag} {pl : Sem Bool} {Q : Value × List Value → Shared → Prop} (X : K.In s.heap)
    (e : findCls K (.type "dict") (.type "type") (PySem.Str.ofString "fromkeys") = some (.get (.builtin "classmethod_descriptor.__get__") (.builtin "dict.fromkeys") .none (.type "dict")))
    (h : Q (.ref s.heap.objs.size, []) { s with heap := s.heap.push bound, toks := s.toks + 1 }) :
    wpAny (model prog w) A (getMethod (.type "dict") (PySem.Str.ofString "fromkeys") pl) Q E s := by
  have hstub : opaqueClassAbove (.type "dict") = pure none := by unfold opaqueClassAbove; dsimp only; rw [show Manifest.isStub "dict" = false by decide +kernel]; rfl
  have ht : typeOf (.type "dict") = pure (.type "type") := by first | rfl | kernel_rfl
  have L0 : Looks (model prog w) s.heap (typeOf (.type "dict")) (.type "type") := Looks.of_pure ht
  have hg : findIn K (.type "type") "__getattribute__" = some (some (.builtin "type.__getattribute__")) := type_tga
  unfold getMethod specialOf
  refine wpAny_bind (wpAny_bind (L0.here ((looks_findIn X hg).here ?_)))
  dsimp only
  rw [if_pos canon_tga]
  refine wpAny_bind (wpAny_mono (Q := fun v => Q (v, [])) (E := E) ?_ (fun _ _ z => wpAny_pure z) fun _ _ z => z)
  have LO : Looks (model prog w) s.heap (opaqueClassAbove (.type "dict")) none := Looks.of_pure hstub
  refine cls_open X LO L0 hg (looks_hook X (r := none) (by rfl)) (by show subIn K _ _ = _; rfl) e ?_
  show wpAny _ _ (holding [.builtin "dict.fromkeys"] (call (.builtin "classmethod_descriptor.__get__") [.builtin "dict.fromkeys", .none, .type "dict"]) >>= fun v => ret v) _ _ _
  exact wpAny_bind (wpAny_holding (wpAny_call_entry KFB.slot_get type_fk KFB.entry_get (run_get ⟨_, rfl, wpAny_pure (wpAny_pure h)⟩) (KFB.args_get _ _ _)))
theorem code_dict_new {Q₁ : Value → Shared → Prop} (h : Q₁ (.ref s.heap.objs.size) { s with heap := s.heap.push { cls := .type "dict", data := .dict #[] } }) :
    codeAny (model prog w) A (.call (.builtin "dict.__new__") ⟨[.type "dict"], []⟩) (wants Q₁ E) s := by
  refine codeAny_call_builtin F.kt_plain_dict_new F.kt_entry_dict_new (wpAny_of_eq newCall0 ?_)
  have hsub := F.kt_sub_dict
  have hmro := F.kt_mro_dict
  obtain ⟨hp, g, d, tk, os⟩ := s
  unfold Builtin.«dict.__new__»
  wp_walk
  exact h
theorem call_dict0 {Q : Value → Shared → Prop} (h : Q (.ref s.heap.objs.size) { s with heap := s.heap.push { cls := .type "dict", data := .dict #[] } }) : wpAny (model prog w) A (call (.type "dict") []) Q E s := by
  refine callType_codes (Q₁ := fun obj s₁ => obj = .ref s.heap.objs.size ∧ s₁ = { s with heap := s.heap.push { cls := .type "dict", data := .dict #[] } }) F.kt_called_dict typeCall0 F.entry_dict_init (code_dict_new ⟨rfl, rfl⟩) ?_
  rintro obj s₁ ⟨rfl, rfl⟩
  have hnew : (s.heap.push { cls := .type "dict", data := .dict #[] }).get? s.heap.objs.size = some { cls := .type "dict", data := .dict #[] } := Heap.get?_push_size _ rfl
  refine ⟨⟨_, hnew, rfl⟩, args_init1 _, ?_⟩
  unfold Builtin.«dict.__init__»
  refine wpAny_bind ?_
  unfold Builtin.Dict.selfAndRest
  refine wpAny_bind (wpAny_notOrdered_dict ⟨_, hnew, rfl⟩ ?_)
  show wpAny _ _ (pure (s.heap.objs.size, ([] : List Value))) _ _ _
  refine wpAny_pure ?_
  unfold Builtin.Dict.updateCommon
  show wpAny _ _ (Builtin.Dict.addKeywords s.heap.objs.size [] >>= fun _ => ret .none) _ _ _
  unfold Builtin.Dict.addKeywords
  exact wpAny_bind (wpAny_bind (wpAny_pure (wpAny_pure (wpAny_pure ⟨rfl, h⟩))))
end
end FK
/-- a dict by its keys, texts -/
def DictO (c : Cfg) (o : Obj) (kvs : List (Str × Value)) : Prop := o.IsDictOf (strKind c.p c.w) kvs
section
variable {c : Cfg} {A : Around} {E : Value → Heap → Prop} {h : Heap} {env : Env} {b₀ h₀ b : Heap} {fs : List Fent} {N : List (Addr × Obj)} {Q : Value → Heap → Prop} {d I : Addr} {o : Obj} {kvs : List (Str × Value)} {x : Str} {t : Tok} {v : Value} {g : Obj → List (Addr × Obj)}
theorem DictO.of (D : DictO c o kvs) (e : h.get? d = some o) : h.DictOf (strKind c.p c.w) d kvs := Heap.dictOf_iff.mpr ⟨o, e, D⟩
theorem DictO.cls (D : DictO c o kvs) : o.cls ≠ .type "frame" := by
  obtain ⟨es, ep, ⟨hc, _⟩, _⟩ := D
  rw [hc]; decide
theorem DictO.new : DictO c { cls := .type "dict", data := .dict #[] } [] := ⟨#[], 0, ⟨rfl, rfl, rfl⟩, rfl, fun _ he => by simp at he, Pairs.nil, List.nodup_nil⟩
theorem dictSet_ok {Q : Unit → Heap → Prop} (S : Sit b₀ h₀ b fs N h) (r : Rep d o N g) (D : DictO c o kvs) (hsz : kvs.length ≤ sizeLine) (q : ∀ h' o', Sit b₀ h₀ b fs (g o') h' → DictO c o' (stored kvs x v) → Q () h') : WP c A (dictSet d (.str x t) v) Q E h := fun tk => by
  refine wpAny_dictSet_pairs (strKind_is c.p c.w x t) (D.of (S.atN r)) (fun h' hd hs => ?_) hsz
  obtain ⟨o', e', D'⟩ := Heap.dictOf_iff.mp hd
  exact lift_mk (q h' o' (S.rep r hs e' (DictO.cls D')) D')
theorem stored_len (kvs : List (Str × Value)) (x : Str) (v : Value) : (stored kvs x v).length ≤ kvs.length + 1 := by
  unfold stored
  split
  · simp
  · simp
theorem fk_loop {It : Nat → Obj → Prop} {vs : List Value} {xs : List Str} {R : Result → Heap → Prop} (X : Iter c A.in1 b I It vs.length (fun i v => vs[i]? = some v)) (hv : StrsAre vs xs) (hsz : xs.length ≤ 1000) :
    ∀ (k i : Nat) (h : Heap) (o io : Obj) (kvs : List (Str × Value)), i + k = xs.length → Sit b₀ h₀ b fs ((I, io) :: (d, o) :: N) h → It i io → DictO c o kvs → kvs.length ≤ i → kvs = (xs.take i).foldl (fun kvs x => stored kvs x .none) [] →
    (∀ h' o', Sit b₀ h₀ b fs ((d, o') :: N) h' → DictO c o' (xs.foldl (fun kvs x => stored kvs x .none) []) → R (.ok (.ret (.ref d))) h') → CP c A (.builtin "dict.fromkeys.loop" ⟨[.ref d, .ref I, .none], []⟩) R h := by
  have hvl := strs_len hv
  intro k
  induction k with
  | zero =>
    intro i h o io kvs hi S j D hl hk q tk
    refine codeAny_builtin FK.entry_fkl ?_
    rw [Around.under_plainId FK.plain_fkl]
    unfold Builtin.«dict.fromkeys.loop»
    have hi' : i = vs.length := by omega
    subst hi'
    refine wpAny_bind (wpAny_mono (X.done h io (fun _ _ => False) (fun r h' => r = none ∧ Sit b₀ h₀ b fs ((d, o) :: N) h') S.bh (S.nw (I, io) (.head _)).1 j (fun h' hk => ⟨rfl, S.itDone hk⟩) tk) (fun r s q' => ?_) fun _ _ q => by obtain ⟨_, _, _, q⟩ := q; exact q.elim)
    obtain ⟨h', t', rfl, rfl, S'⟩ := q'
    refine wpAny_pure ?_
    rw [hvl, List.take_length] at hk
    exact lift_mk (q h' o S' (hk ▸ D))
  | succ k ih =>
    intro i h o io kvs hi S j D hl hk q tk
    refine codeAny_builtin FK.entry_fkl ?_
    rw [Around.under_plainId FK.plain_fkl]
    unfold Builtin.«dict.fromkeys.loop»
    refine wpAny_bind (wpAny_mono (X.item i h io (fun _ _ => False) (fun r h' => ∃ v o', r = some v ∧ vs[i]? = some v ∧ It (i + 1) o' ∧ Sit b₀ h₀ b fs ((I, o') :: (d, o) :: N) h') (by omega) S.bh (S.nw (I, io) (.head _)).1 j (fun v h' o' hv e' it' hk => ⟨v, o', rfl, hv, it', S.itNext hk e' (X.nf _ _ it')⟩) tk) (fun r s q' => ?_) fun _ _ q => by obtain ⟨_, _, _, q⟩ := q; exact q.elim)
    obtain ⟨h', t', rfl, v, io', rfl, hvi, j', S'⟩ := q'
    obtain ⟨x, tx, rfl, ex⟩ := strs_get hv hvi
    have eD := S'.atN (.tail .head)
    have hT : (c.st h' t').TypeIs (.ref d) "dict" := (D.of eD).typeIs
    refine wpAny_bind (wpAny_typeOf hT ?_)
    rw [if_pos (by decide)]
    refine wpAny_bind (wpAny_of_eq (a := d) rfl ?_)
    refine wpAny_bind (wpAny_holding ?_)
    refine wpAny_mono (dictSet_ok (E := fun _ _ => False) (Q := fun _ h'' => ∃ o'', Sit b₀ h₀ b fs ((I, io') :: (d, o'') :: N) h'' ∧ DictO c o'' (stored kvs x .none)) S' (.tail .head) D (by rw [sizeLine_eq]; omega) (fun h'' o'' S'' D'' => ⟨o'', S'', D''⟩) t') (fun _ s q' => ?_) fun _ _ q => by obtain ⟨_, _, _, q⟩ := q; exact q.elim
    obtain ⟨h'', t'', rfl, o'', S'', D''⟩ := q'
    refine wpAny_pure ⟨plainId_quiet FK.plain_fkl _, ?_⟩
    refine ih (i + 1) h'' o'' io' _ (by omega) S'' j' D'' ?_ ?_ q t''
    · exact Nat.le_trans (stored_len _ _ _) (by omega)
    · rw [take_fold _ _ _ _ _ ex, ← hk]
end
end

section
variable {c : Cfg} {A : Around} {E : Value → Heap → Prop} {h : Heap} {env : Env} {b₀ h₀ b : Heap} {fs : List Fent} {N : List (Addr × Obj)} {Q : Value → Heap → Prop} {d I u : Addr} {o : Obj} {kvs : List (Str × Value)} {x : Str} {t : Tok} {v : Value} {g : Obj → List (Addr × Obj)}
theorem World.big {K : Frag} (W : World K b) (B : Base b h) : (h.objs.size == sysModules) = false := by
  obtain ⟨mg, n⟩ := W.mg
  have : mainGlobals < h.objs.size := (n.keeps B.stays).lt
  have h3 : sysModules < mainGlobals := by decide
  exact beq_eq_false_iff_ne.mpr (Nat.ne_of_gt (Nat.lt_trans h3 this))
theorem Base.push (B : Base b h) (o : Obj) : Base b (h.push o) := B.ext (Ext.push h o)
abbrev fromK (xs : List Str) : List (Str × Value) := xs.foldl (fun kvs x => stored kvs x .none) []
theorem c_fromkeys {K : Frag} {l : Addr} {vs : List Value} {xs : List Str} {n : Nat} (W : World K b₀) (S : Sit b₀ h₀ b fs N h) (hh : A.handled = none) (eu : h.get? u = some FK.bound) (hl : b.get? l = some (lstObj vs n)) (hv : StrsAre vs xs) (hsz : xs.length ≤ 1000)
    (q : ∀ d h' o', Sit b₀ h₀ b fs ((d, o') :: N) h' → DictO c o' (fromK xs) → (d == sysModules) = false → Q (.ref d) h') : WP c A (call (.ref u) [.ref l]) Q E h := fun tk => by
  refine wpAny_call (codeAny_of_tree ?_)
  show wpAny _ A.in1 (callAny (.ref u) ⟨[.ref l], []⟩) _ _ _
  simp only [callAny]
  refine wpAny_bind (wpAny_load eu ?_)
  simp only [FK.bound, show (Value.type "builtin_function_or_method" == Value.type "method" || Value.type "builtin_function_or_method" == Value.type "builtin_function_or_method" || Value.type "builtin_function_or_method" == Value.type "method-wrapper") = true by decide, if_true]
  refine KFB.if_so (by decide) ?_
  refine wpAny_bind (wpAny_of_eq (a := ()) FK.check_fk ?_)
  refine wpAny_bind (wpAny_pure (wpAny_pure ?_))
  refine ⟨FK.quiet_fk, codeAny_builtin FK.entry_fk ?_⟩
  rw [Around.under_plainId FK.plain_fk]
  unfold Builtin.«dict.fromkeys»
  refine wpAny_bind (wpAny_of_eq (a := true) FK.type_dict ?_)
  refine KFB.if_not rfl ?_
  refine wpAny_bind (wpAny_of_eq (a := true) F.kt_sub_dict ?_)
  refine KFB.if_not rfl ?_
  refine KFB.if_not rfl ?_
  refine wpAny_bind (wpAny_rule ?_)
  refine wpAny_bind (wpAny_pure ?_)
  refine wpAny_bind (FK.call_dict0 ?_)
  have S' := S.pushN (o := { cls := .type "dict", data := .dict #[] }) rfl (by show Value.type "dict" ≠ _; decide)
  have el := S'.atB hl
  have ed := S'.atN .head
  have T1 : (c.st (h.push { cls := .type "dict", data := .dict #[] }) tk).TypeIs (.ref l) "list" := ⟨_, el, rfl⟩
  have T2 : (c.st (h.push { cls := .type "dict", data := .dict #[] }) tk).TypeIs (.ref h.objs.size) "dict" := ⟨_, ed, rfl⟩
  refine wpAny_holding ?_
  refine wpAny_bind (wpAny_typeOf T1 ?_)
  refine wpAny_bind (wpAny_typeOf T2 ?_)
  refine KFB.if_not (by decide) ?_
  refine wpAny_bind (wpAny_typeOf T2 ?_)
  refine KFB.if_not (by decide) ?_
  refine wpAny_bind (wpAny_pyIter_list (lst_is (h := (c.st (h.push { cls := .type "dict", data := .dict #[] }) tk).heap) el) ?_)
  refine wpAny_pure ⟨plainId_quiet FK.plain_fkl _, ?_⟩
  have S2 := S'.pushN (o := { cls := .type "list_iterator", data := .fields #[.ref l, .int 0 0] }) rfl (by show Value.type "list_iterator" ≠ _; decide)
  refine codeAny_mono (fk_loop (A := A) (R := fun r h => match r with | .ok (.ret v) => Q v h | _ => False) (iter_list (A := A.in1) (show A.handled = none from hh) (lst_is hl) S'.bh.fresh) hv hsz xs.length 0 _ _ _ [] (by omega) S2 ⟨rfl, rfl⟩ DictO.new (Nat.le_refl _) rfl (fun h' o' S3 D => q _ h' o' S3 D ((W.stays S.bb).big S.bh)) tk) fun r s q => ?_
  obtain ⟨h', t', rfl, q⟩ := q
  cases r with
  | ok f => cases f with
    | ret v => exact lift_mk q
    | _ => exact q.elim
  | error e => exact q.elim
end
section
variable {c : Cfg} {A : Around} {E : Value → Heap → Prop} {h : Heap} {env : Env} {b₀ h₀ b : Heap} {fs : List Fent} {N : List (Addr × Obj)} {Q : Value → Heap → Prop} {K : Frag}
theorem r_fromkeys {o : Expr} {apos pos : Pos} {args : List Expr} (W : World K b₀) (e : findCls K (.type "dict") (.type "type") (PySem.Str.ofString "fromkeys") = some (.get (.builtin "classmethod_descriptor.__get__") (.builtin "dict.fromkeys") .none (.type "dict")))
    (x : WP c A (eval o env) (fun ov h => ov = .type "dict" ∧ ∃ b fs N, Sit b₀ h₀ b fs N h ∧ ∀ u h', Sit b₀ h₀ b fs N h' → h'.get? u = some FK.bound → b.get? u = none →
      WP c A (spliced (backTo pos (starEach args env))) (fun vs h'' => h''.get? u = some FK.bound ∧ WP c A (call (.ref u) vs []) Q E h'') E h') E h)
    (hbase : attributeBase o "fromkeys" env (eval o env) = eval o env := by rfl)
    (hfew : ((backTo pos (starEach args env)).all (fun x => !x.1) && (backToKw pos (keywordEach [] env)).all (fun x => x.1.isSome)
      && decide (args.length + ([] : List Keyword).length + (if ([] : List Keyword).isEmpty then 0 else 1) < 30)) = true := by rfl)
    (hline : (apos.endLine == pos.line) = true := by rfl) (hp : (backTo pos (starEach args env)).any (·.1) = false := by rfl) :
    WP c A (eval (.Call (.Attribute o "fromkeys" apos) args [] pos) env) Q E h := fun tk => by
  rw [arm_eval_Call, hbase]
  refine wpAny_bind (wpAny_mono (x tk) (fun ov s₁ h₁ => ?_) fun _ _ e => e)
  obtain ⟨h₁, t₁, rfl, rfl, b, fs, N, S, q⟩ := h₁
  refine wpAny_bind (wpAny_standAt ?_)
  have hform : methodCallForm (args.length + ([] : List Keyword).length) (backTo pos (starEach args env)) (backToKw pos (keywordEach [] env)) = true := hfew
  have hpos : methodCallPos true o env apos pos = pure pos := by unfold methodCallPos; simp [hline]
  unfold methodCall
  rw [hform]
  refine wpAny_bind (wpAny_holding (FK.getm (fun a o e => S.bh.stays _ _ (S.bb _ _ (W.k a o e))) e ?_))
  refine wpAny_bind (wpAny_of_eq hpos ?_)
  have S' := S.ext' (Ext.push h₁ FK.bound)
  have e' : (h₁.push FK.bound).get? h₁.objs.size = some FK.bound := Heap.get?_push_size _ rfl
  have key := q _ _ S' e' S.bh.fresh (t₁ + 1)
  unfold callWith
  refine wpAny_bind (wpAny_holding ?_)
  have ev : WP c A (evalArgs (.ref h₁.objs.size) true (backTo pos (starEach args env)) []) (fun a h'' => h''.get? h₁.objs.size = some FK.bound ∧ WP c A (call (.ref h₁.objs.size) a.pos a.kw) Q E h'') E (h₁.push FK.bound) := r_evalArgs_pos (q _ _ S' e' S.bh.fresh) hp
  refine wpAny_mono (ev (t₁ + 1)) (fun a s q => ?_) fun _ _ e => e
  obtain ⟨h₂, t₂, rfl, e₂, q⟩ := q
  refine wpAny_bind (wpAny_standAt ?_)
  simp only [hp, List.any_nil, Bool.or_false]
  refine wpAny_bind (m := keeperOf (.ref h₁.objs.size)) ?_
  unfold keeperOf
  refine wpAny_bind (wpAny_load e₂ ?_)
  simp only [FK.bound, show (Value.type "builtin_function_or_method" != Value.type "method") = true by decide, show (Value.type "builtin_function_or_method" == Value.type "builtin_function_or_method" || Value.type "builtin_function_or_method" == Value.type "method-wrapper") = true by decide, if_true]
  refine wpAny_pure ?_
  exact wpAny_bind (wpAny_mono (q t₂) (fun r s₂ hr => wpAny_bind (wpAny_holding (wpAny_point (wpAny_pure hr)))) fun _ _ x => x)
end

theorem gb_dict (P : Params) : nsIn (KK P) mainGlobals (Str.ofString "dict") = some none ∧ bootBuiltins (Str.ofString "dict") = some (.type "dict") := ⟨by kernel_rfl, by kernel_rfl⟩
theorem gb_list (P : Params) : nsIn (KK P) mainGlobals (Str.ofString "list") = some none ∧ bootBuiltins (Str.ofString "list") = some (.type "list") := ⟨by kernel_rfl, by kernel_rfl⟩
theorem fk_find (P : Params) : findCls (KK P) (.type "dict") (.type "type") (PySem.Str.ofString "fromkeys") = some (.get (.builtin "classmethod_descriptor.__get__") (.builtin "dict.fromkeys") .none (.type "dict")) := by kernel_rfl
theorem fn29 (P : Params) : fnIn (KK P) 29 = true := by kernel_rfl
theorem fn36 (P : Params) : fnIn (KK P) 36 = true := by kernel_rfl
theorem fn43 (P : Params) : fnIn (KK P) 43 = true := by kernel_rfl
theorem fn50 (P : Params) : fnIn (KK P) 50 = true := by kernel_rfl
theorem g_dedup (P : Params) : nsIn (KK P) mainGlobals (Str.ofString "_deduplicate") = some (some (.ref 29)) := by kernel_rfl
theorem g_dedupU (P : Params) : nsIn (KK P) mainGlobals (Str.ofString "_deduplicate_unhashable") = some (some (.ref 36)) := by kernel_rfl
theorem g_cmpargs (P : Params) : nsIn (KK P) mainGlobals (Str.ofString "_compare_args_orderless") = some (some (.ref 43)) := by kernel_rfl
theorem g_cmptokey (P : Params) : nsIn (KK P) mainGlobals (Str.ofString "cmp_to_key") = some (some (.ref 50)) := by kernel_rfl
local macro_rules | `(tactic| fold_lay) => `(tactic| with_reducible first | exact g_dedup _ | exact g_dedupU _ | exact g_cmpargs _ | exact g_cmptokey _ | fail "no")
local macro_rules | `(tactic| k_offL) => `(tactic| with_reducible first | exact fn29 _ | exact fn36 _ | exact fn43 _ | exact fn50 _ | fail "no")
local macro_rules | `(tactic| k_places) => `(tactic| with_reducible first | exact gb_dict _ | exact gb_list _ | fail "no")
local macro_rules | `(tactic| isplit) => `(tactic| first | with_reducible refine r_TryOk ?_ | fail "no")
/-- a dict at rest -/
def DictAtB (c : Cfg) (b : Heap) (v : Value) (kvs : List (Str × Value)) : Prop := ∃ d o, v = .ref d ∧ b.get? d = some o ∧ DictO c o kvs ∧ (d == sysModules) = false
theorem dedup_ok {c : Cfg} {A : Around} {b h : Heap} {l : Addr} {vs : List Value} {xs : List Str} {n : Nat} (W : Wd c b) (B : Base b h) (G : Good A h 60) (hl : b.get? l = some (lstObj vs n)) (hv : StrsAre vs xs) (hsz : xs.length ≤ 1000) :
    Gives c A b h (.ref 29) [.ref l] [] (fun b' v => DictAtB c b' v (fromK xs)) := by
  intro E
  generalize hh₀ : h = h₀ at *
  refine callKP (binds := [("params", .ref l), ("unhashable_fallback", .bool false)]) W B G rfl (by rfl) (fun S => by first | rfl | kernel_rfl) fun L h' env hf H S => ?_
  dsimp only at H
  repeat' isplit
  refine r_fromkeys (h₀ := h₀) W (fk_find _) ?_
  repeat' isplit
  refine ⟨rfl, _, _, _, S, fun u h S eu _ => ?_⟩
  repeat' isplit
  refine ⟨eu, c_fromkeys W S (show A.handled = none from G.hd) eu hl hv hsz fun d h o' S D lo => ?_⟩
  repeat' isplit
  obtain ⟨b₁, S, st, e⟩ := S.out .head
  exact ⟨_, S.done, d, o', rfl, e, D, lo⟩
section
variable {c : Cfg} {A : Around} {E : Value → Heap → Prop} {h h' : Heap} {env : Env} {b₀ h₀ b : Heap} {fs : List Fent} {N : List (Addr × Obj)} {Q : Value → Heap → Prop} {o : Obj} {kvs : List (Str × Value)}
theorem Sit.addN (S : Sit b₀ h₀ b fs N h) (hk : ∀ x o, h.get? x = some o → h'.get? x = some o) (e : h'.get? h.objs.size = some o) (nf : o.cls ≠ .type "frame") : Sit b₀ h₀ b fs ((h.objs.size, o) :: N) h' := by
  have S' := S.ext' (h' := h') fun x ox e => ⟨ox, hk _ _ e, rfl, rfl, fun _ => rfl⟩
  refine ⟨S'.ext, S'.bb, S'.bh, S'.new, S'.fr, fun p hp => ?_, ?_⟩
  · rcases List.mem_cons.mp hp with rfl | hp
    · exact ⟨e, nf, S.bh.fresh, S.none0⟩
    · exact S'.nw p hp
  · have l := S.lt
    have nd := S.nd
    rw [List.nodup_append] at nd ⊢
    refine ⟨nd.1, ?_, ?_⟩
    · rw [List.map_cons, List.nodup_cons]
      exact ⟨fun z => absurd (l _ (List.mem_append_right _ z)) (Nat.lt_irrefl _), nd.2.1⟩
    · intro x hx y hy
      rw [List.map_cons] at hy
      rcases List.mem_cons.mp hy with rfl | hy
      · exact Nat.ne_of_lt (l _ (List.mem_append_left _ hx))
      · exact nd.2.2 x hx y hy
theorem strs_of_get : ∀ {vs : List Value} {xs : List Str}, vs.length = xs.length → (∀ (j : Nat) (v : Value), vs[j]? = some v → ∃ (x : Str) (t : Tok), v = Value.str x t ∧ xs[j]? = some x) → StrsAre vs xs
  | [], [], _, _ => .nil
  | [], _ :: _, hl, _ => by simp at hl
  | _ :: _, [], hl, _ => by simp at hl
  | v :: vs, x :: xs, hl, h => by
    obtain ⟨y, t, rfl, e⟩ := h 0 v rfl
    simp at e
    subst e
    exact .cons _ t (strs_of_get (by simpa using hl) fun j w e => by simpa using h (j + 1) w (by simpa using e))
theorem c_listDict {v : Value} (S : Sit b₀ h₀ b fs N h) (hh : A.handled = none) (D : DictAtB c b v kvs) (hsz : kvs.length ≤ 1000)
    (q : ∀ a vs n h', Sit b₀ h₀ b fs ((a, lstObj vs n) :: N) h' → StrsAre vs (kvs.map (·.1)) → Q (.ref a) h') : WP c A (call (.type "list") [v]) Q E h := fun tk => by
  obtain ⟨d, o, rfl, e, D, lo⟩ := D
  obtain ⟨ep, hd⟩ := (D.of (h := h) (S.atB e)).dictAt
  refine kdl_call (OK := fun h => h.DictAt (strKind c.p c.w) d kvs ep) (kdl_dict lo) hh hd (by rw [sizeLine_eq]; omega) fun h' tk' acc' c' hk hD hacc => ?_
  have S' := S.addN (o := lstObj acc'.toList c') hk (by have := hD; rw [show (c.st h tk).heap = h from rfl] at this; rw [this]; simp [lstObj]) (by show Value.type "list" ≠ _; decide)
  refine lift_mk (c := c) (Q := Q) (t := tk') (q _ _ _ _ S' (strs_of_get (by simpa using hacc.1) fun j v e => ?_))
  obtain ⟨k, x, ek, hi⟩ := hacc.2 j v (by simpa using e)
  obtain ⟨t, rfl⟩ := Value.isStrOf_shape hi
  exact ⟨k, t, rfl, by rw [List.getElem?_map, ek]; rfl⟩
end

section
open PySem.MeetsSeq
def EqG (c : Cfg) (b : Heap) (k : Nat) (y x : Value) (r : Bool) : Prop :=
  ∀ A b' h' E, b.StaysIn b' → Base b' h' → Good A h' k → WP c A (eqBool y x) (fun v h'' => v = r ∧ ∃ b'', Grow b' h' b'' h'') E h'
theorem EqG.str {c : Cfg} {b : Heap} {k : Nat} {x y : Str} {t u : Tok} : EqG c b k (.str x t) (.str y u) (x == y) := fun A b' h' E _ B _ tk =>
  EqAt.str_str x t y u _ _ _ _ (lift_mk (t := tk) ⟨rfl, b', Sit.start B⟩)
theorem EqG.same {c : Cfg} {b : Heap} {k : Nat} {v : Value} : EqG c b k v v true := fun A b' h' E _ B _ tk =>
  EqAt.same v _ _ _ _ (lift_mk (t := tk) ⟨rfl, b', Sit.start B⟩)
section
variable {c : Cfg} {A : Around} {E : Value → Heap → Prop} {h : Heap} {b₀ h₀ b b₁ : Heap} {fs : List Fent} {N : List (Addr × Obj)} {Q : Value → Heap → Prop} {l : Addr} {vs : List Value} {n kk : Nat} {x : Value} {e : Value → Bool} {g : Obj → List (Addr × Obj)}
theorem cl_loop {R : Result → Heap → Prop} (r : Rep l (lstObj vs n) N g) (he : ∀ y ∈ vs, EqG c b₁ kk y x (e y)) : ∀ (k i : Nat) (h b : Heap), i + k = vs.length → b₁.StaysIn b → Sit b₀ h₀ b fs N h → Good A h (kk + 1) →
    (∀ b' h', b.StaysIn b' → Sit b₀ h₀ b' fs N h' → R (.ok (.ret (.bool ((vs.drop i).any e)))) h') → CP c A (.builtin "list.__contains__.loop" ⟨[.ref l, x, rawInt i], []⟩) R h := by
  intro k
  induction k with
  | zero =>
    intro i h b hi st S G q tk
    refine codeAny_builtin entry_contains_loop ?_
    rw [Around.under_plainId plain_contains_loop]
    unfold Builtin.«list.__contains__.loop»
    refine wpAny_bind ?_
    unfold Builtin.List.listItems
    refine wpAny_bind (wpAny_seqItems (s := c.st h tk) (S.atN r) (show (lstObj vs n).data = .seq vs.toArray n from rfl) (wpAny_pure ?_))
    have hi1 : vs.toArray[((i : Nat) : Int).toNat]? = none := by simp; omega
    have hd : vs.drop i = [] := by simp; omega
    have q' := q b h (fun _ _ e => e) S
    rw [hd] at q'
    rw [hi1]
    exact wpAny_pure (lift_mk q')
  | succ k ih =>
    intro i h b hi st S G q tk
    refine codeAny_builtin entry_contains_loop ?_
    rw [Around.under_plainId plain_contains_loop]
    unfold Builtin.«list.__contains__.loop»
    refine wpAny_bind ?_
    unfold Builtin.List.listItems
    refine wpAny_bind (wpAny_seqItems (s := c.st h tk) (S.atN r) (show (lstObj vs n).data = .seq vs.toArray n from rfl) (wpAny_pure ?_))
    have hlt : i < vs.length := by omega
    have hi1 : vs.toArray[((i : Nat) : Int).toNat]? = some vs[i] := by rw [Int.toNat_natCast, List.getElem?_toArray]; exact List.getElem?_eq_getElem hlt
    have hd : vs.drop i = vs[i] :: vs.drop (i + 1) := List.drop_eq_getElem_cons hlt
    rw [hi1]
    rw [hd, List.any_cons] at q
    have hE := he vs[i] (List.getElem_mem hlt) A.in1 b h (fun _ _ => False) st S.bh G.in1 tk
    refine wpAny_bind (wpAny_mono hE (fun v s q' => ?_) fun _ _ q => by obtain ⟨_, _, _, q⟩ := q; exact q.elim)
    obtain ⟨h', t', rfl, rfl, b'', gr⟩ := q'
    cases hb : e vs[i] with
    | true =>
      rw [hb] at q
      exact wpAny_pure (lift_mk (q b'' h' gr.bb (S.grow gr)))
    | false =>
      rw [hb] at q
      have hc : ((i : Int) + 1) = ((i + 1 : Nat) : Int) := by push_cast; rfl
      refine wpAny_pure ⟨plainId_quiet plain_contains_loop _, ?_⟩
      rw [hc]
      exact ih (i + 1) h' b'' (by omega) (fun _ _ e => gr.bb _ _ (st _ _ e)) (S.grow gr) (G.ext gr.ext) (fun b' h'' st' S' => q b' h'' (fun _ _ e => st' _ _ (gr.bb _ _ e)) S') t'
theorem c_notInG (S : Sit b₀ h₀ b fs N h) (r : Rep l (lstObj vs n) N g) (G : Good A h (kk + 1)) (he : ∀ y ∈ vs, EqG c b kk y x (e y)) (q : ∀ b' h', b.StaysIn b' → Sit b₀ h₀ b' fs N h' → Q (.bool (!vs.any e)) h') : WP c A (compareOp .NotIn x (.ref l)) Q E h := fun tk => by
  show wpAny _ A (do return Value.bool (!(← contains (.ref l) x))) _ _ _
  have hT : (c.st h tk).TypeIs (.ref l) "list" := ⟨_, S.atN r, rfl⟩
  refine wpAny_bind (wpAny_contains_slot hT F.slot_list_contains (wpAny_mono (Q := c.lift fun v h' => ∃ z : Bool, v = Value.bool z ∧ Q (.bool (!z)) h') (E := c.lift E) ?_ (fun v s' hv => ?_) fun _ _ e => e))
  · refine wpAny_call (codeAny_call_builtin F.slot_list_contains.plain F.entry_list_contains (F.slot_list_contains.check _ _ _ _ _ _ _ _ hT (F.args_list_contains_2 _ _) ?_))
    unfold Builtin.«list.__contains__»
    refine wpAny_bind (wpAny_of_eq (a := (.ref l, [x])) rfl ?_)
    refine wpAny_pure ⟨plainId_quiet plain_contains_loop _, ?_⟩
    refine codeAny_mono (cl_loop (A := A) (R := fun r h => match r with | .ok (.ret v) => ∃ z : Bool, v = Value.bool z ∧ Q (.bool (!z)) h | _ => False) r he vs.length 0 h b (by omega) (fun _ _ e => e) S G (fun b' h' st S' => ⟨_, rfl, q b' h' st S'⟩) tk) fun r s q => ?_
    obtain ⟨h', t', rfl, q⟩ := q
    cases r with
    | ok f => cases f with
      | ret v => exact lift_mk q
      | _ => exact q.elim
    | error e => exact q.elim
  · obtain ⟨h', t', rfl, b, rfl, hq⟩ := hv
    exact wpAny_truthy_bool (wpAny_pure (lift_mk hq))
end
end

section
def addV {α : Type} (e : α → α → Bool) (acc : List α) (x : α) : List α := bif (!acc.any fun y => e y x) then acc ++ [x] else acc
def dedupV {α : Type} (e : α → α → Bool) (vs : List α) : List α := vs.foldl (addV e) []
theorem addV_mem {α : Type} {e : α → α → Bool} : ∀ {vs acc : List α} {y : α}, y ∈ vs.foldl (addV e) acc → y ∈ acc ∨ y ∈ vs
  | [], _, _, h => .inl h
  | x :: vs, acc, y, h => by
    rcases addV_mem (vs := vs) h with q | q
    · unfold addV at q
      cases hb : (!acc.any fun y => e y x) <;> rw [hb] at q
      · exact .inl q
      · rcases List.mem_append.mp q with q | q
        · exact .inl q
        · simp at q; subst q; exact .inr (.head _)
    · exact .inr (.tail _ q)
theorem addV_len {α : Type} {e : α → α → Bool} : ∀ (vs acc : List α), (vs.foldl (addV e) acc).length ≤ acc.length + vs.length
  | [], _ => Nat.le_refl _
  | x :: vs, acc => by
    have := addV_len (e := e) vs (addV e acc x)
    have h2 : (addV e acc x).length ≤ acc.length + 1 := by
      unfold addV
      cases (!acc.any fun y => e y x) <;> simp
    simp only [List.foldl_cons, List.length_cons]; omega
theorem EqG.stays {c : Cfg} {b b' : Heap} {k : Nat} {x y : Value} {r : Bool} (h : EqG c b k y x r) (s : b.StaysIn b') : EqG c b' k y x r := fun A b1 h1 E st B G => h A b1 h1 E (fun _ _ e => st _ _ (s _ _ e)) B G
def ValL (b : Heap) (v : Value) (vs : List Value) : Prop := ∃ a n, v = .ref a ∧ b.get? a = some (lstObj vs n)
theorem dedupU_ok {c : Cfg} {A : Around} {b h : Heap} {v : Value} {vs : List Value} {kk : Nat} {e : Value → Value → Bool} (W : Wd c b) (B : Base b h) (G : Good A h (kk + 5)) (hl : ValL b v vs) (hsz : vs.length ≤ 1000)
    (he : ∀ y ∈ vs, ∀ x ∈ vs, EqG c b kk y x (e y x)) : Gives c A b h (.ref 36) [v] [] (fun b' w => ValL b' w (dedupV e vs)) := by
  intro E
  generalize hh₀ : h = h₀ at *
  obtain ⟨l, n, rfl, hl⟩ := hl
  refine callK0 (binds := [("unhashable_params", .ref l)]) W B G rfl (by rfl) fun L h' env hf H S => ?_
  dsimp only at H
  repeat' isplit
  obtain ⟨R, hR⟩ : ∃ R, R = ad := ⟨_, rfl⟩
  subst hR
  refine r_iterList S (show A.handled = none from G.hd) (lst_is hl) fun I o h It S j X => ?_
  refine r_forLoop X (fun i b fs N => Ex2 fun m n => An3 (fs = [(L, "frame", m)]) (N = [(R, lstObj ((vs.take i).foldl (addV e) []) n)]) (m (Str.ofString "new_unhashable") = some (.ref R))) ?turn ?done S (fun _ _ e => e) j ⟨_, _, rfl, rfl, by kpf_c⟩
  case turn =>
    rintro i x b₂ fs N h o' Tq kT hi hv st ⟨m, n, rfl, rfl, em⟩ S
    have hk := take_fold (addV e) [] _ i x hv
    have hal : ((vs.take i).foldl (addV e) []).length ≤ 1000 := by
      have := addV_len (e := e) (vs.take i) []
      rw [List.length_take] at this
      simp only [List.length_nil] at this
      omega
    have hmem : ∀ y ∈ (vs.take i).foldl (addV e) [], EqG c b₂ kk y x (e y x) := fun y hy => by
      rcases addV_mem hy with q | q
      · cases q
      · exact (he y (List.mem_of_mem_take q) x (List.mem_of_getElem? hv)).stays st
    generalize hz : (vs.take i).foldl (addV e) [] = acc at *
    repeat' isplit
    refine c_notInG S (.tail .head) ((Good.now G S (.head _) hf H.kind : Good (A.deeper env) h (kk + 4)).le (by omega)) hmem fun b₃ h st3 S => ?_
    repeat' isplit
    · have hq : (!acc.any fun y => e y x) = true := by with_reducible assumption
      refine ⟨b₃, _, _, fun _ _ e => st3 _ _ (st _ _ e), ⟨_, n, rfl, by rw [hk, addV, hq]; rfl, by kpf_c⟩, S⟩
    · have hq : (!acc.any fun y => e y x) = false := by with_reducible assumption
      refine ⟨b₃, _, _, fun _ _ e => st3 _ _ (st _ _ e), ⟨_, n, rfl, by rw [hk, addV, hq]; rfl, by kpf_c⟩, S⟩
  case done =>
    rintro b₂ fs N h st ⟨m, n, rfl, rfl, em⟩ S
    rw [List.take_length] at S
    repeat' isplit
    obtain ⟨b₃, S, st3, e3⟩ := S.out .head
    exact ⟨_, S.done, _, _, rfl, e3⟩
end

section
/-! an exception that is caught in its own frame -/
section
variable {c : Cfg} {A : Around} {E : Value → Heap → Prop} {h : Heap} {env : Env} {b₀ h₀ b : Heap} {fs : List Fent} {N : List (Addr × Obj)} {X : String} {e : Value} {L : Addr}
def ExNew (X : String) (b₀ h₀ b : Heap) (fs : List Fent) (N : List (Addr × Obj)) (e : Value) (h : Heap) : Prop := ∃ a oe vs, e = .ref a ∧ Sit b₀ h₀ b fs ((a, oe) :: N) h ∧ oe.cls = .type X ∧ oe.data = .fields vs ∧ vs[1]? = some .none
def ExFly (X : String) (fl : Value) (b₀ h₀ b : Heap) (fs : List Fent) (N : List (Addr × Obj)) (e : Value) (h : Heap) : Prop := ∃ a oe vs T oT ts, e = .ref a ∧ Sit b₀ h₀ b fs ((T, oT) :: (a, oe) :: N) h ∧ oe.cls = .type X ∧ oe.data = .fields vs ∧ vs[1]? = some (.ref T) ∧
  oT.cls = .type "traceback" ∧ oT.data = .fields ts ∧ ts[3]? = some fl
theorem funFrames {h b : Heap} (B : Base b h) : ∀ {l : List Env}, (∀ env ∈ l, FrOk h env) → h.FunFrames b l
  | [], _ => trivial
  | env :: l, q => by
    obtain ⟨k, L, o, es, ep, f, g, cc, d, _⟩ := q env (.head _)
    refine ⟨k, ⟨L, o, f, ?_, g, fun vs z => by rw [d] at z; cases z⟩, funFrames B fun env m => q env (.tail _ m)⟩
    cases z : b.get? L with
    | none => rfl
    | some o' => obtain ⟨e1, e2⟩ := B _ _ z; rw [g] at e1; cases e1; exact absurd cc e2
theorem slots_ext {h h' : Heap} {l : List Env} (q : ∀ env ∈ l, FrOk h env) (s : Heap.SlotsOnly (l.filterMap (·.frame)) h h') : Ext h h' := fun a o e => by
  obtain ⟨sl, es⟩ := s.2.2 a o e
  refine ⟨_, es, rfl, rfl, fun n => ?_⟩
  by_cases hm : a ∈ l.filterMap (·.frame)
  · obtain ⟨env, m, f⟩ := List.mem_filterMap.mp hm
    obtain ⟨_, L, o', _, _, f', g, cc, _, nb⟩ := q env m
    rw [f] at f'; cases f'
    rw [e] at g; cases g
    exact n.elim (absurd cc) (fun z => absurd z nb)
  · have := s.2.1 a hm
    rw [es, e] at this
    exact Option.some.inj this
theorem fld_cls {a : Addr} {oe : Obj} {f : Array Value → Array Value} {vs : Array Value} (hd : oe.data = .fields vs) : (oe.mapFields f).cls = oe.cls ∧ (oe.mapFields f).data = .fields (f vs) := ⟨Obj.cls_mapFields _ _, Obj.data_mapFields hd _⟩
theorem note_new {outer : List Env} (hx : X ≠ "frame") (ex : ExNew X b₀ h₀ b fs N e h) (hfr : A.frames = some (env :: outer)) (ok : ∀ v ∈ env :: outer, FrOk h v) (hf : env.frame = some L) {Q : Unit → Heap → Prop}
    (q : ∀ h', ExFly X (rawInt L) b₀ h₀ b fs N e h' → Q () h') : WP c A (noteFrame e env) Q E h := fun tk => by
  obtain ⟨a, oe, vs, rfl, S, hc, hd, h1⟩ := ex
  have ea := S.atN .head
  have hsz : 1 < vs.size := (Array.getElem?_eq_some_iff.mp h1).1
  unfold noteFrame
  simp only [hf]
  refine wpAny_bind (wpAny_field ea hd h1 ?_)
  rw [if_neg (by decide)]
  refine wpAny_bind (wpAny_frameOf_fun (base := b) hfr (funFrames S.bh ok) hf fun h₁ hs₁ => ?_)
  refine wpAny_bind (wpAny_entryPlaceOf fun pl hpl => ?_)
  unfold EntryCells.newEntry newFields
  refine wpAny_bind (wpAny_newObj_type ?_ (hpl.sizeOk5 _ _ _ _ _))
  have S1 := S.ext' (slots_ext ok hs₁)
  have S2 := S1.pushN (o := { cls := .type "traceback", dict := none, data := .fields ([Value.none, .ref L, .none, rawInt L, .none] ++ (if pl.isEmpty then List.replicate 6 Value.none else pl)).toArray }) rfl (by show Value.type "traceback" ≠ _; decide)
  have e2 := S2.atN (.tail .head)
  refine wpAny_setField e2 hd hsz ?_
  have d3 := Obj.data_mapFields hd (·.setIfInBounds 1 (Value.ref h₁.objs.size))
  have c3 : (oe.mapFields (·.setIfInBounds 1 (Value.ref h₁.objs.size))).cls = .type X := (Obj.cls_mapFields _ _).trans hc
  have S3 := S2.rep (.tail .head) (Heap.SameBut.update (f := Obj.mapFields (·.setIfInBounds 1 (Value.ref h₁.objs.size))) ..) (Heap.get?_update_self _ e2 (Obj.isFreed_of_fields d3)) (by rw [c3]; exact fun z => hx (by injection z))
  refine lift_mk (c := c) (Q := Q) (t := tk) (q _ ⟨a, _, _, _, _, _, rfl, S3, c3, d3, by simp [hsz], rfl, rfl, ?_⟩)
  first | (simp; done) | (rcases hpl with rfl | ⟨_, _, _, _, _, _, _, rfl⟩ <;> simp)
theorem note_again (ex : ExFly X (rawInt L) b₀ h₀ b fs N e h) (hf : env.frame = some L) {Q : Unit → Heap → Prop} (q : Q () h) : WP c A (noteFrame e env) Q E h := fun tk => by
  obtain ⟨a, oe, vs, T, oT, ts, rfl, S, hc, hd, h1, hcT, hdT, h3⟩ := ex
  exact wpAny_noteFrame_inFlight hf (S.atN (.tail .head)) hd h1 (S.atN .head) hdT h3 (lift_mk q)
theorem fly_set {fl : Value} {f : Option Addr} (ex : ExFly X fl b₀ h₀ b fs N e h) {Q : Unit → Heap → Prop} (q : ∀ h', ExFly X (f.elim .none fun f => rawInt f) b₀ h₀ b fs N e h' → Q () h') : WP c A (setFlight e f) Q E h := fun tk => by
  obtain ⟨a, oe, vs, T, oT, ts, rfl, S, hc, hd, h1, hcT, hdT, h3⟩ := ex
  have hsz : 3 < ts.size := (Array.getElem?_eq_some_iff.mp h3).1
  have eT := S.atN .head
  unfold setFlight
  refine wpAny_bind (wpAny_field (S.atN (.tail .head)) hd h1 ?_)
  rw [if_pos (show (Value.ref T != Value.none) = true from by simp)]
  refine wpAny_setField eT hdT hsz ?_
  have d3 := Obj.data_mapFields hdT (·.setIfInBounds 3 (f.elim .none fun f => rawInt f))
  have c3 : (oT.mapFields (·.setIfInBounds 3 (f.elim .none fun f => rawInt f))).cls = .type "traceback" := (Obj.cls_mapFields _ _).trans hcT
  have S3 := S.rep .head (Heap.SameBut.update (f := Obj.mapFields (·.setIfInBounds 3 (f.elim .none fun f => rawInt f))) ..) (Heap.get?_update_self _ eT (Obj.isFreed_of_fields d3)) (by rw [c3]; decide)
  exact lift_mk (c := c) (Q := Q) (t := tk) (q _ ⟨a, _, _, _, _, _, rfl, S3, hc, hd, h1, c3, d3, by simp [hsz]⟩)
theorem came_back {fl : Value} (ex : ExFly X fl b₀ h₀ b fs N e h) (hf : env.frame = some L) (q : ∀ h', ExFly X (rawInt L) b₀ h₀ b fs N e h' → E e h') (tk : Nat) : cameBackBy c.M A env (c.lift E) e (c.st h tk) := by
  have ex' := ex
  obtain ⟨a, oe, vs, T, oT, ts, rfl, S, hc, hd, h1, hcT, hdT, h3⟩ := ex
  unfold cameBackBy
  refine wpAny_bind (wpAny_field (S.atN (.tail .head)) hd h1 ?_)
  rw [if_neg (by simp)]
  rw [hf]
  exact fly_set (f := some L) (Q := fun _ h => E (.ref a) h) (E := E) ex' (fun h' x => q h' x) tk
end

section
variable {c : Cfg} {A : Around} {E : Value → Heap → Prop} {h : Heap} {env : Env} {b₀ h₀ b : Heap} {fs : List Fent} {N : List (Addr × Obj)} {X : String} {e : Value} {L I : Addr} {o : Obj} {It : Nat → Obj → Prop} {n : Nat} {val : Nat → Value → Prop}
theorem r_ForE {target iter : Expr} {body : List Stmt} {pos : Pos} {Q : Flow → Heap → Prop} (hf : env.frame = some L)
    (x : WP c A (eval iter env) (fun v h => WP c A (pyIter v) (fun it h => CP c A (.forLoop target it body [] env) (fun r h => match r with | .ok f => Q f h | .error e => ∃ fl b fs N, ExFly X fl b₀ h₀ b fs N e h) h) E h) E h)
    (q : ∀ b fs N e h, ExFly X (rawInt L) b₀ h₀ b fs N e h → E e h)
    (hs : ∀ x, foldedSetIterable iter env x = pure x := by intro _; rfl) : WP c A (exec (.For target iter body [] pos) env) Q E h := by
  rw [exec_For]
  refine .bind (.standAt (.bind (x.monoQ fun v h y => .bind (.of_eq (hs v) (.bind (.standAt (.bind (.holding (y.monoQ fun it h z => fun tk => ?_)))))))))
  have z' := z; rw [← mark_none (A := A)] at z'
  refine wpAny_runOwn (fun Γ p hc hb => wpCode_mono ?_ (z' tk Γ p hc hb))
  rintro r s ⟨h', t', rfl, qq⟩
  cases r with
  | ok f => exact lift_mk qq
  | error e =>
    obtain ⟨fl, b, fs, N, ex⟩ := qq
    exact came_back ex hf (fun h'' ex' => q _ _ _ _ _ ex') t'
theorem r_forLoopE {x : Str} {px : Pos} {body : List Stmt} {Q : Flow → Heap → Prop} {b₁ : Heap} {outer : List Env} (hx : X ≠ "frame") (Xt : Iter c A b₁ I It n val) (hfr : A.frames = some (env :: outer)) (hf : env.frame = some L)
    (Inv : Nat → Heap → List Fent → List (Addr × Obj) → Prop)
    (turn : ∀ i v b fs N h o, i < n → val i v → b₁.StaysIn b → Inv i b fs N → Sit b₀ h₀ b fs ((I, o) :: N) h →
      WP c A (storeName env x v) (fun _ h => WP c A (execs body env) (fun f h' => Tu f (∃ b' fs' N', b₁.StaysIn b' ∧ Inv (i + 1) b' fs' N' ∧ Sit b₀ h₀ b' fs' ((I, o) :: N') h') fun f => Q f h') (fun e h => (∀ v ∈ env :: outer, FrOk h v) ∧ ∃ b fs N, ExNew X b₀ h₀ b fs N e h) h) (fun _ _ => False) h)
    (done : ∀ b fs N h, b₁.StaysIn b → Inv n b fs N → Sit b₀ h₀ b fs N h → Q .next h)
    (S : Sit b₀ h₀ b fs ((I, o) :: N) h) (st : b₁.StaysIn b) (i0 : It 0 o) (j0 : Inv 0 b fs N) :
    CP c A (.forLoop (.Name x px) (.ref I) body [] env) (fun r h => match r with | .ok f => Q f h | .error e => ∃ fl b fs N, ExFly X fl b₀ h₀ b fs N e h) h := fun tk => by
  refine codeAny_forLoop_any (ForI c b₀ h₀ b₁ I It n Inv) ?_ n (ForI.mk (n := n) 0 b fs N o h tk (Nat.zero_le _) st j0 i0 S)
  rintro _ _ ⟨i, b, fs, N, o, h, t, hi, st, j, it, S⟩
  have B : Base b₁ h := fun a o e => S.bh a o (st a o e)
  have eI := (S.nw (I, o) (.head _)).1
  by_cases hlt : i < n
  · refine lift_on (Xt.item i h o (fun _ _ => False) (fun r h' => ForV b₀ h₀ b I val It fs N i h' r) hlt B eI it (fun v h' o' hv e' it' hk => .mk v o' hv it' (S.itNext hk e' (Xt.nf _ _ it'))) t) ?_
    rintro _ h₁ t₁ ⟨v, o', hv, it', S'⟩
    show wpAny _ _ (letOwnedTupleGo (.Name x px) (.ref I) v) _ _ _
    refine wpAny_pure ?_
    show wpAny _ _ (assign (.Name x px) env v) _ _ _
    rw [arm_assign_Name]
    refine wpAny_bind (wpAny_standAt (lift_on (WP.bindName (turn i v b fs N h₁ o' hlt hv st j S') t₁) fun _ h₂ t₂ q => ?_))
    refine wpAny_mono (q t₂) (fun f s q => ?_) fun e s q => ?_
    · obtain ⟨h₃, t₃, rfl, q⟩ := q
      cases f with
      | ret v => exact lift_mk q
      | brk => exact lift_mk q
      | next =>
        obtain ⟨b', fs', N', st', j', S''⟩ := q
        exact ForI.next hlt st' j' it' S''
      | cont =>
        obtain ⟨b', fs', N', st', j', S''⟩ := q
        exact ForI.next hlt st' j' it' S''
    · obtain ⟨h₃, t₃, rfl, ok, b', fs', N', ex⟩ := q
      unfold notedBy
      exact lift_on (note_new (E := fun _ _ => False) (Q := fun _ h => ∃ fl b fs N, ExFly X fl b₀ h₀ b fs N e h) hx ex hfr ok hf (fun h' x => ⟨_, _, _, _, x⟩) t₃) fun _ h₄ t₄ q => lift_mk q
  · obtain rfl : i = n := by omega
    refine lift_on (Xt.done h o (fun _ _ => False) (fun r h' => r = none ∧ Sit b₀ h₀ b fs N h') B eI it (fun h' hk => ⟨rfl, S.itDone hk⟩) t) fun _ h₁ t₁ q => ?_
    rw [q.1]
    exact wpAny_execs_nil (lift_mk (done b fs N h₁ st j q.2))
theorem r_TryE {body : List Stmt} {s₀ : Stmt} {suite : List Stmt} {t : Expr} {hpos pos : Pos} {Q : Flow → Heap → Prop} {T : String} (hf : env.frame = some L)
    (hexc : isSubtype (.type T) (.type "BaseException") = pure true) (hnt : isSubtype (.type ((Manifest.find? T).elim "type" fun x => x.metatype)) (.type "tuple") = pure false) (hsub : isSubtype (.type X) (.type T) = pure true)
    (x : WP c A (execs body env) Q (fun e h => ∃ b fs N, ExFly X (rawInt L) b₀ h₀ b fs N e h) h)
    (y : ∀ b fs N a h, ExFly X .none b₀ h₀ b fs N (.ref a) h → WP c (A.mark (some (.ref a))) (eval t env) (fun v h' => v = .type T ∧ ExFly X .none b₀ h₀ b fs N (.ref a) h') (fun _ _ => False) h)
    (w : ∀ b fs N a h, ExFly X .none b₀ h₀ b fs N (.ref a) h → WP c (A.mark (some (.ref a))) (execs (s₀ :: suite) env) Q (fun _ _ => False) h) :
    WP c A (exec (.Try body [.ExceptHandler (some t) none (s₀ :: suite) hpos] [] [] pos) env) Q E h := fun tk => by
  refine wpAny_Try_except (wpAny_mono (x tk) (fun f s q => ?_) fun e s q => ?_)
  · obtain ⟨h', t', rfl, q⟩ := q
    cases f with
    | next => exact wpAny_execs_nil (lift_mk q)
    | _ => exact lift_mk q
  · obtain ⟨h₁, t₁, rfl, b, fs, N, ex⟩ := q
    refine wpAny_mono (note_again (c := c) (A := A) (E := E) (Q := fun _ h => ExFly X (rawInt L) b₀ h₀ b fs N e h) ex hf ex t₁) (fun _ s q => ?_) fun _ _ e => e
    obtain ⟨h₂, t₂, rfl, ex⟩ := q
    refine wpAny_mono (fly_set (c := c) (A := A) (E := E) (f := none) (Q := fun _ h => ExFly X .none b₀ h₀ b fs N e h) ex (fun _ x => x) t₂) (fun _ s q => ?_) fun _ _ e => e
    obtain ⟨h₃, t₃, rfl, ex⟩ := q
    obtain ⟨a, rfl⟩ : ∃ a, e = .ref a := let ⟨a, _, _, _, _, _, e, _⟩ := ex; ⟨a, e⟩
    have off : ∀ {α : Type} {A : Around} {m : Sem α} {Q' : α → Shared → Prop} {E' : Value → Shared → Prop} {s : Shared}, wpAny c.M A m Q' (c.lift fun _ _ => False) s → wpAny c.M A m Q' E' s := fun z => wpAny_mono z (fun _ _ q => q) fun _ _ q => by obtain ⟨_, _, _, q⟩ := q; exact q.elim
    refine wpAny_handleBy_builtin hexc hnt hsub (off (wpAny_mono (y b fs N a h₃ ex t₃) (fun v s q => ?_) fun _ _ e => e))
    obtain ⟨h₄, t₄, rfl, rfl, ex⟩ := q
    refine ⟨rfl, ?_, ?_⟩
    · obtain ⟨a', oe, vs, T', oT, ts, e', S, hc, _⟩ := ex
      injection e' with e'
      subst e'
      exact ⟨oe, S.atN (.tail .head), hc⟩
    · rw [if_pos rfl]
      refine wpAny_mono (fly_set (c := c) (E := fun _ _ => False) (f := none) (Q := fun _ h => ExFly X .none b₀ h₀ b fs N (.ref a) h) ex (fun _ x => x) t₄) (fun _ s q => ?_) fun _ _ q => by obtain ⟨_, _, _, q⟩ := q; exact q.elim
      obtain ⟨h₅, t₅, rfl, ex⟩ := q
      exact off (w b fs N a h₅ ex t₅)
end
end

section
open PySem.MeetsSeq
section
variable {c : Cfg} {A : Around} {E : Value → Heap → Prop} {h : Heap} {b₀ h₀ b : Heap} {fs : List Fent} {N : List (Addr × Obj)} {Q : Value → Heap → Prop} {l : Addr} {vs : List Value} {n : Nat} {x : Str} {t : Tok} {xs : List Str} {g : Obj → List (Addr × Obj)}
theorem seq_obj {o : Obj} {vs : List Value} {n : Nat} {f : Array Value → Array Value} {ws : List Value} (ho : o = lstObj vs n) (hf : f vs.toArray = ws.toArray) : ∃ n', Obj.mapSeq f o = lstObj ws n' := by
  subst ho
  obtain ⟨n', hd'⟩ := Obj.data_mapSeq (o := lstObj vs n) (xs := vs.toArray) (n := n) rfl f
  refine ⟨n', ?_⟩
  unfold Obj.mapSeq lstObj at hd' ⊢
  simp only at hd' ⊢
  simp only [Obj.mk.injEq, true_and, and_true]
  rw [hd', hf]
theorem erase_idx {vs : List Value} {j : Nat} (hj : j < vs.length) : vs.toArray.eraseIdxIfInBounds j = (vs.eraseIdx j).toArray := by
  have : j < vs.toArray.size := by simpa using hj
  rw [Array.eraseIdxIfInBounds, dif_pos this]
  apply Array.ext'
  rw [Array.toList_eraseIdx]
def hitS (x : Str) : Value → Bool
  | .str y _ => y == x
  | _ => false
theorem hitS_str {x y : Str} {t : Tok} : hitS x (.str y t) = (y == x) := rfl
theorem hit_gives (hv : StrsAre vs xs) : ∀ y, y ∈ vs.toArray → EqGives y (.str x t) (hitS x y) := fun y hy => by
  obtain ⟨i, hi⟩ := List.mem_iff_getElem?.mp (show y ∈ vs by simpa using hy)
  obtain ⟨k, u, rfl, _⟩ := strs_get hv hi
  have := SeqRoads2.EqGives.str k x u t
  rw [str_beq] at this
  rw [hitS_str]; exact this
theorem strs_eraseIdx : ∀ {vs : List Value} {xs : List Str} (j : Nat), StrsAre vs xs → StrsAre (vs.eraseIdx j) (xs.eraseIdx j)
  | _, _, _, .nil => by simp; exact .nil
  | _, _, 0, .cons x t r => r
  | _, _, j + 1, .cons x t r => .cons x t (strs_eraseIdx j r)
theorem erase_first : ∀ {xs : List Str} {x : Str} {j : Nat}, xs[j]? = some x → (∀ m, m < j → xs[m]? ≠ some x) → xs.erase x = xs.eraseIdx j
  | [], _, _, e, _ => by simp at e
  | y :: xs, x, 0, e, _ => by simp at e; subst e; simp
  | y :: xs, x, j + 1, e, h => by
    have hy : (y == x) = false := by
      have := h 0 (Nat.zero_lt_succ _)
      simpa using this
    rw [List.erase_cons, hy]
    simp only [Bool.false_eq_true, if_false, List.eraseIdx_cons_succ]
    rw [erase_first (by simpa using e) (fun m hm => by simpa using h (m + 1) (by omega))]
theorem first_at : ∀ {xs : List Str} {x : Str}, x ∈ xs → ∃ j : Nat, xs[j]? = some x ∧ ∀ m, m < j → xs[m]? ≠ some x
  | y :: xs, x, h => by
    by_cases hy : y = x
    · exact ⟨0, by simp [hy], fun m hm => absurd hm (Nat.not_lt_zero _)⟩
    · obtain ⟨j, e, q⟩ := first_at (xs := xs) (x := x) ((List.mem_cons.mp h).resolve_left fun e => hy e.symm)
      refine ⟨j + 1, by simpa using e, fun m hm => ?_⟩
      cases m with
      | zero => simpa using hy
      | succ m => simpa using q m (by omega)
theorem c_remove (S : Sit b₀ h₀ b fs N h) (r : Rep l (lstObj vs n) N g) (hv : StrsAre vs xs) (hx : x ∈ xs) (hsz : vs.length ≤ 1000) (q : ∀ h' ws n', Sit b₀ h₀ b fs (g (lstObj ws n')) h' → StrsAre ws (xs.erase x) → Q .none h') :
    WP c A (call (.builtin "list.remove") [.ref l, .str x t] []) Q E h := fun tk => by
  have e := S.atN r
  obtain ⟨j, ej, hj⟩ := first_at hx
  have hjl : j < vs.length := by
    rw [strs_len hv]
    rcases Nat.lt_or_ge j xs.length with h | h
    · exact h
    · rw [List.getElem?_eq_none h] at ej; cases ej
  have hAt : ∀ (m : Nat) (hm : m < vs.toArray.size), ∃ y, xs[m]? = some y ∧ hitS x vs.toArray[m] = (y == x) := fun m hm => by
    have hm' : m < vs.length := by simpa using hm
    obtain ⟨k, u, ek, ex⟩ := strs_get hv (List.getElem?_eq_getElem hm')
    refine ⟨k, ex, ?_⟩
    have : vs.toArray[m] = Value.str k u := by simpa using ek
    rw [this, hitS_str]
  refine call_meets F.slot_list_remove (lst_is e).typeIs F.entry_list_remove (F.args_list_remove_2 _ _) (list_remove l vs.toArray n (.str x t) (hitS x) (hit_gives hv) j (by simpa using hjl) ?_ ?_ (by rw [sizeLine_eq, List.size_toArray]; omega)) ⟨e, ?_⟩
  · obtain ⟨y, ey, hy⟩ := hAt j (by simpa using hjl)
    rw [ej] at ey; cases ey
    rw [hy]; simp
  · intro m hm hlt
    obtain ⟨y, ey, hy⟩ := hAt m hm
    rw [hy]
    have := hj m hlt
    rw [ey] at this
    simpa using this
  · obtain ⟨n', hn'⟩ := seq_obj (f := fun xs => xs.eraseIdxIfInBounds j) (rfl : lstObj vs n = lstObj vs n) (erase_idx hjl)
    refine lift_mk (c := c) (Q := Q) (t := tk) (q _ (vs.eraseIdx j) n' (S.rep r (Heap.SameBut.update ..) ?_ (by show Value.type "list" ≠ _; decide)) (by rw [erase_first ej hj]; exact strs_eraseIdx j hv))
    have := Heap.get?_update_self (Obj.mapSeq fun xs => xs.eraseIdxIfInBounds j) e (by rw [hn']; rfl)
    rw [hn'] at this; exact this
theorem c_removeNo (S : Sit b₀ h₀ b fs N h) (r : Rep l (lstObj vs n) N g) (hh : A.handled = none) (hv : StrsAre vs xs) (hx : x ∉ xs) (q : ∀ e h', Ext h h' → ExNew "ValueError" b₀ h₀ b fs N e h' → E e h') :
    WP c A (call (.builtin "list.remove") [.ref l, .str x t] []) Q E h := fun tk => by
  have e := S.atN r
  refine call_meets F.slot_list_remove (lst_is e).typeIs F.entry_list_remove (F.args_list_remove_2 _ _) (list_remove_none l vs.toArray n (.str x t) (hitS x) (hit_gives hv) ?_) ⟨e, hh, fun h' tk' a ex => ?_⟩
  · intro m hm
    have hm' : m < vs.length := by simpa using hm
    obtain ⟨k, u, ek, ex⟩ := strs_get hv (List.getElem?_eq_getElem hm')
    have : vs.toArray[m] = Value.str k u := by simpa using ek
    rw [this, hitS_str]
    exact beq_eq_false_iff_ne.mpr fun q => hx (q ▸ List.mem_of_getElem? ex)
  · obtain ⟨hk, hnew, ob, t', eo, hc, hd⟩ := ex
    have X : Ext h h' := fun b o e => ⟨o, hk b o e, rfl, rfl, fun _ => rfl⟩
    have S' := S.ext' X
    have f0 : h₀.get? a = none := by
      cases z : h₀.get? a with
      | none => rfl
      | some o => obtain ⟨o', e', _⟩ := S.ext _ _ z; rw [show (c.st h tk).heap = h from rfl, e'] at hnew; cases hnew
    have fb : b.get? a = none := by
      cases z : b.get? a with
      | none => rfl
      | some o => have := (S.bh _ _ z).1; rw [show (c.st h tk).heap = h from rfl, this] at hnew; cases hnew
    have nin : ∀ y ∈ fs.map (·.1) ++ N.map (·.1), y ≠ a := fun y hy q => by
      subst q
      rcases List.mem_append.mp hy with z | z
      · obtain ⟨p, hp, hpa⟩ := List.mem_map.mp z
        obtain ⟨⟨_, o, e, _⟩, _⟩ := S.fr p hp
        rw [hpa] at e
        rw [show (c.st h tk).heap = h from rfl, e] at hnew; cases hnew
      · obtain ⟨p, hp, hpa⟩ := List.mem_map.mp z
        have e := (S.nw p hp).1
        rw [hpa] at e
        rw [show (c.st h tk).heap = h from rfl, e] at hnew; cases hnew
    refine lift_mk (c := c) (Q := E) (t := tk') (q _ _ X ⟨a, ob, _, rfl, ⟨S'.ext, S'.bb, S'.bh, S'.new, S'.fr, fun p hp => ?_, ?_⟩, hc, hd, rfl⟩)
    · rcases List.mem_cons.mp hp with rfl | hp
      · exact ⟨eo, by rw [hc]; decide, fb, f0⟩
      · exact S'.nw p hp
    · have nd := S.nd
      rw [List.nodup_append] at nd ⊢
      refine ⟨nd.1, ?_, ?_⟩
      · rw [List.map_cons, List.nodup_cons]
        exact ⟨fun z => nin a (List.mem_append_right _ z) rfl, nd.2.1⟩
      · intro y hy z hz
        rw [List.map_cons] at hz
        rcases List.mem_cons.mp hz with rfl | hz
        · exact nin y (List.mem_append_left _ hy)
        · exact nd.2.2 y hy z hz
theorem c_listList (S : Sit b₀ h₀ b fs N h) (e : h.get? l = some (lstObj vs n)) (hsz : vs.length ≤ sizeLine) (q : ∀ a n' h', Sit b₀ h₀ b fs ((a, lstObj vs n') :: N) h' → Q (.ref a) h') : WP c A (call (.type "list") [.ref l]) Q E h := fun tk =>
  call_list_seq l (.inl rfl) (show (c.st h tk).heap.get? l = _ from e) rfl rfl (fun h' c' hk hD => lift_mk (c := c) (Q := Q) (t := tk) (q _ c' _ (S.addN (o := lstObj vs c') hk hD (by show Value.type "list" ≠ _; decide)))) (by simpa using hsz)
end
end

def eqV : Value → Value → Bool
  | .str x _, .str y _ => x == y
  | _, _ => false
def eqS (x y : Str) : Bool := x == y
theorem eqV_gives {c : Cfg} {b : Heap} {k : Nat} {vs : List Value} {xs : List Str} (hv : StrsAre vs xs) : ∀ y ∈ vs, ∀ x ∈ vs, EqG c b k y x (eqV y x) := fun y hy x hx => by
  obtain ⟨i, hi⟩ := List.mem_iff_getElem?.mp hy
  obtain ⟨j, hj⟩ := List.mem_iff_getElem?.mp hx
  obtain ⟨_, _, rfl, _⟩ := strs_get hv hi
  obtain ⟨_, _, rfl, _⟩ := strs_get hv hj
  exact EqG.str
theorem any_strs {vs : List Value} {xs : List Str} {x : Str} {t : Tok} (hv : StrsAre vs xs) : (vs.any fun y => eqV y (.str x t)) = xs.any fun y => eqS y x := by
  induction hv with
  | nil => rfl
  | cons y u r ih => rw [List.any_cons, List.any_cons, ih]; rfl
theorem dedup_strs : ∀ {vs : List Value} {xs : List Str} {acc : List Value} {acs : List Str}, StrsAre vs xs → StrsAre acc acs → StrsAre (vs.foldl (addV eqV) acc) (xs.foldl (addV eqS) acs)
  | _, _, _, _, .nil, h => h
  | _, _, acc, acs, .cons x t r, h => by
    rw [List.foldl_cons, List.foldl_cons]
    refine dedup_strs r ?_
    unfold addV
    rw [any_strs h]
    cases (!acs.any fun y => eqS y x)
    · exact h
    · exact strs_app h (.cons _ _ .nil)
def remAll : List Str → List Str → Option (List Str)
  | [], t => some t
  | x :: r, t => if x ∈ t then remAll r (t.erase x) else none
def cmpS (xs ys : List Str) : Bool := remAll (dedupV eqS xs) (dedupV eqS ys) == some []
section
variable {c : Cfg} {A : Around} {E : Value → Heap → Prop} {h : Heap} {Q : Value → Heap → Prop}
theorem u_not {v : Value} (x : WP c A (truthy v) (fun b h => Q (.bool (!b)) h) E h) : WP c A (unaryOp .Not v) Q E h := by
  show WP c A (PySem.holding [v] (do return Value.bool (!(← truthy v)))) Q E h
  refine .holding ?_
  exact .bind (x.monoQ fun b h q => .pure q)
end
local macro_rules | `(tactic| isplit) => `(tactic| first | with_reducible refine u_not ?_ | fail "no")
theorem vl_exc : isSubtype (.type "ValueError") (.type "BaseException") = pure true := by rw [isSubtype_type]; kernel_rfl
theorem vl_nt : isSubtype (.type ((Manifest.find? "ValueError").elim "type" fun x => x.metatype)) (.type "tuple") = pure false := by first | (rw [isSubtype_type]; kernel_rfl) | decide +kernel
theorem vl_sub : isSubtype (.type "ValueError") (.type "ValueError") = pure true := by rw [isSubtype_type]; kernel_rfl
theorem gb_ve (P : Params) : nsIn (KK P) mainGlobals (Str.ofString "ValueError") = some none ∧ bootBuiltins (Str.ofString "ValueError") = some (.type "ValueError") := ⟨by kernel_rfl, by kernel_rfl⟩
local macro_rules | `(tactic| k_places) => `(tactic| with_reducible first | exact gb_ve _ | fail "no")
theorem cmpargs_ok {c : Cfg} {A : Around} {b h : Heap} {v w : Value} {xs ys : List Str} (W : Wd c b) (B : Base b h) (G : Good A h 20) (hv : ListD DT.str b v xs) (hw : ListD DT.str b w ys) (hx : xs.length ≤ 1000) (hy : ys.length ≤ 1000) :
    Gives c A b h (.ref 43) [v, w] [] (fun _ r => r = .bool (cmpS xs ys)) := by
  intro E
  unfold cmpS
  generalize hh₀ : h = h₀ at *
  obtain ⟨l1, vs, n1, rfl, e1, d1⟩ := hv
  obtain ⟨l2, ws, n2, rfl, e2, d2⟩ := hw
  have s1 := strs_all d1
  have s2 := strs_all d2
  refine callK0 (binds := [("first_args", .ref l1), ("second_args", .ref l2)]) W B G rfl (by rfl) fun L h' env hf H S => ?_
  dsimp only at H
  repeat' isplit
  refine use (dedupU_ok (kk := 0) W S.bh ((Good.now G S (.head _) hf H.kind).le (by decide)) ⟨l1, n1, rfl, e1⟩ (by rw [strs_len s1]; exact hx) (eqV_gives s1)) S fun v1 h b1 S st1 p1 => ?_
  obtain ⟨a1, m1, rfl, e1⟩ := p1
  repeat' isplit
  refine use (dedupU_ok (kk := 0) (W.stays st1) S.bh ((Good.now G S (.head _) hf H.kind).le (by decide)) ⟨l2, n2, rfl, st1 _ _ e2⟩ (by rw [strs_len s2]; exact hy) (eqV_gives s2)) S fun v2 h b2 S st2 p2 => ?_
  obtain ⟨a2, m2, rfl, e2⟩ := p2
  have t1 : StrsAre (dedupV eqV vs) (dedupV eqS xs) := dedup_strs s1 .nil
  have t2 : StrsAre (dedupV eqV ws) (dedupV eqS ys) := dedup_strs s2 .nil
  have z1 : (dedupV eqV vs).length ≤ 1000 := Nat.le_trans (addV_len _ _) (by rw [strs_len s1]; simpa using hx)
  have z2 : (dedupV eqV ws).length ≤ 1000 := Nat.le_trans (addV_len _ _) (by rw [strs_len s2]; simpa using hy)
  generalize hD1 : dedupV eqV vs = D1 at *
  generalize hD2 : dedupV eqV ws = D2 at *
  have e1 := st2 _ _ e1
  generalize dedupV eqS xs = X1 at *
  generalize dedupV eqS ys = X2 at *
  clear hD1 hD2 d1 d2 s1 s2
  repeat' isplit
  refine c_listList S (S.atB e2) (Nat.le_trans z2 (Nat.le_of_ble_eq_true rfl)) fun T nT h S => ?_
  have G2 := Good.now G S (.head _) hf H.kind
  have hh : (A.deeper env).handled = none := G2.hd
  have xl : D1.length = X1.length := strs_len t1
  cases hr : remAll X1 X2 with
  | some z =>
    repeat' isplit
    refine r_iterList S hh (lst_is e1) fun I o h It S j X => ?_
    refine r_forLoop X (fun i b fs N => Ex4 fun m ws n z' => An6 (fs = [(L, "frame", m)]) (N = [(T, lstObj ws n)]) (StrsAre ws z') (remAll (X1.drop i) z' = some z) (ws.length ≤ 1000) (m (Str.ofString "t") = some (.ref T))) ?turn ?done S (fun _ _ e => e) j ⟨_, _, _, _, rfl, rfl, t2, hr, z2, by kpf_c⟩
    case turn =>
      rintro i v b₂ fs N h o' Tq kT hi hv st ⟨m, ws, n, z', rfl, rfl, hw, hz, hwl, em⟩ S
      obtain ⟨x, tx, rfl, ex⟩ := strs_get t1 hv
      have hdx : X1.drop i = x :: X1.drop (i + 1) := by
        have hlt : i < X1.length := by omega
        rw [List.drop_eq_getElem_cons hlt]
        rw [List.getElem?_eq_getElem hlt] at ex
        rw [Option.some.inj ex]
      rw [hdx, remAll] at hz
      have hmem : x ∈ z' := by
        by_cases q : x ∈ z'
        · exact q
        · rw [if_neg q] at hz; cases hz
      rw [if_pos hmem] at hz
      clear hdx
      repeat' isplit
      refine c_remove S (.tail .head) hw hmem hwl fun h ws' n' S hw' => ?_
      have hwl' : ws'.length ≤ 1000 := by
        rw [strs_len hw']
        exact Nat.le_trans (List.length_erase_le ..) (by rw [← strs_len hw]; exact hwl)
      repeat' isplit
      exact ⟨_, _, _, st, ⟨_, _, _, _, rfl, rfl, hw', hz, hwl', by kpf_c⟩, S⟩
    case done =>
      rintro b₂ fs N h st ⟨m, ws, n, z', rfl, rfl, hw, hz, hwl, em⟩ S
      rw [xl, List.drop_length, remAll] at hz
      have hz := Option.some.inj hz
      subst hz
      repeat' isplit
      refine ⟨_, S.done, ?_⟩
      show Value.bool (!(!ws.isEmpty)) = Value.bool (remAll X1 X2 == some [])
      rw [hr]
      cases hw <;> rfl
  | none =>
    obtain ⟨outer, ho, hok⟩ := G.frames
    have hfr : (A.deeper env).frames = some (env :: outer) := by show A.frames.map _ = _; rw [ho]; rfl
    have okf : ∀ {h' : Heap} {k : Nat}, Good (A.deeper env) h' k → ∀ v ∈ env :: outer, FrOk h' v := fun G' => by
      obtain ⟨fs, e, q⟩ := G'.frames
      rw [hfr] at e
      cases e
      exact q
    isplit
    isplit
    isplit
    isplit
    refine r_TryE (X := "ValueError") (T := "ValueError") (b₀ := b) (h₀ := h₀) hf vl_exc vl_nt vl_sub ?x ?y ?w
    case x =>
      isplit
      refine r_ForE (X := "ValueError") (b₀ := b) (h₀ := h₀) hf ?_ (fun b fs N e h ex => ⟨b, fs, N, ex⟩)
      repeat' isplit
      refine r_iterList S hh (lst_is e1) fun I o h It S j X => ?_
      refine r_forLoopE (by decide) X hfr hf (fun i b fs N => Ex4 fun m ws n z' => An6 (fs = [(L, "frame", m)]) (N = [(T, lstObj ws n)]) (StrsAre ws z') (remAll (X1.drop i) z' = none) (ws.length ≤ 1000) (m (Str.ofString "t") = some (.ref T))) ?turn ?done S (fun _ _ e => e) j ⟨_, _, _, _, rfl, rfl, t2, hr, z2, by kpf_c⟩
      case turn =>
        rintro i v b₂ fs N h o' hi hv st ⟨m, ws, n, z', rfl, rfl, hw, hz, hwl, em⟩ S
        obtain ⟨x, tx, rfl, ex⟩ := strs_get t1 hv
        have hdx : X1.drop i = x :: X1.drop (i + 1) := by
          have hlt : i < X1.length := by omega
          rw [List.drop_eq_getElem_cons hlt]
          rw [List.getElem?_eq_getElem hlt] at ex
          rw [Option.some.inj ex]
        rw [hdx, remAll] at hz
        clear hdx
        by_cases hmem : x ∈ z'
        · rw [if_pos hmem] at hz
          repeat' isplit
          refine c_remove S (.tail .head) hw hmem hwl fun h ws' n' S hw' => ?_
          have hwl' : ws'.length ≤ 1000 := by
            rw [strs_len hw']
            exact Nat.le_trans (List.length_erase_le ..) (by rw [← strs_len hw]; exact hwl)
          repeat' isplit
          exact ⟨_, _, _, st, ⟨_, _, _, _, rfl, rfl, hw', hz, hwl', by kpf_c⟩, S⟩
        · repeat' isplit
          have G3 := Good.now G S (.head _) hf H.kind
          exact c_removeNo S (.tail .head) hh hw hmem fun e h' X ex => ⟨fun v m => (okf G3 v m).ext X, _, _, _, ex⟩
      case done =>
        rintro b₂ fs N h st ⟨m, ws, n, z', rfl, rfl, hw, hz, hwl, em⟩ S
        rw [xl, List.drop_length, remAll] at hz
        cases hz
    case y =>
      rintro b₂ fs N a h ⟨a', oe, vs, T', oT, ts, e', S, r⟩
      repeat' isplit
      exact ⟨rfl, a', oe, vs, T', oT, ts, e', S, r⟩
    case w =>
      rintro b₂ fs N a h ⟨a', oe, vs, T', oT, ts, e', S, r⟩
      repeat' isplit
      exact ⟨_, S.done, by show Value.bool false = Value.bool (remAll X1 X2 == some []); rw [hr]; rfl⟩

section
/-! list comprehensions -/
inductive CN (env : Env) : List (Str × NameKind) → List (Str × Addr) → List (Str × Addr) → List (Str × NameKind) → Prop
  | nil {acc} : CN env [] acc acc []
  | free {n a rest acc cl ns} : env.cells.lookup n = some a → env.kindOf n = some .cell → CN env rest ((n, a) :: acc) cl ns → CN env ((n, .free) :: rest) acc cl ((n, .cell) :: ns)
  | loc {n rest acc cl ns} : CN env rest acc cl ns → CN env ((n, .local) :: rest) acc cl ((n, .local) :: ns)
  | glob {n rest acc cl ns} : CN env rest acc cl ns → CN env ((n, .globalImplicit) :: rest) acc cl ((n, .globalImplicit) :: ns)
theorem CN.closure {env : Env} {scope : Scope} {cl : List (Str × Addr)} {ns : List (Str × NameKind)} (h : CN env scope.names [] cl ns) : closureFor scope env = pure cl := by
  unfold closureFor
  have key : ∀ {names : List (Str × NameKind)} {acc cl : List (Str × Addr)} {ns : List (Str × NameKind)}, CN env names acc cl ns →
      (forIn names acc fun x r => match x with | (name, kind) => if (kind == .free) = true then (do let a ← cellOf env name; pure (ForInStep.yield ((name, a) :: r))) else pure (ForInStep.yield r) : Sem (List (Str × Addr))) = pure cl := by
    intro names acc cl ns h
    induction h with
    | nil => rfl
    | free h1 _ _ ih =>
      rw [List.forIn_cons]
      show (cellOf env _ >>= fun a => pure (ForInStep.yield _)) >>= _ = _
      unfold cellOf
      rw [h1]
      exact ih
    | loc _ ih => rw [List.forIn_cons]; exact ih
    | glob _ ih => rw [List.forIn_cons]; exact ih
  have := key h
  first | exact this | (rw [this]; rfl) | (simp only [this]; rfl)
theorem CN.names {env : Env} (hk : env.scope.kind = .function) {names : List (Str × NameKind)} {acc cl : List (Str × Addr)} {ns : List (Str × NameKind)} (h : CN env names acc cl ns) :
    names.map (fun (n, k) => if (k == .free && env.scope.kind == .function && env.kindOf n == some .cell) = true then (n, .cell) else (n, k)) = ns := by
  induction h with
  | nil => rfl
  | free _ h2 _ ih =>
    rw [List.map_cons, ih]
    simp [hk, h2]
  | loc _ ih => rw [List.map_cons, ih]; rfl
  | glob _ ih => rw [List.map_cons, ih]; rfl
theorem CN.nocell {env : Env} {names : List (Str × NameKind)} {acc cl : List (Str × Addr)} {ns : List (Str × NameKind)} (h : CN env names acc cl ns) : names.all (fun x => x.2 != .cell) = true := by
  induction h with
  | nil => rfl
  | free _ _ _ ih => rw [List.all_cons, ih]; rfl
  | loc _ ih => rw [List.all_cons, ih]; rfl
  | glob _ ih => rw [List.all_cons, ih]; rfl
theorem CN.locals {env : Env} {names : List (Str × NameKind)} {acc cl : List (Str × Addr)} {ns : List (Str × NameKind)} (h : CN env names acc cl ns) : ∀ y ∈ names, y.2 = .local → y ∈ ns := by
  induction h with
  | nil => intro y hy; cases hy
  | free _ _ _ ih => intro y hy hl; rcases List.mem_cons.mp hy with rfl | hy; cases hl; exact .tail _ (ih y hy hl)
  | loc _ ih => intro y hy hl; rcases List.mem_cons.mp hy with rfl | hy; exact .head _; exact .tail _ (ih y hy hl)
  | glob _ ih => intro y hy hl; rcases List.mem_cons.mp hy with rfl | hy; cases hl; exact .tail _ (ih y hy hl)
section
variable {b₀ h₀ b h h' : Heap} {fs : List Fent} {N : List (Addr × Obj)} {p : Fent}
theorem Sit.dropF (S : Sit b₀ h₀ b (p :: fs) N h) : Sit b₀ h₀ b fs N h :=
  ⟨S.ext, S.bb, S.bh, S.new, fun q hq => S.fr q (.tail _ hq), S.nw, (List.nodup_cons.mp (show (p.1 :: (fs.map (·.1) ++ N.map (·.1))).Nodup from S.nd)).2⟩
theorem Sit.loseF {L : Addr} {C : String} {m : Vars} (S : Sit b₀ h₀ b ((L, C, m) :: fs) N h) (hs : Heap.SameBut L h h') : Sit b₀ h₀ b fs N h' where
  ext := by
    have z := (S.fr _ (.head _)).2.2
    refine fun a o e => ?_
    obtain ⟨o', e', r⟩ := S.ext a o e
    exact ⟨o', (hs.2 a (fun q => by rw [q, z] at e; cases e)).trans e', r⟩
  bb := S.bb
  bh := fun a o e => by
    have z := (S.fr _ (.head _)).2.1
    exact ⟨(hs.2 a (fun q => by rw [q, z] at e; cases e)).trans (S.bh a o e).1, (S.bh a o e).2⟩
  new := S.new
  fr := fun p hp => by
    have nd := S.nd
    have : p.1 ≠ L := fun q => by
      replace nd : (L :: (fs.map (·.1) ++ N.map (·.1))).Nodup := nd
      exact (List.nodup_cons.mp nd).1 (q ▸ List.mem_append_left _ (List.mem_map_of_mem hp))
    exact ⟨⟨(S.fr p (.tail _ hp)).1.1.sameBut hs this, let ⟨o', e, cc⟩ := (S.fr p (.tail _ hp)).1.2; ⟨o', (hs.2 _ this).trans e, cc⟩⟩, (S.fr p (.tail _ hp)).2⟩
  nw := fun p hp => by
    have nd := S.nd
    have : p.1 ≠ L := fun q => by
      replace nd : (L :: (fs.map (·.1) ++ N.map (·.1))).Nodup := nd
      exact (List.nodup_cons.mp nd).1 (q ▸ List.mem_append_right _ (List.mem_map_of_mem hp))
    exact ⟨(hs.2 _ this).trans (S.nw p hp).1, (S.nw p hp).2⟩
  nd := S.dropF.nd
/-- two neighbours change places -/
theorem Sit.swap {x y : Addr × Obj} (S : Sit b₀ h₀ b fs (x :: y :: N) h) : Sit b₀ h₀ b fs (y :: x :: N) h where
  ext := S.ext
  bb := S.bb
  bh := S.bh
  new := S.new
  fr := S.fr
  nw := fun p hp => S.nw p (by
    rcases List.mem_cons.mp hp with rfl | hp
    · exact .tail _ (.head _)
    · rcases List.mem_cons.mp hp with rfl | hp
      · exact .head _
      · exact .tail _ (.tail _ hp))
  nd := by
    have nd := S.nd
    refine (List.Perm.nodup_iff ?_).mp nd
    exact List.Perm.append_left _ (List.Perm.swap _ _ _)
end
abbrev tests (ifs : List Expr) (env : Env) : Sem Bool := forIn ifs true fun c r => if r = true then do let ok ← isTrue c env (eval c env); pure (ForInStep.yield ok) else pure (ForInStep.yield r)
section
variable {c : Cfg} {A : Around} {E : Value → Heap → Prop} {h : Heap} {env : Env} {b₀ h₀ b : Heap} {fs : List Fent} {N : List (Addr × Obj)} {I : Addr} {o : Obj} {It : Nat → Obj → Prop} {n : Nat} {val : Nat → Value → Prop}
  {names names' : List (Str × NameKind)} {cells cl : List (Str × Addr)} {L : Addr} {Q : Value → Heap → Prop}
theorem r_tests_nil {Q : Bool → Heap → Prop} (q : Q true h) : WP c A (tests [] env) Q E h := fun tk => wpAny_tests_nil (lift_mk q)
theorem r_tests_one {e : Expr} {Q : Bool → Heap → Prop} (x : WP c A (isTrue e env (eval e env)) Q E h) : WP c A (tests [e] env) Q E h := fun tk => wpAny_tests_one (x tk)
def CompEnd (acc : Value) (Lc : Addr) (Q : Value → Heap → Prop) (r : Result) (h' : Heap) : Prop :=
  match r with
  | .ok _ => ∃ m, h'.Ns Lc m ∧ ∀ h'', Heap.SameBut Lc h' h'' → Q acc h''
  | .error _ => False
/-- what a comprehension does once its first iterator is there -/
def CompK (c : Cfg) (A : Around) (e : Expr) (scope scope' : Scope) (env : Env) (cl : List (Str × Addr)) (Q : Value → Heap → Prop) (E : Value → Heap → Prop) (it : Value) (h : Heap) : Prop :=
  WP c A (newList []) (fun acc h => WP c A (newFunctionEnv scope env.globals cl [] env.qual none .none (some env)) (fun cenv h => CP c A (.compStart e 0 it acc { cenv with scope := scope' }) (CompEnd acc cenv.locals Q) h) E h) E h
theorem r_ListComp {elt iter : Expr} {x : Str} {px : Pos} {ifs : List Expr} {scope : Scope} {pos : Pos} (H : EnvOk env L names cells) (hcn : CN env scope.names [] cl names') (hk : scope.kind = .function) (hnl : ∀ y ∈ names', y.2 = .local → names'.lookup y.1 = some .local)
    (p : WP c A (eval iter env) (fun v h => WP c A (pyIter v) (CompK c A (.ListComp elt [⟨.Name x px, iter, ifs, 0⟩] scope pos) scope { scope with names := names' } env cl Q E) E h) E h)
    (hs : ∀ x, foldedSetIterable iter env x = pure x := by intro _; rfl) : WP c A (eval (.ListComp elt [⟨.Name x px, iter, ifs, 0⟩] scope pos) env) Q E h := fun tk => by
  rw [eval_ListComp]
  unfold comprehension
  show wpAny _ _ (eval iter env >>= _) _ _ _
  refine wpAny_bind (wpAny_mono (p tk) (fun v s q => ?_) fun _ _ e => e)
  obtain ⟨h₁, t₁, rfl, q⟩ := q
  refine wpAny_bind (wpAny_standAt ?_)
  refine wpAny_bind (wpAny_of_eq (hs v) ?_)
  refine wpAny_bind (wpAny_holding (wpAny_mono (q t₁) (fun it s q => ?_) fun _ _ e => e))
  obtain ⟨h₂, t₂, rfl, q⟩ := q
  refine wpAny_standIf ?_
  refine wpAny_bind (wpAny_mono (q t₂) (fun acc s q => ?_) fun _ _ e => e)
  obtain ⟨h₃, t₃, rfl, q⟩ := q
  refine wpAny_bind (wpAny_of_eq hcn.closure ?_)
  refine wpAny_bind (wpAny_mono (q t₃) (fun cenv s q => ?_) fun _ _ e => e)
  obtain ⟨h₄, t₄, rfl, q⟩ := q
  dsimp only
  rw [show (scope.names.map fun (x : Str × NameKind) => match x with | (n, k) => if (k == NameKind.free && env.scope.kind == ScopeKind.function && env.kindOf n == some NameKind.cell) = true then (n, NameKind.cell) else (n, k)) = names' from hcn.names H.kind]
  refine wpAny_holding (wpAny_bind (wpAny_attempt (wpAny_holding (wpAny_run (codeAny_mono (q t₄) fun r s q => ?_)))))
  obtain ⟨h₅, t₅, rfl, q⟩ := q
  cases r with
  | error e => exact q.elim
  | ok f =>
    obtain ⟨m, hn, q⟩ := q
    refine wpAny_bind (wpAny_holding (wpAny_comp_letGo (cenv := { cenv with scope := { scope with names := names' } }) hk _ (c.st h₅ t₅) m (fun y hy hl => ?_) hn fun h' m' _ hs' => wpAny_pure (lift_mk (q h' hs'))))
    unfold Env.kindOf
    exact hnl y (hcn.locals y (List.mem_filter.mp (List.mem_reverse.mp hy)).1 hl) hl
end
end

section
section
variable {c : Cfg} {A : Around} {E : Value → Heap → Prop} {h : Heap} {env : Env} {b₀ h₀ b : Heap} {fs : List Fent} {N : List (Addr × Obj)} {I : Addr} {o : Obj} {It : Nat → Obj → Prop} {n : Nat} {val : Nat → Value → Prop}
  {names names' : List (Str × NameKind)} {cells cl : List (Str × Addr)} {L : Addr} {Q : Value → Heap → Prop}
inductive CompI (c : Cfg) (b₀ h₀ b : Heap) (fs : List Fent) (I : Addr) (It : Nat → Obj → Prop) (n : Nat) (Inv : Nat → Heap → List Value → List (Addr × Obj) → Prop) (Lc ac : Addr) : Nat → Shared → Prop
  | mk (i : Nat) (b' : Heap) (m : Vars) (ws : List Value) (kk : Nat) (N : List (Addr × Obj)) (o : Obj) (h : Heap) (t : Nat) (hi : i ≤ n) (st : b.StaysIn b') (j : Inv i b' ws N) (hw : ws.length ≤ i) (it : It i o) (S : Sit b₀ h₀ b' ((Lc, "dict", m) :: fs) ((I, o) :: (ac, lstObj ws kk) :: N) h) :
    CompI c b₀ h₀ b fs I It n Inv Lc ac (n - i) (c.st h t)
theorem CompI.next {Inv : Nat → Heap → List Value → List (Addr × Obj) → Prop} {Lc ac : Addr} {i : Nat} {b' : Heap} {m : Vars} {ws : List Value} {kk t : Nat} (hi : i < n) (st : b.StaysIn b') (j : Inv (i + 1) b' ws N) (hw : ws.length ≤ i + 1) (it : It (i + 1) o)
    (S : Sit b₀ h₀ b' ((Lc, "dict", m) :: fs) ((I, o) :: (ac, lstObj ws kk) :: N) h) : ∃ k, k < n - i ∧ CompI c b₀ h₀ b fs I It n Inv Lc ac k (c.st h t) := ⟨n - (i + 1), by omega, .mk _ _ _ _ _ _ _ _ _ hi st j hw it S⟩
theorem r_comp0 {elt iter : Expr} {x : Str} {px : Pos} {ifs : List Expr} {scope : Scope} {pos : Pos} (H : EnvOk env L names cells) (hcn : CN env scope.names [] cl names') (hk : scope.kind = .function)
    (S : Sit b₀ h₀ b fs ((I, o) :: N) h) (X : Iter c A b I It n val) (j : It 0 o) (hn : n ≤ 1000)
    (Inv : Nat → Heap → List Value → List (Addr × Obj) → Prop) (j0 : Inv 0 b [] N)
    (turn : ∀ i v b' ws k m N' h cenv Lc ac o', i < n → val i v → b.StaysIn b' → Inv i b' ws N' → ws.length ≤ i → EnvOk cenv Lc names' cl → Sit b₀ h₀ b' ((Lc, "dict", m) :: fs) ((I, o') :: (ac, lstObj ws k) :: N') h →
      WP c A (storeName cenv x v) (fun _ h => WP c A (tests ifs cenv) (fun ok h => Br ok
        (WP c A (eval elt cenv) (fun w h => ∃ b'' m' N'', b.StaysIn b'' ∧ Inv (i + 1) b'' (ws ++ [w]) N'' ∧ Sit b₀ h₀ b'' ((Lc, "dict", m') :: fs) ((I, o') :: (ac, lstObj ws k) :: N'') h) (fun _ _ => False) h)
        (∃ b'' m' N'', b.StaysIn b'' ∧ Inv (i + 1) b'' ws N'' ∧ Sit b₀ h₀ b'' ((Lc, "dict", m') :: fs) ((I, o') :: (ac, lstObj ws k) :: N'') h)) (fun _ _ => False) h) (fun _ _ => False) h)
    (done : ∀ b' ws k N' h ac, b.StaysIn b' → Inv n b' ws N' → Sit b₀ h₀ b' fs ((ac, lstObj ws k) :: N') h → Q (.ref ac) h) :
    CompK c A (.ListComp elt [⟨.Name x px, iter, ifs, 0⟩] scope pos) scope { scope with names := names' } env cl Q E (.ref I) h := by
  unfold CompK
  refine r_newList S (Nat.zero_le _) fun ac h S => ?_
  refine newEnv_ok S fun Lc h hL hX S => ?_
  refine store_nil ?_
  rw [(cells_none _ _ hcn.nocell).1] at S
  have S : Sit b₀ h₀ b ((Lc, "dict", fun _ => none) :: fs) ((I, o) :: (ac, lstObj [] 0) :: N) h := S.swap
  have HC : EnvOk { newE scope Lc env.globals (cellsFrom (Lc + 1) scope.names cl) env.qual none .none (some env) builtinsNs with scope := { scope with names := names' } } Lc names' cl :=
    ⟨hk, rfl, rfl, H.globals, (cells_none _ _ hcn.nocell).2 _, H.builtins⟩
  generalize hce : ({ newE scope Lc env.globals (cellsFrom (Lc + 1) scope.names cl) env.qual none .none (some env) builtinsNs with scope := { scope with names := names' } } : Env) = cenv at HC ⊢
  have hloc : cenv.locals = Lc := HC.locals
  have loop : CP c A (.compLoop (.ListComp elt [⟨.Name x px, iter, ifs, 0⟩] scope pos) 0 (.ref I) (.ref ac) cenv) (CompEnd (.ref ac) Lc Q) h := fun tk => by
    refine codeAny_compLoop_tests (CompI c b₀ h₀ b fs I It n Inv Lc ac) ?_ n (CompI.mk (n := n) 0 b _ [] 0 N o h tk (Nat.zero_le _) (fun _ _ e => e) j0 (Nat.le_refl _) j S)
    rintro _ _ ⟨i, b', m, ws, kk, N', o, h, t, hi, st, inv, hwl, it, S⟩
    have B : Base b h := fun a o e => S.bh a o (st a o e)
    have eI := (S.nw (I, o) (.head _)).1
    by_cases hlt : i < n
    · refine lift_on (X.item i h o (fun _ _ => False) (fun r h' => ForV b₀ h₀ b' I val It ((Lc, "dict", m) :: fs) ((ac, lstObj ws kk) :: N') i h' r) hlt B eI it (fun v h' o' hv e' it' hk => .mk v o' hv it' (S.itNext hk e' (X.nf _ _ it'))) t) ?_
      rintro _ h₁ t₁ ⟨v, o', hv, it', S'⟩
      show wpAny _ _ (assign (.Name x px) cenv v) _ _ _
      rw [arm_assign_Name]
      refine wpAny_bind (wpAny_standAt (lift_on (WP.bindName (turn i v b' ws kk m N' h₁ cenv Lc ac o' hlt hv st inv hwl HC S') t₁) fun _ h₂ t₂ q => ?_))
      refine lift_on (q t₂) fun ok h₃ t₃ q => ?_
      cases ok with
      | false =>
        rw [if_neg (by simp)]
        obtain ⟨b'', m', N'', st', inv', S''⟩ := (q : _)
        exact CompI.next hlt st' inv' (Nat.le_succ_of_le hwl) it' S''
      | true =>
        rw [if_pos rfl]
        replace q : WP c A (eval elt cenv) _ (fun _ _ => False) h₃ := q
        refine lift_on (q t₃) fun w h₄ t₄ q => ?_
        obtain ⟨b'', m', N'', st', inv', S''⟩ := q
        refine lift_on (c_append (E := fun _ _ => False) (Q := fun _ h => ∃ n', Sit b₀ h₀ b'' ((Lc, "dict", m') :: fs) ((I, o') :: (ac, lstObj (ws ++ [w]) n') :: N'') h) S'' (.tail .head) (by rw [sizeLine_eq]; omega) (fun h' n' S => ⟨n', S⟩) t₄) fun _ h₅ t₅ q => ?_
        obtain ⟨n', S3⟩ := q
        exact CompI.next hlt st' inv' (by simp; omega) it' S3
    · obtain rfl : i = n := by omega
      refine lift_on (X.done h o (fun _ _ => False) (fun r h' => r = none ∧ Sit b₀ h₀ b' ((Lc, "dict", m) :: fs) ((ac, lstObj ws kk) :: N') h') B eI it (fun h' hk => ⟨rfl, S.itDone hk⟩) t) fun _ h₁ t₁ q => ?_
      rw [q.1]
      exact lift_mk (c := c) ⟨m, (q.2.fr _ (.head _)).1.1, fun h'' hs => done b' ws kk N' h'' ac st inv (q.2.loseF hs)⟩
  have hlc : ({ newE scope Lc env.globals (cellsFrom (Lc + 1) scope.names cl) env.qual none .none (some env) builtinsNs with scope := { scope with names := names' } } : Env) = cenv := hce
  show CP c A _ (CompEnd (.ref ac) Lc Q) h
  refine fun tk => codeAny_compStart_list (loop tk) ?_
  refine lift_on (X.self 0 h o (fun _ _ => False) (fun v h' => v = .ref I ∧ h' = h) S.bh (S.nw (I, o) (.head _)).1 j ⟨rfl, rfl⟩ tk) fun v h' t' q => ?_
  rw [q.1, q.2]
  exact loop t'
theorem r_comp {elt iter : Expr} {x : Str} {px : Pos} {ifs : List Expr} {scope : Scope} {pos : Pos} (H : EnvOk env L names cells) (hcn : CN env scope.names [] cl names') (hk : scope.kind = .function)
    (S : Sit b₀ h₀ b fs ((I, o) :: N) h) (X : Iter c A b I It n val) (j : It 0 o) (hn : n ≤ 1000)
    (Inv : Nat → Heap → List Value → List (Addr × Obj) → Prop) (j0 : Inv 0 b [] N)
    (turn : ∀ i v b' ws k m N' h cenv Lc ac o', ∀ T1 : Value → Heap → Prop, ∀ T2 : Heap → Prop, (∀ w h, (∃ b'' m' N'', b.StaysIn b'' ∧ Inv (i + 1) b'' (ws ++ [w]) N'' ∧ Sit b₀ h₀ b'' ((Lc, "dict", m') :: fs) ((I, o') :: (ac, lstObj ws k) :: N'') h) → T1 w h) →
      (∀ h, (∃ b'' m' N'', b.StaysIn b'' ∧ Inv (i + 1) b'' ws N'' ∧ Sit b₀ h₀ b'' ((Lc, "dict", m') :: fs) ((I, o') :: (ac, lstObj ws k) :: N'') h) → T2 h) → i < n → val i v → b.StaysIn b' → Inv i b' ws N' → ws.length ≤ i → EnvOk cenv Lc names' cl → Sit b₀ h₀ b' ((Lc, "dict", m) :: fs) ((I, o') :: (ac, lstObj ws k) :: N') h →
      WP c A (storeName cenv x v) (fun _ h => WP c A (tests ifs cenv) (fun ok h => Br ok (WP c A (eval elt cenv) T1 (fun _ _ => False) h) (T2 h)) (fun _ _ => False) h) (fun _ _ => False) h)
    (done : ∀ b' ws k N' h ac, b.StaysIn b' → Inv n b' ws N' → Sit b₀ h₀ b' fs ((ac, lstObj ws k) :: N') h → Q (.ref ac) h) :
    CompK c A (.ListComp elt [⟨.Name x px, iter, ifs, 0⟩] scope pos) scope { scope with names := names' } env cl Q E (.ref I) h :=
  r_comp0 H hcn hk S X j hn Inv j0 (fun i v b' ws k m N' h cenv Lc ac o' hi hv st jj hw HC S => turn i v b' ws k m N' h cenv Lc ac o' _ _ (fun _ _ q => q) (fun _ q => q) hi hv st jj hw HC S) done
end
end

section
/-- what is left of a segment that was suspended -/
def Susp (M : Model) (Γ : Ctx) (v : Value) (g₀ : Bool) (l₀ : List Value) (k₀ : Resume → Sem PySem.Fin) (c₀ : Code) (p₀ : Pos) (fs₀ fs : List PySem.Frame) (s₁ : Shared) (e : End) (s' : Shared) : Option (List PySem.Frame × (Nat × (GenResult → Sem PySem.Fin) × Code × Pos) × List PySem.Frame) → Prop
  | none => e = .susp v g₀ l₀ k₀ c₀ p₀ (fs₀ ++ fs) ∧ s' = s₁
  | some (pre, (g, k, c₁, p₁), rest) => Runs M (Γ.goto c₁) p₁ (k (.yielded v)) rest (s₁.setGen g (End.susp v g₀ l₀ k₀ c₀ p₀ (fs₀ ++ pre)).genState) e s'
section
variable {M : Model} {Γ : Ctx} {v : Value} {g₀ : Bool} {l₀ : List Value} {k₀ : Resume → Sem PySem.Fin} {c₀ : Code} {p₀ : Pos} {fs₀ fs : List PySem.Frame} {s₁ : Shared} {e : End} {s' : Shared} {x : Option (List PySem.Frame × (Nat × (GenResult → Sem PySem.Fin) × Code × Pos) × List PySem.Frame)}
  {pre rest : List PySem.Frame} {g : Nat} {k : GenResult → Sem PySem.Fin} {c₁ : Code} {p₁ : Pos}
theorem susp_out (h : x = none) : Susp M Γ v g₀ l₀ k₀ c₀ p₀ fs₀ fs s₁ (.susp v g₀ l₀ k₀ c₀ p₀ (fs₀ ++ fs)) s₁ x := by subst h; exact ⟨rfl, rfl⟩
theorem susp_out' (h : x = none) (i : Susp M Γ v g₀ l₀ k₀ c₀ p₀ fs₀ fs s₁ e s' x) : .susp v g₀ l₀ k₀ c₀ p₀ (fs₀ ++ fs) = e ∧ s₁ = s' := by subst h; exact ⟨i.1.symm, i.2.symm⟩
theorem susp_gen (h : x = some (pre, (g, k, c₁, p₁), rest)) (i : Runs M (Γ.goto c₁) p₁ (k (.yielded v)) rest (s₁.setGen g (End.susp v g₀ l₀ k₀ c₀ p₀ (fs₀ ++ pre)).genState) e s') : Susp M Γ v g₀ l₀ k₀ c₀ p₀ fs₀ fs s₁ e s' x := by subst h; exact i
theorem susp_gen' (h : x = some (pre, (g, k, c₁, p₁), rest)) (i : Susp M Γ v g₀ l₀ k₀ c₀ p₀ fs₀ fs s₁ e s' x) : Runs M (Γ.goto c₁) p₁ (k (.yielded v)) rest (s₁.setGen g (End.susp v g₀ l₀ k₀ c₀ p₀ (fs₀ ++ pre)).genState) e s' := by subst h; exact i
end
theorem at_ex {α : Type} {x : Option α} {a : α} {P : α → Prop} (h : x = some a) (i : ∃ b, x = some b ∧ P b) : P a := by
  obtain ⟨b, e, p⟩ := i
  cases h.symm.trans e; exact p
theorem both_eq {α β : Type} {a a' : α} {b b' : β} {P : α → β → Prop} (h : a = a' ∧ b = b') (p : P a' b') : P a b := by
  obtain ⟨rfl, rfl⟩ := h; exact p
theorem sym2 {α β : Type} {a a' : α} {b b' : β} (h : a = a' ∧ b = b') : a' = a ∧ b' = b := ⟨h.1.symm, h.2.symm⟩
theorem ex_both {α β : Type} {R P : α → β → Prop} {a : α} {b : β} (u : ∀ {a' b'}, R a' b' → a = a' ∧ b = b') (i : ∃ a b, R a b ∧ P a b) : P a b := by
  obtain ⟨a', b', r, p⟩ := i
  obtain ⟨rfl, rfl⟩ := u r; exact p
/-! a run has one end -/
def Inv (M : Model) (Γ : Ctx) (p : Pos) (t : Sem PySem.Fin) (fs : List PySem.Frame) (s : Shared) (e : End) (s' : Shared) : Prop := match fs with
  | [] => (match t with
    | .pure (.done f) => e = .ret (.ok f) ∧ s' = s
    | .raise x => e = .ret (.error x) ∧ s' = s
    | .pure (.again c) => Runs M (Γ.goto c) p (M.den c) [] s e s'
    | .rule tag k => Runs M Γ p (k ()) [] s e s'
    | .at p' k => Runs M Γ p' (k ()) [] s e s'
    | .load a part k => ∃ o, s.heap.get? a = some o ∧ Runs M Γ p (k o) [] s e s'
    | .update a part f k => Runs M Γ p (k ()) [] { s with heap := s.heap.update a f } e s'
    | .loadIfAlive a k => Runs M Γ p (k (s.heap.get? a)) [] s e s'
    | .point l k => Runs M Γ p (k ()) [] s e s'
    | .alloc o k => Runs M Γ p (k s.heap.objs.size) [] { s with heap := s.heap.push o } e s'
    | .fresh k => Runs M Γ p (k s.toks) [] { s with toks := s.toks + 1 } e s'
    | .ask k => Runs M Γ p (k ⟨M.prog, M.w.params⟩) [] s e s'
    | .choose src n k => Runs M Γ p (k (M.w.draws src (s.drawn.get src) % n)) [] { s with drawn := s.drawn.bump src } e s'
    | .os q l k => Runs M Γ p (k (Os.step s.os q).2) [] { s with os := (Os.step s.os q).1 } e s'
    | .handled own k => Runs M Γ p (k (if own then Γ.own else Γ.handled)) [] s e s'
    | .genState g k => ∃ st, s.gens[g]? = some st ∧ Runs M Γ p (k st.seen) [] s e s'
    | .stack k => Runs M Γ p (k ((Γ.code, p) :: Γ.below)) [] s e s'
    | .thread k => Runs M Γ p (k 0) [] s e s'
    | .newGen c k => Runs M Γ p (k s.gens.size) [] { s with gens := s.gens.push (.fresh c) } e s'
    | .call c h g l k => ∃ e₁ s₁, Runs M (Γ.enter c h p) p (M.den c) [] s e₁ s₁ ∧ (match e₁ with
      | .ret r => Runs M Γ p (k r) [] s₁ e s'
      | .susp v g₀ l₀ k₀ c₀ p₀ fs => e = .susp v g₀ l₀ k₀ c₀ p₀ (fs ++ [.ret k h g l Γ.code p []]) ∧ s' = s₁)
    | .yield v g l k => e = .susp v g l k Γ.code p [] ∧ s' = s
    | .resume g r l k => ∃ st, s.gens[g]? = some st ∧ (match st with
      | .fresh c => (match r with
        | .send v => (v = .none ∧ ∃ e₁ s₁, Runs M (Γ.wake c p) p (M.den c) [] (s.setGen g .running) e₁ s₁ ∧ Runs M Γ p (k e₁.result) [] (s₁.setGen g e₁.genState) e s') ∨ (v ≠ .none ∧ Runs M Γ p (k .justStarted) [] s e s')
        | .throw x => Runs M Γ p (k (.raised x)) [] (s.setGen g .finished) e s')
      | .suspended k₀ l₀ c₀ p₀ fs cl => ∃ e₁ s₁, Runs M (Γ.wake c₀ p) p₀ (k₀ r) fs (s.setGen g .running) e₁ s₁ ∧ Runs M Γ p (k e₁.result) [] (s₁.setGen g e₁.genState) e s'
      | .running => Runs M Γ p (k .running) [] s e s'
      | .finished => Runs M Γ p (k .finished) [] s e s')
    | _ => True)
  | F :: fs => ∃ e₁ s₁, Runs M (Γ.over (F :: fs)) p t [] s e₁ s₁ ∧ (match e₁ with
    | .ret r => (match F with
      | .ret k h g l c₁ p₁ kp => Runs M (Γ.goto c₁) p₁ (k r) fs s₁ e s'
      | .gen g k l c₁ p₁ => Runs M (Γ.goto c₁) p₁ (k (End.ret r).result) fs (s₁.setGen g .finished) e s')
    | .susp v g₀ l₀ k₀ c₀ p₀ fs₀ => Susp M Γ v g₀ l₀ k₀ c₀ p₀ fs₀ (F :: fs) s₁ e s' (splitAtGen (F :: fs)))
theorem runs_inv {M : Model} {Γ : Ctx} {p : Pos} {t : Sem PySem.Fin} {fs : List PySem.Frame} {s s' : Shared} {e : End} (h : Runs M Γ p t fs s e s') : Inv M Γ p t fs s e s' := by
  induction h with
  | done => exact ⟨rfl, rfl⟩
  | raise => exact ⟨rfl, rfl⟩
  | again _ h _ => exact h
  | rule h _ => exact h
  | «at» h _ => exact h
  | load hg h _ => exact ⟨_, hg, h⟩
  | update _ h _ => exact h
  | loadIfAlive h _ => exact h
  | point h _ => exact h
  | alloc h _ => exact h
  | fresh h _ => exact h
  | ask h _ => exact h
  | choose _ h _ => exact h
  | os h _ => exact h
  | handled h _ => exact h
  | genState hg h _ => exact ⟨_, hg, h⟩
  | stack h _ => exact h
  | thread h _ => exact h
  | newGen h _ => exact h
  | call a b _ _ => exact ⟨_, _, a, b⟩
  | callSusp a _ => exact ⟨_, _, a, rfl, rfl⟩
  | yield => exact ⟨rfl, rfl⟩
  | resumeFresh hg a _ b _ _ => exact ⟨_, hg, .inl ⟨rfl, _, _, a, b⟩⟩
  | resumeSuspended hg a _ b _ _ => exact ⟨_, hg, _, _, a, b⟩
  | resumeJustStarted hg hv b _ => exact ⟨_, hg, .inr ⟨hv, b⟩⟩
  | resumeThrowFresh hg b _ => exact ⟨_, hg, b⟩
  | resumeRunning hg b _ => exact ⟨_, hg, b⟩
  | resumeFinished hg b _ => exact ⟨_, hg, b⟩
  | segRet a b _ _ => exact ⟨_, _, a, b⟩
  | segGen a b _ _ => exact ⟨_, _, a, b⟩
  | segSuspOut hs a _ => exact ⟨_, _, a, susp_out hs⟩
  | segSuspGen hs a _ b _ _ => exact ⟨_, _, a, susp_gen hs b⟩
theorem runs_det {M : Model} {Γ : Ctx} {p : Pos} {t : Sem PySem.Fin} {fs : List PySem.Frame} {s s' : Shared} {e : End} (h1 : Runs M Γ p t fs s e s') : ∀ {e₂ : End} {s₂ : Shared}, Runs M Γ p t fs s e₂ s₂ → e = e₂ ∧ s' = s₂ := by
  induction h1 with
  | done => exact fun h => sym2 (runs_inv h)
  | raise => exact fun h => sym2 (runs_inv h)
  | again _ _ ih => exact fun h => ih (runs_inv h)
  | rule _ ih => exact fun h => ih (runs_inv h)
  | «at» _ ih => exact fun h => ih (runs_inv h)
  | load hg _ ih => intro _ _ h; have h := at_ex hg (runs_inv h); exact ih h
  | update _ _ ih => exact fun h => ih (runs_inv h)
  | loadIfAlive _ ih => exact fun h => ih (runs_inv h)
  | point _ ih => exact fun h => ih (runs_inv h)
  | alloc _ ih => exact fun h => ih (runs_inv h)
  | fresh _ ih => exact fun h => ih (runs_inv h)
  | ask _ ih => exact fun h => ih (runs_inv h)
  | choose _ _ ih => exact fun h => ih (runs_inv h)
  | os _ ih => exact fun h => ih (runs_inv h)
  | handled _ ih => exact fun h => ih (runs_inv h)
  | genState hg _ ih => intro _ _ h; have h := at_ex hg (runs_inv h); exact ih h
  | stack _ ih => exact fun h => ih (runs_inv h)
  | thread _ ih => exact fun h => ih (runs_inv h)
  | newGen _ ih => exact fun h => ih (runs_inv h)
  | call _ _ i1 i2 => intro _ _ h; have h := ex_both i1 (runs_inv h); exact i2 h
  | callSusp _ i1 => intro _ _ h; have h := ex_both i1 (runs_inv h); exact sym2 h
  | yield => exact fun h => sym2 (runs_inv h)
  | resumeFresh hg _ _ _ i1 i2 =>
    intro _ _ h
    have h := at_ex hg (runs_inv h)
    refine Or.elim h (fun q => ?_) fun q => absurd rfl q.1
    have h := ex_both i1 q.2
    exact i2 h
  | resumeSuspended hg _ _ _ i1 i2 => intro _ _ h; have h := at_ex hg (runs_inv h); have h := ex_both i1 h; exact i2 h
  | resumeJustStarted hg hv _ ih => intro _ _ h; have h := at_ex hg (runs_inv h); exact Or.elim h (fun q => absurd q.1 hv) fun q => ih q.2
  | resumeThrowFresh hg _ ih => intro _ _ h; have h := at_ex hg (runs_inv h); exact ih h
  | resumeRunning hg _ ih => intro _ _ h; have h := at_ex hg (runs_inv h); exact ih h
  | resumeFinished hg _ ih => intro _ _ h; have h := at_ex hg (runs_inv h); exact ih h
  | segRet _ _ i1 i2 => intro _ _ h; have h := ex_both i1 (runs_inv h); exact i2 h
  | segGen _ _ i1 i2 => intro _ _ h; have h := ex_both i1 (runs_inv h); exact i2 h
  | segSuspOut hs _ i1 => intro _ _ h; have h := ex_both i1 (runs_inv h); exact susp_out' hs h
  | segSuspGen hs _ _ _ i1 i2 => intro _ _ h; have h := ex_both i1 (runs_inv h); exact i2 (susp_gen' hs h)
end

section
theorem wakes_det {M : Model} {Γ : Ctx} {p : Pos} {g : Nat} {r : Resume} {s : Shared} {a b : GenResult} {s₁ s₂ : Shared} (x : Wakes M Γ p g r s a s₁) (y : Wakes M Γ p g r s b s₂) : a = b ∧ s₁ = s₂ := by
  classical
  have k {c : GenResult} {s' : Shared} (w : Wakes M Γ p g r s c s') : Runs M Γ p (.resume g r [] fun c => if c = a then .raise .none else .raise (.bool true)) [] s (.ret (.error (if c = a then .none else .bool true))) s' :=
    (Sem.runs_resume_iff M Γ).mpr ⟨c, s', w, by split <;> exact .raise⟩
  obtain ⟨e, es⟩ := runs_det (k x) (k y)
  refine ⟨?_, es⟩
  rw [if_pos rfl] at e
  by_cases hb : b = a
  · exact hb.symm
  · rw [if_neg hb] at e; cases e
theorem wp_both {α : Type} {M : Model} {Γ : Ctx} : ∀ (t : Sem α) {Q Q' : α → Pos → Shared → Prop} {E E' : Value → Pos → Shared → Prop} {p : Pos} {s : Shared}, Sem.wp M Γ t Q E p s → Sem.wp M Γ t Q' E' p s →
    Sem.wp M Γ t (fun a p s => Q a p s ∧ Q' a p s) (fun e p s => E e p s ∧ E' e p s) p s := by
  intro t
  induction t with
  | pure a => exact fun x y => ⟨x, y⟩
  | raise e => exact fun x y => ⟨x, y⟩
  | unsupported _ => exact fun x _ => x
  | finish _ => exact fun x _ => x
  | rule _ k ih => exact fun x y => ih _ x y
  | «at» _ k ih => exact fun x y => ih _ x y
  | load a _ k ih =>
    rintro Q Q' E E' p s ⟨o, e, x⟩ ⟨o', e', y⟩
    rw [e] at e'; cases e'
    exact ⟨o, e, ih _ x y⟩
  | update a _ f k ih => exact fun x y => ⟨x.1, ih _ x.2 y.2⟩
  | loadIfAlive a k ih => exact fun x y => ih _ x y
  | point _ k ih => exact fun x y => ih _ x y
  | alloc o k ih => exact fun x y => ih _ x y
  | fresh k ih => exact fun x y => ih _ x y
  | ask k ih => exact fun x y => ih _ x y
  | choose src n k ih => exact fun x y => ⟨x.1, ih _ x.2 y.2⟩
  | os q _ k ih => exact fun x y => ih _ x y
  | call c h _ _ k ih =>
    rintro Q Q' E E' p s ⟨r, s₁, h1, x⟩ ⟨r', s₁', h1', y⟩
    obtain ⟨e, rfl⟩ := runs_det h1 h1'
    cases e
    exact ⟨r, s₁, h1, ih _ x y⟩
  | handled own k ih => exact fun x y => ih _ x y
  | genState g k ih =>
    rintro Q Q' E E' p s ⟨o, e, x⟩ ⟨o', e', y⟩
    rw [e] at e'; cases e'
    exact ⟨o, e, ih _ x y⟩
  | newGen c k ih => exact fun x y => ih _ x y
  | resume g r _ k ih =>
    rintro Q Q' E E' p s ⟨res, s₁, h1, x⟩ ⟨res', s₁', h1', y⟩
    obtain ⟨rfl, rfl⟩ := wakes_det h1 h1'
    exact ⟨res, s₁, h1, ih _ x y⟩
  | stack k ih => exact fun x y => ih _ x y
  | thread k ih => exact fun x y => ih _ x y
  | _ => exact fun x _ => x
theorem wpAny_both {α : Type} {M : Model} {A : Around} {m : Sem α} {Q Q' : α → Shared → Prop} {E E' : Value → Shared → Prop} {s : Shared} (x : wpAny M A m Q E s) (y : wpAny M A m Q' E' s) :
    wpAny M A m (fun a s => Q a s ∧ Q' a s) (fun e s => E e s ∧ E' e s) s := fun Γ p h => wp_both m (x Γ p h) (y Γ p h)
end

section
/-! sorted: the library's lemmas, taken twice -/
def trunc (h : Heap) (L : Nat) : Heap := ⟨h.objs.extract 0 L, h.life⟩
def aboveL (h : Heap) (L : Nat) : List (Addr × Obj) := (List.range h.objs.size).filterMap fun a => if L < a then (h.get? a).map fun o => (a, o) else none
theorem trunc_get {h : Heap} {L a : Nat} : (trunc h L).get? a = if a < L then h.get? a else none := by
  unfold trunc Heap.get?
  have key : (h.objs.extract 0 L)[a]? = if a < L then h.objs[a]? else none := by
    rw [Array.getElem?_extract]
    simp only [Nat.zero_add, Nat.sub_zero]
    by_cases hs : a < h.objs.size
    · by_cases hl : a < L
      · rw [if_pos (by omega), if_pos hl]
      · rw [if_neg (by omega), if_neg hl]
    · rw [Array.getElem?_eq_none (by omega)]; simp
  rw [key]
  by_cases hl : a < L
  · rw [if_pos hl, if_pos hl]
  · rw [if_neg hl, if_neg hl]
theorem above_mem {h : Heap} {L : Nat} {p : Addr × Obj} : p ∈ aboveL h L ↔ L < p.1 ∧ h.get? p.1 = some p.2 := by
  obtain ⟨a, o⟩ := p
  unfold aboveL
  rw [List.mem_filterMap]
  constructor
  · rintro ⟨x, hx, e⟩
    by_cases hl : L < x
    · rw [if_pos hl] at e
      obtain ⟨o', e', q⟩ := Option.map_eq_some_iff.mp e
      cases q
      exact ⟨hl, e'⟩
    · rw [if_neg hl] at e; cases e
  · rintro ⟨hl, e⟩
    exact ⟨a, by simpa using Heap.lt_size e, by rw [if_pos hl, e]; rfl⟩
theorem fr_of {h : Heap} {L : Nat} {m : Vars} (n : h.Ns L m) : Fr (trunc h L) L h m ∧ News (trunc h L) L h (aboveL h L) := by
  refine ⟨⟨n, fun a o e => ?_, by unfold trunc; simp; exact Nat.min_le_left _ _⟩, fun p hp => ?_⟩
  · rw [trunc_get] at e
    split at e
    · exact e
    · cases e
  · obtain ⟨hl, e⟩ := above_mem.mp hp
    refine ⟨e, Nat.ne_of_gt hl, ?_⟩
    rw [trunc_get, if_neg (Nat.not_lt.mpr (Nat.le_of_lt hl))]
theorem fr_back {h h' : Heap} {L : Nat} {m : Vars} {news : List (Addr × Obj)} (F : Fr (trunc h L) L h' m) (N : News (trunc h L) L h' news) (hs : ∀ p ∈ aboveL h L, p ∈ news) : ∀ (a : Nat) o, a ≠ L → h.get? a = some o → h'.get? a = some o := fun a o n e => by
  rcases Nat.lt_or_ge a L with q | q
  · exact F.keep a o (by rw [trunc_get, if_pos q]; exact e)
  · exact (N (a, o) (hs _ (above_mem.mpr ⟨Nat.lt_of_le_of_ne q (Ne.symm n), e⟩))).1
theorem fresh_of {h h' : Heap} {L D : Nat} {o : Obj} {news : List (Addr × Obj)} (N : News (trunc h L) L h' ((D, o) :: news)) (lt : ∀ q ∈ news, q.1 < D) (hs : ∀ p ∈ aboveL h L, p ∈ news) : h.get? D = none := by
  obtain ⟨_, ne, z⟩ := N (D, o) (.head _)
  cases e : h.get? D with
  | none => rfl
  | some o' =>
    rcases Nat.lt_or_ge D L with q | q
    · rw [trunc_get, if_pos q, e] at z; cases z
    · exact absurd (lt _ (hs (D, o') (above_mem.mpr ⟨Nat.lt_of_le_of_ne q (Ne.symm ne), e⟩))) (Nat.lt_irrefl _)
section
variable {c : Cfg} {A : Around} {E : Value → Heap → Prop} {h h' : Heap} {b₀ h₀ b : Heap} {fs : List Fent} {N : List (Addr × Obj)} {Q : Value → Heap → Prop} {o : Obj} {K : Frag} {D : Addr}
theorem Sit.addAt (S : Sit b₀ h₀ b fs N h) (hk : ∀ x o, h.get? x = some o → h'.get? x = some o) (hnew : h.get? D = none) (e : h'.get? D = some o) (nf : o.cls ≠ .type "frame") : Sit b₀ h₀ b fs ((D, o) :: N) h' := by
  have S' := S.ext' (h' := h') fun x ox e => ⟨ox, hk _ _ e, rfl, rfl, fun _ => rfl⟩
  have f0 : h₀.get? D = none := by
    cases z : h₀.get? D with
    | none => rfl
    | some o => obtain ⟨o', e', _⟩ := S.ext _ _ z; rw [e'] at hnew; cases hnew
  have fb : b.get? D = none := by
    cases z : b.get? D with
    | none => rfl
    | some o => have := (S.bh _ _ z).1; rw [this] at hnew; cases hnew
  have nin : ∀ y ∈ fs.map (·.1) ++ N.map (·.1), y ≠ D := fun y hy q => by
    subst q
    rcases List.mem_append.mp hy with z | z
    · obtain ⟨p, hp, hpa⟩ := List.mem_map.mp z
      obtain ⟨⟨_, o, e, _⟩, _⟩ := S.fr p hp
      rw [hpa] at e
      rw [e] at hnew; cases hnew
    · obtain ⟨p, hp, hpa⟩ := List.mem_map.mp z
      have e := (S.nw p hp).1
      rw [hpa] at e
      rw [e] at hnew; cases hnew
  refine ⟨S'.ext, S'.bb, S'.bh, S'.new, S'.fr, fun p hp => ?_, ?_⟩
  · rcases List.mem_cons.mp hp with rfl | hp
    · exact ⟨e, nf, fb, f0⟩
    · exact S'.nw p hp
  · have nd := S.nd
    rw [List.nodup_append] at nd ⊢
    refine ⟨nd.1, ?_, ?_⟩
    · rw [List.map_cons, List.nodup_cons]
      exact ⟨fun z => nin D (List.mem_append_right _ z) rfl, nd.2.1⟩
    · intro y hy z hz
      rw [List.map_cons] at hz
      rcases List.mem_cons.mp hz with rfl | hz
      · exact nin y (List.mem_append_left _ hy)
      · exact nd.2.2 y hy z hz
/-- what the library says of one such road, for whichever name space stands aside -/
theorem twice {m : Sem Value} {P : Value → Heap → Prop} (W : World K b₀) (S : Sit b₀ h₀ b fs N h)
    (x : ∀ L mm tk, h.Ns L mm → wpAny c.M A m (fun v s' => ∃ D out n' h' tk' news, v = .ref D ∧ s' = c.st h' tk' ∧ Fr (trunc h L) L h' mm ∧ News (trunc h L) L h' ((D, lstObj out n') :: news) ∧ (∀ q ∈ news, q.1 < D) ∧ (∀ p ∈ aboveL h L, p ∈ news) ∧ P (.ref D) h' ∧ True) (c.lift E) (c.st h tk))
    (q : ∀ D out n' h', Sit b₀ h₀ b fs ((D, lstObj out n') :: N) h' → P (.ref D) h' → Q (.ref D) h') : WP c A m Q E h := fun tk => by
  obtain ⟨mg, ng⟩ := W.mg
  obtain ⟨mc, nc, _⟩ := W.nolimit
  have n3 : h.Ns mainGlobals mg := ng.keeps fun a o e => S.bh.stays _ _ (S.bb _ _ e)
  have n2 : h.Ns cStatics mc := nc.keeps fun a o e => S.bh.stays _ _ (S.bb _ _ e)
  refine wpAny_mono (wpAny_both (x _ _ tk n3) (x _ _ tk n2)) (fun v s ⟨q1, q2⟩ => ?_) fun _ _ e => e.1
  obtain ⟨D, out, n', h', tk', news, rfl, rfl, F1, N1, lt1, hs1, p1, _⟩ := q1
  obtain ⟨D2, out2, n2', h2', tk2', news2, e2, e3, F2, N2, lt2, hs2, p2, _⟩ := q2
  have eh : h2' = h' := by have := congrArg Shared.heap e3; exact this.symm
  subst eh
  injection e2 with e2
  have k1 := fr_back F1 N1 fun p hp => .tail _ (hs1 p hp)
  have k2 := fr_back F2 N2 fun p hp => .tail _ (hs2 p hp)
  have hk : ∀ a o, h.get? a = some o → h2'.get? a = some o := fun a o e => by
    by_cases ha : a = mainGlobals
    · exact k2 a o (by rw [ha]; decide) e
    · exact k1 a o ha e
  exact lift_mk (q D out n' _ (S.addAt hk (fresh_of N1 lt1 hs1) (N1 _ (.head _)).1 (by show Value.type "list" ≠ _; decide)) p1)
end
end

section
section
variable {c : Cfg} {A : Around} {E : Value → Heap → Prop} {h : Heap} {b₀ h₀ b : Heap} {fs : List Fent} {N : List (Addr × Obj)} {Q : Value → Heap → Prop} {K : Frag} {l : Addr} {vs : List Value} {n : Nat}
theorem c_sortedLen {kz : List Int} (W : World K b₀) (S : Sit b₀ h₀ b fs N h) (el : h.get? l = some (lstObj vs n)) (hlen : kz.length = vs.length) (h64 : vs.length < 64)
    (hv : ∀ (i : Nat) (v : Value) (k : Int), vs[i]? = some v → kz[i]? = some k → ∃ a ws m, v = .ref a ∧ b.get? a = some (lstObj ws m) ∧ k = ws.length ∧ ws.length ≤ 1000)
    (q : ∀ D out n' h', Sit b₀ h₀ b fs ((D, lstObj out n') :: N) h' → KskOut true kz vs out → Q (.ref D) h') :
    WP c A (call (.builtin "sorted") [.ref l] [("key", .builtin "len"), ("reverse", .bool true)]) Q E h := by
  refine twice (P := fun v h' => ∃ D out n', v = .ref D ∧ h'.get? D = some (lstObj out n') ∧ KskOut true kz vs out) W S (fun L mm tk nL => ?_) fun D out n' h' S' p => ?_
  · obtain ⟨F, NN⟩ := fr_of nL
    refine ksk_sorted (s := c.st h tk) (kz := kz) (f := .builtin "len") (b := true) (kw := [("key", .builtin "len"), ("reverse", .bool true)]) F NN (lst_is el) hlen h64 (ksk_s2 _ _ _) (fun x => ksk_l2 _ _ _) (fun x => ksk_t5 _ _ _) (fun i v k ev ek h1 tk1 own F1 N1 => ?_) fun D h' tk' out cc F' N' lt ko => ?_
    · obtain ⟨a, ws, m, rfl, ea, rfl, hw⟩ := hv i v k ev ek
      have ea1 : h1.get? a = some (lstObj ws m) := by
        by_cases hL : a = L
        · subst hL
          obtain ⟨o, es, ep, e, d, _⟩ := nL
          have := (S.atB ea).symm.trans e
          cases this
          cases d
        · exact fr_back F1 N1 (fun p hp => List.mem_append_left _ hp) a _ hL (S.atB ea)
      refine call_len_list (s := { c.st h tk with heap := h1, toks := tk1 }) (lst_is ea1) (lst_len (by rw [sizeLine_eq]; omega)) ?_
      refine ⟨h1, tk1 + 1 + 1, tk1 + 1, rfl, ?_, F1, N1⟩
      rw [List.size_toArray]
    · refine ⟨D, out.toList, cc, h', tk', aboveL h L, rfl, rfl, F', ?_, lt, fun _ hp => hp, ⟨D, out.toList, cc, rfl, ?_, ko⟩, trivial⟩
      · simpa [seqObj, lstObj] using N'
      · have := (N' _ (.head _)).1
        simpa [seqObj, lstObj] using this
  · obtain ⟨D', out', n2, e, g, ko⟩ := p
    injection e with e
    subst e
    have := (S'.atN .head).symm.trans g
    have e2 : out = out' := by
      have := congrArg Obj.data (Option.some.inj this)
      injection this with h1 h2
      simpa using h1
    subst e2
    exact q D out n' h' S' ko
end
end

section
section
variable {c : Cfg} {A : Around} {E : Value → Heap → Prop} {h : Heap} {b₀ h₀ b : Heap} {fs : List Fent} {N : List (Addr × Obj)} {Q : Value → Heap → Prop} {K : Frag} {l : Addr} {vs : List Value} {n : Nat}
theorem Sit.dropN {p : Addr × Obj} (S : Sit b₀ h₀ b fs (p :: N) h) : Sit b₀ h₀ b fs N h :=
  ⟨S.ext, S.bb, S.bh, S.new, S.fr, fun q hq => S.nw q (.tail _ hq), List.Sublist.nodup (List.Sublist.append_left (by simp) _) S.nd⟩
/-- a list of none or one is sorted as it is -/
theorem sort_few {prog : Program} {w : PySem.World} {A : Around} {E : Value → Shared → Prop} {s : Shared} {a : Addr} {P : PySem.Fin → Shared → Prop} (ho : s.heap.get? a = some (seqObj "list" vs.toArray n)) (h2 : vs.length < 2)
    (h : P (.done (.ret .none)) { s with heap := sortedHeap s.heap a vs vs.toArray }) : wpAny (model prog w) A (Builtin.«list.sort» ⟨[.ref a], []⟩) P E s := by
  rw [list_sort_plain]
  have ha : a < s.heap.objs.size := Heap.lt_size ho
  refine wpAny_bind (listItems_at ho rfl ?_)
  refine wpAny_bind (listUpdate_at ho rfl ?_ (by rw [List.size_toArray, sizeLine_eq]; omega) (Nat.zero_le _))
  obtain ⟨e1, ho1⟩ : ∃ e1, (s.heap.update a (Obj.mapSeq fun _ => #[])).get? a = some (seqObj "list" #[] e1) := ⟨_, get?_update_seq ho (fun _ => #[])⟩
  refine wpAny_bind (seqEpoch_at ho1 rfl ?_)
  refine wpAny_bind (wpAny_newTuple ?_ (by show vs.length ≤ _; rw [sizeLine_eq]; omega))
  refine wpAny_bind (wpAny_newList ?_ (Nat.zero_le _))
  refine wpAny_holding ?_
  have ho6 : (((s.heap.update a (Obj.mapSeq fun _ => #[])).push (seqObj "tuple" vs.toArray 0)).push (seqObj "list" #[] 0)).get? a = some (seqObj "list" #[] e1) := Heap.get?_push_of_some _ (Heap.get?_push_of_some _ ho1)
  show wpAny (model prog w) A _ P E { s with heap := ((s.heap.update a (Obj.mapSeq fun _ => #[])).push (seqObj "tuple" vs.toArray 0)).push (seqObj "list" #[] 0) }
  dsimp only
  have hs : vs.toArray.size < 2 := by rw [List.size_toArray]; exact h2
  rw [if_pos hs, if_pos hs]
  refine wpAny_bind (wpAny_pure ?_)
  rw [StateT.run_pure]
  refine wpAny_bind (wpAny_pure ?_)
  dsimp only
  have hout : (arrOf (SortSt.mk' general' (vs.toArray.zip vs.toArray) #[] 7 none)).map (·.2) = vs.toArray := by
    show (vs.toArray.zip vs.toArray).map (·.2) = vs.toArray
    apply Array.toList_inj.mp
    simp
    exact List.map_snd_zip (Nat.le_refl _)
  rw [hout]
  refine wpAny_bind (seqEpoch_at ho6 rfl ?_)
  refine wpAny_bind (listUpdate_at ho6 rfl ?_ (Nat.zero_le _) (by rw [List.size_toArray, sizeLine_eq]; omega))
  show wpAny (model prog w) A _ P E { s with heap := sortedHeap s.heap a vs vs.toArray }
  simp only [bne_self_eq_false, Bool.false_eq_true, if_false]
  exact wpAny_pure h
theorem c_sortedFew (S : Sit b₀ h₀ b fs N h) (el : h.get? l = some (lstObj vs n)) (h2 : vs.length < 2) (q : ∀ D n' h', Sit b₀ h₀ b fs ((D, lstObj vs n') :: N) h' → Q (.ref D) h') : WP c A (call (.builtin "sorted") [.ref l] []) Q E h := fun tk => by
  refine Calls.call_function_entry kind_sorted plain_sorted entry_sorted (args_sorted1 _) ?_
  unfold Builtin.«sorted»
  refine wpAny_bind (m := checkCount "sorted" 1 1 _) (wpAny_pure ?_)
  refine wpAny_bind (collect_list (s := c.st h tk) (lst_is el) ?_ (by rw [sizeLine_eq]; omega))
  refine wpAny_bind (wpAny_newList ?_ (by rw [sizeLine_eq]; omega))
  have S1 := S.pushN (o := seqObj "list" #[] 0) rfl (by show Value.type "list" ≠ _; decide)
  have S2 := S1.rep .head (Heap.SameBut.update (f := Obj.mapSeq (· ++ vs.toArray)) ..) (get?_update_seq (Heap.get?_push_size _ rfl) _) (by show Value.type "list" ≠ _; decide)
  have hoL : (((h.push (seqObj "list" #[] 0)).update h.objs.size (Obj.mapSeq (· ++ vs.toArray))).push (seqObj "list" vs.toArray 0)).get? ((h.push (seqObj "list" #[] 0)).update h.objs.size (Obj.mapSeq (· ++ vs.toArray))).objs.size = some (seqObj "list" vs.toArray 0) := Heap.get?_push_size _ rfl
  show wpAny _ _ _ _ _ (c.st (((h.push (seqObj "list" #[] 0)).update h.objs.size (Obj.mapSeq (· ++ vs.toArray))).push (seqObj "list" vs.toArray 0)) tk)
  have S3 := S2.pushN (o := seqObj "list" vs.toArray 0) rfl (by show Value.type "list" ≠ _; decide)
  refine wpAny_bind (wpAny_holding (wpAny_call_entry slot_list_sort (s := c.st _ tk) ⟨_, hoL, rfl⟩ entry_list_sort (sort_few (s := c.st _ tk) hoL h2 ⟨_, rfl, ?_⟩) (args_list_sort _)))
  have e3 := S3.atN .head
  have S4 := S3.rep .head (Heap.SameBut.update (f := Obj.mapSeq fun _ => #[]) ..) (get?_update_seq e3 fun _ => #[]) (by show Value.type "list" ≠ _; decide)
  have S5 := (S4.ext' (Ext.push _ (seqObj "tuple" vs.toArray 0))).ext' (Ext.push _ (seqObj "list" #[] 0))
  have e5 := S5.atN .head
  have S6 := S5.rep .head (Heap.SameBut.update (f := Obj.mapSeq fun _ => vs.toArray) ..) (get?_update_seq e5 fun _ => vs.toArray) (by show Value.type "list" ≠ _; decide)
  have S7 := S6.swap.dropN
  exact wpAny_pure ⟨_, rfl, lift_mk (c := c) (Q := Q) (t := tk) (q _ _ _ S7)⟩
end
end

section
/-! pairs sorted by their names -/
def runK {α : Type} (f : Nat → Nat → Bool) (n : Nat) : KasT α → Option α
  | .ret a => some a
  | .ask i j k => if i < n ∧ j < n ∧ i ≠ j then runK f n (k (f i j)) else none
theorem kas_run {α : Type} {f : Nat → Nat → Bool} {n : Nat} {cmp : Nat → Nat → (Bool → Shared → Prop) → Shared → Prop} {Q : α → Shared → Prop} {s : Shared} (hc : ∀ i j C, i < n → j < n → i ≠ j → C (f i j) s → cmp i j C s) :
    ∀ (t : KasT α) {a : α}, runK f n t = some a → Q a s → t.kasWp cmp Q s
  | .ret a, b, e, q => by cases e; exact q
  | .ask i j k, b, e, q => by
    unfold runK at e
    split at e
    · rename_i h
      exact hc i j _ h.1 h.2.1 h.2.2 (kas_run hc (k (f i j)) e q)
    · cases e
def nmLt (x y : Str) : Bool := decide (x.cps.toList < y.cps.toList)
def nmF (names : List Str) (i j : Nat) : Bool := nmLt (names.getD i "") (names.getD j "")
section
variable {c : Cfg} {A : Around} {E : Value → Heap → Prop} {h : Heap} {b₀ h₀ b : Heap} {fs : List Fent} {N : List (Addr × Obj)} {Q : Value → Heap → Prop} {K : Frag} {l : Addr} {vs : List Value} {n : Nat}
theorem c_sortedTup {names : List Str} {p : Array Nat} (W : World K b₀) (S : Sit b₀ h₀ b fs N h) (el : h.get? l = some (lstObj vs n)) (hlen : names.length = vs.length) (h2 : 2 ≤ vs.length) (h64 : vs.length < 64)
    (hv : ∀ (i : Nat) (v : Value), vs[i]? = some v → ∃ a x t u, v = .ref a ∧ names[i]? = some x ∧ b.get? a = some (tupObj [.str x t, u])) (hd : names.Nodup) (hrun : runK (nmF names) vs.length (kas_sort vs.length) = some p)
    (q : ∀ D n' h', Sit b₀ h₀ b fs ((D, lstObj (p.toList.map fun i => vs.getD i Value.none) n') :: N) h' → Q (.ref D) h') : WP c A (call (.builtin "sorted") [.ref l] []) Q E h := by
  refine twice (P := fun v h' => ∃ D n', v = .ref D ∧ h'.get? D = some (lstObj (p.toList.map fun i => vs.getD i Value.none) n')) W S (fun L mm tk nL => ?_) fun D out n' h' S' pp => ?_
  · obtain ⟨F, NN⟩ := fr_of nL
    refine kat_sorted (s := c.st h tk) F NN (lst_is el) h2 h64 fun D e1 h1 F1 N1 lt1 => ?_
    have at1 : ∀ {a : Addr} {o : Obj}, b.get? a = some o → (∀ es ep, o.data ≠ .dict es ep) → h1.get? a = some o := fun {a o} e nd => by
      by_cases hL : a = L
      · subst hL
        obtain ⟨o', es, ep, e', d, _⟩ := nL
        have := (S.atB e).symm.trans e'
        cases this
        exact absurd d (nd _ _)
      · exact fr_back F1 N1 (fun p hp => .tail _ hp) a _ hL (S.atB e)
    have item : ∀ i, i < vs.length → ∃ a x t u, vs.getD i Value.none = .ref a ∧ names[i]? = some x ∧ h1.get? a = some (tupObj [.str x t, u]) := fun i hi => by
      obtain ⟨a, x, t, u, e1, e2, e3⟩ := hv i _ (List.getElem?_eq_getElem hi)
      exact ⟨a, x, t, u, by simpa [hi] using e1, e2, at1 e3 fun _ _ z => by cases z⟩
    have tups : ∃ fs', fs'.length = vs.length ∧ KatTups h1 vs fs' ∧ ∀ v ∈ fs', ∃ x t, v = Value.str x t := by
      have key : ∀ (ws : List Value), (∀ v ∈ ws, ∃ a x t u, v = Value.ref a ∧ h1.get? a = some (tupObj [.str x t, u])) → ∃ fs', fs'.length = ws.length ∧ KatTups h1 ws fs' ∧ ∀ v ∈ fs', ∃ x t, v = Value.str x t := by
        intro ws
        induction ws with
        | nil => intro _; exact ⟨[], rfl, trivial, fun _ z => by cases z⟩
        | cons v ws ih =>
          intro hw
          obtain ⟨a, x, t, u, rfl, e⟩ := hw _ (.head _)
          obtain ⟨fs', l', k', s'⟩ := ih fun v m => hw v (.tail _ m)
          refine ⟨.str x t :: fs', by simp [l'], KatTups.cons e rfl rfl rfl k', fun v m => ?_⟩
          rcases List.mem_cons.mp m with rfl | m
          · exact ⟨x, t, rfl⟩
          · exact s' v m
      refine key vs fun v m => ?_
      obtain ⟨i, hi⟩ := List.mem_iff_getElem?.mp m
      obtain ⟨a, x, t, u, e1, e2, e3⟩ := hv i v hi
      exact ⟨a, x, t, u, e1, at1 e3 fun _ _ z => by cases z⟩
    obtain ⟨fs', hl', kt, hstr⟩ := tups
    refine kat_kind (s := { c.st h tk with heap := h1 }) (T := .type "str") kt (by omega) (fun v m => by obtain ⟨x, t, rfl⟩ := hstr v m; exact Looks.of_pure rfl) (by decide) ?_
    refine kas_run (f := nmF names) (n := vs.length) (fun i j C hi hj hij q => ?_) _ hrun ?_
    · obtain ⟨a1, x1, t1, u1, e1, f1, g1⟩ := item i hi
      obtain ⟨a2, x2, t2, u2, e2, f2, g2⟩ := item j hj
      have hne : x1 ≠ x2 := fun e => by
        subst e
        have hi' : i < names.length := by omega
        have hj' : j < names.length := by omega
        rw [List.getElem?_eq_getElem hi'] at f1
        rw [List.getElem?_eq_getElem hj'] at f2
        have he : names[i] = names[j] := (Option.some.inj f1).trans (Option.some.inj f2).symm
        rcases Nat.lt_or_gt_of_ne hij with hlt | hlt
        · exact List.pairwise_iff_getElem.mp hd i j hi' hj' hlt he
        · exact List.pairwise_iff_getElem.mp hd j i hj' hi' hlt he.symm
      have hq : nmF names i j = decide (x1.cps.toList < x2.cps.toList) := by
        unfold nmF nmLt
        rw [List.getD_eq_getElem?_getD, List.getD_eq_getElem?_getD, f1, f2]; rfl
      unfold kas_ask
      rw [e1, e2]
      rw [hq] at q
      refine kat_lt (s := { c.st h tk with heap := h1 }) g1 rfl g2 rfl ?_
      show KatLex _ _ _ _ _ _ [(Value.str x1 t1, Value.str x2 t2), (u1, u2)] 0 _
      refine kat_cons (EqAt.str_str x1 t1 x2 t2 _ _ _ _ ?_)
      rw [beq_eq_false_iff_ne.mpr hne]
      refine kat_no ?_
      exact oneLt_str q
    · refine KasFin.intro (a := D) F1 N1 (.head fun p hp => Nat.ne_of_lt (lt1 p hp)) fun h' cc F' N' => ?_
      have g := (N' _ (.head _)).1
      exact ⟨D, p.toList.map fun i => vs.getD i Value.none, cc, h', _, aboveL h L, rfl, rfl, F', N', lt1, fun _ hp => hp, ⟨D, cc, rfl, g⟩, trivial⟩
  · obtain ⟨D', n2, e, g⟩ := pp
    injection e with e
    subst e
    have e2 := Option.some.inj ((S'.atN .head).symm.trans g)
    have e3 : out = p.toList.map fun i => vs.getD i Value.none := by
      have := congrArg Obj.data e2
      injection this with h1 h2
      simpa using h1
    subst e3
    exact q D n' h' S'
end
end

section
section
variable {c : Cfg} {A : Around} {E : Value → Heap → Prop} {h : Heap} {env : Env} {b₀ h₀ b : Heap} {fs : List Fent} {N : List (Addr × Obj)} {Q : Value → Heap → Prop} {d : Addr} {o : Obj} {kvs : List (Str × Value)} {x : Str} {t : Tok} {v : Value} {g : Obj → List (Addr × Obj)}
theorem c_setItemD {Q : Unit → Heap → Prop} (S : Sit b₀ h₀ b fs N h) (r : Rep d o N g) (D : DictO c o kvs) (hsz : kvs.length ≤ 1000) (q : ∀ h' o', Sit b₀ h₀ b fs (g o') h' → DictO c o' (stored kvs x v) → Q () h') : WP c A (setItem (.ref d) (.str x t) v) Q E h := fun tk => by
  refine wpAny_setItem_pairs (strKind_is c.p c.w x t) (D.of (S.atN r)) (fun h' hd hs => ?_) (by rw [sizeLine_eq]; omega)
  obtain ⟨o', e', D'⟩ := Heap.dictOf_iff.mp hd
  exact lift_mk (q h' o' (S.rep r hs e' (DictO.cls D')) D')
theorem g_dict (e : h.get? d = some o) (D : DictO c o kvs) (hv : valueAt kvs x = some v) (q : Q v h) : GetIt c A (.ref d) (.str x t) Q E h :=
  ⟨"dict", _, slot_dict_getitem.lookup, (D.of e).typeIs (s := c.st h 0), fun tk => wpAny_getItem_of (strKind_is c.p c.w x t) (D.of e).mapOf hv (lift_mk q)⟩
theorem r_DictNil {pos : Pos} (S : Sit b₀ h₀ b fs N h) (q : ∀ d h', Sit b₀ h₀ b fs ((d, { cls := .type "dict", data := .dict #[] }) :: N) h' → Q (.ref d) h') : WP c A (eval (.Dict [] [] pos) env) Q E h := fun tk =>
  wpAny_Dict_empty (lift_mk (t := tk) (q _ _ (S.pushN (o := { cls := .type "dict", data := .dict #[] }) rfl (by show Value.type "dict" ≠ _; decide))))
theorem r_AssignSub {oe i : Expr} {pos' pos : Pos} {value : Expr} {Q : Flow → Heap → Prop}
    (x : WP c A (eval value env) (fun v h => WP c A (eval oe env) (fun ov h => WP c A (eval i env) (fun iv h => WP c A (setItem ov iv v) (fun _ => Q .next) E h) E h) E h) E h)
    (hs : swapsWith value (some (.Subscript oe i pos')) pos.line env = pure false) : WP c A (exec (.Assign [.Subscript oe i pos'] value pos) env) Q E h := fun tk => by
  refine wpAny_Assign_Subscript (wpAny_mono (x tk) (fun v s q => ?_) fun _ _ e => e) hs
  obtain ⟨h₁, t₁, rfl, q⟩ := q
  refine wpAny_mono (q t₁) (fun v s q => ?_) fun _ _ e => e
  obtain ⟨h₂, t₂, rfl, q⟩ := q
  refine wpAny_mono (q t₂) (fun v s q => unl q) fun _ _ e => e
theorem r_evalArgs_kw {f : Value} {pos : Pos} {a : Expr} {args : List Expr} {kws : List (Option Str × Sem Value)} {Q : Args → Heap → Prop} (hall : kws.all (·.1.isSome) = true)
    (x : WP c A (spliced (backTo pos (starEach (a :: args) env))) (fun vs h => WP c A (evalAll (kws.map (·.2))) (fun ks h => Q ⟨vs, (kws.filterMap (·.1)).zip ks⟩ h) E h) E h)
    (hne : ∃ y ys, backTo pos (starEach (a :: args) env) = (false, y) :: ys) : WP c A (evalArgs f true (backTo pos (starEach (a :: args) env)) kws) Q E h := fun tk => by
  obtain ⟨y, ys, e⟩ := hne
  rw [e] at x ⊢
  refine evalArgs_kw hall (wpAny_mono (x tk) (fun vs s q => ?_) fun _ _ e => e)
  obtain ⟨h₁, t₁, rfl, q⟩ := q
  exact wpAny_mono (q t₁) (fun _ _ q => q) fun _ _ e => e
theorem r_callWithKw {pos : Pos} {f : Value} {first : List Value} {args : List (Bool × Sem Value)} {kws : List (Option Str × Sem Value)} (hv : ∀ a, f ≠ .ref a) (x : WP c A (evalArgs f true args kws) (fun a h => WP c A (call f (first ++ a.pos) a.kw) Q E h) E h)
    (hs : (args.any (·.1) || kws.any (·.1.isNone)) = false) : WP c A (callWith pos f first args kws) Q E h := by
  unfold callWith
  refine .bind (.holding (x.monoQ fun a h y => .bind (.standAt ?_)))
  simp only [hs]
  refine .bind (.of_eq (keeperOf_val hv) ?_)
  exact callTail y
theorem ea_nil {Q : List Value → Heap → Prop} (q : Q [] h) : WP c A (evalAll []) Q E h := .pure q
theorem ea_cons {x : Sem Value} {rest : List (Sem Value)} {Q : List Value → Heap → Prop} (y : WP c A x (fun v h => WP c A (evalAll rest) (fun vs h => Q (v :: vs) h) E h) E h) : WP c A (evalAll (x :: rest)) Q E h := by
  show WP c A (do let v ← x; return v :: (← PySem.holding [v] (evalAll rest))) Q E h
  exact .bind (y.monoQ fun v h z => .bind (.holding (z.monoQ fun vs h q => .pure q)))
/-- f(a, k1=e1, ..) by a name, of a built-in -/
theorem r_CallKw {x : Str} {npos pos : Pos} {a : Expr} {args : List Expr} {kws : List Keyword}
    (y : WP c A (eval (.Name x npos) env) (fun f h => (∀ a, f ≠ .ref a) ∧ WP c A (spliced (backTo pos (starEach (a :: args) env))) (fun vs h => WP c A (evalAll ((backToKw pos (keywordEach kws env)).map (·.2))) (fun ks h => WP c A (call f vs (((backToKw pos (keywordEach kws env)).filterMap (·.1)).zip ks)) Q E h) E h) E h) E h)
    (hall : (backToKw pos (keywordEach kws env)).all (·.1.isSome) = true) (hne : ∃ y ys, backTo pos (starEach (a :: args) env) = (false, y) :: ys) (hs : ((backTo pos (starEach (a :: args) env)).any (·.1) || (backToKw pos (keywordEach kws env)).any (·.1.isNone)) = false) :
    WP c A (eval (.Call (.Name x npos) (a :: args) kws pos) env) Q E h := by
  show WP c A (eval (.Name x npos) env >>= fun f => callWith pos f [] (backTo pos (starEach (a :: args) env)) (backToKw pos (keywordEach kws env))) Q E h
  refine .bind (y.monoQ fun f h z => ?_)
  exact r_callWithKw z.1 (r_evalArgs_kw hall (z.2.monoQ fun vs h q => q.monoQ fun ks h q => q) hne) hs
theorem kwB {id : String} {P : Prop} (p : P) : (∀ a, Value.builtin id ≠ .ref a) ∧ P := ⟨(fun _ e => nomatch e), p⟩
theorem ea_kw {pos : Pos} {k : Str} {e : Expr} {p : Pos} {rest : List Keyword} {Q : List Value → Heap → Prop} (y : WP c A (eval e env) (fun v h => WP c A (evalAll ((backToKw pos (keywordEach rest env)).map (·.2))) (fun vs h => Q (v :: vs) h) E h) E h) :
    WP c A (evalAll ((backToKw pos (keywordEach (⟨some k, e, p⟩ :: rest) env)).map (·.2))) Q E h := by
  show WP c A (evalAll ((do let v ← eval e env; PySem.standAt pos; pure v) :: (backToKw pos (keywordEach rest env)).map (·.2))) Q E h
  exact ea_cons (.bind (y.monoQ fun v h q => .bind (.standAt (.pure q))))
theorem ea_kwNil {pos : Pos} {Q : List Value → Heap → Prop} (q : Q [] h) : WP c A (evalAll ((backToKw pos (keywordEach [] env)).map (·.2))) Q E h := .pure q
/-- list.index of data -/
theorem c_index {α : Type} [DecidableEq α] {T : DT α} {l : Addr} {vs : List Value} {n : Nat} {xs : List α} {v : Value} {x : α} {j : Nat} (S : Sit b₀ h₀ b fs N h) (e : h.get? l = some (lstObj vs n)) (dd : AllD (T.D b) vs xs) (dx : T.D b v x) (hu : A.units + T.k + 1 < cLine)
    (hj : xs[j]? = some x) (hno : ∀ m, m < j → xs[m]? ≠ some x) (hsz : vs.length ≤ 1000) (q : ∀ t, Q (.int j t) h) : WP c A (call (.builtin "list.index") [.ref l, v] []) Q E h := fun tk => by
  classical
  have dh := at_heap S dd
  have dxh := T.stays dx S.bh.stays
  have hjl : j < vs.length := by
    rw [dd.len]
    rcases Nat.lt_or_ge j xs.length with h | h
    · exact h
    · rw [List.getElem?_eq_none h] at hj; cases hj
  have hit : ∀ m (hm : m < vs.toArray.size), ∃ y, xs[m]? = some y ∧ decide (∃ z, T.D h vs.toArray[m] z ∧ decide (z = x) = true) = decide (y = x) := fun m hm => by
    obtain ⟨y, ey, dy⟩ := AllD.at (T := T) dh hm
    refine ⟨y, ey, ?_⟩
    rw [Bool.eq_iff_iff, decide_eq_true_iff]
    exact ⟨fun ⟨z, q, e⟩ => (T.inj dy q) ▸ e, fun e => ⟨y, dy, e⟩⟩
  refine call_meets F.slot_list_index (lst_is e).typeIs F.entry_list_index (F.args_list_index_2 _ _) (list_indexAt l vs.toArray n none #[] v (fun w => decide (∃ z, T.D h w z ∧ decide (z = x) = true)) j (by simpa using hjl) (by omega) ?_ ?_)
    ⟨e, hit_eq (A := A.in1) (s := c.st h tk) dh dxh (by show A.units + 1 + T.k < cLine; omega), lift_mk (q _)⟩
  · obtain ⟨y, ey, hy⟩ := hit j (by simpa using hjl)
    rw [hj] at ey; cases ey
    rw [hy]; simp
  · intro m hm hlt
    obtain ⟨y, ey, hy⟩ := hit m hm
    rw [hy]
    have := hno m hlt
    rw [ey] at this
    simpa using this
end
end

section
abbrev abc : List Str := [Str.ofString "a", Str.ofString "b", Str.ofString "c"]
abbrev pairT := DT.pair DT.str DT.int
def sortP (P : List (Str × Int)) : List (Str × Int) := abc.filterMap fun nm => P.find? fun p => decide (p.1 = nm)
def perm2 (x y : Str) : Array Nat := ((abc.filter fun nm => decide (nm = x) || decide (nm = y)).map fun nm => if nm = x then 0 else 1).toArray
def perm3 (x y z : Str) : Array Nat := (abc.map fun nm => if nm = x then 0 else if nm = y then 1 else 2).toArray
theorem run2 : ∀ x ∈ abc, ∀ y ∈ abc, x ≠ y → runK (nmF [x, y]) 2 (kas_sort 2) = some (perm2 x y) := by decide +kernel
theorem run3 : ∀ x ∈ abc, ∀ y ∈ abc, ∀ z ∈ abc, x ≠ y → x ≠ z → y ≠ z → runK (nmF [x, y, z]) 3 (kas_sort 3) = some (perm3 x y z) := by decide +kernel
theorem pick2 : ∀ x ∈ abc, ∀ y ∈ abc, x ≠ y → (perm2 x y = #[0, 1] ∧ ∀ k l : Int, sortP [(x, k), (y, l)] = [(x, k), (y, l)]) ∨ (perm2 x y = #[1, 0] ∧ ∀ k l : Int, sortP [(x, k), (y, l)] = [(y, l), (x, k)]) := by
  intro x hx y hy n
  simp only [List.mem_cons, List.not_mem_nil, or_false] at hx hy
  rcases hx with rfl | rfl | rfl <;> rcases hy with rfl | rfl | rfl <;> first | exact absurd rfl n | (left; exact ⟨by decide +kernel, fun k l => by rfl⟩) | (right; exact ⟨by decide +kernel, fun k l => by rfl⟩)
theorem pick3 : ∀ x ∈ abc, ∀ y ∈ abc, ∀ z ∈ abc, x ≠ y → x ≠ z → y ≠ z → (perm3 x y z = #[0, 1, 2] ∧ ∀ k l m : Int, sortP [(x, k), (y, l), (z, m)] = [(x, k), (y, l), (z, m)]) ∨ (perm3 x y z = #[0, 2, 1] ∧ ∀ k l m : Int, sortP [(x, k), (y, l), (z, m)] = [(x, k), (z, m), (y, l)]) ∨ (perm3 x y z = #[1, 0, 2] ∧ ∀ k l m : Int, sortP [(x, k), (y, l), (z, m)] = [(y, l), (x, k), (z, m)]) ∨ (perm3 x y z = #[1, 2, 0] ∧ ∀ k l m : Int, sortP [(x, k), (y, l), (z, m)] = [(y, l), (z, m), (x, k)]) ∨ (perm3 x y z = #[2, 0, 1] ∧ ∀ k l m : Int, sortP [(x, k), (y, l), (z, m)] = [(z, m), (x, k), (y, l)]) ∨ (perm3 x y z = #[2, 1, 0] ∧ ∀ k l m : Int, sortP [(x, k), (y, l), (z, m)] = [(z, m), (y, l), (x, k)]) := by
  intro x hx y hy z hz n1 n2 n3
  simp only [List.mem_cons, List.not_mem_nil, or_false] at hx hy hz
  rcases hx with rfl | rfl | rfl <;> rcases hy with rfl | rfl | rfl <;> first | exact absurd rfl n1 | (rcases hz with rfl | rfl | rfl <;> first | exact absurd rfl n2 | exact absurd rfl n3 | exact .inl ⟨by decide +kernel, fun k l m => by rfl⟩ | exact .inr (.inl ⟨by decide +kernel, fun k l m => by rfl⟩) | exact .inr (.inr (.inl ⟨by decide +kernel, fun k l m => by rfl⟩)) | exact .inr (.inr (.inr (.inl ⟨by decide +kernel, fun k l m => by rfl⟩))) | exact .inr (.inr (.inr (.inr (.inl ⟨by decide +kernel, fun k l m => by rfl⟩)))) | exact .inr (.inr (.inr (.inr (.inr ⟨by decide +kernel, fun k l m => by rfl⟩)))))
section
variable {c : Cfg} {A : Around} {E : Value → Heap → Prop} {h : Heap} {b₀ h₀ b : Heap} {fs : List Fent} {N : List (Addr × Obj)} {Q : Value → Heap → Prop} {K : Frag} {l : Addr} {vs : List Value} {n : Nat}
theorem c_sortedP {P : List (Str × Int)} (W : World K b₀) (S : Sit b₀ h₀ b fs N h) (el : h.get? l = some (lstObj vs n)) (hP : AllD (pairT.D b) vs P) (hn : (P.map (·.1)).Nodup) (ha : ∀ p ∈ P, p.1 ∈ abc)
    (q : ∀ D out n' h', Sit b₀ h₀ b fs ((D, lstObj out n') :: N) h' → AllD (pairT.D b) out (sortP P) → Q (.ref D) h') : WP c A (call (.builtin "sorted") [.ref l] []) Q E h := by
  have few : vs.length < 2 → sortP P = P → WP c A (call (.builtin "sorted") [.ref l] []) Q E h := fun h2 e => c_sortedFew S el h2 fun D n' h' S' => q D vs n' h' S' (by rw [e]; exact hP)
  have item : ∀ (i : Nat) (v : Value), vs[i]? = some v → ∃ a x t u, v = .ref a ∧ (P.map (·.1))[i]? = some x ∧ b.get? a = some (tupObj [.str x t, u]) := fun i v e => by
    obtain ⟨p, ep, a, x, y, rfl, g, ⟨t, rfl⟩, _⟩ := hP.get e
    exact ⟨a, _, t, y, rfl, by rw [List.getElem?_map, ep]; rfl, g⟩
  cases hP with
  | nil => exact few (Nat.zero_lt_succ 1) rfl
  | @cons v0 p0 vs1 P1 d0 r =>
  cases r with
  | nil =>
    refine few (Nat.lt_succ_self 1) ?_
    have hp := ha p0 (.head _)
    simp only [List.mem_cons, List.not_mem_nil, or_false] at hp
    obtain ⟨x, k⟩ := p0
    rcases hp with e | e | e <;> (cases e; rfl)
  | @cons v1 p1 vs2 P2 d1 r =>
  cases r with
  | nil =>
    obtain ⟨x, k⟩ := p0
    obtain ⟨y, l'⟩ := p1
    have hx := ha _ (.head _)
    have hy := ha _ (.tail _ (.head _))
    have hxy : x ≠ y := by simpa using hn
    refine c_sortedTup (names := [x, y]) W S el rfl (Nat.le_refl _) (show 2 < 64 by decide) item hn (run2 x hx y hy hxy) fun D n' h' S' => ?_
    rcases pick2 x hx y hy hxy with ⟨e1, e2⟩ | ⟨e1, e2⟩ <;> rw [e1] at S' <;> refine q D _ n' h' S' ?_ <;> rw [e2]
    · exact .cons d0 (.cons d1 .nil)
    · exact .cons d1 (.cons d0 .nil)
  | @cons v2 p2 vs3 P3 d2 r =>
  cases r with
  | nil =>
    obtain ⟨x, k⟩ := p0
    obtain ⟨y, l'⟩ := p1
    obtain ⟨z, m'⟩ := p2
    have hx := ha _ (.head _)
    have hy := ha _ (.tail _ (.head _))
    have hz := ha _ (.tail _ (.tail _ (.head _)))
    obtain ⟨⟨hxy, hxz⟩, hyz⟩ : (x ≠ y ∧ x ≠ z) ∧ y ≠ z := by simpa using hn
    refine c_sortedTup (names := [x, y, z]) W S el rfl (Nat.le_succ 2) (show 3 < 64 by decide) item hn (run3 x hx y hy z hz hxy hxz hyz) fun D n' h' S' => ?_
    rcases pick3 x hx y hy z hz hxy hxz hyz with ⟨e1, e2⟩ | ⟨e1, e2⟩ | ⟨e1, e2⟩ | ⟨e1, e2⟩ | ⟨e1, e2⟩ | ⟨e1, e2⟩ <;> rw [e1] at S' <;> refine q D _ n' h' S' ?_ <;> rw [e2]
    · exact .cons d0 (.cons d1 (.cons d2 .nil))
    · exact .cons d0 (.cons d2 (.cons d1 .nil))
    · exact .cons d1 (.cons d0 (.cons d2 .nil))
    · exact .cons d1 (.cons d2 (.cons d0 .nil))
    · exact .cons d2 (.cons d0 (.cons d1 .nil))
    · exact .cons d2 (.cons d1 (.cons d0 .nil))
  | @cons v3 p3 vs4 P4 d3 r =>
    exfalso
    have h0 := ha p0 (by simp)
    have h1 := ha p1 (by simp)
    have h2 := ha p2 (by simp)
    have h3 := ha p3 (by simp)
    have hnd : [p0.1, p1.1, p2.1, p3.1].Nodup := List.Sublist.nodup (by simp) hn
    have key : ∀ x ∈ abc, ∀ y ∈ abc, ∀ z ∈ abc, ∀ w ∈ abc, ¬ [x, y, z, w].Nodup := by decide +kernel
    exact key _ h0 _ h1 _ h2 _ h3 hnd
end
end

section
/-! kinds: the plain part of the walk -/
def getI (tm : List (Str × Int)) (x : Str) : Option Int := (tm.find? fun p => decide (p.1 = x)).map (·.2)
def AssocP (p : Str × Value) (q : Str × Int) : Prop := p.1 = q.1 ∧ ∃ t, p.2 = .int q.2 t
abbrev AssocD (kvs : List (Str × Value)) (tm : List (Str × Int)) : Prop := AllD AssocP kvs tm
theorem assoc_get {kvs : List (Str × Value)} {tm : List (Str × Int)} {x : Str} {k : Int} (h : AssocD kvs tm) (e : getI tm x = some k) : ∃ t, valueAt kvs x = some (.int k t) := by
  induction h with
  | nil => cases e
  | @cons p q ps qs a r ih =>
    obtain ⟨e1, t, e2⟩ := a
    unfold getI valueAt at *
    rw [List.find?_cons] at e ⊢
    by_cases hx : q.1 = x
    · have hp : p.1 = x := e1.trans hx
      simp only [hx, decide_true] at e
      simp only [hp, decide_true]
      cases e
      exact ⟨t, by rw [← e2]; rfl⟩
    · have hp : ¬ p.1 = x := fun z => hx (e1.symm.trans z)
      simp only [decide_eq_false hx] at e
      simp only [decide_eq_false hp]
      exact ih e
theorem assoc_new {kvs : List (Str × Value)} {tm : List (Str × Int)} {x : Str} {k : Int} {t : Tok} (h : AssocD kvs tm) (e : getI tm x = none) : AssocD (stored kvs x (.int k t)) (tm ++ [(x, k)]) := by
  have hn : kvs.any (fun kv => decide (kv.1 = x)) = false := by
    induction h with
    | nil => rfl
    | @cons p q ps qs a r ih =>
      obtain ⟨e1, _⟩ := a
      unfold getI at e
      rw [List.find?_cons] at e
      by_cases hx : q.1 = x
      · simp only [hx, decide_true] at e; cases e
      · have hp : ¬ p.1 = x := fun z => hx (e1.symm.trans z)
        simp only [decide_eq_false hx] at e
        rw [List.any_cons, decide_eq_false hp, ih e]; rfl
  unfold stored
  rw [if_neg (by rw [hn]; simp)]
  exact h.app (.cons ⟨rfl, t, rfl⟩ .nil)
theorem getI_app {tm : List (Str × Int)} {x y : Str} {k : Int} : getI (tm ++ [(x, k)]) y = (getI tm y).or (if x = y then some k else none) := by
  unfold getI
  rw [List.find?_append]
  cases tm.find? fun p => decide (p.1 = y) with
  | some p => rfl
  | none =>
    by_cases h : x = y
    · simp [h]
    · simp [h]
def childs (rows : List (List Str)) (row : List Str) : List (List Str) := rows.filter fun one => decide (one.length = row.length + 1) && decide (one.dropLast = row)
def lastS (one : List Str) : Str := one.getLast?.getD ""
def heldS (rows : List (List Str)) (κ : List Str → Int) (row : List Str) : List (Str × Int) := sortP ((childs rows row).map fun one => (lastS one, κ one))
def joinR (row : List Str) : Str := Txt.join "/" row
theorem childs_mem {rows : List (List Str)} {row one : List Str} (h : one ∈ childs rows row) : one ∈ rows ∧ one = row ++ [lastS one] ∧ one.length = row.length + 1 := by
  unfold childs at h
  rw [List.mem_filter, Bool.and_eq_true, decide_eq_true_iff, decide_eq_true_iff] at h
  obtain ⟨h1, h2, h3⟩ := h
  refine ⟨h1, ?_, h2⟩
  rcases List.eq_nil_or_concat one with rfl | ⟨l, z, rfl⟩
  · simp at h2
  · rw [List.concat_eq_append] at *
    rw [List.dropLast_concat] at h3
    subst h3
    unfold lastS
    rw [List.getLast?_concat]; rfl
theorem childs_names {rows : List (List Str)} {row : List Str} {κ : List Str → Int} (hn : rows.Nodup) : (((childs rows row).map fun one => (lastS one, κ one)).map (·.1)).Nodup := by
  rw [List.map_map]
  unfold List.Nodup
  rw [List.pairwise_map]
  have hf : (childs rows row).Pairwise (· ≠ ·) := List.Pairwise.filter _ hn
  refine List.Pairwise.imp_of_mem (fun {a b} ha hb n e => n ?_) hf
  rw [(childs_mem ha).2.1, (childs_mem hb).2.1]
  have : lastS a = lastS b := e
  rw [this]
theorem childs_abc {rows : List (List Str)} {row : List Str} {κ : List Str → Int} (ha : ∀ r ∈ rows, ∀ s ∈ r, s ∈ abc) : ∀ p ∈ (childs rows row).map fun one => (lastS one, κ one), p.1 ∈ abc := by
  intro p hp
  obtain ⟨one, ho, rfl⟩ := List.mem_map.mp hp
  obtain ⟨h1, h2, _⟩ := childs_mem ho
  exact ha one h1 _ (by rw [h2]; simp [lastS])
structure RowsOk (rows : List (List Str)) : Prop where
  nd : rows.Nodup
  abc : ∀ r ∈ rows, ∀ s ∈ r, s ∈ abc
  len : rows.length < 64
  rlen : ∀ r ∈ rows, r.length ≤ 10
  inj : ∀ r ∈ rows, ∀ r' ∈ rows, joinR r = joinR r' → r = r'
  ok : ∀ r ∈ rows, JoinOk "/" r = true
def KindsSpec (rows : List (List Str)) (κ : List Str → Int) : Prop := ∀ r ∈ rows, ∀ r' ∈ rows, κ r = κ r' ↔ heldS rows κ r = heldS rows κ r'
end

section
theorem perm_unmap {α β : Type} {f : α → β} : ∀ {l ps : List β}, l.Perm ps → ∀ {qs : List α}, l = qs.map f → ∃ qs' : List α, qs'.Perm qs ∧ qs'.map f = ps := by
  intro l ps h
  induction h with
  | nil => intro qs e; exact ⟨[], by rw [List.map_eq_nil_iff.mp e.symm], rfl⟩
  | @cons x l₁ l₂ _ ih =>
    intro qs e
    cases qs with
    | nil => cases e
    | cons q qs =>
      rw [List.map_cons] at e
      injection e with e1 e2
      obtain ⟨qs', p, m⟩ := ih e2
      exact ⟨q :: qs', p.cons q, by rw [List.map_cons, m, e1]⟩
  | @swap x y l =>
    intro qs e
    match qs, e with
    | q1 :: q2 :: qs, e =>
      rw [List.map_cons, List.map_cons] at e
      injection e with e1 e2
      injection e2 with e2 e3
      exact ⟨q2 :: q1 :: qs, List.Perm.swap _ _ _, by rw [List.map_cons, List.map_cons, ← e1, ← e2, ← e3]⟩
  | trans _ _ ih1 ih2 =>
    intro qs e
    obtain ⟨qs1, p1, m1⟩ := ih1 e
    obtain ⟨qs2, p2, m2⟩ := ih2 m1.symm
    exact ⟨qs2, p2.trans p1, m2⟩
theorem ksk_rows {P : Value → List Str → Prop} {vs out : List Value} {rows : List (List Str)} (d : AllD P vs rows) (k : KskOut true (rows.map fun r => (r.length : Int)) vs out) :
    ∃ ord, ord.Perm rows ∧ AllD P out ord ∧ ord.Pairwise (fun a b => b.length ≤ a.length) := by
  obtain ⟨ps, hp, rfl, hs⟩ := k
  have hz : (rows.map fun r => (r.length : Int)).zip vs = (rows.zip vs).map fun (x : List Str × Value) => ((x.1.length : Int), x.2) := by
    clear hp d hs
    induction rows generalizing vs with
    | nil => rfl
    | cons r rows ih => cases vs with
      | nil => rfl
      | cons v vs => simp [ih]
  obtain ⟨qs, p, m⟩ := perm_unmap (f := fun (x : List Str × Value) => ((x.1.length : Int), x.2)) hp.symm hz
  have hall : ∀ q ∈ rows.zip vs, P q.2 q.1 := by
    clear hp hs hz p m
    induction d with
    | nil => intro q hq; cases hq
    | cons a _ ih =>
      intro q hq
      rcases List.mem_cons.mp hq with rfl | hq
      · exact a
      · exact ih q hq
  refine ⟨qs.map (·.1), ?_, ?_, ?_⟩
  · have := p.map (·.1)
    rw [List.map_fst_zip (by rw [d.len]; exact Nat.le_refl _)] at this
    exact this
  · rw [← m, List.map_map]
    have key : ∀ (l : List (List Str × Value)), (∀ q ∈ l, P q.2 q.1) → AllD P (l.map ((·.2) ∘ fun (x : List Str × Value) => ((x.1.length : Int), x.2))) (l.map (·.1)) := by
      intro l
      induction l with
      | nil => intro _; exact .nil
      | cons q l ih => intro h; exact .cons (h q (.head _)) (ih fun q hq => h q (.tail _ hq))
    exact key qs fun q hq => hall q (p.mem_iff.mp hq)
  · rw [← m, List.pairwise_map] at hs
    rw [List.pairwise_map]
    exact hs.imp fun h => by simpa using h
theorem child_done {rows ord : List (List Str)} (hp : ord.Perm rows) (hw : ord.Pairwise fun a b => b.length ≤ a.length) {i : Nat} {row one : List Str} (e : ord[i]? = some row) (h : one ∈ childs rows row) : one ∈ ord.take i := by
  obtain ⟨h1, _, h3⟩ := childs_mem h
  obtain ⟨j, hj⟩ := List.mem_iff_getElem?.mp (hp.mem_iff.mpr h1)
  rcases Nat.lt_or_ge j i with q | q
  · exact List.mem_iff_getElem?.mpr ⟨j, by rw [List.getElem?_take]; rw [if_pos q]; exact hj⟩
  · exfalso
    rcases Nat.eq_or_lt_of_le q with q | q
    · subst q
      rw [hj] at e
      cases e
      omega
    · have hi : i < ord.length := by
        rcases Nat.lt_or_ge i ord.length with z | z
        · exact z
        · rw [List.getElem?_eq_none z] at e; cases e
      have hjl : j < ord.length := by
        rcases Nat.lt_or_ge j ord.length with z | z
        · exact z
        · rw [List.getElem?_eq_none z] at hj; cases hj
      have := List.pairwise_iff_getElem.mp hw i j hi hjl q
      rw [List.getElem?_eq_getElem hi] at e
      rw [List.getElem?_eq_getElem hjl] at hj
      rw [Option.some.inj e, Option.some.inj hj] at this
      omega
def kap (tm : List (Str × Int)) (r : List Str) : Int := (getI tm (joinR r)).getD 0
theorem held_congr {rows : List (List Str)} {κ κ' : List Str → Int} {row : List Str} (h : ∀ one ∈ childs rows row, κ one = κ' one) : heldS rows κ row = heldS rows κ' row := by
  unfold heldS
  congr 1
  exact List.map_congr_left fun one ho => by rw [h one ho]
/-- what holds once the first i rows of the order are told -/
structure Told (rows ord : List (List Str)) (tm : List (Str × Int)) (K : List (List (Str × Int))) (i : Nat) : Prop where
  nd : K.Nodup
  yes : ∀ r ∈ ord.take i, ∃ k : Nat, getI tm (joinR r) = some (k : Int) ∧ K[k]? = some (heldS rows (kap tm) r)
  no : ∀ r ∈ rows, r ∉ ord.take i → getI tm (joinR r) = none
  klen : K.length ≤ i
theorem Told.start {rows ord : List (List Str)} : Told rows ord [] [] 0 := ⟨List.nodup_nil, fun r h => by simp at h, fun _ _ _ => rfl, Nat.le_refl _⟩
theorem Told.step {rows ord : List (List Str)} (R : RowsOk rows) (hp : ord.Perm rows) (hw : ord.Pairwise fun a b => b.length ≤ a.length) {tm : List (Str × Int)} {K K' : List (List (Str × Int))} {i j : Nat} {row : List Str} (T : Told rows ord tm K i) (e : ord[i]? = some row)
    (hK : K' = addV (fun y x => decide (y = x)) K (heldS rows (kap tm) row)) (hj : K'[j]? = some (heldS rows (kap tm) row)) : Told rows ord (tm ++ [(joinR row, (j : Int))]) K' (i + 1) := by
  have hnd : ord.Nodup := hp.nodup_iff.mpr R.nd
  have hi : i < ord.length := by
    rcases Nat.lt_or_ge i ord.length with z | z
    · exact z
    · rw [List.getElem?_eq_none z] at e; cases e
  have hrow : row ∈ rows := hp.mem_iff.mp (List.mem_of_getElem? e)
  have hnot : row ∉ ord.take i := fun hm => by
    obtain ⟨q, hq⟩ := List.mem_iff_getElem?.mp hm
    rw [List.getElem?_take] at hq
    split at hq
    · rename_i hlt
      have hql : q < ord.length := by omega
      rw [List.getElem?_eq_getElem hql] at hq
      rw [List.getElem?_eq_getElem hi] at e
      exact List.pairwise_iff_getElem.mp hnd q i hql hi hlt ((Option.some.inj hq).trans (Option.some.inj e).symm)
    · cases hq
  have htk : ord.take (i + 1) = ord.take i ++ [row] := by rw [List.take_add_one, e]; rfl
  have hnone := T.no row hrow hnot
  have hmem : ∀ r ∈ ord.take i, r ∈ rows := fun r hr => hp.mem_iff.mp (List.mem_of_mem_take hr)
  have hget : ∀ r ∈ rows, r ≠ row → getI (tm ++ [(joinR row, (j : Int))]) (joinR r) = getI tm (joinR r) := fun r hr n => by
    rw [getI_app, if_neg (fun z => n (R.inj _ hrow _ hr z).symm), Option.or_none]
  have hgrow : getI (tm ++ [(joinR row, (j : Int))]) (joinR row) = some (j : Int) := by rw [getI_app, hnone, if_pos rfl]; rfl
  have hkap : ∀ r ∈ ord.take i, kap (tm ++ [(joinR row, (j : Int))]) r = kap tm r := fun r hr => by
    unfold kap
    rw [hget r (hmem r hr) fun z => hnot (z ▸ hr)]
  have hheld : ∀ (q : Nat) (r : List Str), q ≤ i → ord[q]? = some r → heldS rows (kap (tm ++ [(joinR row, (j : Int))])) r = heldS rows (kap tm) r := fun q r hq er =>
    held_congr fun one ho => hkap one (List.mem_of_mem_take (i := q) (by
      have := child_done hp hw er ho
      rw [List.take_take, Nat.min_eq_left hq]; exact this))
  have hsub : ∀ (k : Nat) x, K[k]? = some x → K'[k]? = some x := fun k x hx => by
    rw [hK]; unfold addV
    cases (!K.any fun y => decide (y = heldS rows (kap tm) row))
    · exact hx
    · show (K ++ _)[k]? = _
      have hk : k < K.length := by
        rcases Nat.lt_or_ge k K.length with z | z
        · exact z
        · rw [List.getElem?_eq_none z] at hx; cases hx
      rw [List.getElem?_append_left hk]; exact hx
  refine ⟨?_, fun r hr => ?_, fun r hr hn => ?_, ?_⟩
  · rw [hK]; unfold addV
    cases hb : (!K.any fun y => decide (y = heldS rows (kap tm) row))
    · exact T.nd
    · show (K ++ [_]).Nodup
      rw [List.nodup_append]
      refine ⟨T.nd, by simp, fun a ha b hb' z => ?_⟩
      simp at hb'
      subst hb'
      subst z
      rw [Bool.not_eq_true', List.any_eq_false] at hb
      exact hb _ ha (by simp)
  · rw [htk] at hr
    rcases List.mem_append.mp hr with hr | hr
    · obtain ⟨k, g, hk⟩ := T.yes r hr
      refine ⟨k, ?_, ?_⟩
      · rw [hget r (hmem r hr) fun z => hnot (z ▸ hr)]; exact g
      · obtain ⟨q, hq⟩ := List.mem_iff_getElem?.mp hr
        rw [List.getElem?_take] at hq
        split at hq
        · rename_i hlt
          rw [hheld q r (Nat.le_of_lt hlt) hq]
          exact hsub k _ hk
        · cases hq
    · simp at hr
      subst hr
      exact ⟨j, hgrow, by rw [hheld i r (Nat.le_refl _) e]; exact hj⟩
  · rw [htk] at hn
    have h1 : r ∉ ord.take i := fun z => hn (List.mem_append_left _ z)
    have h2 : r ≠ row := fun z => hn (by rw [z]; simp)
    rw [hget r hr h2]
    exact T.no r hr h1
  · rw [hK]; unfold addV
    have := T.klen
    cases (!K.any fun y => decide (y = heldS rows (kap tm) row)) <;> simp <;> omega
theorem Told.spec {rows ord : List (List Str)} (R : RowsOk rows) (hp : ord.Perm rows) {tm : List (Str × Int)} {K : List (List (Str × Int))} (T : Told rows ord tm K ord.length) : KindsSpec rows (kap tm) := by
  intro r hr r' hr'
  obtain ⟨k, g, hk⟩ := T.yes r (by rw [List.take_length]; exact hp.mem_iff.mpr hr)
  obtain ⟨k', g', hk'⟩ := T.yes r' (by rw [List.take_length]; exact hp.mem_iff.mpr hr')
  have e1 : kap tm r = k := by unfold kap; rw [g]; rfl
  have e2 : kap tm r' = k' := by unfold kap; rw [g']; rfl
  rw [e1, e2]
  constructor
  · intro e
    have : k = k' := by omega
    subst this
    rw [hk] at hk'
    exact Option.some.inj hk'
  · intro e
    rw [e] at hk
    have hl : k < K.length := by
      rcases Nat.lt_or_ge k K.length with z | z
      · exact z
      · rw [List.getElem?_eq_none z] at hk; cases hk
    have hl' : k' < K.length := by
      rcases Nat.lt_or_ge k' K.length with z | z
      · exact z
      · rw [List.getElem?_eq_none z] at hk'; cases hk'
    rw [List.getElem?_eq_getElem hl] at hk
    rw [List.getElem?_eq_getElem hl'] at hk'
    have he : K[k] = K[k'] := (Option.some.inj hk).trans (Option.some.inj hk').symm
    rcases Nat.lt_trichotomy k k' with z | z | z
    · exact absurd he (List.pairwise_iff_getElem.mp T.nd k k' hl hl' z)
    · rw [z]
    · exact absurd he.symm (List.pairwise_iff_getElem.mp T.nd k' k hl' hl z)
end

theorem gb_sorted (P : Params) : nsIn (KK P) mainGlobals (Str.ofString "sorted") = some none ∧ bootBuiltins (Str.ofString "sorted") = some (.builtin "sorted") := ⟨by kernel_rfl, by kernel_rfl⟩
local macro_rules | `(tactic| k_places) => `(tactic| with_reducible first | exact gb_sorted _ | fail "no")
local macro_rules | `(tactic| got_up) => `(tactic| first
  | with_reducible (first
    | refine' n_cellN ?nS ?nH ?nc ?nr ?nx ?nd ?_
      case nS => assumption
      case nH => assumption
      case nc => kln_le
      case nr => lcg_src
      case nx => kln_le
      case nd => mod_arm)
  | fail "no")
local macro_rules | `(tactic| fold_depth) => `(tactic| first
  | with_reducible (first
    | refine' n_storeC ?nS ?nH ?nc ?nr ?nx ?_
      case nS => assumption
      case nH => assumption
      case nc => kln_le
      case nr => lcg_src
      case nx => kln_le
      intro h S)
  | fail "no")
local macro_rules | `(tactic| isplit) => `(tactic| first
  | with_reducible (first
    | refine' r_DictNil ?nS ?_
      case nS => assumption
      intro dd h S
    | refine' r_AssignSub ?_ ?hs
      case hs => leaf_len
    | refine' r_CallKw (kws := _ :: _) ?_ ?n1 ?n2 ?n3
      case n1 => leaf_len
      case n2 => k_dflt (exact ⟨_, _, rfl⟩)
      case n3 => leaf_len
    | refine kwB ?_
    | refine r_tests_one ?_
    | refine r_tests_nil ?_
    | refine ea_kwNil ?_
    | refine ea_kw ?_)
  | fail "no")
theorem childs_yes {rows : List (List Str)} {row one : List Str} {k : Nat} (e : rows[k]? = some one) (h1 : one.length = row.length + 1) (h2 : one.dropLast = row) : childs (rows.take (k + 1)) row = childs (rows.take k) row ++ [one] := by
  unfold childs
  rw [List.take_add_one, e, List.filter_append]
  show _ ++ List.filter _ [one] = _
  rw [List.filter_cons, if_pos (by rw [Bool.and_eq_true]; exact ⟨decide_eq_true h1, decide_eq_true h2⟩)]
  rfl
theorem childs_no {rows : List (List Str)} {row one : List Str} {k : Nat} (e : rows[k]? = some one) (h : (decide (one.length = row.length + 1) && decide (one.dropLast = row)) = false) : childs (rows.take (k + 1)) row = childs (rows.take k) row := by
  unfold childs
  rw [List.take_add_one, e, List.filter_append]
  show _ ++ List.filter _ [one] = _
  rw [List.filter_cons, if_neg (by rw [h]; simp)]
  simp
theorem strLast {b : Heap} {vs : List Value} {xs : List Str} (h : AllD (DT.str.D b) vs xs) (hn : xs ≠ []) : ∃ t, vs.getLast? = some (.str (lastS xs) t) := by
  have hl := h.len
  have hp : 0 < xs.length := List.length_pos_iff.mpr hn
  have hlt : vs.length - 1 < vs.length := by omega
  obtain ⟨y, e, t, q⟩ := h.get (List.getElem?_eq_getElem hlt)
  refine ⟨t, ?_⟩
  rw [List.getLast?_eq_getElem?, List.getElem?_eq_getElem hlt, q]
  unfold lastS
  rw [List.getLast?_eq_getElem?, ← hl, e]; rfl
theorem first_idx {α : Type} [DecidableEq α] : ∀ {xs : List α} {x : α}, x ∈ xs → ∃ j : Nat, xs[j]? = some x ∧ ∀ m, m < j → xs[m]? ≠ some x
  | y :: xs, x, h => by
    by_cases hy : y = x
    · exact ⟨0, by simp [hy], fun m hm => absurd hm (Nat.not_lt_zero _)⟩
    · obtain ⟨j, e, q⟩ := first_idx (xs := xs) (x := x) ((List.mem_cons.mp h).resolve_left fun e => hy e.symm)
      refine ⟨j + 1, by simpa using e, fun m hm => ?_⟩
      cases m with
      | zero => simpa using hy
      | succ m => simpa using q m (by omega)
theorem addV_has {α : Type} [DecidableEq α] {K : List α} {x : α} : x ∈ addV (fun y x => decide (y = x)) K x := by
  unfold addV
  cases hb : (!K.any fun y => decide (y = x)) with
  | true => simp
  | false =>
    rw [Bool.not_eq_false', List.any_eq_true] at hb
    obtain ⟨y, hy, e⟩ := hb
    rw [← of_decide_eq_true e]; exact hy
theorem lawkinds_ok {c : Cfg} {A : Around} {b h : Heap} {v : Value} {rows : List (List Str)} (W : Wd c b) (B : Base b h) (G : Good A h 60) (hv : ListD rowsD b v rows) (R : RowsOk rows) :
    Gives c A b h (.ref 200) [v] [] (fun b' w => ∃ κ, KindsSpec rows κ ∧ ListD DT.int b' w (rows.map κ)) := by
  intro E
  generalize hh₀ : h = h₀ at *
  obtain ⟨ra, rvs, rn, rfl, re, rd⟩ := hv
  refine callK (binds := [("rows", .ref ra)]) W B G rfl (by rfl) fun L h' env he hf H S => ?_
  dsimp only at H
  replace H : EnvOk env L _ [(Str.ofString "row", L + 1 + 1), (Str.ofString "told", L + 1)] := H
  replace S : Sit b h₀ b [(L, "frame", fun _ => none)] [(L + 1 + 1, cellObj none), (L + 1, cellObj none)] h' := S
  clear he
  generalize L + 1 + 1 = cr at H S
  generalize L + 1 = ct at H S
  unfold cellObj at S
  repeat' isplit
  show WP c (A.deeper env) (call (.builtin "sorted") [.ref ra] [("key", .builtin "len"), ("reverse", .bool true)]) _ _ _
  have hrl : rvs.length < 64 := by rw [rd.len]; exact R.len
  refine c_sortedLen (kz := rows.map fun r => (r.length : Int)) W S (S.atB re) (by rw [List.length_map, rd.len]) hrl (fun i v k ev ek => ?_) fun D out n' h S ko => ?_
  · obtain ⟨r, er, a, ws, m, rfl, g, q⟩ := rd.get ev
    rw [List.getElem?_map, er] at ek
    have hl := R.rlen r (List.mem_of_getElem? er)
    exact ⟨a, ws, m, rfl, g, by rw [q.len]; exact (Option.some.inj ek).symm, by rw [q.len]; omega⟩
  obtain ⟨ord, hperm, hord, hpw⟩ := ksk_rows rd ko
  obtain ⟨b₁, S, st1, eD⟩ := S.out .head
  have hh : (A.deeper env).handled = none := G.hd
  have hol : out.length = ord.length := hord.len
  have hol2 : ord.length < 64 := by rw [hperm.length_eq]; exact R.len
  refine r_iterList S hh (lst_is eD) fun I o h It S j X => ?_
  refine r_forLoop X (fun i b fs N => Ex8 fun m kvs tm o' kv kn K cv => An9 (fs = [(L, "frame", m)]) (N = [(dd, o'), (ad, lstObj kv kn), (cr, { cls := .type "cell", data := .cell cv }), (ct, { cls := .type "cell", data := .cell (some (.ref dd)) })]) (DictO c o' kvs) (AssocD kvs tm) (AllD ((DT.list pairT).D b) kv K) (Told rows ord tm K i) (kvs.length ≤ i) (m (Str.ofString "rows") = some (.ref ra)) (m (Str.ofString "kinds") = some (.ref ad))) ?turn ?done S (fun _ _ e => e) j
    ⟨_, [], [], _, [], _, [], _, rfl, rfl, DictO.new, .nil, .nil, Told.start, Nat.le_refl _, by kpf_c, by kpf_c⟩
  case turn =>
    rintro i v b₂ fs N h o' Tq kT hi hv st ⟨m, kvs, tm, od, kv, kn, K, cv, rfl, rfl, hD, hA, hK, T, hkl, em, ek⟩ S
    obtain ⟨row, erow, wa, ws, wm, rfl, ew, dw⟩ := hord.get hv
    have st2 : b.StaysIn b₂ := fun _ _ e => st _ _ (st1 _ _ e)
    have ew2 := st2 _ _ ew
    have hrow : row ∈ rows := hperm.mem_iff.mp (List.mem_of_getElem? erow)
    have hrl0 : rvs.length = rows.length := rd.len
    repeat' isplit
    have cn : CN env [(Str.ofString ".0", .local), (Str.ofString "one", .local), (Str.ofString "len", .globalImplicit), (Str.ofString "row", .free), (Str.ofString "told", .free)] [] [(Str.ofString "told", ct), (Str.ofString "row", cr)]
        [(Str.ofString ".0", .local), (Str.ofString "one", .local), (Str.ofString "len", .globalImplicit), (Str.ofString "row", .cell), (Str.ofString "told", .cell)] :=
      .loc (.loc (.glob (.free (H.cell (by kln_le)) (H.look (by kln_le)) (.free (H.cell (by kln_le)) (H.look (by kln_le)) .nil))))
    refine r_ListComp H cn rfl (by decide +kernel) ?_
    repeat' isplit
    refine r_iterList S hh (lst_is (st2 _ _ re)) fun I2 o2 h It2 S j2 X2 => ?_
    refine r_comp H cn rfl S X2 j2 (by omega) (fun k b' ws' N' => N' = [(I, o'), (dd, od), (ad, lstObj kv kn), (cr, { cls := .type "cell", data := .cell (some (.ref wa)) }), (ct, { cls := .type "cell", data := .cell (some (.ref dd)) })] ∧
      AllD (pairT.D b') ws' ((childs (rows.take k) row).map fun one => (lastS one, kap tm one))) ⟨rfl, .nil⟩ ?turn2 ?done2
    case turn2 =>
      rintro k v b₃ ws' kk m' N' h cenv Lc ac o2' Tv Th kv1 kh1 hk hv3 st3 ⟨rfl, hws⟩ hwl HC S
      obtain ⟨one, eone, oa, os, om, rfl, eo, od1⟩ := rd.get hv3
      have one_in : one ∈ rows := List.mem_of_getElem? eone
      have st4 : b.StaysIn b₃ := fun _ _ e => st3 _ _ (st2 _ _ e)
      have eo4 := st4 _ _ eo
      have ew4 := st3 _ _ ew2
      have os_len : os.length ≤ 1000 := by rw [od1.len]; have := R.rlen one one_in; omega
      have ws_len : ws.length ≤ 1000 := by rw [dw.len]; have := R.rlen row hrow; omega
      have htk : rows.take (k + 1) = rows.take k ++ [one] := by rw [List.take_add_one, eone]; rfl
      repeat' isplit
      · have q0 : ((os.length : Int) == (ws.length : Int) + 1) = true := by with_reducible assumption
        rw [pick_dropLast] at S
        have eqn := S.atN .head
        refine c_eqL (T := DT.str) S eqn (S.atB ew4) (od1.dropLast.mono fun _ _ q => q) (dw.mono fun _ _ q => q) ((Good.now G S (.tail _ (.head _)) hf H.kind).room (j := 1) (by decide)) ?_
        have S := S.dropN
        repeat' isplit
        · have q1 : decide (one.dropLast = row) = true := by with_reducible assumption
          have q2 := of_decide_eq_true q1
          have q3 : one.length = row.length + 1 := by
            have := beq_iff_eq.mp q0
            rw [← od1.len, ← dw.len]; omega
          have hin : one ∈ childs rows row := List.mem_filter.mpr ⟨one_in, by rw [Bool.and_eq_true]; exact ⟨decide_eq_true q3, q1⟩⟩
          have hck := childs_yes eone q3 q2
          obtain ⟨j3, g3, _⟩ := T.yes one (child_done hperm hpw erow hin)
          obtain ⟨t3, g4⟩ := assoc_get hA g3
          have hkap : kap tm one = (j3 : Int) := by unfold kap; rw [g3]; rfl
          obtain ⟨t5, hl5⟩ := strLast od1 (by intro z; rw [z] at q3; simp at q3)
          refine g_listLast (S.atB eo4) (Nat.le_trans os_len (Nat.le_of_ble_eq_true rfl)) hl5 ?_
          repeat' isplit
          refine c_join (S.atB eo4) (strs_all od1) (R.ok one one_in) fun t6 => ?_
          repeat' isplit
          refine g_dict (S.atN (.tail (.tail (.tail .head)))) hD g4 ?_
          repeat' isplit
          refine ⟨b', _, _, fun _ _ e => st _ _ (st3 _ _ e), ⟨rfl, ?_⟩, S⟩
          rw [hck, List.map_append]
          exact (hws.mono fun _ _ q => pairT.stays q st).app (.cons ⟨ad, _, _, rfl, eo, ⟨_, rfl⟩, ⟨t3, by show Value.int _ _ = Value.int (kap tm one) t3; rw [hkap]⟩⟩ .nil)
        · have q1 : decide (one.dropLast = row) = false := by with_reducible assumption
          refine ⟨_, _, _, st3, ⟨rfl, ?_⟩, S⟩
          rw [childs_no eone (by rw [q1, Bool.and_false])]
          exact hws
      · have q0 : ((os.length : Int) == (ws.length : Int) + 1) = false := by with_reducible assumption
        refine ⟨_, _, _, st3, ⟨rfl, ?_⟩, S⟩
        rw [childs_no eone (by
          have : ¬ one.length = row.length + 1 := fun z => by
            rw [← od1.len, ← dw.len] at z
            rw [show (os.length : Int) = (ws.length : Int) + 1 by omega, beq_self_eq_true] at q0
            cases q0
          rw [decide_eq_false this, Bool.false_and])]
        exact hws
    case done2 =>
      rintro b₃ ws' kk N' h ac st3 ⟨rfl, hws⟩ S
      rw [hrl0, List.take_length] at hws
      repeat' isplit
      refine c_sortedP W S (S.atN .head) hws (childs_names R.nd) (childs_abc R.abc) fun D2 out2 n2 h S hout => ?_
      obtain ⟨b₄, S, st5, eD2⟩ := S.out .head
      have S := S.dropN
      repeat' isplit
      have hst4 : b₂.StaysIn b₄ := fun _ _ e => st5 _ _ (st3 _ _ e)
      have hdx : (DT.list pairT).D b₄ (.ref D2) (heldS rows (kap tm) row) := ⟨D2, out2, n2, rfl, eD2, hout.mono fun _ _ q => pairT.stays q st5⟩
      have hK4 : AllD ((DT.list pairT).D b₄) kv K := hK.mono fun _ _ q => (DT.list pairT).stays q hst4
      have G4 := Good.now G S (.head _) hf H.kind
      have hu4 : (A.deeper env).units + (DT.list pairT).k + 1 < cLine := G4.room (j := 3) (by decide)
      have hklen := T.klen
      have hkvl := hK4.len
      have hil : i < 64 := by omega
      refine c_notIn (T := DT.list pairT) S (S.atN (.tail (.tail .head))) hK4 hdx hu4 ?_
      have hrowS : StrsAre ws row := strs_all dw
      have ew4 := hst4 _ _ ew2
      have hstb : b₁.StaysIn b₄ := fun _ _ e => hst4 _ _ (st _ _ e)
      obtain ⟨j5, hj5, hmin⟩ := first_idx (addV_has (K := K) (x := heldS rows (kap tm) row))
      have hnot : row ∉ ord.take i := fun hm => by
        obtain ⟨q, hq⟩ := List.mem_iff_getElem?.mp hm
        rw [List.getElem?_take] at hq
        split at hq
        · rename_i hlt
          have hil' : i < ord.length := by omega
          have hql : q < ord.length := by omega
          rw [List.getElem?_eq_getElem hql] at hq
          rw [List.getElem?_eq_getElem hil'] at erow
          exact List.pairwise_iff_getElem.mp (hperm.nodup_iff.mpr R.nd) q i hql hil' hlt ((Option.some.inj hq).trans (Option.some.inj erow).symm)
        · cases hq
      have hnew := T.no row hrow hnot
      have T' := T.step R hperm hpw erow rfl hj5
      have hslen := stored_len kvs (joinR row)
      repeat' isplit
      · have hq : (!K.any fun y => decide (y = heldS rows (kap tm) row)) = true := by with_reducible assumption
        have eK : addV (fun y x => decide (y = x)) K (heldS rows (kap tm) row) = K ++ [heldS rows (kap tm) row] := by unfold addV; rw [hq]; rfl
        have hK5 : AllD ((DT.list pairT).D b₄) (kv ++ [.ref D2]) (addV (fun y x => decide (y = x)) K (heldS rows (kap tm) row)) := by rw [eK]; exact hK4.app (.cons hdx .nil)
        refine c_index (T := DT.list pairT) S (S.atN (.tail (.tail .head))) hK5 hdx hu4 hj5 hmin (by rw [List.length_append]; show kv.length + 1 ≤ 1000; omega) fun t7 => ?_
        repeat' isplit
        refine c_join (S.atB ew4) hrowS (R.ok row hrow) fun t8 => ?_
        refine c_setItemD S (.tail .head) hD (by omega) fun h o7 S D7 => ?_
        repeat' isplit
        exact ⟨b₄, _, _, hstb, ⟨_, _, _, o7, _, _, _, _, rfl, rfl, D7, assoc_new hA hnew, hK5, T', Nat.le_trans (hslen _) (by omega), by kpf_c, by kpf_c⟩, S⟩
      · have hq : (!K.any fun y => decide (y = heldS rows (kap tm) row)) = false := by with_reducible assumption
        have eK : addV (fun y x => decide (y = x)) K (heldS rows (kap tm) row) = K := by unfold addV; rw [hq]; rfl
        have hK5 : AllD ((DT.list pairT).D b₄) kv (addV (fun y x => decide (y = x)) K (heldS rows (kap tm) row)) := by rw [eK]; exact hK4
        refine c_index (T := DT.list pairT) S (S.atN (.tail (.tail .head))) hK5 hdx hu4 hj5 hmin (by omega) fun t7 => ?_
        repeat' isplit
        refine c_join (S.atB ew4) hrowS (R.ok row hrow) fun t8 => ?_
        refine c_setItemD S (.tail .head) hD (by omega) fun h o7 S D7 => ?_
        repeat' isplit
        exact ⟨b₄, _, _, hstb, ⟨_, _, _, o7, _, _, _, _, rfl, rfl, D7, assoc_new hA hnew, hK5, T', Nat.le_trans (hslen _) (by omega), by kpf_c, by kpf_c⟩, S⟩
  case done =>
    rintro b₂ fs N h st ⟨m, kvs, tm, od, kv, kn, K, cv, rfl, rfl, hD, hA, hK, T, hkl, em, ek⟩ S
    rw [hol] at T
    have spec := T.spec R hperm
    have st2 : b.StaysIn b₂ := fun _ _ e => st _ _ (st1 _ _ e)
    have hrl0 : rvs.length = rows.length := rd.len
    repeat' isplit
    have cn : CN env [(Str.ofString ".0", .local), (Str.ofString "row", .local), (Str.ofString "told", .free)] [] [(Str.ofString "told", ct)]
        [(Str.ofString ".0", .local), (Str.ofString "row", .local), (Str.ofString "told", .cell)] :=
      .loc (.loc (.free (H.cell (by kln_le)) (H.look (by kln_le)) .nil))
    refine r_ListComp H cn rfl (by decide +kernel) ?_
    repeat' isplit
    refine r_iterList S hh (lst_is (st2 _ _ re)) fun I2 o2 h It2 S j2 X2 => ?_
    refine r_comp H cn rfl S X2 j2 (by omega) (fun k b' ws' N' => N' = [(dd, od), (ad, lstObj kv kn), (cr, { cls := .type "cell", data := .cell cv }), (ct, { cls := .type "cell", data := .cell (some (.ref dd)) })] ∧
      AllD (DT.int.D b') ws' ((rows.take k).map (kap tm))) ⟨rfl, .nil⟩ ?turn3 ?done3
    case turn3 =>
      rintro k v b₃ ws' kk m' N' h cenv Lc ac o2' Tv Th kv1 kh1 hk hv3 st3 ⟨rfl, hws⟩ hwl HC S
      obtain ⟨one, eone, oa, os, om, rfl, eo, od1⟩ := rd.get hv3
      have one_in : one ∈ rows := List.mem_of_getElem? eone
      have eo4 := st3 _ _ (st2 _ _ eo)
      have htk : rows.take (k + 1) = rows.take k ++ [one] := by rw [List.take_add_one, eone]; rfl
      obtain ⟨j3, g3, _⟩ := T.yes one (by rw [List.take_length]; exact hperm.mem_iff.mpr one_in)
      obtain ⟨t3, g4⟩ := assoc_get hA g3
      have hkap : kap tm one = (j3 : Int) := by unfold kap; rw [g3]; rfl
      repeat' isplit
      refine c_join (S.atB eo4) (strs_all od1) (R.ok one one_in) fun t6 => ?_
      repeat' isplit
      refine g_dict (S.atN (.tail (.tail .head))) hD g4 ?_
      refine kv1 _ _ ?_
      refine ⟨b₃, _, _, st3, ⟨rfl, ?_⟩, S⟩
      rw [htk, List.map_append]
      exact (hws.mono fun _ _ q => q).app (.cons ⟨t3, by show Value.int _ _ = Value.int (kap tm one) t3; rw [hkap]⟩ .nil)
    case done3 =>
      rintro b₃ ws' kk N' h ac st3 ⟨rfl, hws⟩ S
      rw [hrl0, List.take_length] at hws
      repeat' isplit
      obtain ⟨b₄, S, st5, e5⟩ := S.out .head
      exact ⟨b₄, S.done, kap tm, spec, ac, ws', kk, rfl, e5, hws.mono fun _ _ q => DT.int.stays q st5⟩

section
/-! code objects and functions made while the text runs -/
section
variable {b₀ h₀ b h h' : Heap} {fs : List Fent} {N : List (Addr × Obj)} {o o' : Obj} {a P : Addr} {g : Obj → List (Addr × Obj)}
theorem Rep.addrs (r : Rep a o N g) : (g o').map (·.1) = N.map (·.1) := by
  obtain ⟨pre, post, e, q⟩ := r.split
  rw [q, e]; simp
theorem Sit.apart (S : Sit b₀ h₀ b fs N h) (ha : h.objs.size ≤ a) : h₀.get? a = none ∧ b.get? a = none ∧ ∀ y ∈ fs.map (·.1) ++ N.map (·.1), y ≠ a := by
  have hn : h.get? a = none := Heap.get?_none_of_le ha
  refine ⟨?_, ?_, fun y hy q => ?_⟩
  · cases z : h₀.get? a with
    | none => rfl
    | some o => obtain ⟨o', e', _⟩ := S.ext _ _ z; rw [hn] at e'; cases e'
  · cases z : b.get? a with
    | none => rfl
    | some o => have := (S.bh _ _ z).1; rw [hn] at this; cases this
  · have := S.lt y hy
    rw [q] at this
    exact absurd this (Nat.not_lt_of_le ha)
theorem Sit.extBut (S : Sit b₀ h₀ b fs N h) (r : Rep P o N g) (hx : Heap.ExtBut P h h') (e : h'.get? P = some o') (nf : o'.cls ≠ .type "frame") : Sit b₀ h₀ b fs (g o') h' := by
  obtain ⟨pre, post, eN, q⟩ := r.split
  subst eN
  rw [q]
  have z := S.nw (P, o) (by simp)
  have nd := S.nd
  rw [List.nodup_append] at nd
  have ne : ∀ p ∈ pre ++ post, p.1 ≠ P := fun p hp => mem_nodup_ne (l := (pre ++ (P, o) :: post).map (·.1)) (pre := pre.map (·.1)) (post := post.map (·.1)) (by simp) nd.2.1 (by rw [← List.map_append]; exact List.mem_map_of_mem hp)
  have nf2 : ∀ p ∈ fs, p.1 ≠ P := fun p hp => nd.2.2 _ (List.mem_map_of_mem hp) P (by simp)
  refine ⟨fun x ox ex => ?_, S.bb, fun x ox ex => ?_, S.new, fun p hp => ?_, fun p hp => ?_, by simpa using S.nd⟩
  · obtain ⟨o2, e2, r2⟩ := S.ext x ox ex
    exact ⟨o2, hx _ _ (fun q => by rw [q, z.2.2.2] at ex; cases ex) e2, r2⟩
  · exact ⟨hx _ _ (fun q => by rw [q, z.2.2.1] at ex; cases ex) (S.bh x ox ex).1, (S.bh x ox ex).2⟩
  · obtain ⟨o2, e2, cc⟩ := (S.fr p hp).1.2
    exact ⟨⟨(S.fr p hp).1.1.at' fun o e => hx _ _ (nf2 p hp) e, o2, hx _ _ (nf2 p hp) e2, cc⟩, (S.fr p hp).2⟩
  · rcases List.mem_append.mp hp with q | q
    · have hp' : p ∈ pre ++ (P, o) :: post := List.mem_append_left _ q
      exact ⟨hx _ _ (ne p (List.mem_append_left _ q)) (S.nw p hp').1, (S.nw p hp').2⟩
    · rcases List.mem_cons.mp q with rfl | q
      · exact ⟨e, nf, z.2.2⟩
      · have hp' : p ∈ pre ++ (P, o) :: post := List.mem_append_right _ (.tail _ q)
        exact ⟨hx _ _ (ne p (List.mem_append_right _ q)) (S.nw p hp').1, (S.nw p hp').2⟩
theorem Sit.adopt (S : Sit b₀ h₀ b fs N h) (e : h.get? a = some o) (nf : o.cls ≠ .type "frame") (x : h₀.get? a = none ∧ b.get? a = none ∧ ∀ y ∈ fs.map (·.1) ++ N.map (·.1), y ≠ a) : Sit b₀ h₀ b fs ((a, o) :: N) h := by
  obtain ⟨h1, h2, h3⟩ := x
  refine ⟨S.ext, S.bb, S.bh, S.new, S.fr, fun p hp => ?_, ?_⟩
  · rcases List.mem_cons.mp hp with rfl | hp
    · exact ⟨e, nf, h2, h1⟩
    · exact S.nw p hp
  · have nd := S.nd
    rw [List.nodup_append] at nd ⊢
    refine ⟨nd.1, ?_, ?_⟩
    · rw [List.map_cons, List.nodup_cons]
      exact ⟨fun z => h3 a (List.mem_append_right _ z) rfl, nd.2.1⟩
    · intro y hy z hz
      rw [List.map_cons] at hz
      rcases List.mem_cons.mp hz with rfl | hz
      · exact h3 y (List.mem_append_left _ hy)
      · exact nd.2.2 y hy z hz
end
section
variable {M : Model} {A : Around} {E : Value → Shared → Prop} {s : Shared}
/-- a code object made for a place of the text that has none yet -/
theorem x_codeAt {env : Env} {cd P : Addr} {ps : Array Value} {pos : Pos} {qual : Str} {make : CodeContext → Sem Value} {Q : Value → Shared → Prop} (hc : env.code = .ref cd) (hok : s.heap.IsCode cd P ps) (hP : s.heap.get? P = some (tabObj ps)) (hnf : codeAmong pos ps.toList = none)
    (hmk : ∀ ctx (Q' : Value → Shared → Prop), (∀ c' P' h' tk, (∀ b o, s.heap.get? b = some o → h'.get? b = some o) → s.heap.objs.size ≤ c' → s.heap.objs.size ≤ P' → h'.IsCode c' P' #[] → h'.TableAt c' P' #[] → h'.CodeRec (.ref c') qual → Q' (.ref c') { s with heap := h', toks := tk }) → wpAny M A (make ctx) Q' E s)
    (q : ∀ c' P' h' tk, Heap.ExtBut P s.heap h' → s.heap.objs.size ≤ c' → s.heap.objs.size ≤ P' → c' ≠ P' → h'.CodeRec (.ref c') qual → h'.IsCode c' P' #[] → h'.TableAt c' P' #[] → h'.get? P = some (tabObj (ps ++ #[rawInt pos.line, rawInt pos.col, .ref c'])) → Q (.ref c') { s with heap := h', toks := tk }) :
    wpAny M A (codeAt env pos make) Q E s := by
  obtain ⟨o, vs, file, tf, flags, tg, inF, text, tt, op, ho, hd, h11, h2, h7, h9, h10, hop, hpd, htr, hne⟩ := id hok
  have eop : op = tabObj ps := Option.some.inj (hop.symm.trans hP)
  subst eop
  unfold codeAt
  rw [hc, if_neg (show ¬ ((Value.ref cd == Value.none) = true) from Bool.false_ne_true)]
  refine wpAny_bind (wpAny_fieldsOf ho hd ?_)
  rw [h11]
  refine wpAny_bind (wpAny_fieldsOf hop hpd ?_)
  rw [hnf, h2, h7, h9, h10]
  refine wpAny_bind (hmk _ _ fun c' P' h' tk hk hc' hP' hcode' htab' hrec' => ?_)
  have hop' := hk _ _ hop
  refine wpAny_bind (wpAny_updateFieldsOfTheText hop' hpd ?_)
  have hnew : (Obj.mapFields (fun vs => if (codeAmong pos vs.toList).isSome = true then vs else vs ++ #[rawInt pos.line, rawInt pos.col, .ref c']) (tabObj ps)) = tabObj (ps ++ #[rawInt pos.line, rawInt pos.col, .ref c']) := by
    unfold tabObj
    simp only [Obj.mapFields, hnf]
    rfl
  have hget := Heap.get?_update_self (h := h') (fun o => Obj.mapFields (fun vs => if (codeAmong pos vs.toList).isSome = true then vs else vs ++ #[rawInt pos.line, rawInt pos.col, .ref c']) o) hop' (by rw [hnew]; rfl)
  rw [hnew] at hget
  refine wpAny_bind (wpAny_fieldsOf hget rfl ?_)
  have hl : (ps ++ #[rawInt pos.line, rawInt pos.col, Value.ref c']).toList = ps.toList ++ [rawInt pos.line, rawInt pos.col, .ref c'] := by simp
  rw [hl, codeAmong_snoc _ htr hnf]
  have hcP : c' ≠ P := Nat.ne_of_gt (Nat.lt_of_lt_of_le (Heap.lt_size hop) hc')
  have hPP : P' ≠ P := Nat.ne_of_gt (Nat.lt_of_lt_of_le (Heap.lt_size hop) hP')
  have but := (Heap.SameBut.update (h := h') (a := P) (f := fun o => Obj.mapFields (fun vs => if (codeAmong pos vs.toList).isSome = true then vs else vs ++ #[rawInt pos.line, rawInt pos.col, .ref c']) o)).extBut
  have hcP' : c' ≠ P' := by
    obtain ⟨_, _, _, _, _, _, _, _, _, _, _, _, _, _, _, _, _, _, _, _, n⟩ := hcode'
    exact n
  refine wpAny_pure (q c' P' _ _ (fun b o' hb e => but b o' hb (hk b o' e)) hc' hP' hcP' ?_ (hcode'.extBut but hcP hPP) (htab'.extBut but hcP hPP) hget)
  obtain ⟨c₂, o₂, vs₂, t₂, e₂, g₂, r₂⟩ := hrec'
  cases e₂
  exact ⟨_, o₂, vs₂, t₂, rfl, but _ _ hcP g₂, r₂⟩
end
theorem hd_of {h : Heap} {c P : Addr} {ps : Array Value} (x : h.IsCode c P ps) (y : h.TableAt c P ps) : CodeHd h c P := by
  obtain ⟨o, vs, file, tf, flags, tg, inF, text, tt, op, ho, hd, h11, h2, h7, h9, h10, hop, hpd, htr, hne⟩ := x
  obtain ⟨⟨o', vs', ho', hc', hd', h11'⟩, _⟩ := y
  rw [ho] at ho'
  cases ho'
  rw [hd] at hd'
  cases hd'
  exact ⟨o, vs, file, tf, flags, tg, inF, text, tt, ho, hc', hd, h11', h11, h2, h7, h9, h10, hne⟩
section
variable {c : Cfg} {A : Around} {E : Value → Heap → Prop} {h : Heap} {env : Env} {b₀ h₀ b : Heap} {fs : List Fent} {N : List (Addr × Obj)} {Q : Value → Heap → Prop} {g : Obj → List (Addr × Obj)} {K : Frag}
  {cd P : Addr} {ps : Array Value} {pos : Pos} {firstLine : Nat} {name qual : Str} {p : Arguments} {scope : Scope}
theorem c_codeAt {make : CodeContext → Sem Value} (S : Sit b₀ h₀ b fs N h) (hc : env.code = .ref cd) (C : CodeHd b cd P) (r : Rep P (tabObj ps) N g) (ht : TriplesOk ps.toList) (hnf : codeAmong pos ps.toList = none)
    (hmk : ∀ (s : Shared) ctx (Q' : Value → Shared → Prop), (∀ c' P' h' tk, (∀ b o, s.heap.get? b = some o → h'.get? b = some o) → s.heap.objs.size ≤ c' → s.heap.objs.size ≤ P' → h'.IsCode c' P' #[] → h'.TableAt c' P' #[] → h'.CodeRec (.ref c') qual → Q' (.ref c') { s with heap := h', toks := tk }) → wpAny c.M A (make ctx) Q' (c.lift E) s)
    (q : ∀ c' P' b' h', Sit b₀ h₀ b' fs ((P', tabObj #[]) :: g (tabObj (ps ++ #[rawInt pos.line, rawInt pos.col, .ref c']))) h' → b.StaysIn b' → b'.CodeRec (.ref c') qual → CodeHd b' c' P' → Q (.ref c') h') : WP c A (codeAt env pos make) Q E h := fun tk => by
  have C' : CodeHd h cd P := C.keeps S.bh.stays
  refine x_codeAt (s := c.st h tk) (qual := qual) hc (C'.code (S.atN r) ht) (S.atN r) hnf (hmk _) fun c' P' h' tk' hx h1 h2 h3 hrec hcode htab hP => ?_
  have S1 := S.extBut r hx hP (by show Value.none ≠ _; decide)
  have a1 := S.apart h1
  have a2 := S.apart h2
  have H1 := hd_of hcode htab
  obtain ⟨o, vs, file, tf, flags, tg, inF, text, tt, ho, hcl, hdt, r1, r2, r3, r4, r5, r6, r7⟩ := H1
  have fresh : ∀ {x : Addr}, (h₀.get? x = none ∧ b.get? x = none ∧ ∀ y ∈ fs.map (·.1) ++ N.map (·.1), y ≠ x) → (h₀.get? x = none ∧ b.get? x = none ∧ ∀ y ∈ fs.map (·.1) ++ (g (tabObj (ps ++ #[rawInt pos.line, rawInt pos.col, .ref c']))).map (·.1), y ≠ x) := fun z => by rw [r.addrs]; exact z
  have eP : h'.get? P' = some (tabObj #[]) := htab.2
  have S2 := S1.adopt eP (by show Value.none ≠ _; decide) (fresh a2)
  have S3 := S2.adopt (a := c') ho (by rw [hcl]; decide) ⟨a1.1, a1.2.1, fun y hy => by
    rw [List.map_cons] at hy
    rcases List.mem_append.mp hy with z | z
    · exact (fresh a1).2.2 y (List.mem_append_left _ z)
    · rcases List.mem_cons.mp z with rfl | z
      · exact fun q => h3 q.symm
      · exact (fresh a1).2.2 y (List.mem_append_right _ z)⟩
  obtain ⟨b', S4, st, e4⟩ := S3.out .head
  refine lift_mk (c := c) (Q := Q) (t := tk') (q c' P' b' h' S4 st ?_ ⟨o, vs, file, tf, flags, tg, inF, text, tt, e4, hcl, hdt, r1, r2, r3, r4, r5, r6, r7⟩)
  obtain ⟨c₂, o₂, vs₂, t₂, e₂, g₂, r₂⟩ := hrec
  cases e₂
  rw [ho] at g₂
  cases g₂
  exact ⟨_, o, vs₂, t₂, rfl, e4, r₂⟩
theorem c_classCode (S : Sit b₀ h₀ b fs N h) (hc : env.code = .ref cd) (C : CodeHd b cd P) (r : Rep P (tabObj ps) N g) (ht : TriplesOk ps.toList) (hnf : codeAmong pos ps.toList = none)
    (q : ∀ c' P' b' h', Sit b₀ h₀ b' fs ((P', tabObj #[]) :: g (tabObj (ps ++ #[rawInt pos.line, rawInt pos.col, .ref c']))) h' → b.StaysIn b' → b'.CodeRec (.ref c') qual → CodeHd b' c' P' → Q (.ref c') h') : WP c A (classCode env pos firstLine name qual scope) Q E h := by
  unfold classCode
  exact c_codeAt (qual := qual) S hc C r ht hnf (fun s ctx Q' x => wpAny_newCodeX fun c' P' h' tk a1 a2 a3 a4 a5 a6 => x c' P' h' tk a1 a2 a3 a4 a5 a6) q
theorem c_fnCode {body : FuncBody} (S : Sit b₀ h₀ b fs N h) (hc : env.code = .ref cd) (C : CodeHd b cd P) (r : Rep P (tabObj ps) N g) (ht : TriplesOk ps.toList) (hnf : codeAmong pos ps.toList = none)
    (q : ∀ c' b' h', Sit b₀ h₀ b' fs (g (tabObj (ps ++ #[rawInt pos.line, rawInt pos.col, .ref c']))) h' → b.StaysIn b' → b'.CodeRec (.ref c') qual → Q (.ref c') h') : WP c A (functionCode env pos firstLine name qual p scope body) Q E h := by
  unfold functionCode
  exact c_codeAt (qual := qual) S hc C r ht hnf (fun s ctx Q' x => wpAny_newCodeX fun c' P' h' tk a1 a2 a3 a4 a5 a6 => x c' P' h' tk a1 a2 a3 a4 a5 a6) fun c' P' b' h' S' st hr _ => q c' b' h' S'.dropN st hr
theorem c_builtinsFor {Q : Addr → Heap → Prop} {running : Addr} (W : World K b₀) (S : Sit b₀ h₀ b fs N h) (q : Q builtinsNs h) : WP c A (builtinsFor mainGlobals running) Q E h := fun tk => by
  obtain ⟨mg, bm, ob, n, e, ne, ho, hc, hdi, hda⟩ := W.bm
  exact wpAny_builtinsFor (s := c.st h tk) (n.keeps fun a o e => S.bh.stays _ _ (S.bb _ _ e)) e ne (S.atB (S.bb _ _ ho)) hc hdi hda (lift_mk q)
theorem c_nsGlob {x : Str} {v : Option Value} {Q : Option Value → Heap → Prop} (W : World K b₀) (S : Sit b₀ h₀ b fs N h) (e : nsIn K mainGlobals x = some v) (q : Q v h) : WP c A (nsGet mainGlobals x) Q E h := fun tk =>
  looks_nsIn (M := c.M) (h := h) (fun a o e => S.atB (S.bb _ _ (W.k _ _ e))) e A _ _ (c.st h tk) (fun _ _ e => e) (lift_mk q)
/-- a function that a def or a lambda makes -/
def fnData (name qual : Str) (p : Arguments) (body : FuncBody) (scope : Scope) (cl : List (Str × Addr)) (ct cd pm : Value) : FuncData :=
  { name, qualname := qual, params := p, body, scope, globals := mainGlobals, closure := cl, defaults := .none, kwdefaults := .none, doc := .none, pyModule := pm, annotations := none, code := cd, closureTuple := ct, builtins := builtinsNs }
def fnObj (name qual : Str) (p : Arguments) (body : FuncBody) (scope : Scope) (cl : List (Str × Addr)) (ct cd pm : Value) : Obj := { cls := .type "function", data := .func (fnData name qual p body scope cl ct cd pm) }
def bodyDoc (body : FuncBody) : Bool := match body with | .stmts b => (docOf b).isNone | .expr _ => true
theorem c_makeFn {body : FuncBody} {cl : List (Str × Addr)} {kwd : List (Option Value)} {nm : Option Value} (W : World K b₀) (hN : nsIn K mainGlobals "__name__" = some nm) (S : Sit b₀ h₀ b fs N h) (hk : p.kwonlyargs = []) (hcl : closureFor scope env = pure cl) (hge : env.globals = mainGlobals) (hd : bodyDoc body = true)
    (hc : env.code = .ref cd) (C : CodeHd b cd P) (r : Rep P (tabObj ps) N g) (ht : TriplesOk ps.toList) (hnf : codeAmong pos ps.toList = none)
    (q : ∀ f b' h' cv ct, Sit b₀ h₀ b' fs (g (tabObj (ps ++ #[rawInt pos.line, rawInt pos.col, cv]))) h' → b.StaysIn b' → b'.get? f = some (fnObj name qual p body scope cl ct cv (nm.getD .none)) → b'.CodeRec cv qual → Q (.ref f) h') :
    WP c A (makeFunction name qual p body scope env [] kwd [] pos firstLine) Q E h := by
  rw [makeFunction_eq]
  simp only [hk, List.zip_nil_left, List.filterMap_nil, List.isEmpty_nil, if_true, pure_bind]
  unfold makeTail
  rw [hcl, hge]
  refine .bind (.pure ?_)
  obtain ⟨ctS, hct⟩ : ∃ ct : Sem Value, ct = if cl.isEmpty then pure .none else newTextTuple ((cl.mergeSort fun a b => a.1.cps.toList ≤ b.1.cps.toList).map (.ref ·.2)) := ⟨_, rfl⟩
  have first : ∀ {Q' : Value → Heap → Prop}, (∀ ct b₁ h₁, Sit b₀ h₀ b₁ fs N h₁ → b.StaysIn b₁ → Q' ct h₁) → WP c A ctS Q' E h := fun x => by
    subst hct
    split
    · exact .pure (x _ b h S fun _ _ e => e)
    · refine fun tk => wpAny_newTextTuple ?_
      obtain ⟨b₁, S₁, st₁, e₁⟩ := S.pushB (o := { cls := .type "tuple", data := .seq ((cl.mergeSort fun a b => a.1.cps.toList ≤ b.1.cps.toList).map (Value.ref ·.2)).toArray }) rfl (by show Value.type "tuple" ≠ _; decide)
      exact lift_mk (x _ b₁ _ S₁ st₁)
  have tail : ∀ (ct : Value) (b₁ h₁ : Heap), Sit b₀ h₀ b₁ fs N h₁ → b.StaysIn b₁ → WP c A (functionCode env pos firstLine name qual p scope body >>= fun cv => builtinsFor mainGlobals env.builtins >>= fun bi => nsGet mainGlobals "__name__" >>= fun pm =>
      newObj (.type "function") (.func { name, qualname := qual, params := p, body, scope, globals := mainGlobals, closure := cl, closureTuple := ct, code := cv, builtins := bi, defaults := .none, kwdefaults := .none, annotations := none, pyModule := pm.getD .none, doc := .none })) Q E h₁ := fun ct b₁ h₁ S₁ st₁ => by
    refine .bind (c_fnCode S₁ hc (C.keeps st₁) r ht hnf fun c' b₂ h₂ S₂ st₂ hr => ?_)
    refine .bind (c_builtinsFor W S₂ (.bind (c_nsGlob W S₂ hN fun tk => ?_)))
    obtain ⟨b₃, S₃, st₃, e₃⟩ := S₂.pushB (o := fnObj name qual p body scope cl ct (.ref c') (nm.getD .none)) rfl (by show Value.type "function" ≠ _; decide)
    exact wpAny_newObj_type (lift_mk (q _ b₃ _ (.ref c') ct S₃ (fun _ _ e => st₃ _ _ (st₂ _ _ (st₁ _ _ e))) e₃ (hr.keeps st₃))) (by size_fits)
  have whole : WP c A (ctS >>= fun ct => functionCode env pos firstLine name qual p scope body >>= fun cv => builtinsFor mainGlobals env.builtins >>= fun bi => nsGet mainGlobals "__name__" >>= fun pm =>
      newObj (.type "function") (.func { name, qualname := qual, params := p, body, scope, globals := mainGlobals, closure := cl, closureTuple := ct, code := cv, builtins := bi, defaults := .none, kwdefaults := .none, annotations := none, pyModule := pm.getD .none, doc := .none })) Q E h :=
    .bind (first fun ct b₁ h₁ S₁ st₁ => tail ct b₁ h₁ S₁ st₁)
  subst hct
  cases body with
  | expr e =>
    cases cl with
    | nil => exact whole
    | cons x l => exact whole
  | stmts bd =>
    have hdo : docOf bd = none := by
      replace hd : (docOf bd).isNone = true := hd
      exact Option.isNone_iff_eq_none.mp hd
    dsimp only
    simp only [hdo]
    cases cl with
    | nil => exact whole
    | cons x l => exact whole
end
end

section
/-! a class's names: a dict whose keys are names -/
def KeyIs (e : DictEntry) (kv : Str × Value) : Prop := (∃ t, e.key = .str kv.1 t) ∧ e.val = kv.2
def nsObj (es : List DictEntry) (n : Nat) : Obj := { cls := .type "dict", data := .dict es.toArray n }
def NsD (o : Obj) (kvs : List (Str × Value)) : Prop := ∃ es n, o = nsObj es n ∧ AllD KeyIs es kvs
def getN : List (Str × Value) → Str → Option Value
  | [], _ => none
  | (y, v) :: r, x => if y = x then some v else getN r x
def putN : List (Str × Value) → Str → Value → List (Str × Value)
  | [], x, v => [(x, v)]
  | (y, w) :: r, x, v => if y = x then (y, v) :: r else (y, w) :: putN r x v
def delN : List (Str × Value) → Str → List (Str × Value)
  | [], _ => []
  | (y, w) :: r, x => if y = x then r else (y, w) :: delN r x
theorem key_isStr {e : DictEntry} {kv : Str × Value} {x : Str} (k : KeyIs e kv) : e.key.isStrByCps x.cps.size x.cps.toList = decide (kv.1 = x) ∧ e.refKey = false := by
  obtain ⟨⟨t, ht⟩, _⟩ := k
  refine ⟨?_, by unfold DictEntry.refKey; rw [ht]⟩
  rw [Value.isStrByCps_eq, ht]
  show (kv.1 == x) = _
  exact beq_dec _ _
theorem nameIn_of {x : Str} {saw : Bool} {es : List DictEntry} {kvs : List (Str × Value)} (d : AllD KeyIs es kvs) : ∃ r, nsNameIn x.cps.size x.cps.toList es saw = (r, saw) ∧ r.map (·.val) = getN kvs x := by
  induction d with
  | nil => exact ⟨none, rfl, rfl⟩
  | @cons e kv es kvs k d ih =>
    obtain ⟨k1, k2⟩ := key_isStr (x := x) k
    obtain ⟨y, w⟩ := kv
    unfold nsNameIn getN
    rw [k1]
    by_cases hx : y = x
    · rw [if_pos hx, if_pos (by simpa using hx)]
      exact ⟨some e, rfl, congrArg some k.2⟩
    · rw [if_neg hx, if_neg (by simpa using hx), k2, Bool.or_false]
      exact ih
theorem putIn_of {x : Str} {t : Tok} {hash : Int} {v : Value} {es : List DictEntry} {kvs : List (Str × Value)} (d : AllD KeyIs es kvs) :
    ∃ es' added, nsPutIn x.cps.size x.cps.toList (fun | some e => { e with val := v } | none => ⟨hash, .str x t, v⟩) es = (es', added) ∧ AllD KeyIs es' (putN kvs x v) := by
  induction d with
  | nil => exact ⟨_, _, rfl, .cons ⟨⟨t, rfl⟩, rfl⟩ .nil⟩
  | @cons e kv es kvs k d ih =>
    obtain ⟨k1, k2⟩ := key_isStr (x := x) k
    obtain ⟨y, w⟩ := kv
    unfold nsPutIn putN
    rw [k1]
    by_cases hx : y = x
    · rw [if_pos hx, if_pos (by simpa using hx)]
      exact ⟨_, _, rfl, .cons ⟨k.1, rfl⟩ d⟩
    · rw [if_neg hx, if_neg (by simpa using hx)]
      obtain ⟨es', added, e1, e2⟩ := ih
      rw [e1]
      exact ⟨_, _, rfl, .cons k e2⟩
theorem dropIn_of {x : Str} {es : List DictEntry} {kvs : List (Str × Value)} (d : AllD KeyIs es kvs) :
    (nsDropIn x.cps.size x.cps.toList es = none ∧ getN kvs x = none) ∨ ∃ es', nsDropIn x.cps.size x.cps.toList es = some es' ∧ AllD KeyIs es' (delN kvs x) ∧ (getN kvs x).isSome = true := by
  induction d with
  | nil => exact .inl ⟨rfl, rfl⟩
  | @cons e kv es kvs k d ih =>
    obtain ⟨k1, k2⟩ := key_isStr (x := x) k
    obtain ⟨y, w⟩ := kv
    unfold nsDropIn delN getN
    rw [k1]
    by_cases hx : y = x
    · rw [if_pos hx, if_pos hx, if_pos (by simpa using hx)]
      exact .inr ⟨_, rfl, d, rfl⟩
    · rw [if_neg hx, if_neg hx, if_neg (by simpa using hx)]
      rcases ih with ⟨e1, e2⟩ | ⟨es', e1, e2, e3⟩
      · exact .inl ⟨by rw [e1]; rfl, e2⟩
      · exact .inr ⟨e :: es', by rw [e1]; rfl, .cons k e2, e3⟩
section
variable {c : Cfg} {A : Around} {E : Value → Heap → Prop} {h : Heap} {env : Env} {b₀ h₀ b : Heap} {fs : List Fent} {N : List (Addr × Obj)} {g : Obj → List (Addr × Obj)} {a : Addr} {o : Obj} {kvs : List (Str × Value)} {x : Str} {v : Value}
theorem NsD.look (D : NsD o kvs) : nsLook x o = pure (getN kvs x) := by
  obtain ⟨es, n, rfl, d⟩ := D
  obtain ⟨r, e1, e2⟩ := nameIn_of (x := x) (saw := false) d
  show (match nsNameIn x.cps.size x.cps.toList es.toArray.toList false with
    | (some e, _) => pure (some e.val)
    | (none, true) => unsupported "namespace:key-that-is-no-exact-str"
    | (none, false) => pure none) = _
  rw [show es.toArray.toList = es from rfl, e1, ← e2]
  cases r <;> rfl
theorem NsD.nf (D : NsD o kvs) : o.cls = .type "dict" ∧ o.isFreed = false := by
  obtain ⟨es, n, rfl, d⟩ := D
  exact ⟨rfl, rfl⟩
theorem c_nsGet {Q : Option Value → Heap → Prop} (e : h.get? a = some o) (D : NsD o kvs) (q : Q (getN kvs x) h) : WP c A (nsGet a x) Q E h := by
  unfold nsGet
  exact .bind (.loadPart e (.of_eq D.look q))
theorem c_nsSet {Q : Unit → Heap → Prop} (S : Sit b₀ h₀ b fs N h) (r : Rep a o N g) (D : NsD o kvs) (q : ∀ h' o', Sit b₀ h₀ b fs (g o') h' → NsD o' (putN kvs x v) → Q () h') : WP c A (nsSet a x v) Q E h := by
  have e := S.atN r
  obtain ⟨es, n, rfl, d⟩ := D
  unfold nsSet strHash
  refine .bind (.bind (.ask (.pure (.bind (.mkText fun t => .bind (.loadPart e ?_))))))
  obtain ⟨rr, e1, _⟩ := nameIn_of (x := x) (saw := false) d
  have hno : aRefKeyMayBeTheName x es.toArray = false := by
    unfold aRefKeyMayBeTheName
    rw [show es.toArray.toList = es from rfl, e1]
    cases rr <;> rfl
  show WP c A (if aRefKeyMayBeTheName x es.toArray = true then _ else _) Q E h
  rw [hno]
  refine fun tk => ?_
  simp only [Bool.false_eq_true, if_false]
  refine wpAny_updatePart e ?_
  obtain ⟨es', added, e2, d'⟩ := putIn_of (x := x) (t := t) (hash := (if x.cps.isEmpty = true then 0 else reduceHash ((c.w.params).strHash x.cps))) (v := v) d
  have hp : ∃ n', Obj.putName x (if x.cps.isEmpty = true then 0 else reduceHash ((c.w.params).strHash x.cps)) (.str x t) v (nsObj es n) = nsObj es' n' := by
    have key : ∀ z : List DictEntry × Bool, z = (es', added) → ∃ n', (match z with | (es', false) => (⟨.type "dict", none, .dict es'.toArray n, #[]⟩ : Obj) | (es', true) => ⟨.type "dict", none, .dict es'.toArray (n + 1), #[]⟩) = nsObj es' n' := by
      rintro z rfl
      cases added
      · exact ⟨n, rfl⟩
      · exact ⟨n + 1, rfl⟩
    exact key _ e2
  obtain ⟨n', hp⟩ := hp
  have hg := Heap.get?_update_self (Obj.putName x (if x.cps.isEmpty = true then 0 else reduceHash ((c.w.params).strHash x.cps)) (.str x t) v) e (by rw [hp]; rfl)
  rw [hp] at hg
  exact lift_mk (q _ _ (S.rep r (Heap.SameBut.update ..) hg (by show Value.type "dict" ≠ _; decide)) ⟨es', n', rfl, d'⟩)
theorem c_nsDel {Q : Bool → Heap → Prop} (S : Sit b₀ h₀ b fs N h) (r : Rep a o N g) (D : NsD o kvs) (q1 : (getN kvs x).isSome = true → ∀ h' o', Sit b₀ h₀ b fs (g o') h' → NsD o' (delN kvs x) → Q true h') (q2 : getN kvs x = none → Q false h) : WP c A (nsDel a x) Q E h := by
  have e := S.atN r
  have D' := D
  obtain ⟨es, n, rfl, d⟩ := D
  unfold nsDel
  refine .bind (.loadPart e (.bind ?_))
  obtain ⟨rr, e1, e1'⟩ := nameIn_of (x := x) (saw := false) d
  have hhas : nsHas x (nsObj es n) = pure (getN kvs x).isSome := by
    show (match nsNameIn x.cps.size x.cps.toList es.toArray.toList false with
      | (some _, _) => pure true
      | (none, true) => unsupported "namespace:key-that-is-no-exact-str"
      | (none, false) => pure false) = _
    rw [show es.toArray.toList = es from rfl, e1, ← e1']
    cases rr <;> rfl
  refine .of_eq hhas ?_
  rcases dropIn_of (x := x) d with ⟨z1, z2⟩ | ⟨es', z1, z2, z3⟩
  · rw [z2]
    exact .pure (q2 z2)
  · rw [z3]
    refine .bind fun tk => wpAny_updatePart e ?_
    have hp : ∃ n', Obj.dropName x (nsObj es n) = nsObj es' n' := by
      have key : ∀ z : Option (List DictEntry), z = some es' → ∃ n', (match z with | some es' => (⟨.type "dict", none, .dict es'.toArray (n + 1), #[]⟩ : Obj) | none => ⟨.type "dict", none, .dict es.toArray n, #[]⟩) = nsObj es' n' := by
        rintro z rfl
        exact ⟨_, rfl⟩
      exact key _ z1
    obtain ⟨n', hp⟩ := hp
    have hg := Heap.get?_update_self (Obj.dropName x) e (by rw [hp]; rfl)
    rw [hp] at hg
    exact lift_mk (c := c) (Q := fun _ h => WP c A _ Q E h) (WP.pure (q1 z3 _ _ (S.rep r (Heap.SameBut.update ..) hg (by show Value.type "dict" ≠ _; decide)) ⟨es', n', rfl, z2⟩))
/-- what is known of a class body's environment -/
structure ClsOk (env : Env) (a : Addr) (names : List (Str × NameKind)) (cells : List (Str × Addr)) : Prop where
  kind : env.scope.kind = .class
  names : env.scope.names = names
  locals : env.locals = a
  globals : env.globals = mainGlobals
  cells : env.cells = cells
  builtins : env.builtins = builtinsNs
variable {names : List (Str × NameKind)} {cells : List (Str × Addr)}
theorem ClsOk.look (H : ClsOk env a names cells) {x : Str} {k : Option NameKind} (e : names.lookup x = k) : env.kindOf x = k := by
  unfold Env.kindOf; rw [H.names]; exact e
theorem c_localSet {Q : Unit → Heap → Prop} (S : Sit b₀ h₀ b fs N h) (H : ClsOk env a names cells) (r : Rep a o N g) (D : NsD o kvs) (q : ∀ h' o', Sit b₀ h₀ b fs (g o') h' → NsD o' (putN kvs x v) → Q () h') : WP c A (localSet env x v) Q E h := by
  unfold localSet
  rw [H.locals]
  refine .bind (.load (S.atN r) ?_)
  rw [D.nf.1]
  exact c_nsSet S r D q
theorem c_localGet {Q : Option Value → Heap → Prop} (S : Sit b₀ h₀ b fs N h) (H : ClsOk env a names cells) (r : Rep a o N g) (D : NsD o kvs) (q : Q (getN kvs x) h) : WP c A (localGet env x) Q E h := by
  unfold localGet
  rw [H.locals]
  refine .bind (.load (S.atN r) ?_)
  rw [D.nf.1]
  first | exact c_nsGet (S.atN r) D q | exact .bind (c_nsGet (S.atN r) D (WP.pure q))
theorem k_class (H : ClsOk env a names cells) : env.blockKind = .class := by unfold Env.blockKind; rw [H.kind]; rfl
theorem c_storeCls {Q : Unit → Heap → Prop} (S : Sit b₀ h₀ b fs N h) (H : ClsOk env a names cells) (r : Rep a o N g) (D : NsD o kvs) (hx : names.lookup x = some .local ∨ (names.lookup x = none ∧ compilersOwnNames.contains x = true))
    (q : ∀ h' o', Sit b₀ h₀ b fs (g o') h' → NsD o' (putN kvs x v) → Q () h') : WP c A (storeName env x v) Q E h := by
  unfold storeName
  rcases hx with hx | ⟨hx, hc⟩
  · rw [H.look hx, H.kind]
    exact c_localSet S H r D q
  · rw [H.look hx, k_class H, H.kind, hc]
    exact c_localSet S H r D q
theorem c_loadClsGlob {Q : Value → Heap → Prop} {K : Frag} {v : Value} (W : World K b₀) (S : Sit b₀ h₀ b fs N h) (H : ClsOk env a names cells) (r : Rep a o N g) (D : NsD o kvs) (hx : names.lookup x = none) (hc : compilersOwnNames.contains x = true) (hn : getN kvs x = none) (hg : nsIn K mainGlobals x = some (some v)) (q : Q v h) : WP c A (loadName env x) Q E h := by
  unfold loadName
  rw [H.look hx, k_class H, H.kind, hc]
  refine .bind (c_localGet S H r D ?_)
  rw [hn]
  refine fun tk => ?_
  have := loadGlob (c := c) (A := A) (E := E) (W.stays S.bb) S.bh hg q H.globals tk
  exact this
end
/-! defs in a body, closures -/
inductive CL (env : Env) : List (Str × NameKind) → List (Str × Addr) → List (Str × Addr) → Prop
  | nil {acc} : CL env [] acc acc
  | free {n a rest acc cl} : env.cells.lookup n = some a → CL env rest ((n, a) :: acc) cl → CL env ((n, .free) :: rest) acc cl
  | loc {n rest acc cl} : CL env rest acc cl → CL env ((n, .local) :: rest) acc cl
  | glob {n rest acc cl} : CL env rest acc cl → CL env ((n, .globalImplicit) :: rest) acc cl
theorem CL.closure {env : Env} {scope : Scope} {cl : List (Str × Addr)} (h : CL env scope.names [] cl) : closureFor scope env = pure cl := by
  unfold closureFor
  have key : ∀ {names : List (Str × NameKind)} {acc cl : List (Str × Addr)}, CL env names acc cl →
      (forIn names acc fun x r => match x with | (name, kind) => if (kind == .free) = true then (do let a ← cellOf env name; pure (ForInStep.yield ((name, a) :: r))) else pure (ForInStep.yield r) : Sem (List (Str × Addr))) = pure cl := by
    intro names acc cl h
    induction h with
    | nil => rfl
    | free h1 _ ih =>
      rw [List.forIn_cons]
      show (cellOf env _ >>= fun a => pure (ForInStep.yield _)) >>= _ = _
      unfold cellOf
      rw [h1]
      exact ih
    | loc _ ih => rw [List.forIn_cons]; exact ih
    | glob _ ih => rw [List.forIn_cons]; exact ih
  have := key h
  first | exact this | (rw [this]; rfl) | (simp only [this]; rfl)
section
variable {c : Cfg} {A : Around} {E : Value → Heap → Prop} {h : Heap} {env : Env}
theorem r_FnDef {name bind : Str} {args : Arguments} {body : List Stmt} {scope : Scope} {pos : Pos} {Q : Flow → Heap → Prop}
    (x : WP c A (makeFunction name (qualnameIn env name bind) args (.stmts body) scope env [] [] [] pos pos.line) (fun f h => WP c A (storeName env bind f) (fun _ => Q .next) E h) E h)
    (hd : defaultsOf args env = ([], []) := by rfl)
    (hn : ∀ e : Env, ((match args with | ⟨po, a, va, ko, _, kwa, _⟩ => annotationsOf (a ++ po ++ va.toList ++ ko ++ kwa.toList) e) ++ ((evalOpt none e).map ((("return" : Str), ·))).toList) = [] := by intro _; rfl) :
    WP c A (exec (.FunctionDef name args body [] none [] scope none bind pos) env) Q E h := by
  rw [arm_exec_FunctionDef]
  unfold defStmt
  rw [hd]
  refine .bind (.pure (.bind (.standAt (.bind (.holding (.bind (.pure (.bind (.holding (.pure (.holding ?_)))))))))))
  refine .bind (.of_eq (a := []) (congrArg evalNamed (hn env)) (x.monoQ fun f h y => ?_))
  exact .bind (.pure (.bind (.standAt (.bind (.bindName (y.monoQ fun _ _ q => .pure q))))))
theorem r_Lambda {args : Arguments} {body : Expr} {scope : Scope} {pos : Pos} {Q : Value → Heap → Prop}
    (x : WP c A (makeFunction "<lambda>" (env.qual ++ "<lambda>") args (.expr body) scope env [] [] [] pos pos.line) Q E h)
    (hd : defaultsOf args env = ([], []) := by rfl) : WP c A (eval (.Lambda args body scope pos) env) Q E h := by
  rw [arm_eval_Lambda, hd]
  exact .bind (.pure (.bind (.holding (.pure x))))
end
end

section
/-! what a class is made with: types, slots, class data -/
section
variable {c : Cfg} {A : Around} {E : Value → Heap → Prop} {h : Heap} {b₀ h₀ b : Heap} {fs : List Fent} {N : List (Addr × Obj)} {g : Obj → List (Addr × Obj)} {a : Addr} {o : Obj} {v w : Value}
theorem c_typeOfR {Q : Value → Heap → Prop} (e : h.get? a = some o) (q : Q o.cls h) : WP c A (typeOf (.ref a)) Q E h := by
  show WP c A (do return (← loadPart a (some headPart)).cls) Q E h
  exact .bind (.loadPart e (.pure q))
theorem c_isInstR {Q : Bool → Heap → Prop} {base t : Value} {r : Bool} (e : h.get? a = some o) (ht : o.cls = t) (hs : isSubtype t base = pure r) (q : Q r h) : WP c A (isInstance (.ref a) base) Q E h := by
  unfold isInstance
  exact .bind (c_typeOfR e (ht ▸ .of_eq hs q))
theorem c_seqItems {vs : Array Value} {n : Nat} {Q : Option (Array Value) → Heap → Prop} (e : h.get? a = some o) (hd : o.data = .seq vs n) (q : Q (some vs) h) : WP c A (seqItems? (.ref a)) Q E h := by
  show WP c A (load a >>= fun o => match o.data with | .seq xs _ => pure (some xs) | _ => pure none) Q E h
  refine .bind (.load e ?_)
  rw [hd]
  exact .pure q
theorem c_dictEntries {es : Array DictEntry} {n : Nat} {p : Option Value} {Q : Array DictEntry → Heap → Prop} (e : h.get? a = some o) (hd : o.data = .dict es n) (q : Q es h) : WP c A (dictEntries a p) Q E h := by
  unfold dictEntries
  refine .bind (.loadPart e ?_)
  rw [hd]
  exact .pure q
def setSl (i : Nat) (v : Option Value) (o : Obj) : Obj := { o with slots := (o.slots ++ Array.replicate (i + 1 - o.slots.size) none).setIfInBounds i v }
theorem c_setSlotAt {i : Nat} {x : Option Value} {Q : Unit → Heap → Prop} (S : Sit b₀ h₀ b fs N h) (r : Rep a o N g) (hi : i < 1000) (q : ∀ h', Sit b₀ h₀ b fs (g (setSl i x o)) h' → Q () h') : WP c A (setSlotAt a i x) Q E h := by
  unfold setSlotAt
  have hi' : ¬ i ≥ sizeLine := by rw [sizeLine_eq]; omega
  show WP c A (if i ≥ sizeLine then _ else _) Q E h
  rw [if_neg hi']
  have e := S.atN r
  refine fun tk => wpAny_updatePart e ?_
  have hf : (setSl i x o).isFreed = false := by
    have := (Heap.get?_some_iff.mp e).2
    obtain ⟨oc, od, dt, sl⟩ := o
    cases dt <;> exact this
  exact lift_mk (q _ (S.rep r (Heap.SameBut.update ..) (Heap.get?_update_self (setSl i x) e hf) (S.nw _ r.mem).2.1))
theorem c_slotAt {i : Nat} {x : Option Value} {Q : Option Value → Heap → Prop} (e : h.get? a = some o) (hx : (o.slots[i]?).join = x) (q : Q x h) : WP c A (slotAt a i) Q E h := by
  subst hx
  unfold slotAt
  exact .bind (.loadPart e (.pure q))
theorem c_classData {cd : ClassData} {Q : ClassData → Heap → Prop} (e : h.get? a = some o) (hd : o.data = .cls cd) (q : Q cd h) : WP c A (classData a) Q E h := by
  unfold classData
  refine .bind (.load e ?_)
  rw [hd]
  exact .pure q
def mapC (f : ClassData → ClassData) (cd : ClassData) (o : Obj) : Obj := { o with data := .cls (f cd) }
theorem c_updateCls {cd : ClassData} {f : ClassData → ClassData} {Q : Unit → Heap → Prop} (S : Sit b₀ h₀ b fs N h) (r : Rep a o N g) (hd : o.data = .cls cd) (h1 : (f cd).subclasses.length ≤ 100) (h2 : (f cd).slotNames.length ≤ 100) (q : ∀ h', Sit b₀ h₀ b fs (g (mapC f cd o)) h' → Q () h') : WP c A (updateCls a f) Q E h := by
  unfold updateCls
  have e := S.atN r
  refine .bind (.load e ?_)
  rw [hd]
  have hm : Obj.mapCls f o = mapC f cd o := by
    obtain ⟨oc, od, dt, sl⟩ := o
    obtain rfl : dt = _ := hd
    rfl
  have hg := Heap.get?_update_self (Obj.mapCls f) e (by rw [hm]; rfl)
  rw [hm] at hg
  refine .bind (.update e ?_)
  unfold lookBehind
  refine .bind (.loadPart hg ?_)
  have hp : (mapC f cd o).data.pastItsLine = none := by
    show (if (f cd).subclasses.length > sizeLine || (f cd).slotNames.length > sizeLine then some "class:memory" else none) = none
    rw [if_neg]
    rw [sizeLine_eq]
    simp only [Bool.or_eq_true, decide_eq_true_eq]
    omega
  rw [hp]
  exact .pure (q _ (S.rep r (Heap.SameBut.update ..) hg (S.nw _ r.mem).2.1))
theorem r_forIn_nil {α β : Type} {f : α → β → Sem (ForInStep β)} {s : β} {Q : β → Heap → Prop} (q : Q s h) : WP c A (forIn [] s f) Q E h := by
  rw [List.forIn_nil]; exact .pure q
theorem r_forIn_cons {α β : Type} {f : α → β → Sem (ForInStep β)} {x : α} {l : List α} {s : β} {Q : β → Heap → Prop} (q : WP c A (f x s) (fun r h => match r with | .done s => Q s h | .yield s => WP c A (forIn l s f) Q E h) E h) : WP c A (forIn (x :: l) s f) Q E h := by
  rw [List.forIn_cons]
  refine .bind (q.monoQ fun r h y => ?_)
  cases r
  · exact .pure y
  · exact y
theorem r_forIn_one {α β : Type} {f : α → β → Sem (ForInStep β)} {x : α} {s s' : β} {Q : β → Heap → Prop} (q : WP c A (f x s) (fun r h => r = .yield s' ∧ Q s' h) E h) : WP c A (forIn [x] s f) Q E h :=
  r_forIn_cons (q.monoQ fun r h y => by obtain ⟨rfl, y⟩ := y; exact r_forIn_nil y)
theorem c_newFields {ty : String} {vs : List Value} {Q : Value → Heap → Prop} (S : Sit b₀ h₀ b fs N h) (hsz : vs.length ≤ 1000) (nf : ty ≠ "frame") (q : ∀ d h', Sit b₀ h₀ b fs ((d, { cls := .type ty, data := .fields vs.toArray }) :: N) h' → Q (.ref d) h') : WP c A (newFields ty vs) Q E h := fun tk =>
  wpAny_newObj_type (lift_mk (q _ _ (S.pushN (o := { cls := .type ty, data := .fields vs.toArray }) rfl (by show Value.type ty ≠ _; intro z; injection z with z; exact nf z)))) (by show vs.toArray.size ≤ sizeLine + 2; rw [List.size_toArray, sizeLine_eq]; omega)
/-- a class over object alone: what its names and object's say -/
theorem c_lookOwn {cd : ClassData} {oN : Obj} {kvs : List (Str × Value)} {x : Str} {Q : Option Value → Heap → Prop} (e : h.get? a = some o) (hd : o.data = .cls cd) (hm : cd.mro = [.ref a, .type "object"]) (eN : h.get? cd.ns = some oN) (D : NsD oN kvs) (r : Option Value) (hb : builtinOwn "object" x = r)
    (q : Q ((getN kvs x).or r) h) : WP c A (typeLookup (.ref a) x) Q E h := by
  subst hb
  rw [typeLookup_eq]
  refine .bind ?_
  show WP c A (do return (← classData a).mro) _ E h
  refine .bind (c_classData e hd (.pure ?_))
  rw [hm]
  rw [lookupAlong_cons]
  refine .bind ?_
  show WP c A (do nsGet (← classData a).ns x) _ E h
  refine .bind (c_classData e hd (c_nsGet eN D ?_))
  cases hk : getN kvs x with
  | some v =>
    rw [hk] at q
    exact .pure q
  | none =>
    rw [hk] at q
    rw [lookupAlong_cons]
    refine .bind (.pure ?_)
    cases hb : builtinOwn "object" x with
    | some v => rw [hb] at q; exact .pure q
    | none => rw [hb] at q; exact .of_eq rfl q
theorem w_no {α : Type} {p : Prop} [Decidable p] {x y : Sem α} {Q : α → Heap → Prop} (hp : ¬ p) (q : WP c A y Q E h) : WP c A (if p then x else y) Q E h := by rw [if_neg hp]; exact q
theorem w_yes {α : Type} {p : Prop} [Decidable p] {x y : Sem α} {Q : α → Heap → Prop} (hp : p) (q : WP c A x Q E h) : WP c A (if p then x else y) Q E h := by rw [if_pos hp]; exact q
theorem c_collect {l : Addr} {vs : List Value} {n : Nat} {Q : List Value → Heap → Prop} (e : h.get? l = some (lstObj vs n)) (hsz : vs.length ≤ 1000) (S : Sit b₀ h₀ b fs N h) (q : ∀ h', Sit b₀ h₀ b fs N h' → Q vs h') : WP c A (collect (.ref l)) Q E h := fun tk => by
  refine collect_list (s := c.st h tk) (lst_is e) ?_ (by rw [sizeLine_eq]; omega)
  have S1 := S.pushN (o := seqObj "list" #[] 0) rfl (by show Value.type "list" ≠ _; decide)
  have S2 := S1.rep .head (Heap.SameBut.update (f := Obj.mapSeq (· ++ vs.toArray)) ..) (get?_update_seq (Heap.get?_push_size _ rfl) _) (by show Value.type "list" ≠ _; decide)
  exact lift_mk (c := c) (Q := Q) (t := tk) (q _ S2.dropN)
end
end

section
theorem sl_best : Builtin.Slots.bestBase [.type "object"] = pure (.type "object") := by kernel_rfl
theorem sl_names : Builtin.Slots.slotNamesOf (.type "object") = pure [] := by kernel_rfl
theorem sl_dict : Builtin.Slots.givesDict (.type "object") = pure false := by kernel_rfl
theorem sl_weak : Builtin.Slots.givesWeak (.type "object") = pure false := by kernel_rfl
theorem sl_var : Builtin.Slots.varSize (.type "object") = pure false := by kernel_rfl
theorem sl_id : Builtin.Slots.isIdentifier (PySem.Str.ofString "obj") = some true := by kernel_rfl
theorem sl_mangle : Builtin.Slots.mangle (PySem.Str.ofString "K") (PySem.Str.ofString "obj") = PySem.Str.ofString "obj" := by kernel_rfl
theorem find_key {x : PySem.Str} {v : Value} {es : List DictEntry} {kvs : List (PySem.Str × Value)} (d : AllD KeyIs es kvs) (hg : getN kvs x = some v) : ∃ e, es.toArray.find? (fun e => e.key.isStr x) = some e ∧ e.val = v := by
  obtain ⟨r, e1, e2⟩ := nameIn_of (x := x) (saw := false) d
  have := nsNameIn_fst x es.toArray
  rw [show es.toArray.toList = es from rfl, e1] at this
  rw [← this]
  rw [hg] at e2
  cases r with
  | none => cases e2
  | some e => exact ⟨e, rfl, Option.some.inj e2⟩
theorem any_key {x : PySem.Str} {es : List DictEntry} {kvs : List (PySem.Str × Value)} (d : AllD KeyIs es kvs) : (es.toArray.any fun e => e.key.isStr x) = (getN kvs x).isSome := by
  obtain ⟨r, e1, e2⟩ := nameIn_of (x := x) (saw := false) d
  have := nsNameIn_fst x es.toArray
  rw [show es.toArray.toList = es from rfl, e1] at this
  rw [nswAny_arr, ← this, ← e2]
  cases r <;> rfl
section
variable {c : Cfg} {A : Around} {E : Value → Heap → Prop} {h : Heap} {b₀ h₀ b : Heap} {fs : List Fent} {N : List (Addr × Obj)} {g : Obj → List (Addr × Obj)}
theorem c_slotsRead {es : List DictEntry} {kvs : List (PySem.Str × Value)} {l : Addr} {t : Tok} {n : Nat} {Q : Builtin.Slots.Plan → Heap → Prop} (S : Sit b₀ h₀ b fs N h) (d : AllD KeyIs es kvs) (hs : getN kvs (PySem.Str.ofString "__slots__") = some (.ref l)) (el : b.get? l = some (lstObj [.str (PySem.Str.ofString "obj") t] n))
    (ho : getN kvs (PySem.Str.ofString "obj") = none) (q : ∀ h', Sit b₀ h₀ b fs N h' → Q { names := [PySem.Str.ofString "obj"], dict := false, weak := false, inherited := [] } h') : WP c A (Builtin.Slots.read (PySem.Str.ofString "K") [.type "object"] es.toArray) Q E h := by
  unfold Builtin.Slots.read
  refine .bind (.of_eq sl_best (.bind (.of_eq sl_names (.bind (.of_eq sl_dict (.bind (.of_eq sl_weak (.bind (.of_eq sl_var ?_)))))))))
  obtain ⟨en, e1, e2⟩ := find_key d hs
  rw [e1]
  refine .bind (.rule ?_)
  rw [e2]
  refine .bind (m := asStr? (.ref l)) ?_
  refine .bind (.load (S.atB el) (.pure ?_))
  refine w_no (by simp) ?_
  refine .bind (c_collect (S.atB el) (by simp) S fun h S => ?_)
  refine w_yes (by rfl) ?_
  refine .bind (.of_eq sl_var ?_)
  refine w_no (by simp) ?_
  refine .bind (r_forIn_one (s' := (false, false, #[PySem.Str.ofString "obj"], [])) (.of_eq (by kernel_rfl) ⟨rfl, ?_⟩))
  have hany : (es.toArray.any fun x => x.key.isStr (Builtin.Slots.mangle (PySem.Str.ofString "K") (PySem.Str.ofString "obj"))) = false := by rw [sl_mangle, any_key d, ho]; rfl
  refine .bind (m := forIn (#[PySem.Str.ofString "obj"] : Array PySem.Str) _ _) ?_
  rw [← Array.forIn_toList]
  refine r_forIn_one (s' := ([PySem.Str.ofString "obj"], 3)) (.of_eq ((if_neg (by decide +kernel)).trans ((if_neg (by rw [hany]; simp)).trans (by kernel_rfl))) ⟨rfl, ?_⟩)
  refine .bind (r_forIn_one (s' := (false, false)) (.of_eq (by kernel_rfl) ⟨rfl, ?_⟩))
  exact .pure (q _ S)
end
end

section
/-! super(C, C).__init_subclass__() of a class over object alone -/
def supObj (C : Addr) : Obj := { cls := .type "super", dict := none, data := .fields #[.ref C, .ref C, .ref C], slots := #[] }
def bndObj (id : String) (C : Value) : Obj := { cls := .type "builtin_function_or_method", data := .fields #[.builtin id, C] }
theorem is_kind : (kfb_private% "ownerAndName") "object.__init_subclass__" = ("object", "__init_subclass__") := by first | decide +kernel | kernel_rfl
theorem is_own : classOwn (.type "object") "__init_subclass__" = pure (some (.builtin "object.__init_subclass__")) := by show pure (builtinOwn _ _) = _; rw [builtinOwn_eq_fast]; kernel_rfl
theorem is_type : typeOf (.builtin "object.__init_subclass__") = pure (.type "classmethod_descriptor") := by show builtinType _ = _; rw [builtinType_eq_fast]; kernel_rfl
theorem is_look : typeLookup (.type "classmethod_descriptor") "__get__" = pure (some (.builtin "classmethod_descriptor.__get__")) := by rw [typeLookup_type, builtinLookup_eq_fast]; kernel_rfl
theorem is_plain : plainId "object.__init_subclass__" = true := by decide +kernel
theorem is_entry : entryFor table "object.__init_subclass__" = some Builtin.«object.__init_subclass__» := entryFor_of_tree (by kernel_rfl)
theorem is_sig : Manifest.signature? "object.__init_subclass__" = some ⟨.noArgs, "object.__init_subclass__", "__init_subclass__", .cls, []⟩ := by kernel_rfl
theorem is_bkind : builtinKind "object.__init_subclass__" = some .classMethod := by decide +kernel
theorem sub_tm : isSubtype (.type "type") (.type "module") = pure false := by rw [isSubtype_type]; kernel_rfl
section
variable {prog : Program} {w : PySem.World} {A : Around} {E : Value → Shared → Prop} {h : Heap} {g : Array GenState} {d : Drawn} {t : Nat} {os : OsState} {C : Addr} {oC : Obj} {cd : ClassData}
theorem x_super {Q : Value → Shared → Prop} (hC : h.get? C = some oC) (hd : oC.data = .cls cd) (hsub : Looks (model prog w) h (isSubtype (.ref C) (.ref C)) true)
    (hq : ∀ h', h'.get? h.objs.size = some (supObj C) → (∀ y o, h.get? y = some o → h'.get? y = some o) → Q (.ref h.objs.size) ⟨h', g, d, t, os⟩) : wpAny (model prog w) A (call (.type "super") [.ref C, .ref C]) Q E ⟨h, g, d, t, os⟩ := by
  refine ks_callType_codesW (Q₁ := fun obj s₁ => obj = .ref h.objs.size ∧ s₁ = ⟨h.push { cls := .type "super", data := .fields #[.none, .none, .none] }, g, d, t, os⟩) F.ks_called_super (ks_wpAny_checkTypeCall_super hC hd) F.ks_entry_super_init
    (ks_code_super_new _ _ ⟨rfl, rfl⟩) fun obj s₁ h₁ => ?_
  obtain ⟨rfl, rfl⟩ := h₁
  have up : ∀ y o, h.get? y = some o → (h.push { cls := .type "super", data := .fields #[.none, .none, .none] }).get? y = some o := fun y o e => Heap.get?_push_of_some _ e
  have hso : (h.push { cls := .type "super", data := .fields #[.none, .none, .none] }).get? h.objs.size = some { cls := .type "super", dict := none, data := .fields #[.none, .none, .none], slots := #[] } := Heap.get?_push_at rfl rfl
  have hC' := up _ _ hC
  have hsub' := hsub.keeps up
  refine ⟨⟨_, hso, rfl⟩, F.ks_initArgs_super _ _ _, ?_⟩
  unfold Builtin.«super.__init__» noKeywords
  repeat (first | (with_reducible refine ks_wpAny_isType_cls hC' hd ?_) | (with_reducible refine Looks.at hsub' ?_) | (with_reducible refine ks_wpAny_super_set3 hso ?_) | wp_step)
  all_goals first
    | (intro h' e k; exact ⟨rfl, hq h' e fun y o ey => k y o (Nat.ne_of_lt (Heap.lt_size ey)) (up y o ey)⟩)
    | (refine ks_wpAny_super_set3 hso ?_; intro h' e k; exact ⟨rfl, hq h' e fun y o ey => k y o (Nat.ne_of_lt (Heap.lt_size ey)) (up y o ey)⟩)
    | trace_state
theorem x_bind {Q : PySem.Fin → Shared → Prop} {M : Model} (hC : h.get? C = some oC) (hd : oC.data = .cls cd) (hob : Looks M h (isSubtype (.ref C) (.type "object")) true)
    (hq : Q (.done (.ret (.ref h.objs.size))) ⟨h.push (bndObj "object.__init_subclass__" (.ref C)), g, d, t, os⟩) :
    wpAny M A (Builtin.«classmethod_descriptor.__get__» ⟨[.builtin "object.__init_subclass__", .none, .ref C], []⟩) Q E ⟨h, g, d, t, os⟩ := by
  unfold Builtin.«classmethod_descriptor.__get__»
  refine wpAny_bind (wpAny_of_eq (a := (.builtin "object.__init_subclass__", none, some (.ref C))) (by first | rfl | kernel_rfl) ?_)
  simp only [is_kind]
  refine wpAny_bind (wpAny_of_eq (a := .ref C) rfl ?_)
  refine wpAny_bind (ks_wpAny_isType_cls hC hd ?_)
  refine KFB.if_not rfl ?_
  refine wpAny_bind (Looks.at hob ?_)
  refine KFB.if_not rfl ?_
  exact wpAny_bind (wpAny_newObj_type (wpAny_pure hq))
theorem x_superGet {so : Addr} {Q : Value → Shared → Prop} (hC : h.get? C = some oC) (hct : oC.cls = .type "type") (hd : oC.data = .cls cd) (hm : cd.mro = [.ref C, .type "object"]) (hso : h.get? so = some (supObj C)) (hno : Looks (model prog w) h (opaqueClassAbove (.ref C)) none)
    (hob : Looks (model prog w) h (isSubtype (.ref C) (.type "object")) true) (hmr : Looks (model prog w) h (mroOf (.ref C)) [.ref C, .type "object"])
    (hq : Q (.ref h.objs.size) ⟨h.push (bndObj "object.__init_subclass__" (.ref C)), g, d, t + 1, os⟩) : wpAny (model prog w) A (getAttr (.ref so) "__init_subclass__") Q E ⟨h, g, d, t, os⟩ := by
  have hlk := F.ks_slot_super_ga.lookup
  have hT : ∀ t', (⟨h, g, d, t', os⟩ : Shared).TypeIs (.ref so) "super" := fun _ => ⟨_, hso, rfl⟩
  unfold getAttr getAttrBy
  refine wpAny_bind (wpAny_mkText (wpAny_holding (wpAny_bind (wpAny_typeOf (hT _) (wpAny_bind (wpAny_of_eq hlk ?_))))))
  show wpAny _ _ (getAttrByItsOwn (.ref so) (.str "__init_subclass__" t) (.type "super") (.builtin "super.__getattribute__") true false) _ _ _
  unfold getAttrByItsOwn hookBefore callGetattribute boundAndCalled
  refine wpAny_bind (wpAny_of_eq (show (if onTheHeap (.type "super") then typeLookup (.type "super") "__getattr__" else pure none) = pure none from rfl) ?_)
  refine wpAny_bind (wpAny_attempt (wpAny_holding ?_))
  show wpAny _ _ (bindSpecial (.builtin "super.__getattribute__") (.ref so) >>= _) _ _ _
  refine wpAny_bind (wpAny_of_eq (F.ks_slot_super_ga.bind _) ?_)
  refine wpAny_mono (Q := fun v s' => v = .ref h.objs.size ∧ s' = ⟨h.push (bndObj "object.__init_subclass__" (.ref C)), g, d, t + 1, os⟩) (E := fun _ _ => False)
    (wpAny_call_entry F.ks_slot_super_ga (hT _) F.ks_entry_super_ga ?run (F.ks_gaArgs_super _ _)) (fun v s' hv => ?_) fun _ _ z => z.elim
  case run =>
    have hdt : (supObj C).data = .fields #[.ref C, .ref C, .ref C] := rfl
    have f0 : (#[.ref C, .ref C, .ref C] : Array Value)[0]? = some (.ref C) := rfl
    have f1 : (#[.ref C, .ref C, .ref C] : Array Value)[1]? = some (.ref C) := rfl
    have f2 : (#[.ref C, .ref C, .ref C] : Array Value)[2]? = some (.ref C) := rfl
    have hT : ∀ tk, (⟨h, g, d, tk, os⟩ : Shared).TypeIs (.ref C) "type" := fun _ => ⟨_, hC, hct⟩
    unfold Builtin.«super.__getattribute__»
    refine wpAny_bind (m := asStr? _) (wpAny_pure ?_)
    refine KFB.if_not rfl ?_
    refine wpAny_bind (m := asStr? _) (wpAny_pure ?_)
    refine wpAny_bind (wpAny_field hso hdt f0 ?_)
    refine wpAny_bind (wpAny_field hso hdt f1 ?_)
    refine wpAny_bind (wpAny_field hso hdt f2 ?_)
    refine KFB.if_not (by kernel_rfl) ?_
    refine wpAny_bind (ks_wpAny_notOpaque hno ?_)
    refine KFB.if_not rfl ?_
    refine wpAny_bind (Looks.at hmr ?_)
    have hl : ([Value.ref C, Value.type "object"].dropWhile (· != .ref C)).drop 1 = [Value.type "object"] := by simp
    rw [hl]
    refine wpAny_bind (m := forIn [Value.type "object"] ((none : Option PySem.Fin), ()) _) ?_
    rw [List.forIn_cons]
    refine wpAny_bind (wpAny_bind (wpAny_of_eq is_own ?_))
    refine wpAny_bind (wpAny_of_eq is_type (wpAny_bind (wpAny_of_eq is_look ?_)))
    have hee : (if (Value.ref C == Value.ref C) = true then Value.none else Value.ref C) = .none := by simp
    rw [hee]
    refine wpAny_bind (wpAny_holding ?_)
    refine wpAny_call_entry KFB.slot_get is_type KFB.entry_get (x_bind hC hd hob ⟨_, rfl, ?_⟩) (KFB.args_get _ _ _)
    exact wpAny_bind (wpAny_pure (wpAny_pure (wpAny_pure (wpAny_pure ⟨_, rfl, rfl, rfl⟩))))
  obtain ⟨rfl, rfl⟩ := hv
  exact wpAny_pure hq
theorem x_callInit {u : Addr} {Q : Value → Shared → Prop} (hu : h.get? u = some (bndObj "object.__init_subclass__" (.ref C))) (hC : h.get? C = some oC) (hct : oC.cls = .type "type") (hd : oC.data = .cls cd) (hqn : cd.qualname = PySem.Str.ofString "cmp_to_key.<locals>.K")
    (hq : Q .none ⟨h, g, d, t, os⟩) : wpAny (model prog w) A (call (.ref u) []) Q E ⟨h, g, d, t, os⟩ := by
  refine wpAny_call (codeAny_of_tree ?_)
  show wpAny _ A.in1 (callAny (.ref u) ⟨[], []⟩) _ _ _
  simp only [callAny]
  refine wpAny_bind (wpAny_load hu ?_)
  simp only [bndObj, show (Value.type "builtin_function_or_method" == Value.type "method" || Value.type "builtin_function_or_method" == Value.type "builtin_function_or_method" || Value.type "builtin_function_or_method" == Value.type "method-wrapper") = true by decide, if_true]
  refine KFB.if_so (by decide) ?_
  have hT : ∀ tk, (⟨h, g, d, tk, os⟩ : Shared).TypeIs (.ref C) "type" := fun _ => ⟨_, hC, hct⟩
  have hchk : wpAny (model prog w) A.in1 (checkBoundCall "object.__init_subclass__" ⟨[.ref C], []⟩) (fun _ s => s = ⟨h, g, d, t, os⟩) (fun _ _ => False) ⟨h, g, d, t, os⟩ := by
    unfold checkBoundCall
    rw [is_sig, is_bkind]
    refine KFB.if_not (by decide) ?_
    refine wpAny_bind (m := isInstance (.ref C) (.type "module")) ?_
    unfold isInstance
    refine wpAny_bind (wpAny_typeOf (hT _) (wpAny_of_eq (a := false) sub_tm ?_))
    refine KFB.if_not (by decide +kernel) ?_
    refine wpAny_bind (ks_wpAny_isType_cls hC hd ?_)
    refine KFB.if_so rfl ?_
    refine wpAny_bind (wpAny_pure ?_)
    refine wpAny_bind (m := classData C) ?_
    unfold classData
    refine wpAny_bind (wpAny_load hC ?_)
    rw [hd]
    refine wpAny_pure ?_
    rw [hqn]
    refine wpAny_bind (wpAny_typeOf (hT _) ?_)
    refine KFB.if_so (by decide) ?_
    exact wpAny_of_eq (a := ()) (by kernel_rfl) rfl
  refine wpAny_bind (wpAny_mono hchk (fun _ s z => ?_) fun _ _ z => z.elim)
  subst z
  refine wpAny_bind (wpAny_pure (wpAny_pure ?_))
  refine ⟨plainId_quiet is_plain _, codeAny_builtin is_entry ?_⟩
  rw [Around.under_plainId is_plain]
  unfold Builtin.«object.__init_subclass__»
  refine KFB.if_so rfl ?_
  exact wpAny_pure hq
end
end

section
section
variable {c : Cfg} {A : Around} {E : Value → Heap → Prop} {h : Heap} {b₀ h₀ b : Heap} {fs : List Fent} {N : List (Addr × Obj)} {g : Obj → List (Addr × Obj)}
theorem sub_tt : isSubtype (.type "tuple") (.type "tuple") = pure true := by rw [isSubtype_type]; kernel_rfl
theorem sub_dd : isSubtype (.type "dict") (.type "dict") = pure true := by rw [isSubtype_type]; kernel_rfl
theorem sub_ty : isSubtype (.type "type") (.type "type") = pure true := by rw [isSubtype_type]; kernel_rfl
theorem turn_no : Builtin.notOverATurnedClass [.type "object"] = pure () := by kernel_rfl
theorem ext_ob : Builtin.extendedBase [.type "object"] = pure (.type "object") := by kernel_rfl
theorem dict_iter : typeLookup (.type "dict") "__iter__" = pure (some (.builtin "dict.__iter__")) := by rw [typeLookup_type, builtinLookup_eq_fast]; kernel_rfl
theorem mro_hook : Builtin.mroHook? (.type "type") = pure none := by kernel_rfl
theorem lin_ob : Builtin.linearize [.type "object"] mroOf = pure [.type "object"] := by kernel_rfl
theorem made_ob : Bind.madeBy (.type "object") = pure (some "object.__new__") := by kernel_rfl
theorem r_forIn_all {α β : Type} {f : α → β → Sem (ForInStep β)} {s : β} {Q : β → Heap → Prop} : ∀ {l : List α}, (∀ x ∈ l, ∀ Q' : ForInStep β → Heap → Prop, Q' (.yield s) h → WP c A (f x s) Q' E h) → Q s h → WP c A (forIn l s f) Q E h
  | [], _, q => r_forIn_nil q
  | x :: l, hf, q => r_forIn_cons (hf x (.head _) _ (r_forIn_all (fun y hy => hf y (.tail _ hy)) q))
theorem put_mem {kvs : List (PySem.Str × Value)} {x : PySem.Str} {v : Value} {kv : PySem.Str × Value} (hm : kv ∈ putN kvs x v) : kv ∈ kvs ∨ kv.2 = v := by
  induction kvs with
  | nil => rcases List.mem_cons.mp hm with rfl | z; exact .inr rfl; cases z
  | cons y r ih =>
    obtain ⟨z, w⟩ := y
    unfold putN at hm
    by_cases hz : z = x
    · rw [if_pos hz] at hm
      rcases List.mem_cons.mp hm with rfl | m
      · exact .inr rfl
      · exact .inl (.tail _ m)
    · rw [if_neg hz] at hm
      rcases List.mem_cons.mp hm with rfl | m
      · exact .inl (.head _)
      · exact (ih m).imp (.tail _) id
theorem del_mem {kvs : List (PySem.Str × Value)} {x : PySem.Str} {kv : PySem.Str × Value} (hm : kv ∈ delN kvs x) : kv ∈ kvs := by
  induction kvs with
  | nil => cases hm
  | cons y r ih =>
    obtain ⟨z, w⟩ := y
    unfold delN at hm
    by_cases hz : z = x
    · rw [if_pos hz] at hm; exact .tail _ hm
    · rw [if_neg hz] at hm
      rcases List.mem_cons.mp hm with rfl | m
      · exact .head _
      · exact .tail _ (ih m)
/-- a value in a class's names that asks for nothing when the class is made -/
def ValOk (b : Heap) (v : Value) : Prop := (∀ x, Builtin.heldUnderItsOwnName x v = false) ∧ ∃ T, typeLookup (.type T) "__set_name__" = pure none ∧ ((∃ a o, v = .ref a ∧ b.get? a = some o ∧ o.cls = .type T) ∨ typeOf v = pure (.type T))
theorem ValOk.stays {b b' : Heap} {v : Value} (x : ValOk b v) (s : b.StaysIn b') : ValOk b' v := ⟨x.1, let ⟨T, t, r⟩ := x.2; ⟨T, t, r.imp (fun ⟨a, o, e, g, k⟩ => ⟨a, o, e, s _ _ g, k⟩) id⟩⟩
theorem c_noSet {v : Value} {Q : Option Value → Heap → Prop} (S : Sit b₀ h₀ b fs N h) (x : ValOk b v) (q : Q none h) : WP c A (specialOf v "__set_name__") Q E h := by
  obtain ⟨_, T, t, r⟩ := x
  unfold specialOf
  rcases r with ⟨a, o, rfl, g, k⟩ | r
  · refine .bind (c_typeOfR (S.atB g) ?_)
    rw [k]
    exact .of_eq t q
  · exact .bind (.of_eq r (.of_eq t q))
theorem note_ob (a : Addr) : Builtin.noteSubclassOfBuiltin "object" a = pure () := by
  unfold Builtin.noteSubclassOfBuiltin
  rw [if_pos (by decide +kernel)]
theorem c_supInit {K : Frag} {C : Addr} {oC : Obj} {cd : ClassData} {Q : Unit → Heap → Prop} (W : World K b₀) (hop : nsIn K cStatics "thirdparty.any" = some none) (S : Sit b₀ h₀ b fs N h) (r : Rep C oC N g) (hct : oC.cls = .type "type") (hd : oC.data = .cls cd) (hm : cd.mro = [.ref C, .type "object"]) (hqn : cd.qualname = PySem.Str.ofString "cmp_to_key.<locals>.K")
    (q : ∀ h', Sit b₀ h₀ b fs N h' → Q () h') : WP c A (call (.type "super") [.ref C, .ref C] >>= fun sup => holding [sup] (getAttr sup "__init_subclass__") >>= fun f => call f >>= fun _ => pure ()) Q E h := by
  have hmr : ∀ {h : Heap} {M : Model}, h.get? C = some oC → Looks M h (mroOf (.ref C)) [.ref C, .type "object"] := fun {h M} e => by
    obtain ⟨oc, od, dt, sl⟩ := oC
    obtain rfl : dt = _ := hd
    have L1 : Looks M h (classData C) cd := (Looks.ld (part := none) e).andThen .now
    rw [← hm]
    exact L1.andThen .now
  have sub : ∀ {h : Heap} {M : Model} {base : Value}, h.get? C = some oC → [Value.ref C, .type "object"].contains base = true → Looks M h (isSubtype (.ref C) base) true := fun {h M base} e hb => by
    refine (hmr e).andThen (Looks.of_pure ?_)
    show (pure ([Value.ref C, .type "object"].contains base) : Sem Bool) = pure true
    rw [hb]
  refine .bind fun tk => x_super (S.atN r) hd (sub (S.atN r) (by simp)) fun h' e k => ?_
  have S := S.addN k e (by show Value.type "super" ≠ _; decide)
  generalize h.objs.size = so at S e
  refine lift_mk (c := c) (t := tk) (.bind (.holding fun tk => x_superGet (S.atN (.tail r)) hct hd hm (S.atN .head) (looks_opaque (fun a o e => S.atB (S.bb _ _ (W.k _ _ e))) hop) (sub (S.atN (.tail r)) (by simp)) (hmr (S.atN (.tail r))) ?_))
  have S := S.pushN (o := bndObj "object.__init_subclass__" (.ref C)) rfl (by show Value.type "builtin_function_or_method" ≠ _; decide)
  refine lift_mk (c := c) (t := tk + 1) (.bind fun tk => x_callInit (S.atN .head) (S.atN (.tail (.tail r))) hct hd hqn ?_)
  exact lift_mk (c := c) (t := tk) (.pure (q _ S.dropN.dropN))
theorem getN_del {kvs : List (PySem.Str × Value)} {x y : PySem.Str} (n : y ≠ x) : getN (delN kvs y) x = getN kvs x := by
  induction kvs with
  | nil => rfl
  | cons kv r ih =>
    obtain ⟨z, v⟩ := kv
    unfold delN
    by_cases hz : z = y
    · rw [if_pos hz, hz]
      show _ = if y = x then some v else getN r x
      rw [if_neg n]
    · rw [if_neg hz]
      show (if z = x then some v else getN (delN r y) x) = if z = x then some v else getN r x
      rw [ih]
theorem getN_put {kvs : List (PySem.Str × Value)} {x y : PySem.Str} {v : Value} (n : y ≠ x) : getN (putN kvs y v) x = getN kvs x := by
  induction kvs with
  | nil => show (if y = x then some v else none) = none; rw [if_neg n]
  | cons kv r ih =>
    obtain ⟨z, w⟩ := kv
    unfold putN
    by_cases hz : z = y
    · rw [if_pos hz, hz]
      show (if y = x then some v else getN r x) = if y = x then some w else getN r x
      rw [if_neg n, if_neg n]
    · rw [if_neg hz]
      show (if z = x then some w else getN (putN r y v) x) = if z = x then some w else getN r x
      rw [ih]
theorem delN_len {kvs : List (PySem.Str × Value)} {y : PySem.Str} : (delN kvs y).length ≤ kvs.length := by
  induction kvs with
  | nil => exact Nat.le_refl _
  | cons kv r ih =>
    obtain ⟨z, v⟩ := kv
    unfold delN
    by_cases hz : z = y
    · rw [if_pos hz]; exact Nat.le_succ _
    · rw [if_neg hz]; exact Nat.succ_le_succ ih
theorem putN_len {kvs : List (PySem.Str × Value)} {y : PySem.Str} {v : Value} : (putN kvs y v).length ≤ kvs.length + 1 := by
  induction kvs with
  | nil => exact Nat.le_refl _
  | cons kv r ih =>
    obtain ⟨z, w⟩ := kv
    unfold putN
    by_cases hz : z = y
    · rw [if_pos hz]; exact Nat.le_succ _
    · rw [if_neg hz]; exact Nat.succ_le_succ ih
theorem c_allocN {o : Obj} {Q : Addr → Heap → Prop} (S : Sit b₀ h₀ b fs N h) (hf : o.isFreed = false) (hc : o.cls ≠ .type "frame") (q : ∀ a h', Sit b₀ h₀ b fs ((a, o) :: N) h' → Q a h') : WP c A (alloc o) Q E h := .alloc (q _ _ (S.pushN hf hc))
theorem c_nsSetBV {a : Addr} {o : Obj} {kvs : List (PySem.Str × Value)} {x : PySem.Str} {v : Value} {Q : Unit → Heap → Prop} (S : Sit b₀ h₀ b fs N h) (r : Rep a o N g) (D : NsD o kvs) (hl : kvs.length ≤ 1000) (q : ∀ h' o', Sit b₀ h₀ b fs (g o') h' → NsD o' (putN kvs x v) → Q () h') : WP c A (nsSetByValue a x v) Q E h := by
  have e := S.atN r
  have D' := D
  obtain ⟨es, n, rfl, d⟩ := D
  unfold nsSetByValue
  refine .bind (.loadPart e ?_)
  refine w_no (by rw [show es.toArray.size = es.length from by simp, d.len, sizeLine_eq]; simp; omega) ?_
  exact c_nsSet S r D' q
theorem c_newDictOf {es : List DictEntry} {Q : Value → Heap → Prop} (S : Sit b₀ h₀ b fs N h) (hsz : es.length ≤ 100) (q : ∀ d h', Sit b₀ h₀ b fs ((d, nsObj es 0) :: N) h' → Q (.ref d) h') : WP c A (newObj (.type "dict") (.dict es.toArray)) Q E h := fun tk =>
  wpAny_newObj_type (lift_mk (q _ _ (S.pushN (o := nsObj es 0) rfl (by show Value.type "dict" ≠ _; decide)))) (by show es.toArray.size ≤ sizeLine + 1; rw [List.size_toArray, sizeLine_eq]; omega)


set_option maxHeartbeats 400000 in
theorem c_typeNew {T N0 : Addr} {tk0 tq : Tok} {qual : PySem.Str} {es : List DictEntry} {nE : Nat} {kvs : List (PySem.Str × Value)} {Q : PySem.Fin → Heap → Prop} {l : Addr} {tl : Tok} {nl : Nat} (S : Sit b₀ h₀ b fs N h) (eT : b.get? T = some (tupObj [.type "object"])) (r : Rep N0 (nsObj es nE) N g) (d : AllD KeyIs es kvs) (hN0 : (N0 == sysModules) = false) (hsz : es.length ≤ 100)
    (hs : getN kvs (PySem.Str.ofString "__slots__") = some (.ref l)) (el : b.get? l = some (lstObj [.str (PySem.Str.ofString "obj") tl] nl)) (ho : getN kvs (PySem.Str.ofString "obj") = none)
    (hm : (getN kvs (PySem.Str.ofString "__module__")).isSome = true) (hq : getN kvs (PySem.Str.ofString "__qualname__") = some (.str qual tq)) (hdoc : getN kvs (PySem.Str.ofString "__doc__") = none) (hnew : getN kvs (PySem.Str.ofString "__new__") = none) (hsub : getN kvs (PySem.Str.ofString "__init_subclass__") = none) (hcgi : getN kvs (PySem.Str.ofString "__class_getitem__") = none) (hcc : getN kvs (PySem.Str.ofString "__classcell__") = none) (hcd : getN kvs (PySem.Str.ofString "__classdictcell__") = none) (heq : (getN kvs (PySem.Str.ofString "__eq__")).isSome = true) (hhash : (getN kvs (PySem.Str.ofString "__hash__")).isSome = true) (hdel : getN kvs (PySem.Str.ofString "__del__") = none) (hval : ∀ kv ∈ kvs, ValOk b kv.2) (hqual : qual = PySem.Str.ofString "cmp_to_key.<locals>.K")
    {K : Frag} (W : World K b₀) (hop : nsIn K cStatics "thirdparty.any" = some none)
    (q : ∀ C N1 dc b' h' oC oN td nz, Sit b₀ h₀ b' fs N h' → b.StaysIn b' → b'.get? C = some oC → oC.cls = .type "type" → oC.data = .cls { name := PySem.Str.ofString "K", bases := [.type "object"], mro := [.ref C, .type "object"], ns := N1, qualname := qual, hasDict := false, slotNames := [PySem.Str.ofString "obj"] } →
      (oC.slots[4]?).join = some (.builtin "object.__new__") → b'.get? N1 = some oN → NsD oN (putN (putN (delN kvs (PySem.Str.ofString "__qualname__")) (PySem.Str.ofString "obj") (.ref dc)) (PySem.Str.ofString "__doc__") .none) →
      b'.get? dc = some { cls := .type "member_descriptor", data := .fields [.str (PySem.Str.ofString "obj") td, .ref C, .builtin "proto.slot", .builtin "proto.slot#set", .int 0 nz].toArray } → Q (.done (.ret (.ref C))) h')
   : WP c A (Builtin.«type.__new__» ⟨[.type "type", .str (PySem.Str.ofString "K") tk0, .ref T, .ref N0], []⟩) Q E h := by
  have hT := S.atB eT
  have hN := S.atN r
  unfold Builtin.«type.__new__»
  refine .bind (m := asStr? (.str (PySem.Str.ofString "K") tk0)) (.pure ?_)
  refine .bind (c_isInstR hT rfl sub_tt ?_)
  refine w_no (by decide) ?_
  refine .bind (c_isInstR hN rfl sub_dd ?_)
  refine w_no (by decide) ?_
  refine .bind (c_seqItems hT rfl ?_)
  refine w_no (by decide) ?_
  refine .bind (r_forIn_one (s' := PUnit.unit) (.of_eq (by kernel_rfl) ⟨rfl, ?_⟩))
  refine .bind (r_forIn_one (s' := .type "type") (.of_eq (by kernel_rfl) ⟨rfl, ?_⟩))
  refine w_no (by decide) ?_
  refine .bind (.of_eq turn_no (.bind (.of_eq ext_ob ?_)))
  refine w_no (by rw [hN0]; decide) ?_
  refine .bind (c_dictEntries hN rfl ?_)
  refine .bind (m := specialOf (.ref N0) "__iter__") ?_
  unfold specialOf
  refine .bind (c_typeOfR hN (.of_eq dict_iter ?_))
  refine w_yes (by simp) ?_
  refine .bind (.pure (.bind (.holding (c_slotsRead S d hs el ho fun h S => ?_))))
  refine .bind (c_newDictOf S hsz fun N1 h S => ?_)
  have D1 : NsD (nsObj es 0) kvs := ⟨es, 0, rfl, d⟩
  refine w_no (by show ¬ ((!(es.toArray.any fun e => e.key.isStr (PySem.Str.ofString "__module__"))) = true); rw [any_key d, hm]; decide) ?_
  refine .bind (w_no (by decide +kernel) (.pure ?_))
  refine w_no (by decide +kernel) ?_
  refine .bind (c_nsGet (S.atN .head) D1 ?_)
  refine .bind (c_nsGet (S.atN .head) D1 ?_)
  rw [hq]
  refine .bind (m := asStr? (.str qual tq)) (.pure ?_)
  refine .bind (m := pure qual) (.pure ?_)
  refine .bind (c_nsGet (S.atN .head) D1 ?_)
  rw [hdoc]
  refine .bind (c_allocN S (o := { cls := .type "type", data := .cls { name := PySem.Str.ofString "K", bases := [.type "object"], mro := [], ns := N1, qualname := qual } }) rfl (by show Value.type "type" ≠ _; decide) fun C h S => ?_)
  refine w_yes (by rfl) ?_
  refine .bind (c_setSlotAt S .head (by decide) fun h S => ?_)
  refine .bind (c_setSlotAt S .head (by decide) fun h S => ?_)
  refine .bind (c_setSlotAt S .head (by decide) fun h S => ?_)
  refine .bind (c_nsDel S (.tail .head) D1 (fun _ h o2 S D2 => ?_) (fun z => by rw [hq] at z; cases z))
  have l2 := delN_len (kvs := kvs) (y := PySem.Str.ofString "__qualname__")
  have lk := d.len
  generalize hk2 : delN kvs (PySem.Str.ofString "__qualname__") = kv2 at D2 l2
  have g2 : ∀ {x : PySem.Str}, PySem.Str.ofString "__qualname__" ≠ x → getN kv2 x = getN kvs x := fun n => by rw [← hk2]; exact getN_del n
  refine .bind (c_nsGet (S.atN (.tail .head)) D2 ?_)
  rw [g2 (ofS_ne (by simp)), hnew]
  refine .bind (r_forIn_cons (.bind (c_nsGet (S.atN (.tail .head)) D2 ?_)))
  rw [g2 (ofS_ne (by simp)), hsub]
  refine .pure (r_forIn_cons (.bind (c_nsGet (S.atN (.tail .head)) D2 ?_)))
  rw [g2 (ofS_ne (by simp)), hcgi]
  refine .pure (r_forIn_nil ?_)
  refine .bind (c_nsGet (S.atN (.tail .head)) D2 ?_)
  rw [g2 (ofS_ne (by simp)), hcc]
  refine .bind (c_nsGet (S.atN (.tail .head)) D2 ?_)
  rw [g2 (ofS_ne (by simp)), hcd]
  refine .bind (.of_eq mro_hook (.bind (.of_eq lin_ob (.bind (.pure ?_)))))
  have hfil : List.filter (fun x => x != Value.ref C) [Value.ref C, Value.type "object"] = [Value.type "object"] := by simp
  refine .bind (m := List.anyM _ (List.filter (fun x => x != Value.ref C) [Value.ref C, Value.type "object"])) ?_
  rw [hfil]
  refine .of_eq (a := false) (by kernel_rfl) ?_
  refine .bind (c_updateCls S .head rfl (by simp) (by simp) fun h S => ?_)
  refine .bind (.of_eq made_ob (.bind (c_setSlotAt S .head (by decide) fun h S => ?_)))
  refine .bind (m := Bind.refreshMaker C) ?_
  unfold Bind.refreshMaker
  refine .bind (c_slotAt (x := some (.builtin "object.__new__")) (S.atN .head) (by kernel_rfl) ?_)
  refine w_no (by decide) ?_
  refine .bind (c_lookOwn (S.atN .head) rfl rfl (S.atN (.tail .head)) D2 (some (.builtin "object.__new__")) (by rw [builtinOwn_eq_fast]; kernel_rfl) ?_)
  rw [g2 (ofS_ne (by simp)), hnew]
  refine w_no (by decide +kernel) (.pure ?_)
  refine .bind (m := Builtin.Slots.install (.ref C) N1 [.type "object"] { names := [PySem.Str.ofString "obj"], dict := false, weak := false }) ?_
  unfold Builtin.Slots.install
  refine .bind (r_forIn_one (s' := 0) (.bind (c_nsGet (S.atN (.tail .head)) D2 ?_)))
  rw [g2 (ofS_ne (by simp)), ho]
  refine w_yes (by rfl) ?_
  refine .bind (.mkStr (fun td => ?_) (by decide +kernel))
  refine .bind (c_newFields S (by simp) (by decide) fun dc h S => ?_)
  refine .bind (c_nsSetBV S (.tail (.tail .head)) D2 (by omega) fun h o3 S D3 => ?_)
  refine .pure ⟨rfl, ?_⟩
  refine .bind (r_forIn_one (s' := false) (.of_eq (by kernel_rfl) ⟨rfl, ?_⟩))
  refine w_no (by decide +kernel) ?_
  refine c_updateCls S (.tail .head) rfl (by simp) (by simp) fun h S => ?_
  obtain ⟨b2, S, st2, eD⟩ := S.out .head
  refine .bind (.of_eq sl_weak (.bind (c_setSlotAt S .head (by decide) fun h S => ?_)))
  refine w_no (by decide) ?_
  refine w_no (by decide) ?_
  have l3 := putN_len (kvs := kv2) (y := PySem.Str.ofString "obj") (v := .ref dc)
  generalize hk3 : putN kv2 (PySem.Str.ofString "obj") (.ref dc) = kv3 at D3 l3
  have g3 : ∀ {x : PySem.Str}, PySem.Str.ofString "__qualname__" ≠ x → PySem.Str.ofString "obj" ≠ x → getN kv3 x = getN kvs x := fun n m => by rw [← hk3, getN_put m]; exact g2 n
  refine .bind (c_nsGet (S.atN (.tail .head)) D3 ?_)
  rw [g3 (ofS_ne (by simp)) (ofS_ne (by simp)), hdoc]
  refine w_yes (by rfl) ?_
  refine .bind (c_nsSet S (.tail .head) D3 fun h o4 S D4 => ?_)
  generalize hk4 : putN kv3 (PySem.Str.ofString "__doc__") .none = kv4 at D4
  have g4 : ∀ {x : PySem.Str}, PySem.Str.ofString "__qualname__" ≠ x → PySem.Str.ofString "obj" ≠ x → PySem.Str.ofString "__doc__" ≠ x → getN kv4 x = getN kvs x := fun n m p => by rw [← hk4, getN_put p]; exact g3 n m
  refine .bind (c_nsGet (S.atN (.tail .head)) D4 ?_)
  rw [g4 (ofS_ne (by simp)) (ofS_ne (by simp)) (ofS_ne (by simp))]
  refine w_yes heq ?_
  refine .bind (c_nsGet (S.atN (.tail .head)) D4 ?_)
  rw [g4 (ofS_ne (by simp)) (ofS_ne (by simp)) (ofS_ne (by simp))]
  refine w_no (by rw [Option.isNone_eq_false_iff.mpr hhash]; decide) ?_
  refine .bind (r_forIn_one (s' := PUnit.unit) (.bind (.of_eq (note_ob C) (.pure ⟨rfl, ?_⟩))))
  have D5 := D4
  obtain ⟨es4, n4, rfl, d4⟩ := D4
  have hkv4 : ∀ kv ∈ kv4, ValOk b2 kv.2 := fun kv hkv => by
    rw [← hk4] at hkv
    rcases put_mem hkv with hkv | z
    · rw [← hk3] at hkv
      rcases put_mem hkv with hkv | z
      · rw [← hk2] at hkv
        exact (hval kv (del_mem hkv)).stays st2
      · rw [z]
        exact ⟨fun _ => rfl, "member_descriptor", by rw [typeLookup_type, builtinLookup_eq_fast]; kernel_rfl, .inl ⟨dc, _, rfl, eD, rfl⟩⟩
    · rw [z]
      exact ⟨fun _ => rfl, "NoneType", by rw [typeLookup_type, builtinLookup_eq_fast]; kernel_rfl, .inr rfl⟩
  have hmem : ∀ e ∈ es4, ∃ kv ∈ kv4, KeyIs e kv := fun e he => d4.mem he
  refine .bind (.tryCatch (.holding ?_))
  refine .bind (c_dictEntries (S.atN (.tail .head)) rfl ?_)
  refine .bind (m := forIn es4.toArray _ _) ?_
  rw [← Array.forIn_toList]
  refine r_forIn_all (fun e he Q' q' => ?_) ?_
  · obtain ⟨kv, _, ⟨t, ht⟩, hv⟩ := hmem e he
    refine .bind (m := asStr? e.key) ?_
    rw [ht]
    exact .pure (w_no (by simp) (.pure q'))
  refine w_no (by decide) ?_
  refine .bind (c_dictEntries (S.atN (.tail .head)) rfl ?_)
  refine .bind (m := forIn es4.toArray _ _) ?_
  rw [← Array.forIn_toList]
  refine r_forIn_all (fun e he Q' q' => ?_) ?_
  · obtain ⟨kv, hkv, ⟨t, ht⟩, hv⟩ := hmem e he
    have ok := hkv4 kv hkv
    refine w_no (by rw [ht, hv]; show ¬ (Builtin.heldUnderItsOwnName kv.1 kv.2 = true); rw [ok.1]; decide) ?_
    refine .bind (m := specialOf e.val "__set_name__") ?_
    rw [hv]
    exact c_noSet S ok (.pure q')
  have hdel' : (es.toArray.any fun x => x.key.isStr (PySem.Str.ofString "__del__")) = false := by rw [any_key d, hdel]; rfl
  refine c_supInit W hop S .head rfl rfl rfl hqual fun h S => ?_
  obtain ⟨b3, S, st3, eN⟩ := S.out (.tail .head)
  obtain ⟨b4, S, st4, eC⟩ := S.out .head
  refine .pure (q C N1 dc b4 h _ _ td 0 S (fun _ _ e => st4 _ _ (st3 _ _ (st2 _ _ e))) eC rfl ?_ (by kernel_rfl) (st4 _ _ eN) (by rw [hk2, hk3, hk4]; exact D5) (st4 _ _ (st3 _ _ eD)))
  show Data.cls { name := PySem.Str.ofString "K", bases := [.type "object"], mro := [.ref C, .type "object"], ns := N1, qualname := qual, hasDict := false, slotNames := [PySem.Str.ofString "obj"], hasDel := ((es.toArray.any fun x => x.key.isStr (PySem.Str.ofString "__del__")) || false) } = _
  rw [hdel']
  rfl
end
end

section
theorem mt_check : checkTypeCall "type" ⟨[.none, .none, .none], []⟩ = pure () := by kernel_rfl
theorem mt_made : Bind.madeBy (.type "type") = pure (some "type.__new__") := by kernel_rfl
theorem mt_init : Slot "type" "__init__" "type.__init__" := .of (owner := "type") (n := "__init__") (by rw [typeLookup_type, builtinLookup_eq_fast]; kernel_rfl) (by decide +kernel) (by decide +kernel) (by decide +kernel)
  (by first | exact .inl (by decide +kernel) | exact .inr (by decide +kernel)) (by rw [isSubtype_type]; kernel_rfl)
theorem mt_entryI : entryFor table "type.__init__" = some Builtin.«type.__init__» := entryFor_of_tree (by kernel_rfl)
theorem mt_entryN : entryFor table "type.__new__" = some Builtin.«type.__new__» := entryFor_of_tree (by kernel_rfl)
theorem mt_plainN : plainId "type.__new__" = true := by decide +kernel
theorem mt_checkN (a b d : Value) : checkBuiltinCall "type.__new__" ⟨[.type "type", a, b, d], []⟩ = pure () := by kernel_rfl
theorem mt_argsI (o a b d : Value) : argsOk "type.__init__" ⟨[o, a, b, d], []⟩ := by unfold argsOk; kernel_rfl
theorem mt_mro : mroOf (.type "type") = pure [.type "type", .type "object"] := by rw [mroOf_type]; kernel_rfl
section
variable {c : Cfg} {A : Around} {E : Value → Heap → Prop} {h : Heap} {b₀ h₀ b : Heap} {fs : List Fent} {N : List (Addr × Obj)} {g : Obj → List (Addr × Obj)} {Q : Value → Heap → Prop}
/-- a built-in by its entry, that ends at once -/
theorem c_callB {id : String} {Bi : Builtin} {args : List Value} (hp : plainId id = true) (he : entryFor table id = some Bi) (hc : checkBuiltinCall id ⟨args, []⟩ = pure ())
    (x : WP c A.in1 (Bi ⟨args, []⟩) (fun fin h => ∃ v, fin = .done (.ret v) ∧ Q v h) E h) : WP c A (call (.builtin id) args) Q E h := fun tk => by
  refine wpAny_call (codeAny_call_builtin hp he (wpAny_of_eq hc ?_))
  refine wpAny_mono (x tk) (fun fin s q => ?_) fun e s q => q
  obtain ⟨h', t', rfl, v, rfl, q⟩ := q
  exact lift_mk q
theorem c_typeInit {C : Addr} {o : Obj} {x y z : Value} (e : h.get? C = some o) (ho : o.cls = .type "type") (q : Q .none h) : WP c A (call (.builtin "type.__init__") [.ref C, x, y, z]) Q E h := fun tk => by
  refine wpAny_call_entry mt_init (s := c.st h tk) ⟨o, e, ho⟩ mt_entryI ?_ (mt_argsI _ _ _ _)
  unfold Builtin.«type.__init__»
  refine KFB.if_not rfl ?_
  refine KFB.if_not rfl ?_
  exact wpAny_pure ⟨_, rfl, lift_mk q⟩
theorem c_makeClass {x y z : Value} (hx : WP c A.in1 (call (.builtin "type.__new__") [.type "type", x, y, z]) (fun v h => ∃ C o, v = .ref C ∧ h.get? C = some o ∧ o.cls = .type "type" ∧ Q v h) E h) (hct : checkTypeCall "type" ⟨[x, y, z], []⟩ = pure ()) : WP c A (call (.type "type") [x, y, z]) Q E h := by
  have hW : WP c A.in1 (Builtin.«type.__call__» ⟨[.type "type", x, y, z], []⟩) (fun fin h => ∃ v, fin = .done (.ret v) ∧ Q v h) E h := by
    unfold Builtin.«type.__call__»
    refine w_yes (by decide) ?_
    refine w_no (by simp) ?_
    refine w_no (by simp) ?_
    refine w_no (by decide +kernel) ?_
    refine .bind (.of_eq hct ?_)
    refine .bind (.of_eq mt_mro ?_)
    refine w_no (by simp) ?_
    refine .bind (.of_eq mt_made ?_)
    refine .bind (.pure (.bind (.holding (hx.monoQ fun v h' y => ?_))))
    obtain ⟨C, o, rfl, e, ho, q⟩ := y
    refine .bind (c_isInstR e ho sub_ty ?_)
    refine w_no (by decide) ?_
    refine .bind (.holding ?_)
    refine .bind (m := specialOf (.ref C) "__init__") ?_
    unfold specialOf
    refine .bind (c_typeOfR e ?_)
    rw [ho]
    refine .of_eq mt_init.lookup (.holding (.bind (.of_eq (mt_init.bind (.ref C)) (.bind (c_typeInit e ho (.pure ?_))))))
    refine w_no (by decide) (.pure ⟨_, rfl, q⟩)
  refine fun tk => wpAny_call (codeAny_of_tree ?_)
  show wpAny _ _ (callAny (.type "type") _) _ _ _
  refine wpAny_pure ⟨Code.quiet_builtin _ (by decide +kernel), codeAny_builtin F.entry_type_call ?_⟩
  rw [Around.under_plain (weight_type_call_type "type" [x, y, z] []) rfl]
  refine wpAny_mono (hW tk) (fun fin s q => ?_) fun e s q => q
  obtain ⟨h', t', rfl, v, rfl, q⟩ := q
  exact lift_mk q
end
end

section
theorem pr_kind : (kfb_private% "ownerAndName") "type.__prepare__" = ("type", "__prepare__") := by first | decide +kernel | kernel_rfl
theorem pr_isT : isType (.type "type") = pure true := rfl
theorem pr_plain : plainId "type.__prepare__" = true := by decide +kernel
theorem pr_entry : entryFor table "type.__prepare__" = some Builtin.«type.__prepare__» := entryFor_of_tree (by kernel_rfl)
theorem pr_type : typeOf (.builtin "type.__prepare__") = pure (.type "classmethod_descriptor") := by show builtinType _ = _; rw [builtinType_eq_fast]; kernel_rfl
theorem pr_check (x y : Value) : checkBoundCall "type.__prepare__" ⟨[.type "type", x, y], []⟩ = pure () := by kernel_rfl
section
variable {prog : Program} {w : PySem.World} {A : Around} {E : Value → Shared → Prop} {h : Heap} {g : Array GenState} {d : Drawn} {t : Nat} {os : OsState} {K : Frag}
theorem x_prepBind {M : Model} {Q : PySem.Fin → Shared → Prop} (hq : Q (.done (.ret (.ref h.objs.size))) ⟨h.push (bndObj "type.__prepare__" (.type "type")), g, d, t, os⟩) :
    wpAny M A (Builtin.«classmethod_descriptor.__get__» ⟨[.builtin "type.__prepare__", .none, .type "type"], []⟩) Q E ⟨h, g, d, t, os⟩ := by
  unfold Builtin.«classmethod_descriptor.__get__»
  refine wpAny_bind (wpAny_of_eq (a := (.builtin "type.__prepare__", none, some (.type "type"))) (by first | rfl | kernel_rfl) ?_)
  simp only [pr_kind]
  refine wpAny_bind (wpAny_of_eq (a := .type "type") rfl ?_)
  refine wpAny_bind (wpAny_of_eq (a := true) pr_isT ?_)
  refine KFB.if_not rfl ?_
  refine wpAny_bind (wpAny_of_eq (a := true) sub_ty ?_)
  refine KFB.if_not rfl ?_
  exact wpAny_bind (wpAny_newObj_type (wpAny_pure hq))
theorem x_clsQ {s : Shared} {c mc : Value} {name : Str} {r : CFound} {Q : Option Value → Shared → Prop} (X : K.In s.heap) (ho : Looks (model prog w) s.heap (opaqueClassAbove c) none) (ht : Looks (model prog w) s.heap (typeOf c) mc)
    (hga : findIn K mc "__getattribute__" = some (some (.builtin "type.__getattribute__"))) (hb : Looks (model prog w) s.heap (hookBefore mc) none) (hi : subIn K mc (.type "type") = some true) (e : findCls K c mc name = some r)
    (h : wpAny (model prog w) A.in1 r.run (fun fin s' => match fin with | .done (.ret v) => wpAny (model prog w) A (handedOut v) (fun v => Q (some v)) (fun _ _ => False) s' | _ => False) (fun _ _ => False) { s with toks := s.toks + 1 }) :
    wpAny (model prog w) A (getAttr? c name) Q E s := by
  unfold getAttr? getAttrBy? getAttrBy
  refine wpAny_bind (wpAny_mkText (wpAny_bind (wpAny_attempt (wpAny_holding (wpAny_bind (ht _ _ _ _ (fun _ _ e => e) (wpAny_bind (looks_findIn X hga _ _ _ _ (fun _ _ e => e) ?_))))))))
  dsimp only
  rw [show (onTheHeap mc && Value.builtin "type.__getattribute__" == Value.builtin "object.__getattribute__") = false from by rw [show (Value.builtin "type.__getattribute__" == Value.builtin "object.__getattribute__") = false from by decide +kernel, Bool.and_false], if_neg (by decide)]
  unfold getAttrByItsOwn
  refine wpAny_bind (hb _ _ _ _ (fun _ _ e => e) (wpAny_bind (wpAny_attempt (wpAny_holding ?_))))
  unfold callGetattribute
  rw [show (false && onTheHeap (Value.builtin "type.__getattribute__")) = false from rfl, if_neg (by decide)]
  unfold boundAndCalled
  rw [KF.slot_tga.bind]
  refine wpAny_bind (wpAny_pure ?_)
  show wpAny _ _ (call (.builtin "type.__getattribute__") [c, .str name s.toks]) _ _ _
  refine wpAny_call ?_
  refine codeAny_call_builtin KF.slot_tga.plain KF.entry_tga ?_
  refine @check_slot (model prog w) _ _ { s with toks := s.toks + 1 } "type.__getattribute__" "type" "__getattribute__" c [.str name s.toks] [] _ (by decide +kernel) (by decide +kernel) (ht.andThen (looks_subIn X hi)) (KF.args_tga c (.str name s.toks)) ?_
  refine tga_run (s := { s with toks := s.toks + 1 }) X ho ht e (wpAny_mono h (fun fin s' z => ?_) fun _ _ z => z.elim)
  rcases fin with (_ | _ | _ | _) | _ <;> first | exact z.elim | skip
  refine wpAny_mono z (fun v s'' q => wpAny_pure q) fun _ _ z => z.elim
theorem x_prep {s : Shared} {Q : Option Value → Shared → Prop} (X : K.In s.heap) (e : findCls K (.type "type") (.type "type") (PySem.Str.ofString "__prepare__") = some (.get (.builtin "classmethod_descriptor.__get__") (.builtin "type.__prepare__") .none (.type "type")))
    (hq : Q (some (.ref s.heap.objs.size)) { s with heap := s.heap.push (bndObj "type.__prepare__" (.type "type")), toks := s.toks + 1 }) : wpAny (model prog w) A (getAttr? (.type "type") (PySem.Str.ofString "__prepare__")) Q E s := by
  have ht : typeOf (.type "type") = pure (.type "type") := by first | rfl | kernel_rfl
  refine x_clsQ X (Looks.of_pure (by unfold opaqueClassAbove; dsimp only; rw [show Manifest.isStub "type" = false by decide +kernel]; rfl)) (Looks.of_pure ht) type_tga (looks_hook X (r := none) (by rfl)) (by show subIn K _ _ = _; rfl) e ?_
  obtain ⟨hp, g, d, t, os⟩ := s
  show wpAny _ _ (holding [.builtin "type.__prepare__"] (call (.builtin "classmethod_descriptor.__get__") [.builtin "type.__prepare__", .none, .type "type"]) >>= fun v => ret v) _ _ _
  exact wpAny_bind (wpAny_holding (wpAny_call_entry KFB.slot_get pr_type KFB.entry_get (x_prepBind ⟨_, rfl, wpAny_pure (wpAny_pure hq)⟩) (KFB.args_get _ _ _)))
theorem x_callPrep {u : Addr} {x y : Value} {Q : Value → Shared → Prop} (hu : h.get? u = some (bndObj "type.__prepare__" (.type "type"))) (hq : Q (.ref h.objs.size) ⟨h.push (nsObj [] 0), g, d, t, os⟩) : wpAny (model prog w) A (call (.ref u) [x, y]) Q E ⟨h, g, d, t, os⟩ := by
  refine wpAny_call (codeAny_of_tree ?_)
  show wpAny _ A.in1 (callAny (.ref u) ⟨[x, y], []⟩) _ _ _
  simp only [callAny]
  refine wpAny_bind (wpAny_load hu ?_)
  simp only [bndObj, show (Value.type "builtin_function_or_method" == Value.type "method" || Value.type "builtin_function_or_method" == Value.type "builtin_function_or_method" || Value.type "builtin_function_or_method" == Value.type "method-wrapper") = true by decide, if_true]
  refine KFB.if_so (by decide) ?_
  refine wpAny_bind (wpAny_of_eq (a := ()) (pr_check x y) ?_)
  refine wpAny_bind (wpAny_pure (wpAny_pure ?_))
  refine ⟨plainId_quiet pr_plain _, codeAny_builtin pr_entry ?_⟩
  rw [Around.under_plainId pr_plain]
  unfold Builtin.«type.__prepare__»
  exact wpAny_bind (wpAny_newObj_type (wpAny_pure hq))
end
section
variable {c : Cfg} {A : Around} {E : Value → Heap → Prop} {h : Heap} {b₀ h₀ b : Heap} {fs : List Fent} {N : List (Addr × Obj)} {g : Obj → List (Addr × Obj)} {K : Frag}
theorem c_prep {Q : Option Value → Heap → Prop} (W : World K b₀) (S : Sit b₀ h₀ b fs N h) (e : findCls K (.type "type") (.type "type") (PySem.Str.ofString "__prepare__") = some (.get (.builtin "classmethod_descriptor.__get__") (.builtin "type.__prepare__") .none (.type "type")))
    (q : ∀ u h', Sit b₀ h₀ b fs ((u, bndObj "type.__prepare__" (.type "type")) :: N) h' → Q (some (.ref u)) h') : WP c A (getAttr? (.type "type") (PySem.Str.ofString "__prepare__")) Q E h := fun tk =>
  x_prep (s := c.st h tk) (fun a o e => S.atB (S.bb _ _ (W.k _ _ e))) e (lift_mk (q _ _ (S.pushN (o := bndObj "type.__prepare__" (.type "type")) rfl (by show Value.type "builtin_function_or_method" ≠ _; decide))))
theorem c_callPrep {u : Addr} {x y : Value} {Q : Value → Heap → Prop} (S : Sit b₀ h₀ b fs N h) (r : Rep u (bndObj "type.__prepare__" (.type "type")) N g) (q : ∀ d h', h.objs.size = d → Sit b₀ h₀ b fs ((d, nsObj [] 0) :: N) h' → Q (.ref d) h') : WP c A (call (.ref u) [x, y]) Q E h := fun tk =>
  x_callPrep (S.atN r) (lift_mk (q _ _ rfl (S.pushN (o := nsObj [] 0) rfl (by show Value.type "dict" ≠ _; decide))))
end
end

section
section
variable {c : Cfg} {A : Around} {E : Value → Heap → Prop} {h : Heap} {env : Env} {b₀ h₀ b : Heap} {fs : List Fent} {N : List (Addr × Obj)} {g : Obj → List (Addr × Obj)} {K : Frag} {k : Nat} {a L : Addr} {m : Vars}
theorem Good.nowS (G : Good A h (k + 1)) (S : Sit b₀ h₀ b fs N h) (hb : ¬ Born.old L) (hm : (L, "frame", m) ∈ fs) (hf : env.frame = some L) (hk : env.scope.kind = .function) : Good (A.deeper env) h k :=
  G.deeper (Ext.refl h) (by
    obtain ⟨⟨⟨o, es, ep, e, d, _⟩, o', e', cc⟩, _⟩ := S.fr _ hm
    have := e.symm.trans e'; cases this
    exact ⟨by rw [hk]; decide, L, o, es, ep, hf, e, cc, d, hb⟩)
/-- a def is called, what stands around it kept in sight -/
theorem callDefS {o : Obj} {fd : FuncData} {args : List Value} {body : List Stmt} {binds : List (Str × Value)} {Q : Value → Heap → Prop} (W : World K b₀) (S : Sit b₀ h₀ b fs N h) (G : Good A h (k + 1)) (ho : h.get? a = some o) (hd : o.data = .func fd) (hcd : h.CodeRec fd.code fd.qualname)
    (x : ∀ L h₂ env, ¬ Born.old L → env = defE fd a L → env.frame = some L → EnvOk env L fd.scope.names (cellsFrom (L + 1) fd.scope.names fd.closure) → Ext h h₂ → Sit b₀ h₀ b ((L, "frame", fun _ => none) :: fs) (cellsN (L + 1) fd.scope.names N) h₂ →
      WP c A.in1 (storeAll env binds) (fun _ h₃ => Base b₀ h₃ ∧ WP c (A.deeper env) (execs body env) (fun f h' => Q (retOf f) h') (fun _ _ => False) h₃) (fun _ _ => False) h₂)
    (hbind : bindArgs fd ⟨args, []⟩ = pure binds := by rfl) (hbody : fd.body = .stmts body := by rfl)
    (hco : fd.scope.isCoroutine = false := by rfl) (hgen : fd.scope.isGenerator = false := by rfl) (hk : fd.scope.kind = .function := by rfl) (hg : fd.globals = mainGlobals := by rfl) (hb : fd.builtins = builtinsNs := by rfl) :
    WP c A (call (.ref a) args) Q E h := by
  refine r_callRef (fun tk => ?_)
  refine codeAny_call_function (by show A.depth < 1000; have := G.depth; omega) ho hd hco hgen hbody hcd ?_
  rw [hbind]
  refine wpAny_pure ?_
  have := newEnv_ok (c := c) (A := A.in1) (E := fun _ _ => False) (binds := binds) (scope := fd.scope) (globals := fd.globals) (closure := fd.closure) (qual := fd.qualname ++ ".<locals>.") (func := some a) (code := fd.code) (around := none) (builtins := fd.builtins)
      (Q := fun env h₃ => Base b₀ h₃ ∧ WP c (A.deeper env) (execs body env) (fun f h' => Q (retOf f) h') (fun _ _ => False) h₃) S (fun L h' hL X S' => x L h' _ (fun z => by
        obtain ⟨o2, g2⟩ := G.old L z
        rw [hL, fresh_push] at g2
        cases g2) rfl rfl (defE_ok hk hg hb) X S')
  refine wpAny_mono (this tk) (fun env s q => ?_) fun _ _ q => ?_
  · obtain ⟨h₃, t₃, rfl, B₃, q⟩ := q
    refine ⟨W.nolimit.keeps B₃.stays, codeAny_func ?_⟩
    refine wpAny_mono (q t₃) (fun f s q => ?_) fun _ _ q => ?_
    · obtain ⟨h₄, t₄, rfl, q⟩ := q
      cases f <;> exact lift_mk q
    · obtain ⟨_, _, _, q⟩ := q; exact q.elim
  · obtain ⟨_, _, _, q⟩ := q; exact q.elim
variable {names : List (Str × NameKind)} {cells : List (Str × Addr)} {N0 P' cd : Addr} {oN : Obj} {ps : Array Value} {kvs : List (Str × Value)}
theorem among_app {p : Pos} {r : List Value} (l : List Value) (h : TriplesOk l) (hn : codeAmong p l = none) : codeAmong p (l ++ r) = codeAmong p r := by
  fun_induction TriplesOk l with
  | case1 => rfl
  | case2 a ta b' tb x rest ih =>
    rw [codeAmong] at hn
    show codeAmong p (.int a ta :: .int b' tb :: x :: (rest ++ r)) = _
    rw [codeAmong]
    split at hn
    · cases hn
    · rename_i hc
      rw [if_neg hc]
      exact ih h hn
  | case3 => exact h.elim
theorem among_later {pos p : Pos} {cv : Value} {ps : Array Value} (ht : TriplesOk ps.toList) (hn : codeAmong p ps.toList = none) (hl : pos.line < p.line) : codeAmong p (ps ++ #[rawInt pos.line, rawInt pos.col, cv]).toList = none := by
  rw [show (ps ++ #[rawInt pos.line, rawInt pos.col, cv]).toList = ps.toList ++ [rawInt pos.line, rawInt pos.col, cv] from by simp, among_app _ ht hn]
  unfold rawInt codeAmong
  rw [if_neg]
  · rfl
  · simp
    omega
/-- a def in the class's body -/
theorem r_clsDef {name bind : Str} {args : Arguments} {body : List Stmt} {scope : Scope} {pos : Pos} {Q : Flow → Heap → Prop} {cl : List (Str × Addr)} {nm : Option Value} (W : World K b₀) (hN : nsIn K mainGlobals "__name__" = some nm) (S : Sit b₀ h₀ b fs ((N0, oN) :: (P', tabObj ps) :: N) h) (H : ClsOk env N0 names cells) (D : NsD oN kvs) (hc : env.code = .ref cd) (C : CodeHd b cd P')
    {lim : Nat} (ht : TriplesOk ps.toList) (hnf : ∀ p : Pos, lim < p.line → codeAmong p ps.toList = none) (hlim : lim < pos.line) (hcl : closureFor scope env = pure cl) (hx : names.lookup bind = some .local) (hk : args.kwonlyargs = []) (hdoc : bodyDoc (.stmts body) = true)
    (q : ∀ f b' h' oN' cv ct ps', Sit b₀ h₀ b' fs ((N0, oN') :: (P', tabObj ps') :: N) h' → b.StaysIn b' → NsD oN' (putN kvs bind (.ref f)) → b'.get? f = some (fnObj name (qualnameIn env name bind) args (.stmts body) scope cl ct cv (nm.getD .none)) → b'.CodeRec cv (qualnameIn env name bind) → TriplesOk ps'.toList → (∀ p : Pos, pos.line < p.line → codeAmong p ps'.toList = none) → Q .next h')
    (hd : defaultsOf args env = ([], []))
    (hn : ∀ e : Env, ((match args with | ⟨po, a, va, ko, _, kwa, _⟩ => annotationsOf (a ++ po ++ va.toList ++ ko ++ kwa.toList) e) ++ ((evalOpt none e).map ((("return" : Str), ·))).toList) = []) :
    WP c A (exec (.FunctionDef name args body [] none [] scope none bind pos) env) Q E h := by
  refine r_FnDef ?_ hd hn
  refine c_makeFn W hN S hk hcl H.globals hdoc hc C (.tail .head) ht (hnf pos hlim) fun f b' h' cv ct S' st ef hr => ?_
  exact c_storeCls S' H .head D (.inl hx) fun h'' o' S'' D' => q f b' h'' o' cv ct _ S'' st D' ef hr (by rw [show (ps ++ #[rawInt pos.line, rawInt pos.col, cv]).toList = ps.toList ++ [rawInt pos.line, rawInt pos.col, cv] from by simp]; exact TriplesOk_snoc _ _ _ _ ht) (fun p hp => among_later ht (hnf p (Nat.lt_trans hlim hp)) hp)
theorem r_clsAssign {x : Str} {pos' pos : Pos} {value : Expr} {Q : Flow → Heap → Prop} (y : WP c A (eval value env) (fun v h => ∃ b₁ oN kvs M, Sit b₀ h₀ b₁ fs ((N0, oN) :: M) h ∧ NsD oN kvs ∧ ∀ h' o', Sit b₀ h₀ b₁ fs ((N0, o') :: M) h' → NsD o' (putN kvs x v) → Q .next h') E h) (H : ClsOk env N0 names cells) (hx : names.lookup x = some .local)
    (hs : swapsWith value (some (.Name x pos')) pos.line env = pure false) : WP c A (exec (.Assign [.Name x pos'] value pos) env) Q E h := by
  refine r_Assign (y.monoQ fun v h z => ?_) hs
  obtain ⟨b₁, oN, kvs, M, S, D, q⟩ := z
  exact c_storeCls S H .head D (.inl hx) q
theorem r_runBody {stmts : List Stmt} {Q : Flow → Heap → Prop} (hann : hasAnns stmts = false) (hdoc : docOf stmts = none) (x : WP c (A.deeper env) (execs stmts env) Q (fun _ _ => False) h) : WP c A (run (.body stmts env)) Q E h := fun tk => by
  refine wpAny_run ?_
  rw [mark_none]
  refine codeAny_body hann hdoc (wpAny_mono (x tk) (fun f s q => q) fun _ _ q => ?_)
  obtain ⟨_, _, _, q⟩ := q
  exact q.elim
theorem c_guard {A' : Around} (G : Good A' h k) (hb : env.builtins = builtinsNs) {Q : Unit → Heap → Prop} (q : Q () h) : WP c A (buildClassGuard env) Q E h := by
  unfold buildClassGuard
  rw [hb]
  obtain ⟨mb, n, u⟩ := G.mb
  have e : mb "__build_class__" = some (.builtin "__build_class__") := (u _ (ofS_ne (by simp))).trans (by kernel_rfl)
  refine .bind fun tk => wpAny_nsGet (s := c.st h tk) n ?_
  rw [e]
  exact lift_mk (c := c) (Q := fun v h => WP c A _ Q E h) (WP.pure q)
theorem c_enterFrame (W : World K b₀) (S : Sit b₀ h₀ b fs N h) (hd : A.depth < 1000) {Q : Unit → Heap → Prop} (q : Q () h) : WP c A (enterFrame) Q E h := fun tk =>
  wpAny_enterFrame (s := c.st h tk) (W.nolimit.keeps fun a o e => S.atB (S.bb _ _ e)) hd (lift_mk q)
theorem r_evalArgs_pos0 {f : Value} {pos : Pos} {args : List Expr} {Q : Args → Heap → Prop} (x : WP c A (spliced (backTo pos (starEach args env))) (fun vs h => Q ⟨vs, []⟩ h) E h) : WP c A (evalArgs f false (backTo pos (starEach args env)) []) Q E h := by
  unfold evalArgs
  refine .bind (x.monoQ fun vs h q => ?_)
  refine .bind (.pure (.holding ?_))
  exact .bind (.pure (.bind (.pure (.pure q))))
end
end

theorem gb_object (P : Params) : nsIn (KK P) mainGlobals (Str.ofString "object") = some none ∧ bootBuiltins (Str.ofString "object") = some (.type "object") := ⟨by kernel_rfl, by kernel_rfl⟩
local macro_rules | `(tactic| k_places) => `(tactic| with_reducible first | exact gb_object _ | fail "no")
theorem g_name (P : Params) : nsIn (KK P) mainGlobals (PySem.Str.ofString "__name__") = some ((nsIn (KK P) mainGlobals (PySem.Str.ofString "__name__")).getD none) := by kernel_rfl
theorem g_nameS (P : Params) : ∃ x t, nsIn (KK P) mainGlobals (PySem.Str.ofString "__name__") = some (some (.str x t)) := by
  have : (match nsIn (KK P) mainGlobals (PySem.Str.ofString "__name__") with | some (some (.str _ _)) => true | _ => false) = true := by kernel_rfl
  split at this
  · rename_i x t e; exact ⟨x, t, e⟩
  · cases this
theorem pr_find (P : Params) : findCls (KK P) (.type "type") (.type "type") (PySem.Str.ofString "__prepare__") = some (.get (.builtin "classmethod_descriptor.__get__") (.builtin "type.__prepare__") .none (.type "type")) := by kernel_rfl
theorem st_any (P : Params) : nsIn (KK P) cStatics "thirdparty.any" = some none := by kernel_rfl
theorem dict_geti : typeLookup (.type "dict") "__getitem__" = pure (some (.builtin "dict.__getitem__")) := by rw [typeLookup_type, builtinLookup_eq_fast]; kernel_rfl
theorem hd49 (P : Params) : codeHdIn (KK P) 49 45 = true := by kernel_rfl
noncomputable def clsFn (P : Params) (i : Nat) (cl : List (Str × Addr)) (ct cd pm : Value) : Obj := match (fdOf (KK P) 50).body with
  | .stmts (.ClassDef _ _ _ body _ _ _ _ _ _ _ :: _) => (match body[i]? with
    | some (.FunctionDef name args fb _ _ _ scope _ _ _) => fnObj name ("cmp_to_key.<locals>.K." ++ name) args (.stmts fb) scope cl ct cd pm
    | _ => tupObj [])
  | _ => tupObj []
/-- a class that cmp_to_key made, at rest -/
structure ClsK (P : Params) (b : Heap) (C : Addr) (f : Value) : Prop where
  ex : ∃ N1 dc cm fI fE oC oN kvs td nz cvI ctI cvE ctE pm, b.get? C = some oC ∧ oC.cls = .type "type" ∧
    oC.data = .cls { name := PySem.Str.ofString "K", bases := [.type "object"], mro := [.ref C, .type "object"], ns := N1, qualname := PySem.Str.ofString "cmp_to_key.<locals>.K", hasDict := false, slotNames := [PySem.Str.ofString "obj"] } ∧
    (oC.slots[4]?).join = some (.builtin "object.__new__") ∧ b.get? N1 = some oN ∧ NsD oN kvs ∧
    getN kvs (PySem.Str.ofString "__init__") = some (.ref fI) ∧ getN kvs (PySem.Str.ofString "__eq__") = some (.ref fE) ∧ getN kvs (PySem.Str.ofString "obj") = some (.ref dc) ∧
    (∀ x ∈ ["__getattribute__", "__getattr__", "__setattr__", "__delattr__", "__new__", "__call__", "__class__", "__dict__", "__get__", "__set__", "__del__", "__bool__", "__len__"], getN kvs (PySem.Str.ofString x) = none) ∧
    b.get? dc = some { cls := .type "member_descriptor", data := .fields [.str (PySem.Str.ofString "obj") td, .ref C, .builtin "proto.slot", .builtin "proto.slot#set", .int 0 nz].toArray } ∧
    b.get? cm = some { cls := .type "cell", data := .cell (some f) } ∧
    b.get? fI = some (clsFn P 2 [] ctI cvI pm) ∧ b.CodeRec cvI (PySem.Str.ofString "cmp_to_key.<locals>.K.__init__") ∧
    b.get? fE = some (clsFn P 5 [(PySem.Str.ofString "mycmp", cm)] ctE cvE pm) ∧ b.CodeRec cvE (PySem.Str.ofString "cmp_to_key.<locals>.K.__eq__")
theorem ty_str : typeLookup (.type "str") "__set_name__" = pure none := by rw [typeLookup_type, builtinLookup_eq_fast]; kernel_rfl
theorem ty_int : typeLookup (.type "int") "__set_name__" = pure none := by rw [typeLookup_type, builtinLookup_eq_fast]; kernel_rfl
theorem ty_list : typeLookup (.type "list") "__set_name__" = pure none := by rw [typeLookup_type, builtinLookup_eq_fast]; kernel_rfl
theorem ty_tuple : typeLookup (.type "tuple") "__set_name__" = pure none := by rw [typeLookup_type, builtinLookup_eq_fast]; kernel_rfl
theorem ty_fn : typeLookup (.type "function") "__set_name__" = pure none := by rw [typeLookup_type, builtinLookup_eq_fast]; kernel_rfl
theorem ty_none : typeLookup (.type "NoneType") "__set_name__" = pure none := by rw [typeLookup_type, builtinLookup_eq_fast]; kernel_rfl
theorem vk_str {b : Heap} {x : Str} {t : Tok} : ValOk b (.str x t) := ⟨fun _ => rfl, "str", ty_str, .inr rfl⟩
theorem vk_int {b : Heap} {x : Int} {t : Tok} : ValOk b (.int x t) := ⟨fun _ => rfl, "int", ty_int, .inr rfl⟩
theorem vk_none {b : Heap} : ValOk b .none := ⟨fun _ => rfl, "NoneType", ty_none, .inr rfl⟩
theorem vk_ref {b : Heap} {a : Addr} {o : Obj} {T : String} (e : b.get? a = some o) (hc : o.cls = .type T) (ht : typeLookup (.type T) "__set_name__" = pure none) : ValOk b (.ref a) := ⟨fun _ => rfl, T, ht, .inl ⟨a, o, rfl, e, hc⟩⟩
theorem vk_put {b : Heap} {kvs : List (Str × Value)} {x : Str} {v : Value} (h : ∀ kv ∈ kvs, ValOk b kv.2) (hv : ValOk b v) : ∀ kv ∈ putN kvs x v, ValOk b kv.2 := fun kv hk => (put_mem hk).elim (h kv) fun e => e ▸ hv
theorem c_mkStrs {c : Cfg} {A : Around} {E : Value → Heap → Prop} {h : Heap} {l : List Str} {Q : List Value → Heap → Prop} (q : ∀ vs, Q vs h) : WP c A (l.mapM mkText) Q E h := fun tk => wpAny_mkStrs fun vs => lift_mk (q vs)
theorem c_newTextTuple {c : Cfg} {A : Around} {E : Value → Heap → Prop} {h : Heap} {b₀ h₀ b : Heap} {fs : List Fent} {N : List (Addr × Obj)} {vs : List Value} {Q : Value → Heap → Prop} (S : Sit b₀ h₀ b fs N h) (q : ∀ a b' h', Sit b₀ h₀ b' fs N h' → b.StaysIn b' → b'.get? a = some (tupObj vs) → Q (.ref a) h') : WP c A (newTextTuple vs) Q E h := fun tk => by
  obtain ⟨b', S', st, e⟩ := S.pushB (o := tupObj vs) rfl (by show Value.type "tuple" ≠ _; decide)
  exact wpAny_newTextTuple (lift_mk (q _ b' _ S' st e))
set_option maxHeartbeats 2000000 in
theorem cmpkey_ok {c : Cfg} {A A₀ : Around} {k₀ : Nat} {b₀ h₀ b h : Heap} {fs : List Fent} {N : List (Addr × Obj)} {g : Obj → List (Addr × Obj)} {E : Value → Heap → Prop} {Q : Value → Heap → Prop} {f : Value} (W : Wd c b₀) (G₀ : Good A₀ h₀ k₀) (S : Sit b₀ h₀ b fs N h) (G : Good A h 40) (r : Rep 45 (tabObj #[]) N g)
    (q : ∀ C b' h' tab, Sit b₀ h₀ b' fs (g (tabObj tab)) h' → b.StaysIn b' → ClsK c.w.params b' C f → Q (.ref C) h') : WP c A (call (.ref 50) [f]) Q E h := by
  refine callDefS (binds := [("mycmp", f)]) W S G (S.atB (S.bb _ _ (W.k _ _ rfl))) rfl (codeRec_of (fun a o e => S.atB (S.bb _ _ (W.k _ _ e))) (by rfl)) fun L h' env hL he hf H X S => ?_
  dsimp only at H
  have S0 := S
  have G := G.ext X
  replace H : EnvOk env L _ [(Str.ofString "mycmp", L + 1)] := H
  replace S : Sit b₀ h₀ b ((L, "frame", fun _ => none) :: fs) ((L + 1, cellObj none) :: N) h' := S
  have hcode : env.code = .ref 49 := by rw [he]; rfl
  have hqual : env.qual = "cmp_to_key" ++ ".<locals>." := by rw [he]; rfl
  clear he
  generalize L + 1 = cm at H S
  unfold cellObj at S
  repeat' isplit
  obtain ⟨b1, S, st1, ecm⟩ := S.out .head
  have C49 : CodeHd b1 49 45 := codeHd_of_K (fun a o e => st1 _ _ (S0.bb _ _ (W.k _ _ e))) (hd49 _)
  have hlk : qualnameIn env "K" "K" = PySem.Str.ofString "cmp_to_key.<locals>.K" := by
    unfold qualnameIn
    rw [H.look (k := .local) (by kln_le), hqual]
    decide +kernel
  rw [arm_exec_ClassDef, hlk]
  refine .bind (m := evalAll _) (.pure ?_)
  refine .bind (.standAt (.bind (c_guard (G₀.ext S.ext) H.builtins ?_)))
  refine .bind (.holding (.bind (r_evalArgs_pos0 ?_)))
  repeat' isplit
  refine .bind (.standAt (.holding ?_))
  unfold buildClass
  refine .bind (r_newTuple S (by rw [sizeLine_eq]; simp) fun T b2 h S st2 eT => ?_)
  refine .bind (r_forIn_one (s' := ([.type "object"], false)) (.of_eq (by kernel_rfl) ⟨rfl, ?_⟩))
  refine .bind (m := typeOf (.type "object")) (.of_eq (a := .type "type") (by kernel_rfl) ?_)
  refine .bind (m := isType (.type "type")) (.pure ?_)
  refine w_yes rfl ?_
  refine .bind (r_forIn_one (s' := .type "type") (.of_eq (by kernel_rfl) ⟨rfl, ?_⟩))
  refine .bind (.mkText fun tK => ?_)
  refine w_no (by decide) ?_
  refine .bind (.pure (.holding ?_))
  refine .bind (c_prep W S (pr_find _) fun u h S => ?_)
  have big := (W.stays S.bb).big S.bh
  refine .bind (c_callPrep S .head fun N0 h eN0 S => ?_)
  rw [eN0] at big
  have D : NsD (nsObj [] 0) [] := ⟨[], 0, rfl, .nil⟩
  have S := S.swap.dropN
  refine .bind (m := notTheModulesDict _ N0) (w_no (by rw [big]; decide) (.pure ?_))
  refine .bind (m := specialOf (.ref N0) "__getitem__") ?_
  unfold specialOf
  refine .bind (c_typeOfR (S.atN .head) (.of_eq dict_geti ?_))
  refine w_no (by simp) (.holding ?_)
  refine w_no (by decide +kernel) ?_
  refine .bind (.pure (w_no (by decide +kernel) (.bind (.pure ?_))))
  have sw := fun (b : Heap) (s : b2.StaysIn b) => s
  refine .bind (c_classCode (qual := PySem.Str.ofString "cmp_to_key.<locals>.K") S hcode (C49.keeps st2) (.tail r) trivial rfl fun cdv P' b3 h S st3 hr Ck => ?_)
  rw [H.globals]
  refine .bind (c_builtinsFor W S ?_)
  refine .bind (m := newBodyFrame _ _ _ _) ?_
  unfold newBodyFrame
  obtain ⟨xn, tn, hn⟩ := g_nameS c.w.params
  refine .bind (c_nsGlob W S hn (.alloc ?_))
  have S := S.ext' (Ext.push h { cls := .type "frame", slots := #[some (.ref cdv), some (.ref mainGlobals), some (.ref N0), none, some ((some (Value.str xn tn)).getD .none), none, some (.ref builtinsNs)] })
  have S := S.swap
  generalize h.push { cls := .type "frame", slots := #[some (.ref cdv), some (.ref mainGlobals), some (.ref N0), none, some ((some (Value.str xn tn)).getD .none), none, some (.ref builtinsNs)] } = hx at S
  generalize h.objs.size = Lf
  have hcl : CL env [(Str.ofString "__module__", .local), (Str.ofString "__slots__", .local), (Str.ofString "__init__", .local), (Str.ofString "__lt__", .local), (Str.ofString "__gt__", .local), (Str.ofString "__eq__", .local), (Str.ofString "__le__", .local), (Str.ofString "__ge__", .local), (Str.ofString "__hash__", .local), (Str.ofString "mycmp", .free)] [] [(Str.ofString "mycmp", cm)] :=
    .loc (.loc (.loc (.loc (.loc (.loc (.loc (.loc (.loc (.free (H.cell (by kln_le)) .nil)))))))))
  refine .bind (.of_eq (CL.closure hcl) ?_)
  extract_lets -underBinder cenv
  have HC : ClsOk cenv N0 [(Str.ofString "__module__", .local), (Str.ofString "__slots__", .local), (Str.ofString "__init__", .local), (Str.ofString "__lt__", .local), (Str.ofString "__gt__", .local), (Str.ofString "__eq__", .local), (Str.ofString "__le__", .local), (Str.ofString "__ge__", .local), (Str.ofString "__hash__", .local), (Str.ofString "mycmp", .free)] [(Str.ofString "mycmp", cm)] := ⟨rfl, rfl, rfl, rfl, rfl, rfl⟩
  have hcc : cenv.code = .ref cdv := rfl
  have hcq : cenv.qual = PySem.Str.ofString "cmp_to_key.<locals>.K" ++ PySem.Str.ofString "." := rfl
  clear_value cenv
  refine .holding (.bind (c_enterFrame W S (by show A.depth + 1 < 1000; have := G.depth; omega) ?_))
  refine .bind (.onRaise ?_)
  refine .bind (c_loadClsGlob W S HC .head D (by kernel_rfl) (by decide +kernel) rfl hn ?_)
  refine .bind (c_storeCls S HC .head D (.inl (by kernel_rfl)) fun h o1 S D => ?_)
  refine .bind (.mkText fun tq => .bind (c_storeCls S HC .head D (.inr ⟨by kernel_rfl, by decide +kernel⟩) fun h o2 S D => ?_))
  refine .bind (.mkInt fun ti => .bind (c_storeCls S HC .head D (.inr ⟨by kernel_rfl, by decide +kernel⟩) fun h o3 S D => ?_))
  refine .pure ?_
  refine .bind (r_runBody rfl rfl ?_)
  have hlc : cenv.cells.lookup (Str.ofString "mycmp") = some cm := by rw [HC.cells]; kln_le
  refine r_execs_cons (r_clsAssign (r_str fun tm => ⟨_, _, _, _, S, D, fun h o4 S D => flN ?_⟩) HC (by kernel_rfl) (by rfl))
  refine r_execs_cons (r_clsAssign (b₀ := b₀) (h₀ := h₀) (fs := (L, "frame", fun _ => none) :: fs) ?_ HC (by kernel_rfl) (by rfl))
  refine r_List ?_
  repeat' isplit
  obtain ⟨b4, S, st4, el⟩ := S.out .head
  refine ⟨_, _, _, _, S, D, fun h o5 S D => flN ?_⟩
  have Ck := Ck.keeps st4
  have ht : TriplesOk (#[] : Array Value).toList := trivial
  have hnf : ∀ p : Pos, 0 < p.line → codeAmong p (#[] : Array Value).toList = none := fun _ _ => rfl
  refine r_execs_cons (r_clsDef W hn S HC D hcc Ck ht hnf (by decide) (CL.closure (.loc (.loc .nil))) (by kernel_rfl) rfl rfl (fun f5 b5 h oN cv5 ct5 _ S s5 D e5 r5 ht hnf => flN ?_) rfl (by intro _; rfl))
  have Ck := Ck.keeps s5
  refine r_execs_cons (r_clsDef W hn S HC D hcc Ck ht hnf (by decide) (CL.closure (.loc (.loc (.free hlc .nil)))) (by kernel_rfl) rfl rfl (fun f6 b6 h oN cv6 ct6 _ S s6 D e6 r6 ht hnf => flN ?_) rfl (by intro _; rfl))
  have Ck := Ck.keeps s6
  refine r_execs_cons (r_clsDef W hn S HC D hcc Ck ht hnf (by decide) (CL.closure (.loc (.loc (.free hlc .nil)))) (by kernel_rfl) rfl rfl (fun f7 b7 h oN cv7 ct7 _ S s7 D e7 r7 ht hnf => flN ?_) rfl (by intro _; rfl))
  have Ck := Ck.keeps s7
  refine r_execs_cons (r_clsDef W hn S HC D hcc Ck ht hnf (by decide) (CL.closure (.loc (.loc (.free hlc .nil)))) (by kernel_rfl) rfl rfl (fun f8 b8 h oN cv8 ct8 _ S s8 D e8 r8 ht hnf => flN ?_) rfl (by intro _; rfl))
  have Ck := Ck.keeps s8
  refine r_execs_cons (r_clsDef W hn S HC D hcc Ck ht hnf (by decide) (CL.closure (.loc (.loc (.free hlc .nil)))) (by kernel_rfl) rfl rfl (fun f9 b9 h oN cv9 ct9 _ S s9 D e9 r9 ht hnf => flN ?_) rfl (by intro _; rfl))
  have Ck := Ck.keeps s9
  refine r_execs_cons (r_clsDef W hn S HC D hcc Ck ht hnf (by decide) (CL.closure (.loc (.loc (.free hlc .nil)))) (by kernel_rfl) rfl rfl (fun f10 b10 h oN cv10 ct10 _ S s10 D e10 r10 ht hnf => flN ?_) rfl (by intro _; rfl))
  have Ck := Ck.keeps s10
  refine r_execs_cons (r_clsAssign (r_none ⟨_, _, _, _, S, D, fun h o11 S D => flN ?_⟩) HC (by kernel_rfl) (by rfl))
  refine r_execs_nil ?_
  refine .bind (.onRaise ?_)
  refine .bind (c_mkStrs fun vs => .bind (c_newTextTuple S fun sa b12 h S s12 esa => ?_))
  refine .bind (c_storeCls S HC .head D (.inr ⟨by kernel_rfl, by decide +kernel⟩) fun h o12 S D => .pure ?_)
  refine w_no (by decide) ?_
  have up10 : b10.StaysIn b12 := s12
  have up9 : b9.StaysIn b12 := fun _ _ e => up10 _ _ (s10 _ _ e)
  have up8 : b8.StaysIn b12 := fun _ _ e => up9 _ _ (s9 _ _ e)
  have up7 : b7.StaysIn b12 := fun _ _ e => up8 _ _ (s8 _ _ e)
  have up6 : b6.StaysIn b12 := fun _ _ e => up7 _ _ (s7 _ _ e)
  have up5 : b5.StaysIn b12 := fun _ _ e => up6 _ _ (s6 _ _ e)
  have up4 : b4.StaysIn b12 := fun _ _ e => up5 _ _ (s5 _ _ e)
  have up3 : b3.StaysIn b12 := fun _ _ e => up4 _ _ (st4 _ _ e)
  have up2 : b2.StaysIn b12 := fun _ _ e => up3 _ _ (st3 _ _ e)
  have up1 : b1.StaysIn b12 := fun _ _ e => up2 _ _ (st2 _ _ e)
  have D' := D
  obtain ⟨es, nE, rfl, d⟩ := D
  refine .bind (c_makeClass (c_callB mt_plainN mt_entryN (mt_checkN _ _ _) (c_typeNew (tq := tq) S (up2 _ _ eT) .head d big (by rw [d.len]; exact Nat.le_of_ble_eq_true (by kernel_rfl)) (by kernel_rfl) (up4 _ _ el) (by kernel_rfl) (by kernel_rfl) (by kernel_rfl) (by kernel_rfl) (by kernel_rfl) (by kernel_rfl) (by kernel_rfl) (by kernel_rfl) (by kernel_rfl) (by kernel_rfl) (by kernel_rfl) (by kernel_rfl) ?hv rfl W (st_any _) fun C N1 dc bF h oC oN td nz S sF eC hcC hdC hsC eN DN edc => ?_)) (by kernel_rfl))
  case hv =>
    exact vk_put (vk_put (vk_put (vk_put (vk_put (vk_put (vk_put (vk_put (vk_put (vk_put (vk_put (vk_put (vk_put (fun _ z => nomatch z) (vk_str)) (vk_str)) (vk_int)) (vk_str)) (vk_ref (up4 _ _ el) rfl ty_list)) (vk_ref (up5 _ _ e5) rfl ty_fn)) (vk_ref (up6 _ _ e6) rfl ty_fn)) (vk_ref (up7 _ _ e7) rfl ty_fn)) (vk_ref (up8 _ _ e8) rfl ty_fn)) (vk_ref (up9 _ _ e9) rfl ty_fn)) (vk_ref (up10 _ _ e10) rfl ty_fn)) vk_none) (vk_ref esa rfl ty_tuple)
  refine ⟨_, rfl, C, oC, rfl, S.atB eC, hcC, ?_⟩
  refine .pure ?_
  refine .bind (m := decorate _ _) (.pure ?_)
  refine .bind (.standAt (.bind (.bindName ?_)))
  refine n_store S H (by kln_le) fun h S => .pure ?_
  repeat' isplit
  have hq5 : qualnameIn cenv (Str.ofString "__init__") (Str.ofString "__init__") = Str.ofString "cmp_to_key.<locals>.K." ++ Str.ofString "__init__" := by
    unfold qualnameIn
    rw [HC.look (k := some .local) (by kernel_rfl), hcq]
    decide +kernel
  have hq8 : qualnameIn cenv (Str.ofString "__eq__") (Str.ofString "__eq__") = Str.ofString "cmp_to_key.<locals>.K." ++ Str.ofString "__eq__" := by
    unfold qualnameIn
    rw [HC.look (k := some .local) (by kernel_rfl), hcq]
    decide +kernel
  rw [hq5] at e5 r5
  rw [hq8] at e8 r8
  rw [show Str.ofString "cmp_to_key.<locals>.K." ++ Str.ofString "__init__" = PySem.Str.ofString "cmp_to_key.<locals>.K.__init__" by decide +kernel] at r5
  rw [show Str.ofString "cmp_to_key.<locals>.K." ++ Str.ofString "__eq__" = PySem.Str.ofString "cmp_to_key.<locals>.K.__eq__" by decide +kernel] at r8
  refine q C bF h _ S.dropN.dropN.dropF (fun _ _ e => sF _ _ (up1 _ _ (st1 _ _ e))) ⟨N1, dc, cm, f5, f8, oC, oN, _, td, nz, cv5, ct5, cv8, ct8, (some (Value.str xn tn)).getD .none, eC, hcC, hdC, hsC, eN, DN, by kernel_rfl, by kernel_rfl, by kernel_rfl, ?_, edc, sF _ _ (up1 _ _ ecm), ?_, (r5.keeps up5).keeps sF, ?_, (r8.keeps up8).keeps sF⟩
  · intro x hx
    simp only [List.mem_cons, List.not_mem_nil, or_false] at hx
    rcases hx with rfl | rfl | rfl | rfl | rfl | rfl | rfl | rfl | rfl | rfl | rfl | rfl | rfl <;> kernel_rfl
  · exact (sF _ _ (up5 _ _ e5)).trans (congrArg some (by kernel_rfl))
  · exact (sF _ _ (up8 _ _ e8)).trans (congrArg some (by kernel_rfl))

section
/-! the class at rest, told as a written part with unknown addresses -/
structure KFacts (K : Frag) (C dc fI fE : Addr) : Prop where
  cls : isClsIn K C = true
  makes : makesIn K C = true
  init : findIn K (.ref C) "__init__" = some (some (.ref fI))
  fnI : typeIn K (.ref fI) = some (.type "function")
  eq : findIn K (.ref C) "__eq__" = some (some (.ref fE))
  fnE : typeIn K (.ref fE) = some (.type "function")
  get : plainGet K C "obj" = true
  seta : findIn K (.ref C) "__setattr__" = some (some (.builtin "object.__setattr__"))
  over : plainOver K C = true
  obj : findIn K (.ref C) "obj" = some (some (.ref dc))
  dcT : typeIn K (.ref dc) = some (.type "member_descriptor")
  dcG : specialIn K (.ref dc) "__get__" = some (some (.builtin "member_descriptor.__get__"))
  dcS : takesIn K (.ref dc) = some true
  slot : slotIn K dc C = some 0
theorem in_nil {h : Heap} : Frag.In [] h := fun _ _ e => nomatch e
theorem in_cons {K : Frag} {h : Heap} {a : Addr} {o : Obj} (e : h.get? a = some o) (X : K.In h) : Frag.In ((a, o) :: K) h := fun x ox ex => by
  rw [List.lookup_cons] at ex
  by_cases hx : x = a
  · subst hx
    rw [beq_self_eq_true] at ex
    cases ex
    exact e
  · rw [beq_eq_false_iff_ne.mpr hx] at ex
    exact X x ox ex
theorem lk_here {K : Frag} {a : Addr} {o : Obj} : List.lookup a ((a, o) :: K) = some o := by rw [List.lookup_cons, beq_self_eq_true]
theorem lk_past {K : Frag} {a x : Addr} {o : Obj} {r : Option Obj} (n : x ≠ a) (e : List.lookup x K = r) : List.lookup x ((a, o) :: K) = r := by rw [List.lookup_cons, beq_eq_false_iff_ne.mpr n]; exact e
theorem ne_cls {b : Heap} {x y : Addr} {ox oy : Obj} (ex : b.get? x = some ox) (ey : b.get? y = some oy) (n : ox.cls ≠ oy.cls) : x ≠ y := fun e => by
  subst e
  rw [ex] at ey
  cases ey
  exact n rfl
theorem ns_of {K : Frag} {N1 : Addr} {oN : Obj} {kvs : List (Str × Value)} {x : Str} (e : K.lookup N1 = some oN) (D : NsD oN kvs) : nsIn K N1 x = some (getN kvs x) := by
  obtain ⟨es, n, rfl, d⟩ := D
  obtain ⟨r, e1, e2⟩ := nameIn_of (x := x) (saw := false) d
  have hf := nsNameIn_fst x es.toArray
  rw [show es.toArray.toList = es from rfl, e1] at hf
  unfold nsIn
  rw [e]
  show (match es.toArray.toList.find? (·.key.isStr x) with
      | some e => some (some e.val)
      | none => if es.toArray.toList.any (·.refKey) then none else some none) = _
  rw [show es.toArray.toList = es from rfl]
  have hf' : es.find? (fun e => e.key.isStr x) = r := by
    have : es.toArray.find? (fun e => e.key.isStr x) = es.find? (fun e => e.key.isStr x) := by rw [← Array.find?_toList]
    rw [← this]; exact hf.symm
  rw [hf', ← e2]
  cases r with
  | some en => rfl
  | none =>
    have hno : es.any (·.refKey) = false := by
      rw [List.any_eq_false]
      intro en hen
      obtain ⟨kv, _, k⟩ := d.mem hen
      rw [(key_isStr (x := x) k).2]
      decide
    show (if es.any (·.refKey) = true then none else some none) = some none
    rw [hno]; rfl
theorem own_of {K : Frag} {C N1 : Addr} {oC oN : Obj} {cd : ClassData} {kvs : List (Str × Value)} {x : Str} {r : Option Value} (eC : K.lookup C = some oC) (hd : oC.data = .cls cd) (hm : cd.mro = [.ref C, .type "object"]) (hn : cd.ns = N1) (eN : K.lookup N1 = some oN) (D : NsD oN kvs) (hb : fastBuiltinOwn "object" x = r) :
    findIn K (.ref C) x = some ((getN kvs x).or r) := by
  obtain ⟨oc, od, dt, sl⟩ := oC
  obtain rfl : dt = _ := hd
  have h1 : ownIn K x (.ref C) = some (getN kvs x) := by
    show (match K.lookup C with
      | some ⟨_, _, .cls cd, _⟩ => nsIn K cd.ns x
      | _ => none) = _
    rw [eC]
    dsimp only
    rw [hn]
    exact ns_of eN D
  show (match K.lookup C with
      | some ⟨_, _, .cls cd, _⟩ => alongIn K x cd.mro
      | _ => none) = _
  rw [eC]
  dsimp only
  rw [hm]
  show (match ownIn K x (.ref C) with
    | some (some v) => some (some v)
    | some none => alongIn K x [.type "object"]
    | none => none) = _
  rw [h1]
  cases hk : getN kvs x with
  | some v => rfl
  | none =>
    show (match some (fastBuiltinOwn "object" x) with
      | some (some v) => some (some v)
      | some none => alongIn K x []
      | none => none) = _
    rw [hb]
    cases r <;> rfl
theorem ty_of {K : Frag} {a : Addr} {o : Obj} (e : K.lookup a = some o) : typeIn K (.ref a) = some o.cls := by
  show (K.lookup a).map (·.cls) = _
  rw [e]; rfl
theorem clsK_facts {P : Params} {b : Heap} {C : Addr} {f : Value} (X : ClsK P b C f) : ∃ K dc fI fE cm cvI ctI cvE ctE pm, K.In b ∧ KFacts K C dc fI fE ∧ b.get? cm = some { cls := .type "cell", data := .cell (some f) } ∧
    b.get? fI = some (clsFn P 2 [] ctI cvI pm) ∧ b.CodeRec cvI (PySem.Str.ofString "cmp_to_key.<locals>.K.__init__") ∧
    b.get? fE = some (clsFn P 5 [(PySem.Str.ofString "mycmp", cm)] ctE cvE pm) ∧ b.CodeRec cvE (PySem.Str.ofString "cmp_to_key.<locals>.K.__eq__") := by
  obtain ⟨⟨N1, dc, cm, fI, fE, oC, oN, kvs, td, nz, cvI, ctI, cvE, ctE, pm, eC, hcC, hdC, hsC, eN, D, hi, he, ho, hno, edc, ecm, eI, rI, eE, rE⟩⟩ := X
  have cI : (clsFn P 2 [] ctI cvI pm).cls = .type "function" := by kernel_rfl
  have cE : (clsFn P 5 [(PySem.Str.ofString "mycmp", cm)] ctE cvE pm).cls = .type "function" := by kernel_rfl
  have cN := D.nf.1
  generalize hoI : clsFn P 2 [] ctI cvI pm = oI at *
  generalize hoE : clsFn P 5 [(PySem.Str.ofString "mycmp", cm)] ctE cvE pm = oE at *
  have n1 : N1 ≠ C := ne_cls eN eC (by rw [cN, hcC]; decide)
  have n2 : dc ≠ C := ne_cls edc eC (by rw [hcC]; exact (by decide : Value.type "member_descriptor" ≠ Value.type "type"))
  have n3 : dc ≠ N1 := ne_cls edc eN (by rw [cN]; exact (by decide : Value.type "member_descriptor" ≠ Value.type "dict"))
  have n4 : fI ≠ C := ne_cls eI eC (by rw [cI, hcC]; decide)
  have n5 : fI ≠ N1 := ne_cls eI eN (by rw [cI, cN]; decide)
  have n6 : fI ≠ dc := ne_cls eI edc (by rw [cI]; exact (by decide : Value.type "function" ≠ Value.type "member_descriptor"))
  have n7 : fE ≠ C := ne_cls eE eC (by rw [cE, hcC]; decide)
  have n8 : fE ≠ N1 := ne_cls eE eN (by rw [cE, cN]; decide)
  have n9 : fE ≠ dc := ne_cls eE edc (by rw [cE]; exact (by decide : Value.type "function" ≠ Value.type "member_descriptor"))
  refine ⟨[(C, oC), (N1, oN), (dc, { cls := .type "member_descriptor", data := .fields [.str (PySem.Str.ofString "obj") td, .ref C, .builtin "proto.slot", .builtin "proto.slot#set", .int 0 nz].toArray }), (fI, oI), (fE, oE)], dc, fI, fE, cm, cvI, ctI, cvE, ctE, pm, in_cons eC (in_cons eN (in_cons edc (in_cons eI (in_cons eE in_nil)))), ?_, ecm, by rw [eI, hoI], rI, by rw [eE, hoE], rE⟩
  generalize hK : ([(C, oC), (N1, oN), (dc, { cls := .type "member_descriptor", data := .fields [.str (PySem.Str.ofString "obj") td, .ref C, .builtin "proto.slot", .builtin "proto.slot#set", .int 0 nz].toArray }), (fI, oI), (fE, oE)] : Frag) = K
  have lC : K.lookup C = some oC := by rw [← hK]; exact lk_here
  have lN : K.lookup N1 = some oN := by rw [← hK]; exact lk_past n1 lk_here
  have lD : K.lookup dc = some { cls := .type "member_descriptor", data := .fields [.str (PySem.Str.ofString "obj") td, .ref C, .builtin "proto.slot", .builtin "proto.slot#set", .int 0 nz].toArray } := by rw [← hK]; exact lk_past n2 (lk_past n3 lk_here)
  have lI : K.lookup fI = some oI := by rw [← hK]; exact lk_past n4 (lk_past n5 (lk_past n6 lk_here))
  have lE : ∃ oe, K.lookup fE = some oe ∧ oe.cls = .type "function" := by
    by_cases q : fE = fI
    · exact ⟨oI, by rw [q]; exact lI, cI⟩
    · exact ⟨oE, by rw [← hK]; exact lk_past n7 (lk_past n8 (lk_past n9 (lk_past q lk_here))), cE⟩
  clear hK
  have find : ∀ {x : Str} (r : Option Value), fastBuiltinOwn "object" x = r → findIn K (.ref C) x = some ((getN kvs x).or r) := fun r hb => own_of lC hdC rfl rfl lN D hb
  have tD : typeIn K (.ref dc) = some (.type "member_descriptor") := ty_of lD
  have sp : ∀ {x : Str} {r : Option Value}, fastLookup "member_descriptor" x = some r → specialIn K (.ref dc) x = some r := fun e => by
    unfold specialIn
    rw [tD]
    exact e
  have dG : specialIn K (.ref dc) "__get__" = some (some (.builtin "member_descriptor.__get__")) := sp (by kernel_rfl)
  have dS : takesIn K (.ref dc) = some true := by
    unfold takesIn
    rw [sp (x := "__set__") (r := some (.builtin "member_descriptor.__set__")) (by kernel_rfl)]
  obtain ⟨oc, od, dt, sl⟩ := oC
  obtain rfl : dt = _ := hdC
  obtain rfl : oc = _ := hcC
  refine ⟨?_, ?_, ?_, ?_, ?_, ?_, ?_, ?_, ?_, ?_, tD, dG, dS, ?_⟩
  · unfold isClsIn clsIn; rw [lC]; rfl
  · unfold makesIn
    rw [lC]
    have h1 : specialIn K (.ref C) "__call__" = some (some (.builtin "type.__call__")) := by
      unfold specialIn
      rw [ty_of lC]
      show findIn K (.type "type") "__call__" = _
      kernel_rfl
    have h2 : instIn K (.ref C) (.type "type") = some true := by
      unfold instIn
      rw [ty_of lC]
      show subIn K (.type "type") (.type "type") = _
      kernel_rfl
    have h3 : (sl.toList[4]?).join = some (.builtin "object.__new__") := by rw [Array.getElem?_toList]; exact hsC
    dsimp only
    rw [h1, h2, h3]
    simp
  · rw [find (some (.builtin "object.__init__")) (by kernel_rfl), hi]; rfl
  · rw [ty_of lI, cI]
  · rw [find (some (.builtin "object.__eq__")) (by kernel_rfl), he]; rfl
  · obtain ⟨oe, l, ce⟩ := lE
    rw [ty_of l, ce]
  · unfold plainGet
    rw [find (some (.builtin "object.__getattribute__")) (by kernel_rfl), hno _ (by simp), find none (by kernel_rfl), hno _ (by simp)]
    rfl
  · rw [find (some (.builtin "object.__setattr__")) (by kernel_rfl), hno _ (by simp)]; rfl
  · unfold plainOver clsIn; rw [lC]; rfl
  · rw [find none (by kernel_rfl), ho]; rfl
  · unfold slotIn recIn clsIn
    rw [lD, lC]
    simp
end

section
open PySem.Builtin PySem.Builtin.ObjectAttr PySem.Builtin.Getset_descriptor
/-! instances of the class: made, read, compared -/
def keyObj (C dx : Addr) (sl : Array (Option Value)) : Obj := { cls := .ref C, dict := some dx, data := .plain, slots := sl }
def KeyD (b : Heap) (C : Addr) (v : Value) (x : Str) : Prop := ∃ a dx t, v = .ref a ∧ b.get? a = some (keyObj C dx #[some (.str x t)]) ∧ b.get? dx = some emptyDict
theorem KeyD.stays {b b' : Heap} {C : Addr} {v : Value} {x : Str} (h : KeyD b C v x) (s : b.StaysIn b') : KeyD b' C v x := let ⟨a, dx, t, e, g, g'⟩ := h; ⟨a, dx, t, e, s _ _ g, s _ _ g'⟩
theorem key_inst {h : Heap} {a C dx : Addr} {sl : Array (Option Value)} (e : h.get? a = some (keyObj C dx sl)) (ed : h.get? dx = some emptyDict) : InstAt h a (keyObj C dx sl) C (some emptyDict) := ⟨e, rfl, rfl, ed⟩
section
variable {prog : Program} {w : PySem.World} {A : Around} {R : Result → Shared → Prop} {s : Shared} {K : Frag} {x C : Addr} {E : Value → Shared → Prop}
theorem x_slotSet {ox : Obj} {od : Option Obj} {v : Value} {p i : Nat} (X : K.In s.heap) (I : InstAt s.heap x ox C od) (hp : slotIn K p C = some i) (hi : i < 1000)
    (h : R (.ok (.ret .none)) { s with heap := s.heap.update x (setSl i (some v)) }) : codeAny (model prog w) A (.call (.builtin "member_descriptor.__set__") ⟨[.ref p, .ref x, v], []⟩) R s := by
  obtain ⟨n, tn, owner, behind, tb, d, sl, cd, ho, hc, hm, hb, rfl⟩ := slot_of X hp
  obtain ⟨hh, g, dr, t, os⟩ := s
  have L0 := I.type (M := model prog w)
  have L1 := looks_mroIn (M := model prog w) X hm
  have L2 : Looks (model prog w) hh (Builtin.Slots.slotNamesOf (.ref C)) cd.slotNames := (looks_clsIn X hc).andThen .now
  have hx := I.at_
  dsimp only at ho hx L0 L1
  have f0 := looks_field (M := model prog w) ho 0 (v := .str n tn) rfl
  have f1 := looks_field (M := model prog w) ho 1 (v := owner) rfl
  have f3 := looks_field (M := model prog w) ho 3 (v := .builtin "proto.slot#set") rfl
  have f4 := looks_field (M := model prog w) ho 4 (v := .int behind tb) rfl
  refine codeAny_call_builtin KF.slot_mset.plain KF.entry_mset (KF.slot_mset.check _ _ _ _ _ _ _ _ ⟨_, ho, rfl⟩ (KF.args_mset _ _ _) ?_)
  unfold Builtin.«member_descriptor.__set__» descrSet descrStoreThrough descrCheckInstance descrNameAndClass isInstance
  have f5 : Looks (model prog w) hh (descrItself (.ref p)) [.ref p] := ((Looks.ld (part := none) ho).andThen .now).andThen (Looks.of_pure (by kernel_rfl))
  repeat lk
  refine ⟨Code.quiet_builtin _ (by decide +kernel), codeAny_builtin KF.entry_slotset ?_⟩
  unfold Builtin.«proto.slot#set» Builtin.Slots.target
  repeat lk
  rw [if_neg hb]
  refine wpAny_pure (wpAny_bind ?_)
  unfold setSlotAt
  dsimp only
  rw [if_neg (by rw [sizeLine_eq]; omega)]
  exact wpAny_updatePart hx (wpAny_pure h)
theorem x_cmpK {op : CmpOp} {Q : Value → Shared → Prop} {ox : Obj} {od : Option Obj} {b : Value} {f : Addr} (hu : A.units < cLine) (X : K.In s.heap) (I : InstAt s.heap x ox C od) (hb : Looks (model prog w) s.heap (typeOf b) (.ref C)) (hs : findIn K (.ref C) (cmpInfo op).2.1 = some (some (.ref f))) (hf : isFn K (.ref f) = true)
    (h : wpAny (model prog w) A (call (.ref f) [.ref x, b]) (PySem.W.CmpBack Q) E s) : wpAny (model prog w) A (richCompare op (.ref x) b) Q E s := by
  have one : wpAny (model prog w) A (tryCompare (.ref x) (cmpInfo op).2.1 b) (fun r s' => ∃ v, r = some v ∧ Q v s') E s := by
    unfold tryCompare
    refine wpAny_bind (ifBound_K X I hs hf (wpAny_mono h (fun v s' hv => ?_) fun _ _ e => e))
    cases v <;> first | exact hv.elim | exact wpAny_pure ⟨_, rfl, hv⟩
  unfold richCompare
  simp only [oneThing_ref]
  refine wpAny_holding (wpAny_bind (wpAny_cRoomFor hu ?_))
  refine wpAny_bind (I.type.here (wpAny_bind (hb.here ?_)))
  rw [if_neg (by simp)]
  refine wpAny_bind (wpAny_pure ?_)
  simp only [Bool.false_eq_true, if_false]
  refine wpAny_bind (wpAny_mono one (fun r s' z => ?_) fun _ _ e => e)
  obtain ⟨v, rfl, hq⟩ := z
  exact wpAny_pure hq
theorem x_getSlot {expr : Bool} {Q : Value → Shared → Prop} {ox od : Obj} {name : Str} {v : Value} {p i : Nat} (X : K.In s.heap) (I : InstAt s.heap x ox C (some od)) (hg : plainGet K C name = true) (hc : isClsIn K C = true)
    (ha : findIn K (.ref C) name = some (some (.ref p))) (hn : specialIn K (.ref p) "__get__" = some (some (.builtin "member_descriptor.__get__"))) (ht : takesIn K (.ref p) = some true) (hp : slotIn K p C = some i)
    (hv : (ox.slots[i]?).join = some v) (hh : handedIn v = true) (h : Q v { s with toks := s.toks + 1 }) : wpAny (model prog w) A (getAttr (.ref x) name expr) Q E s :=
  get_bind X I (plainGet_of hg).1 (findObj_data hc ha hn ht) (plainGet_of hg).2 (wpAny_call (slot_get (s := { s with toks := s.toks + 1 }) X I hp hv (handed_on hh h)))
end
end

section
section
variable {c : Cfg} {A : Around} {E : Value → Heap → Prop} {h : Heap} {env : Env} {b₀ h₀ b : Heap} {fs : List Fent} {N : List (Addr × Obj)} {g : Obj → List (Addr × Obj)} {K : Frag} {k : Nat} {a L : Addr} {m : Vars}
theorem callDefSC {o : Obj} {fd : FuncData} {args : List Value} {body : List Stmt} {binds : List (Str × Value)} {R : Result → Heap → Prop} (W : World K b₀) (S : Sit b₀ h₀ b fs N h) (G : Good A h k) (ho : h.get? a = some o) (hd : o.data = .func fd) (hcd : h.CodeRec fd.code fd.qualname)
    (x : ∀ L h₂ env, ¬ Born.old L → env = defE fd a L → env.frame = some L → EnvOk env L fd.scope.names (cellsFrom (L + 1) fd.scope.names fd.closure) → Ext h h₂ → Sit b₀ h₀ b ((L, "frame", fun _ => none) :: fs) (cellsN (L + 1) fd.scope.names N) h₂ →
      WP c A.in1 (storeAll env binds) (fun _ h₃ => Base b₀ h₃ ∧ WP c (A.deeper env) (execs body env) (fun f h' => R (.ok (.ret (retOf f))) h') (fun _ _ => False) h₃) (fun _ _ => False) h₂)
    (hbind : bindArgs fd ⟨args, []⟩ = pure binds := by rfl) (hbody : fd.body = .stmts body := by rfl)
    (hco : fd.scope.isCoroutine = false := by rfl) (hgen : fd.scope.isGenerator = false := by rfl) (hk : fd.scope.kind = .function := by rfl) (hg : fd.globals = mainGlobals := by rfl) (hb : fd.builtins = builtinsNs := by rfl) :
    CP c A (.call (.ref a) ⟨args, []⟩) R h := by
  intro tk
  refine codeAny_call_function (by show A.depth < 1000; have := G.depth; omega) ho hd hco hgen hbody hcd ?_
  rw [hbind]
  refine wpAny_pure ?_
  have := newEnv_ok (c := c) (A := A.in1) (E := fun _ _ => False) (binds := binds) (scope := fd.scope) (globals := fd.globals) (closure := fd.closure) (qual := fd.qualname ++ ".<locals>.") (func := some a) (code := fd.code) (around := none) (builtins := fd.builtins)
      (Q := fun env h₃ => Base b₀ h₃ ∧ WP c (A.deeper env) (execs body env) (fun f h' => R (.ok (.ret (retOf f))) h') (fun _ _ => False) h₃) S (fun L h' hL X S' => x L h' _ (fun z => by
        obtain ⟨o2, g2⟩ := G.old L z
        rw [hL, fresh_push] at g2
        cases g2) rfl rfl (defE_ok hk hg hb) X S')
  refine wpAny_mono (this tk) (fun env s q => ?_) fun _ _ q => ?_
  · obtain ⟨h₃, t₃, rfl, B₃, q⟩ := q
    refine ⟨W.nolimit.keeps B₃.stays, codeAny_func ?_⟩
    refine wpAny_mono (q t₃) (fun f s q => ?_) fun _ _ q => ?_
    · obtain ⟨h₄, t₄, rfl, q⟩ := q
      cases f <;> exact lift_mk q
    · obtain ⟨_, _, _, q⟩ := q; exact q.elim
  · obtain ⟨_, _, _, q⟩ := q; exact q.elim
theorem r_AssignAttr {o : Expr} {attr : Str} {pos' pos : Pos} {value : Expr} {Q : Flow → Heap → Prop} (x : WP c A (eval value env) (fun v h₁ => WP c A (eval o env) (fun ov h₂ => WP c A (setAttr ov attr v) (fun _ => Q .next) E h₂) E h₁) E h)
    (hs : swapsWith value (some (.Attribute o attr pos')) pos.line env = pure false) : WP c A (exec (.Assign [.Attribute o attr pos'] value pos) env) Q E h := fun tk => by
  refine plainObj_wpAny_Assign_Attribute (wpAny_mono (x tk) (fun v s q => ?_) fun _ _ e => e) hs
  obtain ⟨h₁, t₁, rfl, q⟩ := q
  refine wpAny_mono (q t₁) (fun v s q => ?_) fun _ _ e => e
  obtain ⟨h₂, t₂, rfl, q⟩ := q
  refine wpAny_mono (q t₂) (fun v s q => ?_) fun _ _ e => e
  obtain ⟨h₃, t₃, rfl, q⟩ := q
  exact lift_mk q
theorem r_AttrName {n attr : Str} {np pos : Pos} {Q : Value → Heap → Prop} (x : WP c A (eval (.Name n np) env) (fun o h₁ => WP c A (getAttr o attr true) Q E h₁) E h) : WP c A (eval (.Attribute (.Name n np) attr pos) env) Q E h := fun tk => by
  refine Attribute_name (wpAny_mono (x tk) (fun v s q => ?_) fun _ _ e => e)
  obtain ⟨h₁, t₁, rfl, q⟩ := q
  exact q t₁
variable {C dc fI fE x : Addr} {ox : Obj} {od : Option Obj}
theorem c_setKey {v : Value} {Q : Unit → Heap → Prop} (F : KFacts K C dc fI fE) (X : K.In h) (I : InstAt h x ox C od) (q : Q () (h.update x (setSl 0 (some v)))) : WP c A (setAttr (.ref x) "obj" v) Q E h := fun tk => by
  have ht : takerIn K C "obj" = some (some (.ref dc)) := by
    unfold takerIn
    rw [F.obj, Option.bind_some]
    dsimp only
    rw [F.dcS]
    rfl
  exact set_plain (s := c.st h tk) X I F.seta (osa_descr (s := c.st h (tk + 1)) KF.slot_mset X I F.over ht F.dcT (x_slotSet (s := c.st h (tk + 1)) X I F.slot (by decide) (lift_mk q)))
theorem c_getKey {v : Value} {expr : Bool} {o' : Obj} {Q : Value → Heap → Prop} (F : KFacts K C dc fI fE) (X : K.In h) (I : InstAt h x ox C (some o')) (hv : (ox.slots[0]?).join = some v) (hh : handedIn v = true) (q : Q v h) : WP c A (getAttr (.ref x) "obj" expr) Q E h := fun tk =>
  x_getSlot (s := c.st h tk) X I F.get F.cls F.obj F.dcG F.dcS F.slot hv hh (lift_mk q)
end
end

section
theorem under_call (A : Around) (C : Addr) (l : List Value) : (A.under (.builtin "type.__call__" ⟨.ref C :: l, []⟩)).depth = A.depth + 1 ∧ (A.under (.builtin "type.__call__" ⟨.ref C :: l, []⟩)).units = A.units + 1 ∧
   (A.under (.builtin "type.__call__" ⟨.ref C :: l, []⟩)).handled = A.handled ∧ (A.under (.builtin "type.__call__" ⟨.ref C :: l, []⟩)).frames = A.frames := ⟨rfl, rfl, rfl, rfl⟩
theorem Good.call {A : Around} {h : Heap} {k : Nat} (G : Good A h (k + 1)) (C : Addr) (l : List Value) : Good (A.under (.builtin "type.__call__" ⟨.ref C :: l, []⟩)) h k := by
  obtain ⟨e1, e2, e3, e4⟩ := under_call A C l
  exact ⟨e3.trans G.hd, by have := G.depth; rw [e1]; omega, by have := G.units; rw [e2]; omega, by rw [e4]; exact G.frames, G.mb, G.old⟩
set_option maxHeartbeats 2000000 in
theorem makekey_ok {c : Cfg} {A A₀ : Around} {k₀ : Nat} {b₀ h₀ b h : Heap} {fs : List Fent} {N : List (Addr × Obj)} {E : Value → Heap → Prop} {Q : Value → Heap → Prop} {C : Addr} {f : Value} {x : Str} {t : Tok} (W : Wd c b₀) (G₀ : Good A₀ h₀ k₀) (S : Sit b₀ h₀ b fs N h) (G : Good A h 10) (X : ClsK c.w.params b C f)
    (q : ∀ v b' h', Sit b₀ h₀ b' fs N h' → b.StaysIn b' → KeyD b' C v x → Q v h') : WP c A (call (.ref C) [.str x t]) Q E h := by
  obtain ⟨K, dc, fI, fE, cm, cvI, ctI, cvE, ctE, pm, KI, F, ecm, eI, rI, eE, rE⟩ := clsK_facts X
  have KIh : K.In h := fun a o e => S.atB (KI a o e)
  refine r_callRef fun tk => ?_
  refine make_core (makes_of KIh F.makes) (looks_findIn KIh F.init) (fun self => bind_fn KIh self F.fnI) (.inl rfl) ?_
  obtain ⟨b1, S1, st1, e1⟩ := S.pushB (o := emptyDict) rfl (by show Value.type "dict" ≠ _; decide)
  have S2 := S1.pushN (o := instObj C h.objs.size) rfl (by show Value.ref C ≠ _; simp)
  have sz : (h.push emptyDict).objs.size = h.objs.size + 1 := Heap.size_push _ _
  rw [sz] at S2
  have hE : Ext h ((h.push emptyDict).push (instObj C h.objs.size)) := (Ext.push _ _).trans (Ext.push _ _)
  generalize hdx : h.objs.size = dx at *
  have KI1 : K.In b1 := fun a o e => st1 _ _ (KI a o e)
  have G1 : Good A ((h.push emptyDict).push (instObj C dx)) 10 := G.ext hE
  have G2 := G1.call C [.str x t]
  have key := callDefSC (c := c) (A := A.under (.builtin "type.__call__" ⟨.ref C :: [.str x t], []⟩)) (h := (h.push emptyDict).push (instObj C dx)) (R := fun r h' => match r with | .ok (.ret v) => v = .none ∧ Q (.ref (dx + 1)) h' | _ => False) (binds := [("self", .ref (dx + 1)), ("obj", .str x t)]) (args := [.ref (dx + 1), .str x t]) W S2 G2 (S2.atB (st1 _ _ eI)) rfl ((rI.keeps st1).keeps fun a o e => S2.atB e) (fun L h' env hL he hf H X' S => ?x)
  case x =>

    dsimp only [fnData] at H
    replace H : EnvOk env L _ [] := H
    replace S : Sit b₀ h₀ b1 ((L, "frame", fun _ => none) :: fs) ((dx + 1, instObj C dx) :: N) h' := S
    clear he
    repeat' isplit
    refine r_AssignAttr ?_ (by rfl)
    repeat' isplit
    have KI' : K.In h := fun a o e => S.atB (KI1 a o e)
    refine c_setKey (od := some emptyDict) F KI' (key_inst (sl := #[]) (S.atN .head) (S.atB e1)) ?_
    have e2 : setSl 0 (some (Value.str x t)) (instObj C dx) = keyObj C dx #[some (.str x t)] := by rfl
    have S3 := S.rep .head (Heap.SameBut.update _ _ _) (o' := keyObj C dx #[some (.str x t)]) (by rw [← e2]; exact Heap.get?_update_self _ (S.atN .head) (by rw [e2]; rfl)) (by show Value.ref C ≠ _; simp)
    obtain ⟨b4, S4, st4, e4⟩ := S3.out .head
    repeat' isplit
    refine ⟨rfl, q _ b4 _ S4.dropF (fun _ _ e => st4 _ _ (st1 _ _ e)) ⟨_, dx, t, rfl, e4, st4 _ _ e1⟩⟩
  exact codeAny_mono (key tk) fun r s q => by
    obtain ⟨h', t', rfl, q⟩ := q
    rcases r with e | (v | _ | _ | _) <;> first | exact q.elim | exact ⟨q.1, lift_mk q.2⟩
end

section
structure FnG (c : Cfg) (b : Heap) (k : Nat) (f : Value) (p q : Str) (r : Bool) : Prop where
  fn : ∃ a o fd, f = .ref a ∧ b.get? a = some o ∧ o.data = .func fd
  gives : ∀ A b' h' t u, b.StaysIn b' → Base b' h' → Good A h' k → Gives c A b' h' f [.str p t, .str q u] [] (fun _ v => ∃ i t', v = .int i t' ∧ (i == 0) = r)
theorem FnG.stays {c : Cfg} {b b' : Heap} {k : Nat} {f : Value} {p q : Str} {r : Bool} (x : FnG c b k f p q r) (s : b.StaysIn b') : FnG c b' k f p q r :=
  ⟨let ⟨a, o, fd, e, g, d⟩ := x.fn; ⟨a, o, fd, e, s _ _ g, d⟩, fun A b1 h1 t u st => x.gives A b1 h1 t u fun _ _ e => st _ _ (s _ _ e)⟩
set_option maxHeartbeats 2000000 in
theorem key_eq {c : Cfg} {b : Heap} {C : Addr} {f x y : Value} {p q : Str} {r : Bool} {k : Nat} (W : Wd c b) (X : ClsK c.w.params b C f) (hx : KeyD b C x p) (hy : KeyD b C y q) (F : FnG c b k f p q r) (same : p = q → r = true) : EqG c b (k + 4) x y r := by
  intro A b' h' E st B G
  obtain ⟨ax, dx, tx, rfl, ex, edx⟩ := hx
  obtain ⟨ay, dy, ty, rfl, ey, edy⟩ := hy
  by_cases hs : ax = ay
  · subst hs
    rw [ex] at ey
    have hpq : p = q := by
      have := Option.some.inj ey
      simp only [keyObj, Obj.mk.injEq, Array.mk.injEq, List.cons.injEq, Option.some.injEq, Value.str.injEq] at this
      exact this.2.2.2.1.1
    rw [same hpq]
    exact EqG.same A b' h' E (fun _ _ e => e) B G
  obtain ⟨K, dc, fI, fE, cm, cvI, ctI, cvE, ctE, pm, KI, KF', ecm, eI, rI, eE, rE⟩ := clsK_facts (X : ClsK _ b _ _)
  obtain ⟨af, of, fdf, rfl, ef, df⟩ := F.fn
  have S := Sit.start B
  have W' := W.stays st
  have up : ∀ a o, b.get? a = some o → h'.get? a = some o := fun a o e => (B _ _ (st _ _ e)).1
  have KI' : K.In h' := fun a o e => up _ _ (KI a o e)
  unfold eqBool
  refine .holding ?_
  refine w_no (by simpa using hs) ?_
  refine .bind (m := richCompare .Eq (.ref ax) (.ref ay)) ?_
  have body : WP c A (call (.ref fE) [.ref ax, .ref ay]) (fun v h'' => v = .bool r ∧ ∃ b'', Grow b' h' b'' h'') (fun _ _ => False) h' := by
    refine callDefS (binds := [("self", .ref ax), ("other", .ref ay)]) W' S (G : Good A h' (k + 3 + 1)) (up _ _ eE) rfl (rE.keeps up) fun L h₂ env hL he hf H X' S => ?_
    dsimp only [fnData] at H
    replace H : EnvOk env L _ [(Str.ofString "mycmp", cm)] := H
    replace S : Sit b' h' b' [(L, "frame", fun _ => none)] [] h₂ := S
    clear he
    repeat' isplit
    have KI2 : K.In h := fun a o e => S.atB (st _ _ (KI a o e))
    refine n_freeB S H (by kln_le) (st _ _ ecm) (by kln_le) (by simp) (by simp) ?_
    repeat' isplit
    refine r_AttrName ?_
    repeat' isplit
    refine c_getKey (v := .str p tx) KF' KI2 (key_inst (S.atB (st _ _ ex)) (S.atB (st _ _ edx))) rfl rfl ?_
    repeat' isplit
    refine r_AttrName ?_
    repeat' isplit
    refine c_getKey (v := .str q ty) KF' KI2 (key_inst (S.atB (st _ _ ey)) (S.atB (st _ _ edy))) rfl rfl ?_
    repeat' isplit
    refine ⟨.inr ⟨af, of, fdf, rfl, S.atB (st _ _ ef), df⟩, ?_⟩
    refine use (F.gives _ b' h tx ty st S.bh ((Good.nowS (G.ext S.ext : Good A h (k + 3 + 1)) S hL (.head _) hf H.kind).le (by omega))) S fun v h b2 S st2 pv => ?_
    obtain ⟨i, t', rfl, hi⟩ := pv
    repeat' isplit
    exact ⟨by rw [hi]; rfl, b2, S.dropF⟩
  intro tk
  refine x_cmpK (s := c.st h' tk) (f := fE) G.c KI' (key_inst (up _ _ ex) (up _ _ edx)) ((key_inst (up _ _ ey) (up _ _ edy)).type) KF'.eq (beq_iff_eq.mpr KF'.fnE) ?_
  refine wpAny_mono (body tk) (fun v s q => ?_) fun _ _ q => ?_
  · obtain ⟨h₃, t₃, rfl, rfl, g⟩ := q
    refine lift_mk (c := c) (Q := fun v h => WP c A (truthOfDropped v) _ E h) ?_
    exact .pure ⟨rfl, g⟩
  · obtain ⟨_, _, _, q⟩ := q; exact q.elim
end

section
section
variable {c : Cfg} {A : Around} {E : Value → Heap → Prop} {h : Heap} {env : Env} {b₀ h₀ b : Heap} {fs : List Fent} {N : List (Addr × Obj)} {g : Obj → List (Addr × Obj)} {K : Frag} {k : Nat} {a L : Addr} {m : Vars}
/-- a lambda is called -/
theorem callExprS {o : Obj} {fd : FuncData} {args : List Value} {body : Expr} {binds : List (Str × Value)} {Q : Value → Heap → Prop} (W : World K b₀) (S : Sit b₀ h₀ b fs N h) (G : Good A h (k + 1)) (ho : h.get? a = some o) (hd : o.data = .func fd) (hcd : h.CodeRec fd.code fd.qualname)
    (x : ∀ L h₂ env, ¬ Born.old L → env = defE fd a L → env.frame = some L → EnvOk env L fd.scope.names (cellsFrom (L + 1) fd.scope.names fd.closure) → Ext h h₂ → Sit b₀ h₀ b ((L, "frame", fun _ => none) :: fs) (cellsN (L + 1) fd.scope.names N) h₂ →
      WP c A.in1 (storeAll env binds) (fun _ h₃ => Base b₀ h₃ ∧ WP c (A.deeper env) (eval body env) Q (fun _ _ => False) h₃) (fun _ _ => False) h₂)
    (hbind : bindArgs fd ⟨args, []⟩ = pure binds := by rfl) (hbody : fd.body = .expr body := by rfl)
    (hco : fd.scope.isCoroutine = false := by rfl) (hgen : fd.scope.isGenerator = false := by rfl) (hk : fd.scope.kind = .function := by rfl) (hg : fd.globals = mainGlobals := by rfl) (hb : fd.builtins = builtinsNs := by rfl) :
    WP c A (call (.ref a) args) Q E h := by
  refine r_callRef (fun tk => ?_)
  refine kla_callFunE (by show A.depth < 1000; have := G.depth; omega) ho hd hco hgen hbody hcd ?_
  rw [hbind]
  refine wpAny_pure ?_
  have := newEnv_ok (c := c) (A := A.in1) (E := fun _ _ => False) (binds := binds) (scope := fd.scope) (globals := fd.globals) (closure := fd.closure) (qual := fd.qualname ++ ".<locals>.") (func := some a) (code := fd.code) (around := none) (builtins := fd.builtins)
      (Q := fun env h₃ => Base b₀ h₃ ∧ WP c (A.deeper env) (eval body env) Q (fun _ _ => False) h₃) S (fun L h' hL X S' => x L h' _ (fun z => by
        obtain ⟨o2, g2⟩ := G.old L z
        rw [hL, fresh_push] at g2
        cases g2) rfl rfl (defE_ok hk hg hb) X S')
  refine wpAny_mono (this tk) (fun env s q => ?_) fun _ _ q => ?_
  · obtain ⟨h₃, t₃, rfl, B₃, q⟩ := q
    refine ⟨W.nolimit.keeps B₃.stays, kla_codeExpr ?_⟩
    refine wpAny_mono (q t₃) (fun f s q => q) fun _ _ q => ?_
    obtain ⟨_, _, _, q⟩ := q; exact q.elim
  · obtain ⟨_, _, _, q⟩ := q; exact q.elim
end
end

section
open PySem.Builtin PySem.Builtin.Range PySem.Builtin.Slice
section
variable {c : Cfg} {A : Around} {E : Value → Heap → Prop} {h : Heap} {env : Env} {b₀ h₀ b : Heap} {fs : List Fent} {N : List (Addr × Obj)} {g : Obj → List (Addr × Obj)} {K : Frag} {k : Nat} {a L : Addr} {m : Vars} {Q : Value → Heap → Prop} {n : Nat}
theorem c_abs {x : Int} {t : Tok} (q : ∀ t, Q (.int (if x < 0 then -x else x) t) h) : WP c A (call (.builtin "abs") [.int x t] []) Q E h := fun tk => call_abs_int fun u tk' => lift_mk (q u)
theorem bOp_isNotSelf (q : Q (.bool false) h) : WP c A (compareOp .IsNot (.ref a) (.ref a)) Q E h := fun tk => wpAny_isNot_ref_self (lift_mk q)
theorem g_listSliceI {vs : List Value} {vl vu st : Value} {lo hi sti : Option Int} (S : Sit b₀ h₀ b fs N h) (e : h.IsList a vs.toArray) (pl : IsPart vl lo) (pu : IsPart vu hi) (ps : IsPart st sti) (h0 : sti ≠ some 0) (hsz : vs.length ≤ sizeLine)
    (q : ∀ a h', Sit b₀ h₀ b fs ((a, lstObj (slicePick vs.toArray lo hi sti).toList 0) :: N) h' → Q (.ref a) h') : GetIt c A (.ref a) (.ref h.objs.size) Q E (h.push { cls := .type "slice", data := .fields #[vl, vu, st] }) := by
  have S' := S.ext' (Ext.push h { cls := .type "slice", data := .fields #[vl, vu, st] })
  obtain ⟨o, eo, hc, n, hd⟩ := e
  have e' := Heap.get?_push_of_some { cls := .type "slice", data := .fields #[vl, vu, st] } eo
  refine ⟨"list", _, list_getitem_lookup, ⟨_, e', hc⟩, fun tk => ?_⟩
  refine wpAny_getItem_list_slice ⟨o, e', hc, n, hd⟩ (Heap.IsSliceOf.new ..) pl pu ps h0 ?_ (by simpa using hsz)
  have := q _ _ (S'.pushN (o := lstObj (slicePick vs.toArray lo hi sti).toList 0) rfl (by show Value.type "list" ≠ _; decide))
  exact lift_mk (t := tk) this
theorem c_grown {i : Int} (hi : i.natAbs < 1000) (q : ∀ t, Q (.int i t) h) : WP c A (mkIntGrown i) Q E h := by
  unfold mkIntGrown
  refine w_no ?_ (.mkInt q)
  rw [bitsLine_eq]
  by_cases h0 : i.natAbs = 0
  · rw [h0]; decide +kernel
  · have : i.natAbs.log2 < 10 := (Nat.log2_lt h0).mpr (by omega)
    omega
theorem c_fieldP {o : Obj} {vs : Array Value} {i : Nat} {v : Value} (e : h.get? a = some o) (hd : o.data = .fields vs) (hi : vs[i]? = some v) (q : Q v h) : WP c A (field (.ref a) i) Q E h := fun tk => wpAny_field (s := c.st h tk) e hd hi (lift_mk q)
theorem c_rangeFields {x y z : Int} {t1 t2 t3 : Tok} {Q : Int × Int × Int → Heap → Prop} (e : h.get? a = some (rngObj x y z t1 t2 t3)) (q : Q (x, y, z) h) : WP c A (rangeFields (.ref a)) Q E h := by
  unfold rangeFields
  refine .bind (c_fieldP e rfl rfl ?_)
  refine .bind (.pure (.bind (c_fieldP e rfl rfl ?_)))
  refine .bind (.pure (.bind (c_fieldP e rfl rfl ?_)))
  exact .bind (.pure (.pure q))
theorem c_partNone {Q : Option Int → Heap → Prop} (q : Q none h) : WP c A (slicePartIndex .none) Q E h := by
  unfold slicePartIndex
  exact w_yes (by rfl) (.pure q)
theorem c_partInt {i : Int} {t : Tok} {Q : Option Int → Heap → Prop} (q : Q (some i) h) : WP c A (slicePartIndex (.int i t)) Q E h := by
  unfold slicePartIndex
  refine w_no (by simp) ?_
  refine .bind (m := specialOf (.int i t) "__index__") (.of_eq (a := some (.builtin "int.__index__")) (by kernel_rfl) ?_)
  refine w_no (by simp) ?_
  exact .bind (.of_eq (a := i) (by kernel_rfl) (.pure q))
theorem g_rangeSlice {t1 t2 t3 t : Tok} {step : Int} (S : Sit b₀ h₀ b fs N h) (e : b.get? a = some (rngObj 0 n 1 t1 t2 t3)) (hs : step = 1 ∨ step = -1) (hn : n ≤ 500)
    (q : ∀ r b' h' t1 t2 t3, Sit b₀ h₀ b' fs N h' → b.StaysIn b' → b'.get? r = some (if step = 1 then rngObj 0 n 1 t1 t2 t3 else rngObj ((n : Int) - 1) (-1) (-1) t1 t2 t3) → Q (.ref r) h') :
    GetIt c A (.ref a) (.ref h.objs.size) Q E (h.push { cls := .type "slice", data := .fields #[.none, .none, .int step t] }) := by
  obtain ⟨b1, S1, st1, e1⟩ := S.pushB (o := { cls := .type "slice", data := .fields #[.none, .none, .int step t] }) rfl (by show Value.type "slice" ≠ _; decide)
  have ea := S1.atB (st1 _ _ e)
  have es := S1.atB e1
  refine ⟨"range", _, F.slot_range_getitem.lookup, ⟨_, ea, rfl⟩, fun tk => ?_⟩
  refine wpAny_getItem_slot (s := c.st _ tk) ⟨_, ea, rfl⟩ (by decide) F.slot_range_getitem ?_
  refine wpAny_call_entry (s := c.st _ tk) F.slot_range_getitem ⟨_, ea, rfl⟩ F.entry_range_getitem ?_ (F.args_range_getitem_2 _ _)
  have key : ∀ A : Around, WP c A (Builtin.«range.__getitem__» ⟨[.ref a, .ref h.objs.size], []⟩) (fun fin h' => ∃ v, fin = .done (.ret v) ∧ Q v h') (fun _ _ => False) (h.push { cls := .type "slice", data := .fields #[.none, .none, .int step t] }) := by
    intro A
    unfold Builtin.«range.__getitem__»
    refine .bind (m := slotArgs _ _ _) (.pure ?_)
    refine .bind (c_rangeFields ea ?_)
    refine .bind (m := typeOf _) (fun tk => wpAny_typeOf (s := c.st _ tk) ⟨_, es, rfl⟩ (lift_mk ?_))
    refine w_yes (by rfl) ?_
    unfold sliceFields
    refine .bind (.bind (c_fieldP es rfl rfl ?_))
    refine .bind (c_fieldP es rfl rfl ?_)
    refine .bind (c_fieldP es rfl rfl (.pure ?_))
    refine .bind (c_partInt ?_)
    have hst : ¬ (((some step).getD 1 == 0) = true) := by rcases hs with rfl | rfl <;> decide
    refine w_no hst ?_
    refine .bind (c_partNone ?_)
    refine .bind (c_partNone ?_)
    have hadj : sliceAdjust none none ((some step).getD 1) (rangeSize 0 n 1) = if step = 1 then ((0 : Int), (n : Int)) else ((n : Int) - 1, (-1 : Int)) := by
      have hr : rangeSize 0 n 1 = n := by
        unfold rangeSize
        simp
        omega
      rw [hr]
      rcases hs with rfl | rfl <;> rfl
    rw [hadj]
    obtain ⟨lo, hi, hlh⟩ : ∃ lo hi : Int, (if step = 1 then ((0 : Int), (n : Int)) else ((n : Int) - 1, (-1 : Int))) = (lo, hi) := ⟨_, _, rfl⟩
    rw [hlh]
    have hb : lo.natAbs < 900 ∧ hi.natAbs < 900 := by
      rcases hs with rfl | rfl <;> simp at hlh <;> omega
    have hz : ((1 : Int) * (some step).getD 1).natAbs < 1073741824 := by rcases hs with rfl | rfl <;> decide
    refine .bind (fun tk => wpAny_roomForPylong (s := c.st _ tk) (.inl (PyProof.noPylong_small hz)) (lift_mk ?_))
    refine .bind (c_grown (by omega) fun u1 => ?_)
    refine .bind (c_grown (by omega) fun u2 => ?_)
    refine .bind (c_grown (by rcases hs with rfl | rfl <;> decide) fun u3 => ?_)
    refine .bind (c_newFields S1 (by simp) (by decide) fun d h' S2 => ?_)
    obtain ⟨b3, S3, st3, e3⟩ := S2.out .head
    refine .pure ⟨_, rfl, q d b3 h' u1 u2 u3 S3 (fun _ _ e => st3 _ _ (st1 _ _ e)) ?_⟩
    rw [e3]
    rcases hs with rfl | rfl
    · simp at hlh
      obtain ⟨rfl, rfl⟩ := hlh
      simp [rngObj]
    · simp at hlh
      obtain ⟨rfl, rfl⟩ := hlh
      simp [rngObj]
  refine wpAny_mono (key _ tk) (fun fin s z => ?_) fun _ _ z => ?_
  · obtain ⟨h', t', rfl, v, rfl, z⟩ := z
    exact ⟨v, rfl, lift_mk z⟩
  · obtain ⟨_, _, _, z⟩ := z
    exact z.elim
end
end

section
section
variable {c : Cfg} {A : Around} {E : Value → Heap → Prop} {h : Heap} {env : Env} {b₀ h₀ b : Heap} {fs : List Fent} {N : List (Addr × Obj)} {g : Obj → List (Addr × Obj)} {K : Frag} {k : Nat} {a L : Addr} {m : Vars} {Q : Value → Heap → Prop} {n : Nat}
theorem r_callWithM {pos : Pos} {f : Value} {first : List Value} {args : List (Bool × Sem Value)} (hplain : args.any (·.1) = false)
    (x : WP c A (evalArgs f true args []) (fun a h => WP c A (keeperOf f) (fun k h => k = .machine ∧ WP c A (call f (first ++ a.pos) a.kw) Q E h) E h) E h) : WP c A (callWith pos f first args []) Q E h := by
  unfold callWith
  refine .bind (.holding (x.monoQ fun a h y => .bind (.standAt ?_)))
  simp only [hplain, List.any_nil, Bool.or_false]
  refine .bind (y.monoQ fun k h z => ?_)
  obtain ⟨rfl, z⟩ := z
  exact callTail z
theorem r_CallM {x : Str} {npos pos : Pos} {args : List Expr}
    (y : WP c A (eval (.Name x npos) env) (fun f h => WP c A (spliced (backTo pos (starEach args env))) (fun vs h => WP c A (keeperOf f) (fun k h => k = .machine ∧ WP c A (call f vs []) Q E h) E h) E h) E h)
    (hp : (backTo pos (starEach args env)).any (·.1) = false) : WP c A (eval (.Call (.Name x npos) args [] pos) env) Q E h := by
  show WP c A (eval (.Name x npos) env >>= fun f => callWith pos f [] (backTo pos (starEach args env)) []) Q E h
  exact .bind (y.monoQ fun f h z => r_callWithM hp (r_evalArgs_pos (z.monoQ fun vs h q => q) hp))
theorem keeper_cls {C : Addr} {Q : Keeper → Heap → Prop} {dc fI fE : Addr} (F : KFacts K C dc fI fE) (X : K.In h) (q : Q .machine h) : WP c A (keeperOf (.ref C)) Q E h := by
  intro tk
  have Y := makes_of (M := c.M) X F.makes
  obtain ⟨oc, od, cd, sl, hC, _⟩ := Y.obj
  unfold keeperOf
  refine wpAny_bind (wpAny_load (s := c.st h tk) hC ?_)
  dsimp only
  refine wpAny_bind (Y.call.at ?_)
  first | exact wpAny_pure (lift_mk q) | (rw [if_pos (by simp)]; exact wpAny_pure (lift_mk q)) | (show wpAny _ _ (if _ then _ else _) _ _ _; rw [if_pos (by simp)]; exact wpAny_pure (lift_mk q))
end
end

noncomputable def lawBody (P : Params) : List Stmt := match (fdOf (KK P) 205).body with | .stmts b => b | _ => []
noncomputable def lawS (P : Params) (i : Nat) : Stmt := (lawBody P)[i]?.getD (.Pass ⟨0, 0, 0, 0⟩)
def lawNames : List (Str × NameKind) := [(Str.ofString "script", .local), (Str.ofString "texts", .local), (Str.ofString "folders", .local), (Str.ofString "rows", .local), (Str.ofString "ways", .cell), (Str.ofString "folder", .cell), (Str.ofString "behind", .cell), (Str.ofString "made", .cell), (Str.ofString "keys", .cell), (Str.ofString "kinds", .local), (Str.ofString "step", .local), (Str.ofString "told", .cell), (Str.ofString "due", .cell), (Str.ofString "seen", .local), (Str.ofString "k", .local), (Str.ofString "below", .cell), (Str.ofString "list", .globalImplicit), (Str.ofString "_deduplicate", .globalImplicit), (Str.ofString "reduce", .globalImplicit), (Str.ofString "_law_rows", .globalImplicit), (Str.ofString "_law_way", .globalImplicit), (Str.ofString "len", .globalImplicit), (Str.ofString "cmp_to_key", .globalImplicit), (Str.ofString "_law_kinds", .globalImplicit), (Str.ofString "_deduplicate_unhashable", .globalImplicit), (Str.ofString "range", .globalImplicit)]
def numOf (x : Int) : Nat := x.natAbs % 125
def lawT : List Str := ["/a/a", "/a/b", "/b/b", "/b/./a"]
def textsS (xs : List Int) : List Str := (xs.take 4).map (fun x => textOf (numOf x)) ++ lawT
theorem gb_abs (P : Params) : nsIn (KK P) mainGlobals (Str.ofString "abs") = some none ∧ bootBuiltins (Str.ofString "abs") = some (.builtin "abs") := ⟨by kernel_rfl, by kernel_rfl⟩
local macro_rules | `(tactic| k_places) => `(tactic| with_reducible first | exact gb_abs _ | fail "no")
theorem ints_get : ∀ {vs : List Value} {xs : List Int}, IntsAre vs xs → ∀ {i : Nat} {v : Value}, vs[i]? = some v → ∃ x t, v = .int x t ∧ xs[i]? = some x
  | _, _, .nil, _, _, e => by simp at e
  | _, _, .cons n t r, 0, v, e => by simp at e; exact ⟨n, t, e.symm, rfl⟩
  | _, _, .cons n t r, i + 1, v, e => by simp at e; obtain ⟨x, t, q, e'⟩ := ints_get r e; exact ⟨x, t, q, by simpa using e'⟩
theorem ints_len : ∀ {vs : List Value} {xs : List Int}, IntsAre vs xs → vs.length = xs.length
  | _, _, .nil => rfl
  | _, _, .cons n t r => by simp [ints_len r]
theorem num_fmod (x : Int) : (if x < 0 then -x else x).fmod 125 = ((numOf x : Nat) : Int) := by
  unfold numOf
  have : (if x < 0 then -x else x) = (x.natAbs : Int) := by split <;> omega
  rw [this, Int.fmod_eq_emod_of_nonneg _ (by decide)]
  omega
local macro_rules | `(tactic| isplit) => `(tactic| first
  | with_reducible (first
    | refine c_abs fun _ => ?_)
  | fail "no")
set_option maxHeartbeats 2000000 in
theorem seg0 {c : Cfg} {A : Around} {E : Value → Heap → Prop} {h : Heap} {env : Env} {b₀ h₀ b : Heap} {N : List (Addr × Obj)} {L l : Addr} {m : Vars} {cells : List (Str × Addr)} {vs : List Value} {xs : List Int} {Q : Flow → Heap → Prop}
    (W : Wd c b₀) (G : Good A h₀ 200) (S : Sit b₀ h₀ b [(L, "frame", m)] N h) (H : EnvOk env L lawNames cells) (hf : env.frame = some L) (hm : m (Str.ofString "script") = some (.ref l)) (hl : b.IsList l vs.toArray) (hi : IntsAre vs xs) (hsz : vs.length ≤ 63)
    (q : ∀ b' h' v, Sit b₀ h₀ b' [(L, "frame", upd m (Str.ofString "texts") v)] N h' → b.StaysIn b' → ListD DT.str b' v (textsS xs) → Q .next h') :
    WP c (A.deeper env) (exec (lawS c.w.params 0) env) Q E h := by
  dsimp only [lawNames] at H
  have hh : (A.deeper env).handled = none := G.hd
  refine r_Assign ?_ (by rfl)
  refine r_BinOp ?_
  have cn : CN env [(Str.ofString ".0", .local), (Str.ofString "x", .local), (Str.ofString "_law_text", .globalImplicit), (Str.ofString "abs", .globalImplicit)] [] []
        [(Str.ofString ".0", .local), (Str.ofString "x", .local), (Str.ofString "_law_text", .globalImplicit), (Str.ofString "abs", .globalImplicit)] :=
      .loc (.loc (.glob (.glob .nil)))
  refine r_ListComp H cn rfl (by decide +kernel) ?_
  repeat' isplit
  refine g_listSliceI (vs := vs) S (let ⟨o, e, r⟩ := hl; ⟨o, S.atB e, r⟩) .none (.int 4 _) .none (by decide) (by rw [sizeLine_eq]; omega) fun a4 h S => ?_
  obtain ⟨b1, S, st1, e4⟩ := S.out .head
  rw [show ((4 : Int)) = ((4 : Nat) : Int) from rfl, pick_take] at e4
  refine r_iterList S hh (lst_is e4) fun I2 o2 h It2 S j2 X2 => ?_
  have hvl := ints_len hi
  refine r_comp H cn rfl S X2 j2 (by rw [List.length_take]; omega) (fun k b' ws' N' => N' = N ∧ AllD (DT.str.D b') ws' ((xs.take k).map fun x => textOf (numOf x))) ⟨rfl, .nil⟩ ?turn ?done
  case turn =>
    rintro k v b2 ws kk m' N' h cenv Lc ac o2' Tv Th kv1 kh1 hk hv st2 ⟨rfl, hws⟩ hwl HC S
    rw [List.getElem?_take] at hv
    have hk4 : k < 4 := by rw [List.length_take] at hk; omega
    rw [if_pos hk4] at hv
    obtain ⟨x, t, rfl, ex⟩ := ints_get hi hv
    repeat' isplit
    rw [num_fmod]
    refine use0 (lawtext_ok (W.stays S.bb) S.bh ((Good.now G S (.tail _ (.head _)) hf H.kind).le (by decide)) (Nat.mod_lt _ (by decide))) S fun v h S p => ?_
    obtain ⟨t, rfl⟩ := p
    refine kv1 _ _ ?_
    refine ⟨b2, _, _, st2, ⟨rfl, ?_⟩, S⟩
    rw [List.take_add_one, ex, List.map_append]
    exact hws.app (.cons ⟨t, rfl⟩ .nil)
  case done =>
    rintro b2 ws kk N' h ac st2 ⟨rfl, hws⟩ S
    repeat' isplit
    obtain ⟨b3, S, st3, e3⟩ := S.out (.tail .head)
    obtain ⟨b4, S, st4, e4'⟩ := S.out .head
    have hwlen : ws.length ≤ 4 := by rw [hws.len, List.length_map, List.length_take, List.length_take]; omega
    refine bOp_addL S (S.atB (st4 _ _ e3)) (S.atB e4') (by rw [sizeLine_eq]; show ws.length + 4 ≤ _; omega) fun t2 h S => ?_
    obtain ⟨b5, S, st5, e5⟩ := S.out .head
    repeat' isplit
    refine q b5 _ _ S (fun _ _ e => st5 _ _ (st4 _ _ (st3 _ _ (st2 _ _ (st1 _ _ e))))) ⟨_, _, _, rfl, e5, ?_⟩
    have ht : xs.take (vs.take 4).length = xs.take 4 := by
      rw [List.length_take, hvl]
      rcases Nat.le_total 4 xs.length with hle | hle
      · rw [Nat.min_eq_left hle]
      · rw [Nat.min_eq_right hle, List.take_length, List.take_of_length_le hle]
    rw [ht] at hws
    unfold textsS
    exact (hws.mono fun _ _ q => q).app (.cons ⟨_, rfl⟩ (.cons ⟨_, rfl⟩ (.cons ⟨_, rfl⟩ (.cons ⟨_, rfl⟩ .nil))))

theorem reduce_okK {kk : Nat} {c : Cfg} {A : Around} {b h : Heap} {f init : Value} {sq : Addr} {vs : List Value} {n : Nat} (W : Wd c b) (B : Base b h) (G : Good A h (kk + 1)) (hF : FnIn b f) (hs : b.get? sq = some (lstObj vs n)) (Inv : Nat → Heap → Value → Prop)
    (stays : ∀ i b b' v, Inv i b v → b.StaysIn b' → Inv i b' v) (i0 : Inv 0 b init) (hm : (∃ x t, init = .str x t) ∨ ∃ a o, init = .ref a ∧ b.get? a = some o ∧ a ≠ 51 ∧ o.cls ≠ .type "tuple")
    (step : ∀ i v x b' h' A', vs[i]? = some x → b.StaysIn b' → Base b' h' → Inv i b' v → Good A' h' kk → Gives c A' b' h' f [v, x] [] (fun b'' v' => Inv (i + 1) b'' v')) :
    Gives c A b h (.ref 59) [f, .ref sq, init] [] (fun b' v => Inv vs.length b' v) := by
  intro E
  refine callKP (binds := [("function", f), ("sequence", .ref sq), ("initial", init)]) W B G rfl (by rfl) (fun S => by rfl) fun L h' env hf H S => ?_
  dsimp only at H
  have his : ∀ {A' : Around} {Q : Value → Heap → Prop} {E : Value → Heap → Prop} {h' : Heap}, Base b h' → Q (.bool false) h' → WP c A' (compareOp .Is init (.ref 51)) Q E h' := by
    intro A' Q E h' B' q
    rcases hm with ⟨x, t, rfl⟩ | ⟨a, o, rfl, e, n, hc⟩
    · exact bOp_isStr q
    · exact bOp_isRef (B'.stays _ _ e) (B'.stays _ _ (W.k _ _ (k51 _))) n hc q
  repeat' isplit
  refine c_iterList S (lst_is hs) fun I o h It S j X => ?_
  repeat' isplit
  refine his S.bh ?_
  repeat' isplit
  refine (X (A.deeper env) G.hd).self 0 _ _ _ _ S.bh (S.nw (I, o) (.head _)).1 j ?_
  refine r_forLoop (X (A.deeper env) G.hd) (fun i b fs N => N = [] ∧ ∃ m v, fs = [(L, "frame", m)] ∧ m (Str.ofString "value") = some v ∧ m (Str.ofString "function") = some f ∧ Inv i b v) ?turn ?done S (fun _ _ e => e) j ⟨rfl, _, _, rfl, by kpf_c, by kpf_c, i0⟩
  case turn =>
    rintro i x b₂ fs N h o' Tq kT hi hv st ⟨rfl, m, v, rfl, ev, ef, iv⟩ S
    repeat' isplit
    refine keepF hF S st ?_
    refine use (step i v x _ _ _ hv st S.bh iv ?_) S fun v' h' b' S st' iv' => ?_
    · exact Good.now G S (.head _) hf H.kind
    repeat' isplit
    exact ⟨_, _, _, fun a o e => st' _ _ (st _ _ e), ⟨rfl, _, _, rfl, by kpf_c, by kpf_c, iv'⟩, S⟩
  case done =>
    rintro b₂ fs N h st ⟨rfl, m, v, rfl, ev, ef, iv⟩ S
    repeat' isplit
    exact ⟨_, S.done, iv⟩
structure TextOk (t : Str) (w : List Str) : Prop where
  norm : NormOk t
  head : ∃ r, w = normS t :: r
  way : wayB w = true
  len : ∀ y ∈ w, y.length ≤ 1000
  few : w.length ≤ 20
local macro_rules | `(tactic| isplit) => `(tactic| first
  | with_reducible (first
    | refine' use0 (normpath_ok ?nW ?nB ?nG ?nx) ?nS ?_
      case nS => assumption
      case nW => mem_news
      case nB => nest_cls
      case nx => exact TextOk.norm (by assumption)
      case nG => units_room
      intro _ h S p
      k_dflt obtain ⟨_, rfl⟩ := p)
  | fail "no")
abbrev l1Args (p1 p2 : Pos) : Arguments := { posonlyargs := [], args := [{ arg := Str.ofString "have", annotation := none, pos := p1 }, { arg := Str.ofString "text", annotation := none, pos := p2 }], vararg := none, kwonlyargs := [], kw_defaults := [], kwarg := none, defaults := [] }
abbrev l1Body (p1 p2 p3 p4 p5 p6 p7 : Pos) : Expr := (Expr.Name (Str.ofString "have") p1).BinOp .Add ((Expr.Name (Str.ofString "_law_way") p2).Call [(Expr.Name (Str.ofString "normpath") p3).Call [Expr.Name (Str.ofString "text") p4] [] p5] [] p6) p7
abbrev l1Scope : Scope := { kind := .function, names := [(Str.ofString "have", .local), (Str.ofString "text", .local), (Str.ofString "_law_way", .globalImplicit), (Str.ofString "normpath", .globalImplicit)], isGenerator := false, isCoroutine := false }
set_option maxHeartbeats 2000000 in
theorem lam1_ok {c : Cfg} {A : Around} {b h : Heap} {f : Addr} {qual : Str} {cv ct pm v : Value} {xs w : List Str} {t : Str} {tk : Tok} {p1 p2 q1 q2 q3 q4 q5 q6 q7 : Pos} (W : Wd c b) (B : Base b h) (G : Good A h 80)
    (e : b.get? f = some (fnObj (Str.ofString "<lambda>") qual (l1Args p1 p2) (.expr (l1Body q1 q2 q3 q4 q5 q6 q7)) l1Scope [] ct cv pm)) (hr : b.CodeRec cv qual) (hv : TxtL b v xs) (hx : xs.length ≤ 500) (T : TextOk t w) :
    Gives c A b h (.ref f) [v, .str t tk] [] (fun b' r => TxtL b' r (xs ++ w)) := by
  intro E
  obtain ⟨a, vs, n, rfl, ea, hs⟩ := hv
  generalize hh₀ : h = h₀ at *
  refine callExprS (binds := [("have", .ref a), ("text", .str t tk)]) W (Sit.start B) G (B.stays _ _ e) rfl (hr.keeps B.stays) fun L h' env hL he hf H X S => ?_
  dsimp only [fnData] at H
  replace H : EnvOk env L _ [] := H
  replace S : Sit b h₀ b [(L, "frame", fun _ => none)] [] h' := S
  clear he
  repeat' isplit
  obtain ⟨r, hw⟩ := T.head
  have hway := T.way
  have hlen := T.len
  have hfew := T.few
  rw [hw] at hway hlen hfew ⊢
  refine use (lawway_ok (W.stays S.bb) S.bh ((Good.now G S (.head _) hf H.kind).le (by decide)) hway hlen (by omega)) S fun v h b1 S st p => ?_
  obtain ⟨a2, ws, n2, rfl, e2, hs2⟩ := p
  have l1 := strs_len hs
  have l2 := strs_len hs2
  refine bOp_addL S (S.atB (st _ _ ea)) (S.atB e2) (by rw [sizeLine_eq]; omega) fun a3 h S => ?_
  obtain ⟨b2, S, st2, e3⟩ := S.out .head
  exact ⟨b2, S.dropF, a3, _, _, rfl, e3, strs_app hs hs2⟩

section
theorem hd204 (P : Params) : codeHdIn (KK P) 204 202 = true := by kernel_rfl
theorem flat_take {texts : List Str} {wayF : Str → List Str} {i : Nat} {t : Str} (e : texts[i]? = some t) : (texts.take (i + 1)).flatMap wayF = (texts.take i).flatMap wayF ++ wayF t := by
  rw [List.take_add_one, e, List.flatMap_append]
  simp
theorem flat_len {wayF : Str → List Str} : ∀ {texts : List Str}, (∀ t ∈ texts, (wayF t).length ≤ 20) → (texts.flatMap wayF).length ≤ 20 * texts.length
  | [], _ => by simp
  | t :: ts, h => by
    have := flat_len (texts := ts) fun t ht => h t (.tail _ ht)
    have h1 := h t (.head _)
    rw [List.flatMap_cons, List.length_append, List.length_cons]
    omega
theorem fromK_len : ∀ (xs : List Str) (acc : List (Str × Value)), (xs.foldl (fun kvs x => stored kvs x .none) acc).length ≤ acc.length + xs.length
  | [], acc => by simp
  | x :: xs, acc => by
    have h1 := fromK_len xs (stored acc x .none)
    have h2 := stored_len acc x .none
    rw [List.foldl_cons, List.length_cons]
    omega
theorem strs_D {b : Heap} {vs : List Value} {xs : List Str} (h : StrsAre vs xs) : AllD (DT.str.D b) vs xs := by
  induction h with
  | nil => exact .nil
  | cons x t r ih => exact .cons ⟨t, rfl⟩ ih
set_option maxHeartbeats 2000000 in
theorem seg1 {c : Cfg} {A : Around} {E : Value → Heap → Prop} {h : Heap} {env : Env} {b₀ h₀ b : Heap} {N : List (Addr × Obj)} {g : Obj → List (Addr × Obj)} {L : Addr} {m : Vars} {cells : List (Str × Addr)} {tv : Value} {texts : List Str} {wayF : Str → List Str} {Q : Flow → Heap → Prop}
    (W : Wd c b₀) (G : Good A h₀ 200) (S : Sit b₀ h₀ b [(L, "frame", m)] N h) (H : EnvOk env L lawNames cells) (hf : env.frame = some L) (hc : env.code = .ref 204) (hm : m (Str.ofString "texts") = some tv) (hd : ListD DT.str b tv texts)
    (hT : ∀ t ∈ texts, TextOk t (wayF t)) (hn : texts.length ≤ 10) (r : Rep 202 (tabObj #[]) N g)
    (q : ∀ b' h' v ps, Sit b₀ h₀ b' [(L, "frame", upd m (Str.ofString "folders") v)] (g (tabObj ps)) h' → b.StaysIn b' → ListD DT.str b' v ((fromK (texts.flatMap wayF)).map (·.1)) → TriplesOk ps.toList → (∀ p : Pos, 240 < p.line → codeAmong p ps.toList = none) → Q .next h') :
    WP c (A.deeper env) (exec (lawS c.w.params 1) env) Q E h := by
  dsimp only [lawNames] at H
  have hh : (A.deeper env).handled = none := G.hd
  obtain ⟨ta, tvs, tn, rfl, te, td⟩ := hd
  obtain ⟨xn, tn', hN⟩ := g_nameS c.w.params
  refine r_Assign ?_ (by rfl)
  repeat' isplit
  refine r_Lambda ?_ (by rfl)
  refine c_makeFn W hN S rfl (CL.closure (.loc (.loc (.glob (.glob .nil))))) H.globals rfl hc (codeHd_of_K (fun a o e => S.bb _ _ (W.k _ _ e)) (hd204 _)) r trivial (by rfl) fun f b1 h cv ct S st1 ef rf => ?_
  obtain ⟨ps, S, htp, hcp⟩ : ∃ ps, Sit b₀ h₀ b1 [(L, "frame", m)] (g (tabObj ps)) h ∧ TriplesOk ps.toList ∧ (∀ p : Pos, 240 < p.line → codeAmong p ps.toList = none) :=
    ⟨_, S, trivial, fun p hp => among_later (pos := ⟨234, 39, 234, 89⟩) (ps := #[]) trivial (by rfl) (by show 234 < p.line; omega)⟩
  repeat' isplit
  obtain ⟨b2, S, st2, el⟩ := S.out .head
  have st12 : b.StaysIn b2 := fun _ _ e => st2 _ _ (st1 _ _ e)
  have tlen := td.len
  have few : ∀ t ∈ texts, (wayF t).length ≤ 20 := fun t ht => (hT t ht).few
  have n51 : ad ≠ 51 := ne_cls el (W.stays S.bb |>.k _ _ (k51 _)) (by show Value.type "list" ≠ Value.type "object"; decide)
  refine use (reduce_okK (kk := 100) (W.stays S.bb) S.bh ((Good.now G S (.head _) hf H.kind).le (by decide)) ⟨f, _, _, rfl, st2 _ _ ef, rfl⟩ (st12 _ _ te) (fun i b v => TxtL b v ((texts.take i).flatMap wayF)) (fun i b b' v x s => x.stays s)
    ⟨ad, _, _, rfl, el, .nil⟩ (.inr ⟨ad, _, rfl, el, n51, by show Value.type "list" ≠ _; decide⟩) (fun i v x b' h' A' hx st B' iv G' => ?_)) S fun v h b3 S st3 p => ?_
  · obtain ⟨t, et, tk, rfl⟩ := td.get hx
    have hmem := List.mem_of_getElem? et
    rw [flat_take et]
    refine lam1_ok ((W.stays S.bb).stays st) B' (G'.le (by decide)) (st _ _ (st2 _ _ ef)) ((rf.keeps st2).keeps st) iv ?_ (hT t hmem)
    have := flat_len (texts := texts.take i) fun t ht => few t (List.mem_of_mem_take ht)
    rw [List.length_take] at this
    omega
  · rw [tlen, List.take_length] at p
    obtain ⟨a3, vs3, n3, rfl, e3, hs3⟩ := p
    have hl3 := flat_len few
    repeat' isplit
    refine use (dedup_ok (W.stays S.bb) S.bh ((Good.now G S (.head _) hf H.kind).le (by decide)) e3 hs3 (by omega)) S fun v h b4 S st4 p => ?_
    repeat' isplit
    have hfl : (fromK (texts.flatMap wayF)).length ≤ 0 + (texts.flatMap wayF).length := fromK_len (texts.flatMap wayF) []
    refine c_listDict S hh p (by omega) fun a5 vs5 n5 h S hs5 => ?_
    obtain ⟨b5, S, st5, e5⟩ := S.out .head
    repeat' isplit
    exact q b5 _ _ ps S (fun _ _ e => st5 _ _ (st4 _ _ (st3 _ _ (st12 _ _ e)))) ⟨a5, vs5, n5, rfl, e5, strs_D hs5⟩ htp hcp
end

section
def pathS (row : List Str) : Str := Str.ofString "/" ++ joinR row
set_option maxHeartbeats 2000000 in
theorem seg2 {c : Cfg} {A : Around} {E : Value → Heap → Prop} {h : Heap} {env : Env} {b₀ h₀ b : Heap} {N : List (Addr × Obj)} {L : Addr} {m : Vars} {cells : List (Str × Addr)} {tv : Value} {texts : List Str} {Q : Flow → Heap → Prop}
    (W : Wd c b₀) (G : Good A h₀ 200) (S : Sit b₀ h₀ b [(L, "frame", m)] N h) (H : EnvOk env L lawNames cells) (hf : env.frame = some L) (hm : m (Str.ofString "texts") = some tv) (hd : ListD DT.str b tv texts)
    (hT : ∀ t ∈ texts, SplitOk t) (hn : texts.length ≤ 10)
    (q : ∀ b' h' v, Sit b₀ h₀ b' [(L, "frame", upd m (Str.ofString "rows") v)] N h' → b.StaysIn b' → ListD rowsD b' v (rowsS texts) → Q .next h') :
    WP c (A.deeper env) (exec (lawS c.w.params 2) env) Q E h := by
  dsimp only [lawNames] at H
  refine r_Assign ?_ (by rfl)
  repeat' isplit
  refine use (lawrows_ok (W.stays S.bb) S.bh ((Good.now G S (.head _) hf H.kind).le (by decide)) hd hT hn) S fun v h b1 S st p => ?_
  repeat' isplit
  exact q b1 _ _ S st p
set_option maxHeartbeats 2000000 in
theorem seg3 {c : Cfg} {A : Around} {E : Value → Heap → Prop} {h : Heap} {env : Env} {b₀ h₀ b : Heap} {N : List (Addr × Obj)} {L : Addr} {m : Vars} {cells : List (Str × Addr)} {fv rv : Value} {rows : List (List Str)} {Q : Flow → Heap → Prop}
    (W : Wd c b₀) (G : Good A h₀ 200) (S : Sit b₀ h₀ b [(L, "frame", m)] N h) (H : EnvOk env L lawNames cells) (hf : env.frame = some L) (hm : m (Str.ofString "folders") = some fv) (hm2 : m (Str.ofString "rows") = some rv) (hd : ListD DT.str b fv (rows.map pathS)) (hr : ListD rowsD b rv rows)
    (R : RowsOk rows) (hpl : ∀ r ∈ rows, (pathS r).length ≤ 1000)
    (q : ∀ b' h', Sit b₀ h₀ b' [(L, "frame", m)] N h' → b.StaysIn b' → Q .next h') :
    WP c (A.deeper env) (exec (lawS c.w.params 3) env) Q E h := by
  dsimp only [lawNames] at H
  have hh : (A.deeper env).handled = none := G.hd
  obtain ⟨fa, fvs, fn, rfl, fe, fd⟩ := hd
  obtain ⟨ra, rvs, rn, rfl, re, rd⟩ := hr
  refine r_If ?_
  repeat' isplit
  have cn : CN env [(Str.ofString ".0", .local), (Str.ofString "row", .local)] [] []
        [(Str.ofString ".0", .local), (Str.ofString "row", .local)] :=
      .loc (.loc .nil)
  refine r_ListComp H cn rfl (by decide +kernel) ?_
  repeat' isplit
  refine r_iterList S hh (lst_is re) fun I2 o2 h It2 S j2 X2 => ?_
  have hrl : rvs.length = rows.length := rd.len
  have hr64 := R.len
  refine r_comp H cn rfl S X2 j2 (by omega) (fun k b' ws' N' => N' = N ∧ AllD (DT.str.D b') ws' ((rows.take k).map pathS)) ⟨rfl, .nil⟩ ?turn ?done
  case turn =>
    rintro k v b2 ws kk m' N' h cenv Lc ac o2' Tv Th kv1 kh1 hk hv st2 ⟨rfl, hws⟩ hwl HC S
    obtain ⟨row, erow, a, rs, rn', rfl, ea, ds⟩ := rd.get hv
    have hmem := List.mem_of_getElem? erow
    have ea2 := st2 _ _ ea
    repeat' isplit
    refine c_join (S.atB ea2) (strs_all ds) (R.ok row hmem) fun t6 => ?_
    repeat' isplit
    have hlen := hpl row hmem
    unfold pathS at hlen
    rw [strLen_append] at hlen
    refine bOp_addS (fun t => ?_) (by rw [sizeLine_eq]; show _ + (joinR row).length ≤ _; omega)
    refine kv1 _ _ ?_
    refine ⟨b2, _, _, st2, ⟨rfl, ?_⟩, S⟩
    rw [List.take_add_one, erow, List.map_append]
    exact hws.app (.cons ⟨t, rfl⟩ .nil)
  case done =>
    rintro b2 ws kk N' h ac st2 ⟨rfl, hws⟩ S
    rw [hrl, List.take_length] at hws
    repeat' isplit
    obtain ⟨b3, S, st3, e3⟩ := S.out .head
    have st13 : b.StaysIn b3 := fun _ _ e => st3 _ _ (st2 _ _ e)
    refine c_neL (T := DT.str) S (S.atB (st13 _ _ fe)) (S.atB e3) (fd.mono fun _ _ q => q) (hws.mono fun _ _ q => q) ((Good.now G S (.head _) hf H.kind).room (j := 1) (by decide)) ?_
    rw [decide_eq_true rfl]
    repeat' isplit
    exact q b3 h S st13
end

section
abbrev clv (v : Option Value) : Obj := { cls := .type "cell", data := .cell v }
structure FoldOk (f : Str) (w : List Str) : Prop where
  head : ∃ r, w = f :: r
  way : wayB w = true
  len : ∀ y ∈ w, y.length ≤ 1000
  few : w.length ≤ 20
def lawCells (cW cF cBh cM cK cT cD cBl : Addr) : List (Str × Addr) := [(Str.ofString "below", cBl), (Str.ofString "due", cD), (Str.ofString "told", cT), (Str.ofString "keys", cK), (Str.ofString "made", cM), (Str.ofString "behind", cBh), (Str.ofString "folder", cF), (Str.ofString "ways", cW)]
theorem stored_hit {kvs : List (Str × Value)} {x : Str} {v : Value} : valueAt (stored kvs x v) x = some v := by
  unfold stored valueAt
  split
  · rename_i h
    induction kvs with
    | nil => simp at h
    | cons kv kvs ih =>
      rw [List.map_cons, List.find?_cons]
      by_cases e : kv.1 = x
      · rw [if_pos e]; simp [e]
      · rw [if_neg e]
        simp only [e, decide_false]
        refine ih ?_
        simpa [e] using h
  · rename_i h
    rw [List.find?_append]
    have : kvs.find? (fun kv => decide (kv.1 = x)) = none := by
      rw [List.find?_eq_none]
      intro kv hk z
      exact h (List.any_eq_true.mpr ⟨kv, hk, z⟩)
    rw [this]
    simp
theorem stored_other {kvs : List (Str × Value)} {x y : Str} {v : Value} (n : y ≠ x) : valueAt (stored kvs x v) y = valueAt kvs y := by
  unfold stored valueAt
  split
  · rename_i h
    clear h
    induction kvs with
    | nil => rfl
    | cons kv kvs ih =>
      rw [List.map_cons, List.find?_cons, List.find?_cons]
      by_cases e : kv.1 = x
      · rw [if_pos e]
        have : ¬ kv.1 = y := fun z => n (z.symm.trans e)
        simp only [this, decide_false]
        exact ih
      · rw [if_neg e]
        by_cases e2 : kv.1 = y
        · simp only [e2, decide_true]
        · simp only [e2, decide_false]
          exact ih
  · rw [List.find?_append]
    cases kvs.find? (fun kv => decide (kv.1 = y)) with
    | some kv => rfl
    | none =>
      have : ¬ x = y := fun z => n z.symm
      simp [this]
set_option maxHeartbeats 2000000 in
theorem seg5 {c : Cfg} {A : Around} {E : Value → Heap → Prop} {h : Heap} {env : Env} {b₀ h₀ b : Heap} {L D : Addr} {m : Vars} {cW cF cBh cM cK cT cD cBl : Addr} {x1 x2 x3 x4 x5 x6 x7 : Option Value} {RR : List (Addr × Obj)} {fv : Value} {folders : List Str} {wayF : Str → List Str} {Q : Flow → Heap → Prop}
    (W : Wd c b₀) (G : Good A h₀ 200) (S : Sit b₀ h₀ b [(L, "frame", m)] ((D, { cls := .type "dict", data := .dict #[] }) :: (cBl, clv x1) :: (cD, clv x2) :: (cT, clv x3) :: (cK, clv x4) :: (cM, clv x5) :: (cBh, clv x6) :: (cF, clv x7) :: (cW, clv (some (.ref D))) :: RR) h) (H : EnvOk env L lawNames (lawCells cW cF cBh cM cK cT cD cBl)) (hf : env.frame = some L)
    (hm : m (Str.ofString "folders") = some fv) (hd : ListD DT.str b fv folders) (hF : ∀ f ∈ folders, FoldOk f (wayF f)) (hn : folders.length ≤ 64)
    (q : ∀ b' h' o kvs cv, Sit b₀ h₀ b' [(L, "frame", m)] ((cBl, clv x1) :: (cD, clv x2) :: (cT, clv x3) :: (cK, clv x4) :: (cM, clv x5) :: (cBh, clv x6) :: (cF, clv cv) :: (cW, clv (some (.ref D))) :: RR) h' → b.StaysIn b' →
      b'.get? D = some o → DictO c o kvs → (∀ f ∈ folders, ∃ v, valueAt kvs f = some v ∧ ListD DT.str b' v (wayF f)) → Q .next h') :
    WP c (A.deeper env) (exec (lawS c.w.params 5) env) Q E h := by
  dsimp only [lawNames, lawCells] at H
  have hh : (A.deeper env).handled = none := G.hd
  obtain ⟨fa, fvs, fn, rfl, fe, fd⟩ := hd
  have fl := fd.len
  refine r_For ?_ (by intro _; rfl)
  repeat' isplit
  refine r_iterList S hh (lst_is fe) fun I o h It S j X => ?_
  refine r_forLoop X (fun i b fs N => Ex3 fun kvs o' cv => An5 (fs = [(L, "frame", m)]) (N = ((D, o') :: (cBl, clv x1) :: (cD, clv x2) :: (cT, clv x3) :: (cK, clv x4) :: (cM, clv x5) :: (cBh, clv x6) :: (cF, clv cv) :: (cW, clv (some (.ref D))) :: RR)) (DictO c o' kvs) (kvs.length ≤ i) ((∀ f ∈ folders.take i, ∃ v, valueAt kvs f = some v ∧ ListD DT.str b v (wayF f)))) ?turn ?done S (fun _ _ e => e) j
    ⟨[], _, _, rfl, rfl, DictO.new, Nat.le_refl _, fun f hf => by simp at hf⟩
  case turn =>
    rintro i v b₂ fs N h o' Tq kT hi hv st ⟨kvs, od, cv, rfl, rfl, hD, hkl, hall⟩ S
    obtain ⟨f, ef, tf, rfl⟩ := fd.get hv
    have hmem := List.mem_of_getElem? ef
    obtain ⟨⟨r, hw⟩, hway, hlen, hfew⟩ := hF f hmem
    rw [hw] at hway hlen hfew
    repeat' isplit
    refine use (lawway_ok (W.stays S.bb) S.bh ((Good.now G S (.head _) hf H.kind).le (by decide)) hway hlen (by omega)) S fun v h b3 S st3 p => ?_
    obtain ⟨a, ws, n, rfl, ea, hws⟩ := p
    repeat' isplit
    refine c_setItemD S (.tail .head) hD (by omega) fun h o7 S D7 => ?_
    repeat' isplit
    have hslen := stored_len kvs f (.ref a)
    refine ⟨b3, _, _, fun _ _ e => st3 _ _ (st _ _ e), ⟨_, o7, _, rfl, rfl, D7, by omega, fun g hg => ?_⟩, S⟩
    by_cases hgf : g = f
    · subst hgf
      exact ⟨_, stored_hit, a, ws, n, rfl, ea, by rw [hw]; exact strs_D hws⟩
    · rw [List.take_add_one, ef] at hg
      have hg' : g ∈ folders.take i := (List.mem_append.mp hg).elim id fun z => absurd (by simpa using z) hgf
      obtain ⟨v, e1, e2⟩ := hall g hg'
      exact ⟨v, by rw [stored_other hgf]; exact e1, e2.stays st3⟩
  case done =>
    rintro b₂ fs N h st ⟨kvs, od, cv, rfl, rfl, hD, hkl, hall⟩ S
    rw [fl, List.take_length] at hall
    obtain ⟨b3, S, st3, e3⟩ := S.out .head
    exact q b3 h od kvs cv S (fun _ _ e => st3 _ _ (st _ _ e)) e3 hD fun f hf => by
      obtain ⟨v, e1, e2⟩ := hall f hf
      exact ⟨v, e1, e2.stays st3⟩
end

section
def belowW (folders : List Str) (wayF : Str → List Str) (f : Str) : List Str := (folders.filter fun one => ((wayF one).drop 1).any fun y => decide (y = f)).map fun one => Txt.slice one (some ((Txt.rstripChars f (Str.ofString "/")).length : Int)) none
theorem pick_drop1 (vs : List Value) : (slicePick vs.toArray (some 1) none none).toList = vs.drop 1 := by
  rw [show (1 : Int) = ((1 : Nat) : Int) from rfl, slicePick_from']
theorem belowW_yes {folders : List Str} {wayF : Str → List Str} {f one : Str} {k : Nat} (e : folders[k]? = some one) (h : (((wayF one).drop 1).any fun y => decide (y = f)) = true) : belowW (folders.take (k + 1)) wayF f = belowW (folders.take k) wayF f ++ [Txt.slice one (some ((Txt.rstripChars f (Str.ofString "/")).length : Int)) none] := by
  unfold belowW
  rw [List.take_add_one, e, List.filter_append, List.map_append]
  show _ ++ List.map _ (List.filter _ [one]) = _
  rw [List.filter_cons, if_pos h]
  rfl
theorem belowW_no {folders : List Str} {wayF : Str → List Str} {f one : Str} {k : Nat} (e : folders[k]? = some one) (h : (((wayF one).drop 1).any fun y => decide (y = f)) = false) : belowW (folders.take (k + 1)) wayF f = belowW (folders.take k) wayF f := by
  unfold belowW
  rw [List.take_add_one, e, List.filter_append, List.map_append]
  show _ ++ List.map _ (List.filter _ [one]) = _
  rw [List.filter_cons, if_neg (by rw [h]; simp)]
  simp
set_option maxHeartbeats 2000000 in
theorem seg7 {c : Cfg} {A : Around} {E : Value → Heap → Prop} {h : Heap} {env : Env} {b₀ h₀ b : Heap} {L D D2 : Addr} {m : Vars} {cW cF cBh cM cK cT cD cBl : Addr} {x2 x3 x4 x5 x6 x7 : Option Value} {RR : List (Addr × Obj)} {fv : Value} {folders : List Str} {wayF : Str → List Str} {Q : Flow → Heap → Prop} {ow : Obj} {kw : List (Str × Value)}
    (W : Wd c b₀) (G : Good A h₀ 200) (S : Sit b₀ h₀ b [(L, "frame", m)] ((D2, { cls := .type "dict", data := .dict #[] }) :: (cBl, clv (some (.ref D2))) :: (cD, clv x2) :: (cT, clv x3) :: (cK, clv x4) :: (cM, clv x5) :: (cBh, clv x6) :: (cF, clv x7) :: (cW, clv (some (.ref D))) :: RR) h) (H : EnvOk env L lawNames (lawCells cW cF cBh cM cK cT cD cBl)) (hf : env.frame = some L)
    (hm : m (Str.ofString "folders") = some fv) (hd : ListD DT.str b fv folders) (hF : ∀ f ∈ folders, FoldOk f (wayF f)) (hn : folders.length ≤ 64)
    (eD : b.get? D = some ow) (hDw : DictO c ow kw) (hkw : ∀ f ∈ folders, ∃ v, valueAt kw f = some v ∧ ListD DT.str b v (wayF f))
    (q : ∀ b' h' o kvs cv cb, Sit b₀ h₀ b' [(L, "frame", m)] ((cBl, clv (some (.ref D2))) :: (cD, clv x2) :: (cT, clv x3) :: (cK, clv x4) :: (cM, clv x5) :: (cBh, clv cb) :: (cF, clv cv) :: (cW, clv (some (.ref D))) :: RR) h' → b.StaysIn b' →
      b'.get? D2 = some o → DictO c o kvs → (∀ f ∈ folders, ∃ v, valueAt kvs f = some v ∧ ListD DT.str b' v (belowW folders wayF f)) → Q .next h') :
    WP c (A.deeper env) (exec (lawS c.w.params 7) env) Q E h := by
  dsimp only [lawNames, lawCells] at H
  have hh : (A.deeper env).handled = none := G.hd
  obtain ⟨fa, fvs, fn, rfl, fe, fd⟩ := hd
  have fl := fd.len
  refine r_For ?_ (by intro _; rfl)
  repeat' isplit
  refine r_iterList S hh (lst_is fe) fun I o h It S j X => ?_
  refine r_forLoop X (fun i b fs N => Ex4 fun kvs o' cv cb => An5 (fs = [(L, "frame", m)]) (N = ((D2, o') :: (cBl, clv (some (.ref D2))) :: (cD, clv x2) :: (cT, clv x3) :: (cK, clv x4) :: (cM, clv x5) :: (cBh, clv cb) :: (cF, clv cv) :: (cW, clv (some (.ref D))) :: RR)) (DictO c o' kvs) (kvs.length ≤ i) ((∀ f ∈ folders.take i, ∃ v, valueAt kvs f = some v ∧ ListD DT.str b v (belowW folders wayF f)))) ?turn ?done S (fun _ _ e => e) j
    ⟨[], _, _, _, rfl, rfl, DictO.new, Nat.le_refl _, fun f hf => by simp at hf⟩
  case turn =>
    rintro i v b₂ fs N h o' Tq kT hi hv st ⟨kvs, od, cv, cb, rfl, rfl, hD, hkl, hall⟩ S
    obtain ⟨f, ef, tf, rfl⟩ := fd.get hv
    have hmem := List.mem_of_getElem? ef
    have hflen : f.length ≤ 1000 := by
      obtain ⟨⟨r, hw⟩, hway, hlen, hfew⟩ := hF f hmem
      exact hlen f (by rw [hw]; exact .head _)
    have fe2 := st _ _ fe
    have hrs : (Txt.rstripChars f (Str.ofString "/")).length ≤ 1000 := Nat.le_trans (len_rstripChars _ _) hflen
    repeat' isplit
    have cn : CN env [(Str.ofString ".0", .local), (Str.ofString "one", .local), (Str.ofString "behind", .free), (Str.ofString "folder", .free), (Str.ofString "ways", .free)] [] [(Str.ofString "ways", cW), (Str.ofString "folder", cF), (Str.ofString "behind", cBh)]
        [(Str.ofString ".0", .local), (Str.ofString "one", .local), (Str.ofString "behind", .cell), (Str.ofString "folder", .cell), (Str.ofString "ways", .cell)] :=
      .loc (.loc (.free (H.cell (by kln_le)) (H.look (by kln_le)) (.free (H.cell (by kln_le)) (H.look (by kln_le)) (.free (H.cell (by kln_le)) (H.look (by kln_le)) .nil))))
    refine r_ListComp H cn rfl (by decide +kernel) ?_
    repeat' isplit
    obtain ⟨NN, hNN⟩ : ∃ NN, NN = ((I, o') :: (D2, od) :: (cBl, clv (some (Value.ref D2))) :: (cD, clv x2) :: (cT, clv x3) :: (cK, clv x4) :: (cM, clv x5) :: (cBh, clv (some (Value.int ((Txt.rstripChars f (Str.ofString "/")).length) (by assumption)))) :: (cF, clv (some (Value.str f tf))) :: (cW, clv (some (.ref D))) :: RR) := ⟨_, rfl⟩
    refine r_iterList S hh (lst_is fe2) fun I2 o2 h It2 S j2 X2 => ?_
    refine r_comp H cn rfl S X2 j2 (by omega) (fun k b' ws' N' => N' = NN ∧ AllD (DT.str.D b') ws' (belowW (folders.take k) wayF f)) ⟨hNN.symm, .nil⟩ ?turn2 ?done2
    case turn2 =>
      rintro k v b3 ws kk m' N' h cenv Lc ac o2' Tv Th kv1 kh1 hk hv2 st3 ⟨rfl, hws⟩ hwl HC S
      obtain ⟨one, eone, to, rfl⟩ := fd.get hv2
      have omem := List.mem_of_getElem? eone
      subst hNN
      obtain ⟨v1, ev1, wa, wvs, wn, rfl, ew, dw⟩ := hkw one omem
      have ew3 := st3 _ _ (st _ _ ew)
      have holen : one.length ≤ 1000 := by
        obtain ⟨⟨r, hw⟩, hway, hlen, hfew⟩ := hF one omem
        exact hlen one (by rw [hw]; exact .head _)
      have hwl2 : wvs.length ≤ 1000 := by
        have := (hF one omem).few
        rw [dw.len]; omega
      have ew4 := S.atB ew3
      repeat' isplit
      refine g_dict (S.atB (st3 _ _ (st _ _ eD))) hDw ev1 ?_
      have ew4 := S.atB ew3
      repeat' isplit
      rw [pick_drop1] at S
      refine c_in (T := DT.str) S (S.atN .head) ((dw.drop 1).mono fun _ _ q => q) ⟨tf, rfl⟩ ((Good.now G S (.tail _ (.head _)) hf H.kind).room (j := 1) (by decide)) ?_
      have S := S.dropN
      repeat' isplit
      · have hq : (((wayF one).drop 1).any fun y => decide (y = f)) = true := by with_reducible assumption
        refine ⟨b3, _, _, st3, ⟨rfl, ?_⟩, S⟩
        rw [belowW_yes eone hq]
        exact hws.app (.cons ⟨_, rfl⟩ .nil)
      · have hq : (((wayF one).drop 1).any fun y => decide (y = f)) = false := by with_reducible assumption
        refine ⟨b3, _, _, st3, ⟨rfl, ?_⟩, S⟩
        rw [belowW_no eone hq]
        exact hws
    case done2 =>
      rintro b3 ws kk N' h ac st3 ⟨rfl, hws⟩ S
      rw [fl, List.take_length] at hws
      subst hNN
      repeat' isplit
      obtain ⟨b4, S, st4, e4⟩ := S.out .head
      refine c_setItemD S (.tail .head) hD (by omega) fun h o7 S D7 => ?_
      repeat' isplit
      have hslen := stored_len kvs f (.ref ac)
      refine ⟨b4, _, _, fun _ _ e => st4 _ _ (st3 _ _ (st _ _ e)), ⟨_, o7, _, _, rfl, rfl, D7, by omega, fun g hg => ?_⟩, S⟩
      by_cases hgf : g = f
      · subst hgf
        exact ⟨_, stored_hit, ac, ws, kk, rfl, e4, hws.mono fun _ _ q => q⟩
      · rw [List.take_add_one, ef] at hg
        have hg' : g ∈ folders.take i := (List.mem_append.mp hg).elim id fun z => absurd (by simpa using z) hgf
        obtain ⟨v, e1, e2⟩ := hall g hg'
        exact ⟨v, by rw [stored_other hgf]; exact e1, e2.stays fun _ _ e => st4 _ _ (st3 _ _ e)⟩
  case done =>
    rintro b₂ fs N h st ⟨kvs, od, cv, cb, rfl, rfl, hD, hkl, hall⟩ S
    rw [fl, List.take_length] at hall
    obtain ⟨b3, S, st3, e3⟩ := S.out .head
    exact q b3 h od kvs cv cb S (fun _ _ e => st3 _ _ (st _ _ e)) e3 hD fun f hf => by
      obtain ⟨v, e1, e2⟩ := hall f hf
      exact ⟨v, e1, e2.stays st3⟩
end

section
abbrev l2Args (p1 p2 : Pos) : Arguments := { posonlyargs := [], args := [{ arg := Str.ofString "p", annotation := none, pos := p1 }, { arg := Str.ofString "q", annotation := none, pos := p2 }], vararg := none, kwonlyargs := [], kw_defaults := [], kwarg := none, defaults := [] }
abbrev l2Body (p1 p2 p3 p4 p5 p6 p7 p8 p9 r1 r2 r3 r4 r5 r6 r7 r8 : Pos) : Expr :=
  ((Expr.Name (Str.ofString "_compare_args_orderless") p1).Call [(Expr.Name (Str.ofString "below") p2).Subscript (Expr.Name (Str.ofString "p") p3) p4, (Expr.Name (Str.ofString "below") p5).Subscript (Expr.Name (Str.ofString "q") p6) p7] [] p8).IfExp
    (Expr.Constant (.int 0) 0 p9) (((Expr.Name (Str.ofString "p") r1).Compare [.Lt] [Expr.Name (Str.ofString "q") r2] r3).IfExp (Expr.Constant (.int 1) 0 r4) (Expr.UnaryOp .USub (Expr.Constant (.int 1) 0 r5) r6) r7) r8
abbrev l2Scope : Scope := { kind := .function, names := [(Str.ofString "p", .local), (Str.ofString "q", .local), (Str.ofString "below", .free), (Str.ofString "_compare_args_orderless", .globalImplicit)], isGenerator := false, isCoroutine := false }
set_option maxHeartbeats 2000000 in
theorem lam2_ok {c : Cfg} {b : Heap} {f cBl D2 : Addr} {qual : Str} {cv ct pm v w : Value} {p q : Str} {xs ys : List Str} {o2 : Obj} {k2 : List (Str × Value)} {p1 p2 q1 q2 q3 q4 q5 q6 q7 q8 q9 r1 r2 r3 r4 r5 r6 r7 r8 : Pos} (W : Wd c b)
    (e : b.get? f = some (fnObj (Str.ofString "<lambda>") qual (l2Args p1 p2) (.expr (l2Body q1 q2 q3 q4 q5 q6 q7 q8 q9 r1 r2 r3 r4 r5 r6 r7 r8)) l2Scope [(Str.ofString "below", cBl)] ct cv pm)) (hr : b.CodeRec cv qual)
    (ec : b.get? cBl = some (clv (some (.ref D2)))) (eD : b.get? D2 = some o2) (hD : DictO c o2 k2) (hp : valueAt k2 p = some v) (hq : valueAt k2 q = some w) (hv : ListD DT.str b v xs) (hw : ListD DT.str b w ys) (hx : xs.length ≤ 1000) (hy : ys.length ≤ 1000) :
    FnG c b 30 (.ref f) p q (cmpS xs ys) := by
  refine ⟨⟨f, _, _, rfl, e, rfl⟩, fun A b' h₀ t u st B G E => ?_⟩
  have W' := W.stays st
  refine callExprS (binds := [("p", .str p t), ("q", .str q u)]) W' (Sit.start B) G (B.stays _ _ (st _ _ e)) rfl ((hr.keeps st).keeps B.stays) fun L h' env hL he hf H X S => ?_
  dsimp only [fnData] at H
  replace H : EnvOk env L _ [(Str.ofString "below", cBl)] := H
  replace S : Sit b' h₀ b' [(L, "frame", fun _ => none)] [] h' := S
  clear he
  repeat' isplit
  refine n_freeB S H (by kln_le) (st _ _ ec) (by kln_le) (by simp) (by simp) ?_
  repeat' isplit
  refine g_dict (S.atB (st _ _ eD)) hD hp ?_
  repeat' isplit
  refine n_freeB S H (by kln_le) (st _ _ ec) (by kln_le) (by simp) (by simp) ?_
  repeat' isplit
  refine g_dict (S.atB (st _ _ eD)) hD hq ?_
  repeat' isplit
  refine use (cmpargs_ok (W'.stays S.bb) S.bh ((Good.now G S (.head _) hf H.kind).le (by decide)) (hv.stays st) (hw.stays st) hx hy) S fun v h b1 S st1 pr => ?_
  subst pr
  repeat' isplit
  · have hq : cmpS xs ys = true := by with_reducible assumption
    exact ⟨b1, S.dropF, _, _, rfl, by rw [hq]; rfl⟩
  · have hq : cmpS xs ys = false := by with_reducible assumption
    exact ⟨b1, S.dropF, _, _, rfl, by rw [hq]; rfl⟩
  · have hq : cmpS xs ys = false := by with_reducible assumption
    exact ⟨b1, S.dropF, _, _, rfl, by rw [hq]; rfl⟩
set_option maxHeartbeats 2000000 in
theorem seg8 {c : Cfg} {A : Around} {E : Value → Heap → Prop} {h : Heap} {env : Env} {b₀ h₀ b : Heap} {L D2 : Addr} {m : Vars} {cW cF cBh cM cK cT cD cBl : Addr} {x2 x3 x4 x5 x6 x7 x8 : Option Value} {RR : List (Addr × Obj)} {folders : List Str} {bel : Str → List Str} {Q : Flow → Heap → Prop} {o2 : Obj} {k2 : List (Str × Value)} {ps : Array Value}
    (W : Wd c b₀) (G : Good A h₀ 200) (S : Sit b₀ h₀ b [(L, "frame", m)] ((cBl, clv (some (.ref D2))) :: (cD, clv x2) :: (cT, clv x3) :: (cK, clv x4) :: (cM, clv x5) :: (cBh, clv x6) :: (cF, clv x7) :: (cW, clv x8) :: (45, tabObj #[]) :: (202, tabObj ps) :: RR) h) (H : EnvOk env L lawNames (lawCells cW cF cBh cM cK cT cD cBl)) (hf : env.frame = some L)
    (hc : env.code = .ref 204) (htp : TriplesOk ps.toList) (hcp : ∀ p : Pos, 240 < p.line → codeAmong p ps.toList = none)
    (eD : b.get? D2 = some o2) (hD : DictO c o2 k2) (hk2 : ∀ f ∈ folders, ∃ v, valueAt k2 f = some v ∧ ListD DT.str b v (bel f)) (hl : ∀ f ∈ folders, (bel f).length ≤ 1000)
    (q : ∀ b' h' C f t1 t2, Sit b₀ h₀ b' [(L, "frame", m)] ((cD, clv x2) :: (cT, clv x3) :: (cK, clv x4) :: (cM, clv (some (.ref C))) :: (cBh, clv x6) :: (cF, clv x7) :: (cW, clv x8) :: (45, tabObj t1) :: (202, tabObj t2) :: RR) h' → b.StaysIn b' →
      ClsK c.w.params b' C f → (∀ p ∈ folders, ∀ q ∈ folders, FnG c b' 30 f p q (cmpS (bel p) (bel q))) → Q .next h') :
    WP c (A.deeper env) (exec (lawS c.w.params 8) env) Q E h := by
  dsimp only [lawNames, lawCells] at H
  have hh : (A.deeper env).handled = none := G.hd
  obtain ⟨xn, tn', hN⟩ := g_nameS c.w.params
  obtain ⟨b1, S, st1, eBl⟩ := S.out .head
  refine r_Assign ?_ (by rfl)
  repeat' isplit
  refine r_Lambda ?_ (by rfl)
  refine c_makeFn W hN S rfl (CL.closure (.loc (.loc (.free (H.cell (by kln_le)) (.glob .nil))))) H.globals rfl hc (codeHd_of_K (fun a o e => S.bb _ _ (W.k _ _ e)) (hd204 _)) (.tail (.tail (.tail (.tail (.tail (.tail (.tail (.tail .head)))))))) htp (hcp _ (by decide)) fun f b2 h cv ct S st2 ef rf => ?_
  repeat' isplit
  have G2 := Good.now G S (.head _) hf H.kind
  refine cmpkey_ok W (G : Good A h₀ 200) S (G2.le (by decide)) (.tail (.tail (.tail (.tail (.tail (.tail (.tail .head))))))) fun C b3 h tab S st3 X => ?_
  repeat' isplit
  refine q b3 _ C _ _ _ S (fun _ _ e => st3 _ _ (st2 _ _ (st1 _ _ e))) X fun p hp q hq => ?_
  obtain ⟨v, e1, d1⟩ := hk2 p hp
  obtain ⟨w, e2, d2⟩ := hk2 q hq
  have st23 : b1.StaysIn b3 := fun _ _ e => st3 _ _ (st2 _ _ e)
  have st13 : b.StaysIn b3 := fun _ _ e => st23 _ _ (st1 _ _ e)
  exact lam2_ok (W.stays S.bb) (st3 _ _ ef) (rf.keeps st3) (st23 _ _ eBl) (st13 _ _ eD) hD e1 e2 (d1.stays st13) (d2.stays st13) (hl p hp) (hl q hq)
end

section
theorem ClsK.stays {P : Params} {b b' : Heap} {C : Addr} {f : Value} (X : ClsK P b C f) (s : b.StaysIn b') : ClsK P b' C f := by
  obtain ⟨⟨N1, dc, cm, fI, fE, oC, oN, kvs, td, nz, cvI, ctI, cvE, ctE, pm, eC, hcC, hdC, hsC, eN, D, hi, he, ho, hno, edc, ecm, eI, rI, eE, rE⟩⟩ := X
  exact ⟨⟨N1, dc, cm, fI, fE, oC, oN, kvs, td, nz, cvI, ctI, cvE, ctE, pm, s _ _ eC, hcC, hdC, hsC, s _ _ eN, D, hi, he, ho, hno, s _ _ edc, s _ _ ecm, s _ _ eI, rI.keeps s, s _ _ eE, rE.keeps s⟩⟩
set_option maxHeartbeats 2000000 in
theorem seg9 {c : Cfg} {A : Around} {E : Value → Heap → Prop} {h : Heap} {env : Env} {b₀ h₀ b : Heap} {L C : Addr} {f : Value} {m : Vars} {cW cF cBh cM cK cT cD cBl : Addr} {x2 x3 x4 x6 x7 x8 : Option Value} {RR : List (Addr × Obj)} {fv : Value} {folders : List Str} {Q : Flow → Heap → Prop}
    (W : Wd c b₀) (G : Good A h₀ 200) (S : Sit b₀ h₀ b [(L, "frame", m)] ((cD, clv x2) :: (cT, clv x3) :: (cK, clv x4) :: (cM, clv (some (.ref C))) :: (cBh, clv x6) :: (cF, clv x7) :: (cW, clv x8) :: RR) h) (H : EnvOk env L lawNames (lawCells cW cF cBh cM cK cT cD cBl)) (hf : env.frame = some L)
    (hm : m (Str.ofString "folders") = some fv) (hd : ListD DT.str b fv folders) (hn : folders.length ≤ 64) (X : ClsK c.w.params b C f)
    (q : ∀ b' h' ka vs n, Sit b₀ h₀ b' [(L, "frame", m)] ((cD, clv x2) :: (cT, clv x3) :: (cK, clv (some (.ref ka))) :: (cM, clv (some (.ref C))) :: (cBh, clv x6) :: (cF, clv x7) :: (cW, clv x8) :: RR) h' → b.StaysIn b' →
      b'.get? ka = some (lstObj vs n) → AllD (fun v x => KeyD b' C v x) vs folders → Q .next h') :
    WP c (A.deeper env) (exec (lawS c.w.params 9) env) Q E h := by
  dsimp only [lawNames, lawCells] at H
  have hh : (A.deeper env).handled = none := G.hd
  obtain ⟨fa, fvs, fn, rfl, fe, fd⟩ := hd
  have fl := fd.len
  refine r_Assign ?_ ?sw
  case sw =>
    unfold swapsWith
    dsimp only
    rw [H.look (x := Str.ofString "keys") (k := .cell) (by kln_le), show (some NameKind.cell == some NameKind.local) = false from rfl, Bool.and_false, Bool.false_and, Bool.false_and]
  have cn : CN env [(Str.ofString ".0", .local), (Str.ofString "folder", .local), (Str.ofString "made", .free)] [] [(Str.ofString "made", cM)]
        [(Str.ofString ".0", .local), (Str.ofString "folder", .local), (Str.ofString "made", .cell)] :=
      .loc (.loc (.free (H.cell (by kln_le)) (H.look (by kln_le)) .nil))
  refine r_ListComp H cn rfl (by decide +kernel) ?_
  repeat' isplit
  obtain ⟨NN, hNN⟩ : ∃ NN, NN = ((cD, clv x2) :: (cT, clv x3) :: (cK, clv x4) :: (cM, clv (some (Value.ref C))) :: (cBh, clv x6) :: (cF, clv x7) :: (cW, clv x8) :: RR) := ⟨_, rfl⟩
  refine r_iterList S hh (lst_is fe) fun I2 o2 h It2 S j2 X2 => ?_
  refine r_comp H cn rfl S X2 j2 (by omega) (fun k b' ws' N' => N' = NN ∧ AllD (fun v x => KeyD b' C v x) ws' (folders.take k)) ⟨hNN.symm, .nil⟩ ?turn ?done
  case turn =>
    rintro k v b2 ws kk m' N' h cenv Lc ac o2' Tv Th kv1 kh1 hk hv st2 ⟨rfl, hws⟩ hwl HC S
    obtain ⟨f1, ef, tf, rfl⟩ := fd.get hv
    subst hNN
    have X2' := X.stays st2
    obtain ⟨K, dc, fI, fE, cm, cvI, ctI, cvE, ctE, pm, KI, F, _⟩ := clsK_facts X2'
    isplit
    isplit
    isplit
    refine r_CallM ?_ (by rfl)
    repeat' isplit
    have KIh : K.In h := fun a o e => S.atB (KI a o e)
    refine keeper_cls F KIh ⟨rfl, ?_⟩
    refine makekey_ok W G S ((Good.now G S (.tail _ (.head _)) hf H.kind).le (by decide)) X2' fun v b3 h S st3 kd => ?_
    refine kv1 _ _ ?_
    refine ⟨b3, _, _, fun _ _ e => st3 _ _ (st2 _ _ e), ⟨rfl, ?_⟩, S⟩
    rw [List.take_add_one, ef]
    exact (hws.mono fun _ _ q => q.stays st3).app (.cons kd .nil)
  case done =>
    rintro b2 ws kk N' h ac st2 ⟨rfl, hws⟩ S
    rw [fl, List.take_length] at hws
    subst hNN
    obtain ⟨b3, S, st3, e3⟩ := S.out .head
    repeat' isplit
    exact q b3 _ ac ws kk S (fun _ _ e => st3 _ _ (st2 _ _ e)) e3 (hws.mono fun _ _ q => q.stays st3)
end

section
def ordL (s : Int) (n : Nat) : List Nat := if s = 1 then List.range n else (List.range n).reverse
def stepD (κf : Nat → Int) (due : List Nat) (k : Nat) : List Nat := bif !(due.map κf).any (fun y => decide (y = κf k)) then due ++ [k] else due
def atV (vs : List Value) (k : Nat) : Value := vs[k]?.getD .none
def atI (κs : List Int) (k : Nat) : Int := κs[k]?.getD 0
def eK (vs : List Value) (κs : List Int) (y x : Value) : Bool := decide (atI κs (vs.idxOf y) = atI κs (vs.idxOf x))
theorem ord_get {s : Int} {n i : Nat} (h : i < n) : (ordL s n)[i]? = some (if s = 1 then i else n - 1 - i) := by
  unfold ordL
  split
  · simp [h]
  · rw [List.getElem?_reverse (by simpa using h), List.length_range, List.getElem?_range (by omega)]
theorem ord_len {s : Int} {n : Nat} : (ordL s n).length = n := by unfold ordL; split <;> simp
theorem ord_lt {s : Int} {n a : Nat} (h : a ∈ ordL s n) : a < n := by unfold ordL at h; split at h <;> simpa using h
theorem map_at (vs : List Value) : (List.range vs.length).map (atV vs) = vs := by
  apply List.ext_getElem?
  intro i
  rw [List.getElem?_map]
  rcases Nat.lt_or_ge i vs.length with h | h
  · rw [List.getElem?_eq_getElem (by simpa using h)]
    simp [atV, List.getElem?_eq_getElem h]
  · rw [List.getElem?_eq_none (by simpa using h), List.getElem?_eq_none h]; rfl
theorem pick_step (vs : List Value) {s : Int} (hs : s = 1 ∨ s = -1) : (slicePick vs.toArray none none (some s)).toList = (ordL s vs.length).map (atV vs) := by
  rcases hs with rfl | rfl
  · have h1 : slicePick vs.toArray none none (some 1) = slicePick vs.toArray none none none := rfl
    rw [h1, slicePick_all]
    rw [show ordL 1 vs.length = List.range vs.length from rfl, map_at]
  · rw [krv_pick]
    show vs.reverse = ((List.range vs.length).reverse).map (atV vs)
    rw [List.map_reverse, map_at]
theorem addV_stepD {e : Value → Value → Bool} {f : Nat → Value} {κf : Nat → Int} {n : Nat} (H : ∀ a b, a < n → b < n → e (f a) (f b) = decide (κf a = κf b)) {acc : List Nat} {k : Nat} (hk : k < n) (ha : ∀ a ∈ acc, a < n) : addV e (acc.map f) (f k) = (stepD κf acc k).map f := by
  have hany : ((acc.map f).any fun y => e y (f k)) = (acc.map κf).any fun y => decide (y = κf k) := by
    rw [List.any_map, List.any_map]
    rw [Bool.eq_iff_iff, List.any_eq_true, List.any_eq_true]
    constructor
    · rintro ⟨a, m, q⟩
      exact ⟨a, m, by show decide (κf a = κf k) = true; rw [← H a k (ha a m) hk]; exact q⟩
    · rintro ⟨a, m, q⟩
      refine ⟨a, m, ?_⟩
      show e (f a) (f k) = true
      rw [H a k (ha a m) hk]; exact q
  unfold addV stepD
  rw [hany]
  cases (!(acc.map κf).any fun y => decide (y = κf k)) <;> simp
theorem stepD_lt {κf : Nat → Int} {n : Nat} {acc : List Nat} {k : Nat} (hk : k < n) (ha : ∀ a ∈ acc, a < n) : ∀ a ∈ stepD κf acc k, a < n := by
  unfold stepD
  cases (!(acc.map κf).any fun y => decide (y = κf k))
  · exact ha
  · intro a h
    rcases List.mem_append.mp h with h | h
    · exact ha a h
    · rw [List.mem_singleton.mp h]; exact hk
theorem fold_stepD {e : Value → Value → Bool} {f : Nat → Value} {κf : Nat → Int} {n : Nat} (H : ∀ a b, a < n → b < n → e (f a) (f b) = decide (κf a = κf b)) : ∀ (l acc : List Nat), (∀ a ∈ l, a < n) → (∀ a ∈ acc, a < n) → (l.map f).foldl (addV e) (acc.map f) = (l.foldl (stepD κf) acc).map f
  | [], acc, _, _ => rfl
  | k :: l, acc, hl, ha => by
    rw [List.map_cons, List.foldl_cons, List.foldl_cons, addV_stepD H (hl k (.head _)) ha]
    exact fold_stepD H l _ (fun a h => hl a (.tail _ h)) (stepD_lt (hl k (.head _)) ha)
theorem steps_lt {κf : Nat → Int} {n : Nat} : ∀ (l acc : List Nat), (∀ a ∈ l, a < n) → (∀ a ∈ acc, a < n) → ∀ a ∈ l.foldl (stepD κf) acc, a < n
  | [], acc, _, ha => ha
  | k :: l, acc, hl, ha => by
    rw [List.foldl_cons]
    exact steps_lt l _ (fun a h => hl a (.tail _ h)) (stepD_lt (hl k (.head _)) ha)
theorem steps_len {κf : Nat → Int} : ∀ (l acc : List Nat), (l.foldl (stepD κf) acc).length ≤ acc.length + l.length
  | [], acc => by simp
  | k :: l, acc => by
    have h1 := steps_len (κf := κf) l (stepD κf acc k)
    have h2 : (stepD κf acc k).length ≤ acc.length + 1 := by
      unfold stepD
      cases (!(acc.map κf).any fun y => decide (y = κf k)) <;> simp
    rw [List.foldl_cons, List.length_cons]
    omega
theorem idx_at {vs : List Value} (nd : vs.Nodup) {i : Nat} (h : i < vs.length) : vs.idxOf (atV vs i) = i := by
  have e : atV vs i = vs[i] := by unfold atV; rw [List.getElem?_eq_getElem h]; rfl
  rw [e]
  exact nd.idxOf_getElem i h
theorem eK_at {vs : List Value} {κs : List Int} (nd : vs.Nodup) : ∀ a b, a < vs.length → b < vs.length → eK vs κs (atV vs a) (atV vs b) = decide (atI κs a = atI κs b) := fun a b ha hb => by
  unfold eK
  rw [idx_at nd ha, idx_at nd hb]
end

section
open PySem.Builtin PySem.Builtin.Range
set_option maxHeartbeats 2000000 in
theorem seg10 {c : Cfg} {A : Around} {E : Value → Heap → Prop} {h : Heap} {env : Env} {b₀ h₀ b : Heap} {N : List (Addr × Obj)} {L : Addr} {m : Vars} {cells : List (Str × Addr)} {rv : Value} {rows : List (List Str)} {Q : Flow → Heap → Prop}
    (W : Wd c b₀) (G : Good A h₀ 200) (S : Sit b₀ h₀ b [(L, "frame", m)] N h) (H : EnvOk env L lawNames cells) (hf : env.frame = some L) (hm : m (Str.ofString "rows") = some rv) (hd : ListD rowsD b rv rows) (R : RowsOk rows)
    (q : ∀ b' h' v κ, Sit b₀ h₀ b' [(L, "frame", upd m (Str.ofString "kinds") v)] N h' → b.StaysIn b' → KindsSpec rows κ → ListD DT.int b' v (rows.map κ) → Q .next h') :
    WP c (A.deeper env) (exec (lawS c.w.params 10) env) Q E h := by
  dsimp only [lawNames] at H
  refine r_Assign ?_ (by rfl)
  repeat' isplit
  refine use (lawkinds_ok (W.stays S.bb) S.bh ((Good.now G S (.head _) hf H.kind).le (by decide)) hd R) S fun v h b1 S st p => ?_
  obtain ⟨κ, spec, dk⟩ := p
  repeat' isplit
  exact q b1 _ _ κ S st spec dk
theorem rng_facts {s : Int} (hs : s = 1 ∨ s = -1) {n : Nat} (hn : n ≤ 500) (u1 u2 u3 : Tok) : ∃ x0 y0 : Int, (if s = 1 then rngObj 0 n 1 u1 u2 u3 else rngObj ((n : Int) - 1) (-1) (-1) u1 u2 u3) = rngObj x0 y0 s u1 u2 u3 ∧ Builtin.Range.small x0 y0 s = true ∧ rangeSize x0 y0 s = (n : Int) ∧
    ∀ i : Nat, i < n → ∃ k : Nat, (ordL s n)[i]? = some k ∧ k < n ∧ x0 + (i : Int) * s = (k : Int) := by
  rcases hs with rfl | rfl
  · have hz : rangeSize 0 n 1 = (n : Int) := by unfold rangeSize; simp; omega
    refine ⟨0, n, by rw [if_pos rfl], ?_, hz, fun i hi => ⟨i, by rw [ord_get hi, if_pos rfl], hi, by omega⟩⟩
    unfold Builtin.Range.small
    rw [hz]
    unfold rangeFitsLong
    simp
    omega
  · have hz : rangeSize ((n : Int) - 1) (-1) (-1) = (n : Int) := by unfold rangeSize; simp; omega
    refine ⟨(n : Int) - 1, -1, by rw [if_neg (by decide)], ?_, hz, fun i hi => ⟨n - 1 - i, by rw [ord_get hi, if_neg (by decide)], by omega, by omega⟩⟩
    unfold Builtin.Range.small
    rw [hz]
    unfold rangeFitsLong
    simp
    omega
set_option maxHeartbeats 4000000 in
theorem seg11 {c : Cfg} {A : Around} {E : Value → Heap → Prop} {h : Heap} {env : Env} {b₀ h₀ b : Heap} {L : Addr} {m : Vars} {cW cF cBh cM cK cT cD cBl ka kl : Addr} {x2 x3 x5 x6 x7 x8 : Option Value} {RR : List (Addr × Obj)} {vs kv : List Value} {κs : List Int} {n kn : Nat} {Q : Flow → Heap → Prop}
    (W : Wd c b₀) (G : Good A h₀ 200) (S : Sit b₀ h₀ b [(L, "frame", m)] ((cD, clv x2) :: (cT, clv x3) :: (cK, clv (some (.ref ka))) :: (cM, clv x5) :: (cBh, clv x6) :: (cF, clv x7) :: (cW, clv x8) :: RR) h) (H : EnvOk env L lawNames (lawCells cW cF cBh cM cK cT cD cBl)) (hf : env.frame = some L)
    (hm : m (Str.ofString "kinds") = some (.ref kl)) (eka : b.get? ka = some (lstObj vs n)) (ekl : b.get? kl = some (lstObj kv kn)) (dk : AllD (DT.int.D b) kv κs) (hlen : vs.length = κs.length) (hn : vs.length ≤ 64) (nd : vs.Nodup)
    (href : ∀ v ∈ vs, ∃ a, v = .ref a) (he : ∀ y ∈ vs, ∀ x ∈ vs, EqG c b 40 y x (eK vs κs y x))
    (q : ∀ b' h' m' x2 x3, Sit b₀ h₀ b' [(L, "frame", m')] ((cD, clv x2) :: (cT, clv x3) :: (cK, clv (some (.ref ka))) :: (cM, clv x5) :: (cBh, clv x6) :: (cF, clv x7) :: (cW, clv x8) :: RR) h' → b.StaysIn b' → Q .next h') :
    WP c (A.deeper env) (exec (lawS c.w.params 11) env) Q E h := by
  dsimp only [lawNames, lawCells] at H
  have hh : (A.deeper env).handled = none := G.hd
  have kvl := dk.len
  refine r_For ?_ (by intro _; rfl)
  repeat' isplit
  have stp : b.StaysIn b' := by with_reducible assumption
  refine r_iterTuple S hh ⟨_, eo, rfl, _, rfl⟩ fun I o h It S j X => ?_
  refine r_forLoop X (fun i b fs N => Ex3 fun m x2 x3 => An3 (fs = [(L, "frame", m)]) (N = ((cD, clv x2) :: (cT, clv x3) :: (cK, clv (some (.ref ka))) :: (cM, clv x5) :: (cBh, clv x6) :: (cF, clv x7) :: (cW, clv x8) :: RR)) (m (Str.ofString "kinds") = some (.ref kl))) ?turn ?done S (fun _ _ e => e) j
    ⟨_, _, _, rfl, rfl, hm⟩
  case turn =>
    rintro i v b₂ fs N h o' Tq kT hi hv st ⟨m, x2, x3, rfl, rfl, hm⟩ S
    obtain ⟨s, ts, rfl, hs⟩ : ∃ s ts, v = .int s ts ∧ (s = 1 ∨ s = -1) := by
      rcases i with _ | _ | i
      · simp at hv; exact ⟨_, _, hv.symm, .inl rfl⟩
      · simp at hv; exact ⟨_, _, hv.symm, .inr rfl⟩
      · simp at hv
    have st2 : b.StaysIn b₂ := fun _ _ e => st _ _ (stp _ _ e)
    have eka2 := st2 _ _ eka
    have ekah := S.atB eka2
    have hs0 : some s ≠ some 0 := by rcases hs with rfl | rfl <;> simp
    have hvs1000 : vs.length ≤ 1000 := by omega
    repeat' isplit
    refine g_listSlice (vs := vs) S (S.atB eka2) .none .none (.int s ts) hs0 (by rw [sizeLine_eq]; omega) fun a1 h S => ?_
    rw [pick_step vs hs] at S
    obtain ⟨b3, S, st3, e3⟩ := S.out .head
    have st03 : b.StaysIn b3 := fun _ _ e => st3 _ _ (st2 _ _ e)
    repeat' isplit
    refine use (dedupU_ok (kk := 40) (e := eK vs κs) (W.stays S.bb) S.bh ((Good.now G S (.head _) hf H.kind).le (by decide)) ⟨a1, _, rfl, e3⟩ (by rw [List.length_map, ord_len]; omega) (fun y hy x hx => ?_)) S fun v h b4 S st4 p => ?_
    · obtain ⟨iy, my, rfl⟩ := List.mem_map.mp hy
      obtain ⟨ix, mx, rfl⟩ := List.mem_map.mp hx
      have hmem : ∀ i, i < vs.length → atV vs i ∈ vs := fun i hi => by
        unfold atV; rw [List.getElem?_eq_getElem hi]; exact List.getElem_mem hi
      exact (he _ (hmem iy (ord_lt my)) _ (hmem ix (ord_lt mx))).stays st03
    obtain ⟨ta, tn, rfl, et⟩ := p
    have hT : dedupV (eK vs κs) ((ordL s vs.length).map (atV vs)) = ((ordL s vs.length).foldl (stepD (atI κs)) []).map (atV vs) := fold_stepD (eK_at nd) (ordL s vs.length) [] (fun a h => ord_lt h) (fun a h => nomatch h)
    rw [hT] at et
    have st04 : b.StaysIn b4 := fun _ _ e => st4 _ _ (st03 _ _ e)
    repeat' isplit
    rename_i due _ _ _ _ _ _ _ _
    obtain ⟨sn, hsn⟩ : ∃ sn, sn = ad := ⟨_, rfl⟩
    subst hsn
    refine c_lenL (S.atB (st04 _ _ eka)) (by rw [sizeLine_eq]; omega) fun _ => ?_
    repeat' isplit
    refine c_range1 S fun r b5 h t1 t2 t3 S st5 er => ?_
    repeat' isplit
    refine g_rangeSlice S er hs (by omega) fun r2 b6 h u1 u2 u3 S st6 er2 => ?_
    obtain ⟨x0, y0, hobj, hsm, hrz, hval⟩ := rng_facts hs (show vs.length ≤ 500 by omega) u1 u2 u3
    rw [hobj] at er2
    have st46 : b4.StaysIn b6 := fun _ _ e => st6 _ _ (st5 _ _ e)
    have st06 : b.StaysIn b6 := fun _ _ e => st46 _ _ (st04 _ _ e)
    refine r_iterRange S hh er2 hsm hrz fun I2 o2 h It2 S j2 X2 => ?_
    refine r_forLoop X2 (fun i b fs N => Ex5 fun m dv dn sv sn' => An6 (fs = [(L, "frame", m)]) (N = ((sn, lstObj sv sn') :: (due, lstObj dv dn) :: (I, o') :: (cD, clv (some (.ref due))) :: (cT, clv (some (.ref ta))) :: (cK, clv (some (.ref ka))) :: (cM, clv x5) :: (cBh, clv x6) :: (cF, clv x7) :: (cW, clv x8) :: RR)) (AllD (DT.int.D b) dv ((((ordL s vs.length).take i).foldl (stepD (atI κs)) []).map fun k : Nat => (k : Int))) (AllD (DT.int.D b) sv ((((ordL s vs.length).take i).foldl (stepD (atI κs)) []).map (atI κs))) (m (Str.ofString "kinds") = some (.ref kl)) (m (Str.ofString "seen") = some (.ref sn))) ?turn2 ?done2 S (fun _ _ e => e) j2
      ⟨_, _, _, _, _, rfl, rfl, .nil, .nil, by kpf_c, by kpf_c⟩
    case turn2 =>
      rintro i2 v b7 fs N h o2' Tq kT hi2 hv2 st7 ⟨m, dv, dn, sv, sn', rfl, rfl, hdv, hsv, hm, hms⟩ S
      obtain ⟨tk, rfl⟩ := hv2
      obtain ⟨k, ek, hk, hxk⟩ := hval i2 hi2
      rw [hxk]
      have hkn : k < κs.length := by omega
      obtain ⟨tq, hkv⟩ : ∃ tq, kv[k]? = some (.int (atI κs k) tq) := by
        have hkk : k < kv.length := by omega
        obtain ⟨y, ey, tq, eq⟩ := dk.get (List.getElem?_eq_getElem hkk)
        exact ⟨tq, by rw [List.getElem?_eq_getElem hkk, eq]; unfold atI; rw [ey]; rfl⟩
      have hfold := take_fold (stepD (atI κs)) [] (ordL s vs.length) i2 k ek
      have hsl := steps_len (κf := atI κs) ((ordL s vs.length).take i2) []
      rw [List.length_take, ord_len] at hsl
      generalize hDD : ((ordL s vs.length).take i2).foldl (stepD (atI κs)) [] = DD at *
      have hsv1 : sv.length ≤ 1000 := by rw [hsv.len, List.length_map]; simp at hsl; omega
      have hdv1 : dv.length ≤ 1000 := by rw [hdv.len, List.length_map]; simp at hsl; omega
      have ekl7 := st7 _ _ (st06 _ _ ekl)
      repeat' isplit
      refine g_list (S.atB ekl7) (by omega) (by omega) (by rw [Int.toNat_natCast]; exact hkv) ?_
      repeat' isplit
      refine c_notIn (T := DT.int) S (S.atN (.tail .head)) hsv ⟨tq, rfl⟩ ((Good.now G S (.head _) hf H.kind).room (j := 1) (by decide)) ?_
      repeat' isplit
      · have hq : (!(DD.map (atI κs)).any fun y => decide (y = atI κs k)) = true := by with_reducible assumption
        refine g_list (S.atB ekl7) (by omega) (by omega) (by rw [Int.toNat_natCast]; exact hkv) ?_
        repeat' isplit
        have hst : stepD (atI κs) DD k = DD ++ [k] := by unfold stepD; rw [hq]; rfl
        refine ⟨b7, _, _, st7, ⟨_, _, _, _, _, rfl, rfl, ?_, ?_, by kpf_c, by kpf_c⟩, S⟩
        · rw [hfold, hst, List.map_append]
          exact hdv.app (.cons ⟨_, rfl⟩ .nil)
        · rw [hfold, hst, List.map_append]
          exact hsv.app (.cons ⟨_, rfl⟩ .nil)
      · have hq : (!(DD.map (atI κs)).any fun y => decide (y = atI κs k)) = false := by with_reducible assumption
        have hst : stepD (atI κs) DD k = DD := by unfold stepD; rw [hq]; rfl
        exact ⟨b7, _, _, st7, ⟨_, _, _, _, _, rfl, rfl, by rw [hfold, hst]; exact hdv, by rw [hfold, hst]; exact hsv, by kpf_c, by kpf_c⟩, S⟩
    case done2 =>
      rintro b7 fs N h st7 ⟨m, dv, dn, sv, sn', rfl, rfl, hdv, hsv, hm, hms⟩ S
      rw [List.take_of_length_le (by rw [ord_len]; exact Nat.le_refl _)] at hdv hsv
      have hsl := steps_len (κf := atI κs) (ordL s vs.length) []
      have hlt := steps_lt (κf := atI κs) (n := vs.length) (ordL s vs.length) [] (fun a h => ord_lt h) (fun a h => nomatch h)
      rw [ord_len] at hsl
      generalize hDD : (ordL s vs.length).foldl (stepD (atI κs)) [] = DD at *
      have hD64 : DD.length ≤ 64 := by simp at hsl; omega
      have hdl : dv.length = DD.length := by rw [hdv.len, List.length_map]
      have hdv1 : dv.length ≤ 1000 := by omega
      obtain ⟨b8, S, st8, esn⟩ := S.out .head
      obtain ⟨b9, S, st9, edue⟩ := S.out .head
      have st79 : b7.StaysIn b9 := fun _ _ e => st9 _ _ (st8 _ _ e)
      have st69 : b6.StaysIn b9 := fun _ _ e => st79 _ _ (st7 _ _ e)
      have et9 := st69 _ _ (st46 _ _ et)
      have eka9 := st69 _ _ (st06 _ _ eka)
      have hdv9 : AllD (DT.int.D b9) dv (DD.map fun k : Nat => (k : Int)) := hdv.mono fun _ _ q => q
      repeat' isplit
      refine c_lenL (S.atB et9) (by rw [sizeLine_eq, List.length_map]; omega) fun _ => ?_
      repeat' isplit
      · have hbad : (((DD.map (atV vs)).length : Int) != (dv.length : Int)) = true := by with_reducible assumption
        rw [List.length_map, hdl] at hbad
        simp at hbad
      · have cn : CN env [(Str.ofString ".0", .local), (Str.ofString "k", .local), (Str.ofString "due", .free), (Str.ofString "keys", .free), (Str.ofString "told", .free)] [] [(Str.ofString "told", cT), (Str.ofString "keys", cK), (Str.ofString "due", cD)]
            [(Str.ofString ".0", .local), (Str.ofString "k", .local), (Str.ofString "due", .cell), (Str.ofString "keys", .cell), (Str.ofString "told", .cell)] :=
          .loc (.loc (.free (H.cell (by kln_le)) (H.look (by kln_le)) (.free (H.cell (by kln_le)) (H.look (by kln_le)) (.free (H.cell (by kln_le)) (H.look (by kln_le)) .nil))))
        refine r_ListComp H cn rfl (by decide +kernel) ?_
        repeat' isplit
        refine c_range1 S fun r3 b10 h v1 v2 v3 S st10 er3 => ?_
        rw [hdl] at er3
        obtain ⟨x1, y1, hobj1, hsm1, hrz1, hval1⟩ := rng_facts (s := 1) (.inl rfl) (n := DD.length) (by omega) v1 v2 v3
        rw [if_pos rfl] at hobj1
        rw [hobj1] at er3
        obtain ⟨NN, hNN⟩ : ∃ NN, NN = ((I, o') :: (cD, clv (some (Value.ref due))) :: (cT, clv (some (Value.ref ta))) :: (cK, clv (some (Value.ref ka))) :: (cM, clv x5) :: (cBh, clv x6) :: (cF, clv x7) :: (cW, clv x8) :: RR) := ⟨_, rfl⟩
        refine r_iterRange S hh er3 hsm1 hrz1 fun I3 o3 h It3 S j3 X3 => ?_
        refine r_comp H cn rfl S X3 j3 (by omega) (fun k b' ws' N' => N' = NN ∧ ws' = []) ⟨hNN.symm, rfl⟩ ?turn3 ?done3
        case turn3 =>
          rintro k3 v b11 ws kk m' N' h cenv Lc ac o3' Tv Th kv1 kh1 hk3 hv3 st11 ⟨rfl, rfl⟩ hwl HC S
          obtain ⟨tk3, rfl⟩ := hv3
          obtain ⟨k4, _, hk4, hx4⟩ := hval1 k3 hk3
          rw [hx4]
          subst hNN
          have st911 : b9.StaysIn b11 := fun _ _ e => st11 _ _ (st10 _ _ e)
          obtain ⟨d, hd⟩ : ∃ d, DD[k4]? = some d := ⟨_, List.getElem?_eq_getElem hk4⟩
          have hdlt : d < vs.length := hlt d (List.mem_of_getElem? hd)
          have hvd : vs[d]? = some (atV vs d) := by unfold atV; rw [List.getElem?_eq_getElem hdlt]; rfl
          obtain ⟨ra, hra⟩ := href (atV vs d) (List.mem_of_getElem? hvd)
          obtain ⟨td, hdvk⟩ : ∃ td, dv[k4]? = some (.int (d : Int) td) := by
            have hkk : k4 < dv.length := by omega
            obtain ⟨y, ey, tq, eq⟩ := hdv9.get (List.getElem?_eq_getElem hkk)
            rw [List.getElem?_map, hd] at ey
            refine ⟨tq, ?_⟩
            rw [List.getElem?_eq_getElem hkk, eq, ← Option.some.inj ey]
          repeat' isplit
          refine g_list (S.atB (st911 _ _ et9)) (by omega) (by omega) (v := .ref ra) (by rw [Int.toNat_natCast, List.getElem?_map, hd, ← hra]; rfl) ?_
          repeat' isplit
          refine g_list (S.atB (st911 _ _ edue)) (by omega) (by omega) (by rw [Int.toNat_natCast]; exact hdvk) ?_
          repeat' isplit
          refine g_list (S.atB (st911 _ _ eka9)) (by omega) (by omega) (v := .ref ra) (by rw [Int.toNat_natCast, hvd, hra]) ?_
          repeat' isplit
          refine bOp_isNotSelf ?_
          repeat' isplit
          exact ⟨b11, _, _, st11, ⟨rfl, rfl⟩, S⟩
        case done3 =>
          rintro b11 ws kk N' h ac st11 ⟨rfl, rfl⟩ S
          subst hNN
          repeat' isplit
          refine c_neL (T := DT.int) (xs := []) (ys := []) S (S.atN (.tail .head)) (S.atN .head) .nil .nil ((Good.now G S (.head _) hf H.kind).room (j := 1) (by decide)) ?_
          have S := S.dropN.dropN
          rw [decide_eq_true rfl]
          repeat' isplit
          exact ⟨b11, _, _, fun _ _ e => st11 _ _ (st10 _ _ (st69 _ _ (st46 _ _ (st4 _ _ (st3 _ _ (st _ _ e)))))), ⟨_, _, _, rfl, rfl, hm⟩, S⟩
  case done =>
    rintro b₂ fs N h st ⟨m, x2, x3, rfl, rfl, hm⟩ S
    exact q b₂ h m x2 x3 S fun _ _ e => st _ _ (stp _ _ e)
end

section
open PySem.Builtin PySem.Builtin.Range
abbrev foldersS (xs : List Int) : List Str := (rowsS (textsS xs)).map pathS
structure LawOk (xs : List Int) (wayT wayP : Str → List Str) : Prop where
  text : ∀ t ∈ textsS xs, TextOk t (wayT t)
  split : ∀ t ∈ textsS xs, SplitOk t
  rows : RowsOk (rowsS (textsS xs))
  plen : ∀ r ∈ rowsS (textsS xs), (pathS r).length ≤ 1000
  fold : (fromK ((textsS xs).flatMap wayT)).map (·.1) = foldersS xs
  way : ∀ r ∈ rowsS (textsS xs), FoldOk (pathS r) (wayP (pathS r))
  pnd : (foldersS xs).Nodup
  kinds : ∀ κ, KindsSpec (rowsS (textsS xs)) κ → ∀ r ∈ rowsS (textsS xs), ∀ r' ∈ rowsS (textsS xs), cmpS (belowW (foldersS xs) wayP (pathS r)) (belowW (foldersS xs) wayP (pathS r')) = decide (κ r = κ r')
theorem lawBody_is (P : Params) : lawBody P = [lawS P 0, lawS P 1, lawS P 2, lawS P 3, lawS P 4, lawS P 5, lawS P 6, lawS P 7, lawS P 8, lawS P 9, lawS P 10, lawS P 11, lawS P 12] := by first | rfl | kernel_rfl
theorem keys_inj {b : Heap} {C : Addr} {vs : List Value} {xs : List Str} (h : AllD (fun v x => KeyD b C v x) vs xs) (nd : xs.Nodup) : vs.Nodup ∧ ∀ v ∈ vs, ∃ a, v = .ref a := by
  have one : ∀ {v : Value} {x y : Str}, KeyD b C v x → KeyD b C v y → x = y := by
    rintro v x y ⟨a, dx, t, rfl, e, _⟩ ⟨a', dy, t', ea, e', _⟩
    cases ea
    rw [e] at e'
    have := Option.some.inj e'
    simp only [keyObj, Obj.mk.injEq, Array.mk.injEq, List.cons.injEq, Option.some.injEq, Value.str.injEq] at this
    exact this.2.2.2.1.1
  refine ⟨?_, fun v hv => ?_⟩
  · refine List.pairwise_iff_getElem.mpr fun i j hi hj hij he => ?_
    obtain ⟨x, ex, kx⟩ := h.get (List.getElem?_eq_getElem hi)
    obtain ⟨y, ey, ky⟩ := h.get (List.getElem?_eq_getElem hj)
    rw [← he] at ky
    have hxy := one kx ky
    subst hxy
    have hl := h.len
    have hi' : i < xs.length := by omega
    have hj' : j < xs.length := by omega
    rw [List.getElem?_eq_getElem hi'] at ex
    rw [List.getElem?_eq_getElem hj'] at ey
    exact List.pairwise_iff_getElem.mp nd i j hi' hj' hij ((Option.some.inj ex).trans (Option.some.inj ey).symm)
  · obtain ⟨i, hi⟩ := List.mem_iff_getElem?.mp hv
    obtain ⟨x, ex, a, dx, t, rfl, _⟩ := h.get hi
    exact ⟨a, rfl⟩
theorem EqG.le {c : Cfg} {b : Heap} {k k' : Nat} {y x : Value} {r : Bool} (h : EqG c b k y x r) (hk : k ≤ k') : EqG c b k' y x r := fun A b' h' E st B G => h A b' h' E st B (G.le hk)
set_option maxHeartbeats 4000000 in
theorem law_walk {c : Cfg} {A : Around} {h : Heap} {env : Env} {b₀ h₀ b : Heap} {L l : Addr} {m : Vars} {cW cF cBh cM cK cT cD cBl : Addr} {vs : List Value} {xs : List Int} {wayT wayP : Str → List Str}
    (W : Wd c b₀) (G : Good A h₀ 200) (S : Sit b₀ h₀ b [(L, "frame", m)] [(cBl, clv none), (cD, clv none), (cT, clv none), (cK, clv none), (cM, clv none), (cBh, clv none), (cF, clv none), (cW, clv none), (45, tabObj #[]), (202, tabObj #[])] h) (H : EnvOk env L lawNames (lawCells cW cF cBh cM cK cT cD cBl)) (hf : env.frame = some L)
    (hc : env.code = .ref 204) (hm : m (Str.ofString "script") = some (.ref l)) (hl : b.IsList l vs.toArray) (hi : IntsAre vs xs) (hsz : vs.length ≤ 63) (K : LawOk xs wayT wayP) :
    WP c (A.deeper env) (execs (lawBody c.w.params) env) (fun f h' => retOf f = .bool true ∧ Ext h₀ h' ∧ (∃ t1, h'.get? 45 = some (tabObj t1)) ∧ ∃ t2, h'.get? 202 = some (tabObj t2)) (fun _ _ => False) h := by
  have H' := H
  dsimp only [lawNames, lawCells] at H'
  rw [lawBody_is]
  have htl : (textsS xs).length ≤ 10 := by
    unfold textsS lawT
    rw [List.length_append, List.length_map, List.length_take]
    simp
    omega
  have hrl := K.rows.len
  have hfl : (foldersS xs).length ≤ 64 := by rw [List.length_map]; omega
  refine r_execs_cons (seg0 W G S H hf hm hl hi hsz fun b1 h v1 S st1 d1 => ?_)
  refine r_execs_cons (seg1 W G S H hf hc (by kpf_c) d1 K.text htl (.tail (.tail (.tail (.tail (.tail (.tail (.tail (.tail (.tail .head))))))))) fun b2 h v2 ps S st2 d2 htp hcp => ?_)
  rw [K.fold] at d2
  refine r_execs_cons (seg2 W G S H hf (by kpf_c) (d1.stays st2) K.split htl fun b3 h v3 S st3 d3 => ?_)
  refine r_execs_cons (seg3 W G S H hf (by kpf_c) (by kpf_c) (d2.stays st3) d3 K.rows K.plen fun b4 h S st4 => ?_)
  have d2 := (d2.stays st3).stays st4
  have d3 := d3.stays st4
  refine r_execs_cons ?_
  have hway : ∀ f ∈ foldersS xs, FoldOk f (wayP f) := fun f hf => by
    obtain ⟨r, hr, rfl⟩ := List.mem_map.mp hf
    exact K.way r hr
  have hmF : ∀ {m' : Vars}, m' = upd (upd (upd m (Str.ofString "texts") v1) (Str.ofString "folders") v2) (Str.ofString "rows") v3 → m' (Str.ofString "folders") = some v2 ∧ m' (Str.ofString "rows") = some v3 := fun e => by subst e; exact ⟨by kpf_c, by kpf_c⟩
  obtain ⟨hmF, hmR⟩ := hmF rfl
  generalize (upd (upd (upd m (Str.ofString "texts") v1) (Str.ofString "folders") v2) (Str.ofString "rows") v3) = m' at *
  have H0 := H
  replace H := H'
  refine r_Assign ?_ (by rfl)
  repeat' isplit
  refine seg5 W G S H0 hf hmF d2 hway hfl fun b5 h o5 k5 cv5 S st5 e5 D5 hk5 => ?_
  refine absN kT ?_
  refine flN ?_
  refine r_execs_cons ?_
  refine r_Assign ?_ (by rfl)
  repeat' isplit
  refine seg7 W G S H0 hf hmF (d2.stays st5) hway hfl e5 D5 hk5 fun b7 h o7 k7 cv7 cb7 S st7 e7 D7 hk7 => ?_
  refine absN kT ?_
  refine flN ?_
  have hbl : ∀ f ∈ foldersS xs, (belowW (foldersS xs) wayP f).length ≤ 1000 := fun f _ => by
    unfold belowW
    rw [List.length_map]
    exact Nat.le_trans (List.length_filter_le _ _) (by omega)
  refine r_execs_cons (seg8 W G S H0 hf hc htp hcp e7 D7 hk7 hbl fun b8 h C f t1 t2 S st8 X8 F8 => ?_)
  have st48 : b4.StaysIn b8 := fun _ _ e => st8 _ _ (st7 _ _ (st5 _ _ e))
  refine r_execs_cons (seg9 W G S H0 hf hmF (d2.stays st48) hfl X8 fun b9 h ka kvs n9 S st9 e9 K9 => ?_)
  have st49 : b4.StaysIn b9 := fun _ _ e => st9 _ _ (st48 _ _ e)
  refine r_execs_cons (seg10 W G S H0 hf hmR (d3.stays st49) K.rows fun b10 h v10 κ S st10 spec d10 => ?_)
  obtain ⟨kl, klv, kln, rfl, e10, d10⟩ := d10
  have kn := keys_inj K9 K.pnd
  have hkl := K9.len
  have hfr : (foldersS xs).length = (rowsS (textsS xs)).length := List.length_map ..
  have X10 := (X8.stays st9).stays st10
  have atr : ∀ y ∈ kvs, ∃ r : List Str, ∃ i : Nat, r ∈ rowsS (textsS xs) ∧ KeyD b10 C y (pathS r) ∧ kvs.idxOf y = i ∧ atI ((rowsS (textsS xs)).map κ) i = κ r := fun y hy => by
    obtain ⟨i, hi⟩ := List.mem_iff_getElem?.mp hy
    obtain ⟨p, ep, kp⟩ := K9.get hi
    rw [List.getElem?_map] at ep
    obtain ⟨r, er, rfl⟩ := Option.map_eq_some_iff.mp ep
    have hilt : i < kvs.length := (List.getElem?_eq_some_iff.mp hi).1
    refine ⟨r, i, List.mem_of_getElem? er, kp.stays st10, ?_, ?_⟩
    · have := idx_at kn.1 hilt
      rwa [show atV kvs i = y by unfold atV; rw [hi]; rfl] at this
    · unfold atI
      rw [List.getElem?_map, er]; rfl
  refine r_execs_cons (seg11 W G S H0 hf (by kpf_c) (st10 _ _ e9) e10 d10 (by rw [List.length_map]; omega) (by omega) kn.1 kn.2 (fun y hy x hx => ?_) fun b11 h m11 x2 x3 S st11 => ?_)
  · obtain ⟨ry, iy, my, ky, ey, ay⟩ := atr y hy
    obtain ⟨rx, ix, mx, kx, ex, ax⟩ := atr x hx
    have hE : eK kvs ((rowsS (textsS xs)).map κ) y x = cmpS (belowW (foldersS xs) wayP (pathS ry)) (belowW (foldersS xs) wayP (pathS rx)) := by
      rw [K.kinds κ spec ry my rx mx]
      unfold eK
      rw [ey, ex, ay, ax]
    rw [hE]
    refine EqG.le (key_eq (k := 30) (W.stays S.bb) X10 ky kx (((F8 _ (List.mem_map_of_mem my) _ (List.mem_map_of_mem mx)).stays st9).stays st10) fun hp => ?_) (by decide)
    rw [← hp, K.kinds κ spec ry my ry my]
    simp
  refine flN ?_
  refine r_execs_cons ?_
  refine r_Return ?_
  repeat' isplit
  exact ⟨rfl, S.ext, ⟨_, S.atN (.tail (.tail (.tail (.tail (.tail (.tail (.tail .head)))))))⟩, _, S.atN (.tail (.tail (.tail (.tail (.tail (.tail (.tail (.tail .head))))))))⟩
end

section
theorem noTabs_K (P : Params) : noTabs (KK P) = true := by kernel_rfl
def noFrames (K : Frag) : Bool := K.all fun p => p.2.cls != .type "frame"
theorem noFrames_K (P : Params) : noFrames (KK P) = true := by kernel_rfl
theorem noFrames_at {K : Frag} {a : Addr} {o : Obj} (h : noFrames K = true) (e : K.lookup a = some o) : o.cls ≠ .type "frame" := by
  have := List.all_eq_true.mp h (a, o) (mem_of_lookupK e)
  simpa using this
theorem k_mg (P : Params) : ((KK P).lookup mainGlobals).isSome = true := by kernel_rfl
theorem k_st (P : Params) : ((KK P).lookup cStatics).isSome = true := by kernel_rfl
theorem only_ns [Born] {h : Heap} {P : Addr → Prop} {a : Addr} {m : Str → Option Value} (n : h.Ns a m) (hp : P a) : (only h P).Ns a m := by
  obtain ⟨o, es, ep, e, d, r⟩ := n
  exact ⟨o, es, ep, only_get.mpr ⟨hp, e⟩, d, r⟩
abbrev tabs2 : List (Addr × Addr) := [(49, 45), (204, 202)]
def plainAt (h : Heap) (a : Addr) : Prop := ∀ o, h.get? a = some o → o.cls ≠ .type "frame"
set_option maxHeartbeats 4000000 in
theorem entry_ok {prog : Program} {w : PySem.World} {s₁ : Shared} {mg mb : Str → Option Value} {p : Program} {loose : List Str} {mean : ExcName → Option Value} {fa l : Addr} {o : Obj} {fd : FuncData} {vs : List Value} {xs : List Int}
    (T : Top p loose mean mg mb s₁.heap) (KX : (KK w.params).In s₁.heap) (hT : TabsAt tabs2 s₁.heap) (ho : s₁.heap.get? fa = some o) (hd : o.data = .func fd) (hcd : s₁.heap.CodeRec fd.code fd.qualname)
    (hl : s₁.heap.IsList l vs.toArray) (hi : IntsAre vs xs) (hsz : vs.length ≤ 63) (K : ∃ wayT wayP, LawOk xs wayT wayP)
    (hbind : bindArgs fd ⟨[Value.ref l], []⟩ = (pure [(Str.ofString "script", Value.ref l)] : Sem (List (Str × Value)))) (hbody : fd.body = .stmts (lawBody w.params)) (hnames : fd.scope.names = lawNames) (hclo : fd.closure = []) (hcode : fd.code = .ref 204)
    (hco : fd.scope.isCoroutine = false) (hgen : fd.scope.isGenerator = false) (hk : fd.scope.kind = .function) (hg : fd.globals = mainGlobals) (hb : fd.builtins = builtinsNs) :
    codeAny (model prog w) callerA (.call (.ref fa) ⟨[.ref l], []⟩) (fun r s' => r = .ok (.ret (.bool true)) ∧ (∀ b o, (ghostOf s₁.heap tabs2).get? b = some o → s'.heap.get? b = some o) ∧ s'.os = s₁.os ∧ s'.gens = s₁.gens ∧ GrownAll tabs2 s'.heap) s₁ := by
  obtain ⟨h, gg, dr, t, os⟩ := s₁
  dsimp only at T KX hT ho hcd hl
  have KG := ghost_K hT KX (noTabs_K _)
  obtain ⟨h₀, hh₀⟩ : ∃ h₀, h₀ = ghostOf h tabs2 := ⟨_, rfl⟩
  have up : ∀ a o, h₀.get? a = some o → h.get? a = some o := fun a o e => by subst hh₀; exact of_hideAll _ e
  letI : Born := ⟨fun a => ∃ o, h₀.get? a = some o⟩
  obtain ⟨b₀, hb₀⟩ : ∃ b₀, b₀ = only h₀ (plainAt h₀) := ⟨_, rfl⟩
  have bget : ∀ {a o}, b₀.get? a = some o ↔ plainAt h₀ a ∧ h₀.get? a = some o := by subst hb₀; exact only_get
  have plainK : ∀ {a o}, (KK w.params).lookup a = some o → plainAt h₀ a := fun {a o} e o' e' => by
    rw [← hh₀] at KG
    rw [KG a o e] at e'
    cases e'
    exact noFrames_at (noFrames_K _) e
  have pm : plainAt h₀ mainGlobals := by
    obtain ⟨x, e⟩ := Option.isSome_iff_exists.mp (k_mg w.params)
    exact plainK e
  have pst : plainAt h₀ cStatics := by
    obtain ⟨x, e⟩ := Option.isSome_iff_exists.mp (k_st w.params)
    exact plainK e
  have eT : ∀ q ∈ tabs2, h.get? q.2 = some (tabObj #[]) ∧ h₀.get? q.2 = none := fun q hq => ⟨(hT q hq).2, by rw [hh₀]; exact hideAll_none _ (List.mem_map_of_mem hq)⟩
  have bnone : ∀ {a}, h₀.get? a = none → b₀.get? a = none := fun {a} e => by
    cases q : b₀.get? a with
    | none => rfl
    | some o => rw [(bget.mp q).2] at e; cases e
  have S : Sit b₀ h₀ b₀ [] [(45, tabObj #[]), (202, tabObj #[])] h := by
    refine ⟨fun a o e => ⟨o, up a o e, rfl, rfl, fun _ => rfl⟩, fun _ _ e => e, fun a o e => ⟨up a o (bget.mp e).2, (bget.mp e).1 o (bget.mp e).2⟩, fun _ _ e => .inl e, (fun _ q => nomatch q), fun p hp => ?_, by decide⟩
    simp only [List.mem_cons, List.not_mem_nil, or_false] at hp
    rcases hp with rfl | rfl
    · obtain ⟨e1, e2⟩ := eT (49, 45) (.head _)
      exact ⟨e1, by show (tabObj #[]).cls ≠ _; decide, bnone e2, e2⟩
    · obtain ⟨e1, e2⟩ := eT (204, 202) (.tail _ (.head _))
      exact ⟨e1, by show (tabObj #[]).cls ≠ _; decide, bnone e2, e2⟩
  have Ng := ghost_ns hT T.g
  have Nb := ghost_ns hT T.b
  rw [← hh₀] at Ng Nb KG
  have W : World (KK w.params) b₀ := by
    refine ⟨fun a o e => bget.mpr ⟨plainK e, KG a o e⟩, ⟨mg, by rw [hb₀]; exact only_ns Ng pm⟩, ?_, ?_⟩
    · obtain ⟨bm, ob, e1, n, e2, e3, e4, e5⟩ := T.bmain
      have e2' : h₀.get? bm = some ob := by rw [hh₀]; exact ghost_get hT e2 (fun q => by rw [q] at e3; cases e3)
      refine ⟨mg, bm, ob, by rw [hb₀]; exact only_ns Ng pm, e1, n, bget.mpr ⟨fun o' e' => ?_, e2'⟩, e3, e4, e5⟩
      rw [e2'] at e'; cases e'
      rw [e3]; decide
    · obtain ⟨mc, n, r⟩ := T.nolimit
      exact ⟨mc, by rw [hb₀]; exact only_ns (by rw [hh₀]; exact ghost_ns hT n) pst, r⟩
  have G₀ : Good callerA h₀ 201 := ⟨rfl, by decide, by decide, ⟨[], rfl, fun _ q => nomatch q⟩, ⟨mb, Nb, T.builtins⟩, fun a e => e⟩
  have G : Good callerA h 201 := G₀.ext S.ext
  obtain ⟨wayT, wayP, K⟩ := K
  have hl' : b₀.IsList l vs.toArray := by
    obtain ⟨ol, e, hc, r⟩ := hl
    have e' : h₀.get? l = some ol := by rw [hh₀]; exact ghost_get hT e (fun q => by rw [q] at hc; cases hc)
    refine ⟨ol, bget.mpr ⟨fun o' e'' => ?_, e'⟩, hc, r⟩
    rw [e'] at e''; cases e''
    rw [hc]; decide
  have key := callDefSC (c := ⟨prog, w, gg, dr, os⟩) (A := callerA) (R := fun r h' => r = .ok (.ret (.bool true)) ∧ Ext h₀ h' ∧ (∃ t1, h'.get? 45 = some (tabObj t1)) ∧ ∃ t2, h'.get? 202 = some (tabObj t2)) (binds := [(Str.ofString "script", .ref l)]) (args := [.ref l]) W S G ho hd hcd (fun L h' env hL he hf H X S => ?x) hbind hbody hco hgen hk hg hb
  case x =>
    have hcodeE : env.code = .ref 204 := by rw [he, ← hcode]; rfl
    rw [hnames, hclo] at H
    rw [hnames] at S
    replace H : EnvOk env L lawNames (lawCells (L + 1) (L + 2) (L + 3) (L + 4) (L + 5) (L + 6) (L + 7) (L + 8)) := H
    replace S : Sit b₀ h₀ b₀ [(L, "frame", fun _ => none)] [(L + 8, clv none), (L + 7, clv none), (L + 6, clv none), (L + 5, clv none), (L + 4, clv none), (L + 3, clv none), (L + 2, clv none), (L + 1, clv none), (45, tabObj #[]), (202, tabObj #[])] h' := S
    have H0 := H
    dsimp only [lawNames, lawCells] at H
    clear he
    repeat' isplit
    have := law_walk (c := ⟨prog, w, gg, dr, os⟩) W (G₀.le (by decide)) S H0 hf hcodeE (by kpf_c) hl' hi hsz K
    exact this.mono (fun f h' q => ⟨by rw [q.1], q.2⟩) fun _ _ q => q
  refine codeAny_mono (key t) fun r s' q => ?_
  obtain ⟨h', t', rfl, rfl, X, ⟨t1, e1⟩, t2, e2⟩ := q
  refine ⟨rfl, fun a o e => ?_, rfl, rfl, ⟨t1, e1⟩, ⟨t2, e2⟩, trivial⟩
  have e' : h₀.get? a = some o := by rw [hh₀]; exact e
  obtain ⟨o', g', _, _, k⟩ := X a o e'
  rw [k (.inr ⟨o, e'⟩)] at g'
  exact g'
end

section
open PySem.Builtin PySem.Builtin.Str
def wayF (t : Str) : List Str := (downs (rowOf t)).map pathS
def piecesF (n : Nat) : List Str := if n = 0 then [] else pieceAt (n % 5) :: (if n / 5 = 0 then [] else pieceAt (n / 5 % 5) :: (if n / 5 / 5 = 0 then [] else [pieceAt (n / 5 / 5 % 5)]))
def textF (n : Nat) : Str := (piecesF n).foldl join2 "/"
theorem pieces_F {n : Nat} (h : n < 125) : piecesOf n = piecesF n := by
  unfold piecesF
  split
  · rename_i e; rw [e, piecesOf_zero]
  · rename_i e
    rw [piecesOf_pos (by omega)]
    congr 1
    split
    · rename_i e; rw [e, piecesOf_zero]
    · rename_i e
      rw [piecesOf_pos (by omega)]
      congr 1
      split
      · rename_i e; rw [e, piecesOf_zero]
      · rename_i e
        rw [piecesOf_pos (by omega), show n / 5 / 5 / 5 = 0 by omega, piecesOf_zero]
theorem text_F {n : Nat} (h : n < 125) : textOf n = textF n := by unfold textOf textF; rw [pieces_F h]
def U : List (List Str) := [[]] ++ abc.map (fun x => [x]) ++ abc.flatMap (fun x => abc.map fun y => [x, y]) ++ abc.flatMap (fun x => abc.flatMap fun y => abc.map fun z => [x, y, z])
def textB (t : Str) : Bool :=
  decide (t.length ≤ 1000) && (t.length != 0) && ((Txt.slice t none (some 1) != ("/" : Str)) == false) && (Txt.slice t (some 1) (some 2) != ("/" : Str)) &&
  decide ((partsBetween (Txt.slice t (some 1) none) (occurrences (Txt.slice t (some 1) none) "/" 0 (Txt.slice t (some 1) none).length ((Txt.slice t (some 1) none).length + 1)) 1).length ≤ 1000) &&
  decide ((Txt.split (Txt.slice t (some 1) none) "/").length ≤ 1000) && JoinOk "/" (normComps t) && decide ((Txt.join "/" (normComps t)).length ≤ 1000) && ((Txt.split (Txt.slice t (some 1) none) "/").all fun k => decide (k.length ≤ 1000)) &&
  ((wayF t).head? == some (normS t)) && wayB (wayF t) && ((wayF t).all fun y => decide (y.length ≤ 1000)) && decide ((wayF t).length ≤ 4) &&
  decide ((partsBetween t (occurrences t "/" 0 t.length (t.length + 1)) (Str.ofString "/").length).length ≤ 1000) && decide ((Txt.split t "/").length ≤ 20) && U.contains (rowOf t)
theorem textB_0 : (List.range' 0 25).all (fun n => textB (textF n)) = true := by decide +kernel
theorem textB_1 : (List.range' 25 25).all (fun n => textB (textF n)) = true := by decide +kernel
theorem textB_2 : (List.range' 50 25).all (fun n => textB (textF n)) = true := by decide +kernel
theorem textB_3 : (List.range' 75 25).all (fun n => textB (textF n)) = true := by decide +kernel
theorem textB_4 : (List.range' 100 25).all (fun n => textB (textF n)) = true := by decide +kernel
theorem textB_all : (List.range 125).all (fun n => textB (textF n)) = true := by
  rw [show List.range 125 = List.range' 0 25 ++ List.range' 25 25 ++ List.range' 50 25 ++ List.range' 75 25 ++ List.range' 100 25 from by decide +kernel,
    List.all_append, List.all_append, List.all_append, List.all_append, textB_0, textB_1, textB_2, textB_3, textB_4]
  rfl
theorem textB_T : lawT.all textB = true := by decide +kernel
end

section
open PySem.Builtin PySem.Builtin.Str
def uB (r : List Str) : Bool :=
  JoinOk "/" r && decide ((pathS r).length ≤ 1000) && (rowOf (pathS r) == r) && wayB (wayF (pathS r)) && ((wayF (pathS r)).head? == some (pathS r)) && ((wayF (pathS r)).all fun y => decide (y.length ≤ 1000)) && decide ((wayF (pathS r)).length ≤ 20) &&
  (r.all fun s => abc.contains s) && decide (r.length ≤ 3) && ((downs r).all fun q => U.contains q) && ((List.range 4).all fun i => U.contains (r.drop i)) &&
  (((downs r).drop 1).all fun q => Txt.slice (pathS r) (some ((Txt.rstripChars (pathS q) (Str.ofString "/")).length : Int)) none == pathS (r.drop q.length))
set_option maxHeartbeats 4000000 in
theorem uB_all : U.all uB = true := by decide +kernel
structure UOk (r : List Str) : Prop where
  join : JoinOk "/" r = true
  plen : (pathS r).length ≤ 1000
  row : rowOf (pathS r) = r
  way : FoldOk (pathS r) (wayF (pathS r))
  abc : ∀ s ∈ r, s ∈ abc
  len : r.length ≤ 3
  downs : ∀ q ∈ downs r, q ∈ U
  drops : ∀ i, r.drop i ∈ U
  below : ∀ q ∈ (Mine.downs r).drop 1, Txt.slice (pathS r) (some ((Txt.rstripChars (pathS q) (Str.ofString "/")).length : Int)) none = pathS (r.drop q.length)
theorem u_ok {r : List Str} (h : r ∈ U) : UOk r := by
  have hb := List.all_eq_true.mp uB_all r h
  unfold uB at hb
  simp only [Bool.and_eq_true, decide_eq_true_eq, beq_iff_eq, List.all_eq_true, List.contains_iff_mem] at hb
  obtain ⟨⟨⟨⟨⟨⟨⟨⟨⟨⟨⟨h1, h2⟩, h3⟩, h4⟩, h5⟩, h6⟩, h7⟩, h8⟩, h9⟩, h10⟩, h11⟩, h12⟩ := hb
  refine ⟨h1, h2, h3, ⟨?_, h4, h6, h7⟩, h8, h9, h10, fun i => ?_, h12⟩
  · cases hw : wayF (pathS r) with
    | nil => rw [hw] at h5; cases h5
    | cons x l => rw [hw] at h5; exact ⟨l, by rw [Option.some.inj h5]⟩
  · rcases Nat.lt_or_ge i 4 with hi | hi
    · exact h11 i (by simpa using hi)
    · have : r.drop i = r.drop 3 := by rw [List.drop_of_length_le (by omega), List.drop_of_length_le (by omega)]
      rw [this]; exact h11 3 (by simp)
theorem path_inj {r s : List Str} (hr : r ∈ U) (hs : s ∈ U) (e : pathS r = pathS s) : r = s := by rw [← (u_ok hr).row, ← (u_ok hs).row, e]
structure TOk (t : Str) : Prop where
  text : TextOk t (wayF t)
  split : SplitOk t
  row : rowOf t ∈ U
  few : (wayF t).length ≤ 4
theorem t_ok {t : Str} (hb : textB t = true) : TOk t := by
  unfold textB at hb
  simp only [Bool.and_eq_true, decide_eq_true_eq, beq_iff_eq, List.all_eq_true, List.contains_iff_mem] at hb
  obtain ⟨⟨⟨⟨⟨⟨⟨⟨⟨⟨⟨⟨⟨⟨⟨h1, h2⟩, h3⟩, h4⟩, h5⟩, h6⟩, h7⟩, h8⟩, h9⟩, h10⟩, h11⟩, h12⟩, h13⟩, h14⟩, h15⟩, h16⟩ := hb
  refine ⟨⟨⟨h1, h2, h3, h4, h5, h6, h7, h8, h9⟩, ?_, h11, h12, by omega⟩, ⟨h1, h14, h15⟩, h16, h13⟩
  cases hw : wayF t with
  | nil => rw [hw] at h10; cases h10
  | cons x l => rw [hw] at h10; exact ⟨l, by rw [Option.some.inj h10]⟩
theorem texts_ok {xs : List Int} : ∀ t ∈ textsS xs, TOk t := by
  intro t ht
  unfold textsS at ht
  rcases List.mem_append.mp ht with ht | ht
  · obtain ⟨x, _, rfl⟩ := List.mem_map.mp ht
    have hn : numOf x < 125 := Nat.mod_lt _ (by decide)
    rw [text_F hn]
    exact t_ok (List.all_eq_true.mp textB_all (numOf x) (by simpa using hn))
  · exact t_ok (List.all_eq_true.mp textB_T t ht)
end

section
open PySem.Builtin PySem.Builtin.Str
theorem downs_mem {q r : List Str} : q ∈ downs r ↔ q <+: r := by
  unfold downs
  rw [List.mem_map]
  constructor
  · rintro ⟨i, _, rfl⟩
    exact List.take_prefix _ _
  · intro h
    refine ⟨r.length - q.length, ?_, ?_⟩
    · rw [List.mem_range]; omega
    · have hl := h.length_le
      rw [show r.length - (r.length - q.length) = q.length by omega]
      exact (List.prefix_iff_eq_take.mp h).symm
theorem downs_tail {q r : List Str} : q ∈ (downs r).drop 1 ↔ q <+: r ∧ q ≠ r := by
  have e : (downs r).drop 1 = (List.range r.length).map fun i => r.take (r.length - (i + 1)) := by
    unfold downs
    rw [List.range_succ_eq_map, List.map_cons, List.drop_one, List.tail_cons, List.map_map]
    rfl
  rw [e, List.mem_map]
  constructor
  · rintro ⟨i, hi, rfl⟩
    rw [List.mem_range] at hi
    refine ⟨List.take_prefix _ _, fun z => ?_⟩
    have := congrArg List.length z
    rw [List.length_take] at this
    omega
  · rintro ⟨h, n⟩
    have hl := h.length_le
    have hne : q.length ≠ r.length := fun z => n (h.eq_of_length z)
    refine ⟨r.length - q.length - 1, by rw [List.mem_range]; omega, ?_⟩
    rw [show r.length - (r.length - q.length - 1 + 1) = q.length by omega]
    exact (List.prefix_iff_eq_take.mp h).symm
theorem addRow_mem {rows : List (List Str)} {r x : List Str} : x ∈ addRow rows r ↔ x ∈ rows ∨ x = r := by
  unfold addRow
  cases h : (!rows.any fun y => decide (y = r)) with
  | true => simp
  | false =>
    simp only [cond_false]
    rw [Bool.not_eq_false', List.any_eq_true] at h
    obtain ⟨y, hy, e⟩ := h
    have := of_decide_eq_true e
    subst this
    exact ⟨.inl, fun z => z.elim id fun z => z ▸ hy⟩
theorem addRow_nd {rows : List (List Str)} {r : List Str} (h : rows.Nodup) : (addRow rows r).Nodup := by
  unfold addRow
  cases hb : (!rows.any fun y => decide (y = r)) with
  | false => exact h
  | true =>
    simp only [cond_true]
    rw [List.nodup_append]
    refine ⟨h, by simp, fun a ha b hb' e => ?_⟩
    rw [List.mem_singleton] at hb'
    subst hb' e
    simp at hb
    exact hb _ ha rfl
theorem fold_mem : ∀ (L acc : List (List Str)) {x : List Str}, x ∈ L.foldl addRow acc ↔ x ∈ acc ∨ x ∈ L
  | [], acc, x => by simp
  | r :: L, acc, x => by
    rw [List.foldl_cons, fold_mem L, addRow_mem, List.mem_cons, or_assoc]
theorem fold_nd : ∀ (L acc : List (List Str)), acc.Nodup → (L.foldl addRow acc).Nodup
  | [], acc, h => h
  | r :: L, acc, h => by rw [List.foldl_cons]; exact fold_nd L _ (addRow_nd h)
theorem fold_len2 : ∀ (L acc : List (List Str)), (L.foldl addRow acc).length ≤ acc.length + L.length
  | [], acc => by simp
  | r :: L, acc => by
    have h1 := fold_len2 L (addRow acc r)
    have h2 : (addRow acc r).length ≤ acc.length + 1 := by
      unfold addRow
      cases (!acc.any fun y => decide (y = r)) <;> simp
    rw [List.foldl_cons, List.length_cons]
    omega
def allDowns (texts : List Str) : List (List Str) := texts.flatMap fun t => downs (rowOf t)
theorem rows_flat : ∀ (texts : List Str) (acc : List (List Str)), texts.foldl addText acc = (allDowns texts).foldl addRow acc
  | [], acc => rfl
  | t :: ts, acc => by
    rw [List.foldl_cons, rows_flat ts]
    unfold allDowns
    rw [List.flatMap_cons, List.foldl_append]
    rfl
theorem rows_is (texts : List Str) : rowsS texts = (allDowns texts).foldl addRow [] := rows_flat texts []
theorem rows_mem {texts : List Str} {r : List Str} : r ∈ rowsS texts ↔ ∃ t ∈ texts, r <+: rowOf t := by
  rw [rows_is, fold_mem]
  unfold allDowns
  rw [List.mem_flatMap]
  simp only [List.not_mem_nil, false_or, downs_mem]
section
variable {xs : List Int}
theorem alld_U : ∀ r ∈ allDowns (textsS xs), r ∈ U := fun r hr => by
  unfold allDowns at hr
  obtain ⟨t, ht, h⟩ := List.mem_flatMap.mp hr
  exact (u_ok (texts_ok t ht).row).downs r h
theorem rows_U : ∀ r ∈ rowsS (textsS xs), r ∈ U := fun r hr => by
  obtain ⟨t, ht, h⟩ := rows_mem.mp hr
  exact (u_ok (texts_ok t ht).row).downs r (downs_mem.mpr h)
theorem rows_pre {r u : List Str} (h : r ++ u ∈ rowsS (textsS xs)) : r ∈ rowsS (textsS xs) := by
  obtain ⟨t, ht, h⟩ := rows_mem.mp h
  exact rows_mem.mpr ⟨t, ht, (List.prefix_append r u).trans h⟩
theorem texts_len : (textsS xs).length ≤ 8 := by
  unfold textsS lawT
  rw [List.length_append, List.length_map, List.length_take]
  simp
  omega
theorem alld_len : ∀ {texts : List Str}, (∀ t ∈ texts, (wayF t).length ≤ 4) → (allDowns texts).length ≤ 4 * texts.length
  | [], _ => by simp [allDowns]
  | t :: ts, h => by
    have h1 := alld_len (texts := ts) fun t ht => h t (.tail _ ht)
    have h2 := h t (.head _)
    unfold wayF at h2
    rw [List.length_map] at h2
    unfold allDowns at h1 ⊢
    rw [List.flatMap_cons, List.length_append, List.length_cons]
    omega
theorem rows_ok : RowsOk (rowsS (textsS xs)) where
  nd := by rw [rows_is]; exact fold_nd _ _ List.nodup_nil
  abc := fun r hr => (u_ok (rows_U r hr)).abc
  len := by
    have h1 := fold_len2 (allDowns (textsS xs)) []
    have h2 := alld_len (texts := textsS xs) fun t ht => (texts_ok t ht).few
    have h3 := texts_len (xs := xs)
    rw [rows_is]
    simp at h1
    omega
  rlen := fun r hr => by have := (u_ok (rows_U r hr)).len; omega
  inj := fun r hr r' hr' e => path_inj (rows_U r hr) (rows_U r' hr') (by unfold pathS; rw [e])
  ok := fun r hr => (u_ok (rows_U r hr)).join
def addKey (acc : List Str) (x : Str) : List Str := if x ∈ acc then acc else acc ++ [x]
theorem stored_keys (kvs : List (Str × Value)) (x : Str) (v : Value) : (stored kvs x v).map (·.1) = addKey (kvs.map (·.1)) x := by
  unfold stored addKey
  have hiff : (kvs.any (fun kv => decide (kv.1 = x)) = true) ↔ x ∈ kvs.map (·.1) := by
    rw [List.any_eq_true, List.mem_map]
    constructor
    · rintro ⟨kv, h, e⟩; exact ⟨kv, h, of_decide_eq_true e⟩
    · rintro ⟨kv, h, e⟩; exact ⟨kv, h, decide_eq_true e⟩
  by_cases h : kvs.any (fun kv => decide (kv.1 = x)) = true
  · rw [if_pos h, if_pos (hiff.mp h), List.map_map]
    apply List.map_congr_left
    intro kv _
    show (if kv.1 = x then (kv.1, v) else kv).1 = kv.1
    split <;> rfl
  · rw [if_neg h, if_neg fun z => h (hiff.mpr z), List.map_append]
    rfl
theorem fromK_keys : ∀ (ys : List Str) (acc : List (Str × Value)), (ys.foldl (fun kvs x => stored kvs x .none) acc).map (·.1) = ys.foldl addKey (acc.map (·.1))
  | [], acc => rfl
  | y :: ys, acc => by
    rw [List.foldl_cons, List.foldl_cons, fromK_keys ys, stored_keys]
theorem keys_rows : ∀ (L acc : List (List Str)), (∀ r ∈ L, r ∈ U) → (∀ r ∈ acc, r ∈ U) → (L.map pathS).foldl addKey (acc.map pathS) = (L.foldl addRow acc).map pathS
  | [], acc, _, _ => rfl
  | r :: L, acc, hL, ha => by
    have hr := hL r (.head _)
    rw [List.map_cons, List.foldl_cons, List.foldl_cons]
    have e : addKey (acc.map pathS) (pathS r) = (addRow acc r).map pathS := by
      unfold addKey addRow
      have hiff : pathS r ∈ acc.map pathS ↔ r ∈ acc := by
        rw [List.mem_map]
        constructor
        · rintro ⟨s, hs, e⟩; rw [path_inj hr (ha s hs) e.symm]; exact hs
        · intro h; exact ⟨r, h, rfl⟩
      by_cases h : r ∈ acc
      · rw [if_pos (hiff.mpr h)]
        have : (!acc.any fun y => decide (y = r)) = false := by
          rw [Bool.not_eq_false', List.any_eq_true]; exact ⟨r, h, by simp⟩
        rw [this]; rfl
      · rw [if_neg fun z => h (hiff.mp z)]
        have : (!acc.any fun y => decide (y = r)) = true := by
          rw [Bool.not_eq_true', Bool.eq_false_iff]
          intro z
          rw [List.any_eq_true] at z
          obtain ⟨y, hy, e⟩ := z
          exact h ((of_decide_eq_true e) ▸ hy)
        rw [this, cond_true, List.map_append]; rfl
    rw [e]
    exact keys_rows L _ (fun s hs => hL s (.tail _ hs)) fun s hs => (addRow_mem.mp hs).elim (ha s) fun z => z ▸ hr
theorem flat_way : ∀ (texts : List Str), texts.flatMap wayF = (allDowns texts).map pathS
  | [] => rfl
  | t :: ts => by
    unfold allDowns
    rw [List.flatMap_cons, List.flatMap_cons, List.map_append]
    have := flat_way ts
    unfold allDowns at this
    rw [this]; rfl
theorem fold_ok : (fromK ((textsS xs).flatMap wayF)).map (·.1) = foldersS xs := by
  show (((textsS xs).flatMap wayF).foldl (fun kvs x => stored kvs x Value.none) []).map (·.1) = _
  rw [fromK_keys, flat_way]
  have := keys_rows (allDowns (textsS xs)) [] alld_U (fun r h => nomatch h)
  rw [List.map_nil] at this ⊢
  rw [this, ← rows_is]
theorem pnd_ok : (foldersS xs).Nodup := by
  unfold foldersS List.Nodup
  rw [List.pairwise_map]
  refine List.Pairwise.imp_of_mem (fun {a b} ha hb n e => n ?_) rows_ok.nd
  exact path_inj (rows_U a ha) (rows_U b hb) e
end
end

section
open PySem.Builtin PySem.Builtin.Str
theorem addS_mem {acc : List Str} {x y : Str} : y ∈ addV eqS acc x ↔ y ∈ acc ∨ y = x := by
  unfold addV
  cases h : (!acc.any fun y => eqS y x) with
  | true => simp
  | false =>
    simp only [cond_false]
    rw [Bool.not_eq_false', List.any_eq_true] at h
    obtain ⟨z, hz, e⟩ := h
    unfold eqS at e
    have := eq_of_beq e
    subst this
    exact ⟨.inl, fun w => w.elim id fun w => w ▸ hz⟩
theorem addS_nd {acc : List Str} {x : Str} (h : acc.Nodup) : (addV eqS acc x).Nodup := by
  unfold addV
  cases hb : (!acc.any fun y => eqS y x) with
  | false => exact h
  | true =>
    simp only [cond_true]
    rw [List.nodup_append]
    refine ⟨h, by simp, fun a ha b hb' e => ?_⟩
    rw [List.mem_singleton] at hb'
    subst hb' e
    rw [Bool.not_eq_true', Bool.eq_false_iff] at hb
    exact hb (List.any_eq_true.mpr ⟨a, ha, by unfold eqS; simp⟩)
theorem dedupS_mem : ∀ (xs acc : List Str) {y : Str}, y ∈ xs.foldl (addV eqS) acc ↔ y ∈ acc ∨ y ∈ xs
  | [], acc, y => by simp
  | x :: xs, acc, y => by rw [List.foldl_cons, dedupS_mem xs, addS_mem, List.mem_cons, or_assoc]
theorem dedupS_nd : ∀ (xs acc : List Str), acc.Nodup → (xs.foldl (addV eqS) acc).Nodup
  | [], acc, h => h
  | x :: xs, acc, h => by rw [List.foldl_cons]; exact dedupS_nd xs _ (addS_nd h)
theorem remAll_nil : ∀ (X T : List Str), X.Nodup → T.Nodup → (remAll X T = some [] ↔ ∀ y, y ∈ X ↔ y ∈ T)
  | [], T, _, _ => by
    rw [remAll]
    constructor
    · intro e y; rw [Option.some.inj e]
    · intro h
      cases T with
      | nil => rfl
      | cons z T => exact absurd ((h z).mpr (.head _)) (by simp)
  | x :: X, T, hX, hT => by
    rw [remAll]
    have hx := List.nodup_cons.mp hX
    by_cases hm : x ∈ T
    · rw [if_pos hm, remAll_nil X (T.erase x) hx.2 (hT.erase x)]
      constructor
      · intro h y
        by_cases e : y = x
        · subst e; exact ⟨fun _ => hm, fun _ => .head _⟩
        · rw [List.mem_cons, h y, hT.mem_erase_iff]
          exact ⟨fun z => z.elim (fun z => absurd z e) fun z => z.2, fun z => .inr ⟨e, z⟩⟩
      · intro h y
        rw [hT.mem_erase_iff]
        constructor
        · intro hy
          exact ⟨fun e => hx.1 (e ▸ hy), (h y).mp (.tail _ hy)⟩
        · rintro ⟨n, hy⟩
          exact (List.mem_cons.mp ((h y).mpr hy)).resolve_left n
    · rw [if_neg hm]
      constructor
      · intro e; cases e
      · intro h; exact absurd ((h x).mp (.head _)) hm
theorem cmp_iff {xs ys : List Str} : cmpS xs ys = true ↔ ∀ y, y ∈ xs ↔ y ∈ ys := by
  unfold cmpS dedupV
  rw [beq_iff_eq, remAll_nil _ _ (dedupS_nd xs [] List.nodup_nil) (dedupS_nd ys [] List.nodup_nil)]
  simp only [dedupS_mem, List.not_mem_nil, false_or]
section
variable {xs : List Int}
theorem below_mem {r : List Str} (hr : r ∈ rowsS (textsS xs)) {y : Str} : y ∈ belowW (foldersS xs) wayF (pathS r) ↔ ∃ u, u ≠ [] ∧ r ++ u ∈ rowsS (textsS xs) ∧ y = pathS u := by
  unfold belowW
  rw [List.mem_map]
  have hany : ∀ s ∈ rowsS (textsS xs), ((((wayF (pathS s)).drop 1).any fun y => decide (y = pathS r)) = true ↔ r ∈ (downs s).drop 1) := fun s hs => by
    have hsU := rows_U s hs
    unfold wayF
    rw [(u_ok hsU).row, ← List.map_drop, List.any_map, List.any_eq_true]
    constructor
    · rintro ⟨q, hq, e⟩
      have hqU : q ∈ U := (u_ok hsU).downs q (List.mem_of_mem_drop hq)
      have := path_inj hqU (rows_U r hr) (of_decide_eq_true e)
      rw [← this]; exact hq
    · intro h
      exact ⟨r, h, by simp⟩
  constructor
  · rintro ⟨one, ho, rfl⟩
    obtain ⟨ho, ha⟩ := List.mem_filter.mp ho
    obtain ⟨s, hs, rfl⟩ := List.mem_map.mp ho
    have hd := (hany s hs).mp ha
    obtain ⟨hp, hn⟩ := downs_tail.mp hd
    obtain ⟨u, rfl⟩ := hp
    refine ⟨u, fun z => hn (by rw [z, List.append_nil]), hs, ?_⟩
    rw [(u_ok (rows_U _ hs)).below r hd, List.drop_left]
  · rintro ⟨u, hu, hs, rfl⟩
    have hd : r ∈ (downs (r ++ u)).drop 1 := downs_tail.mpr ⟨List.prefix_append r u, fun z => hu (by simpa using z)⟩
    refine ⟨pathS (r ++ u), List.mem_filter.mpr ⟨List.mem_map_of_mem hs, (hany _ hs).mpr hd⟩, ?_⟩
    rw [(u_ok (rows_U _ hs)).below r hd, List.drop_left]
def Same (rows : List (List Str)) (r r' : List Str) : Prop := ∀ u, u ≠ [] → (r ++ u ∈ rows ↔ r' ++ u ∈ rows)
theorem u_suffix {r u : List Str} (h : r ++ u ∈ rowsS (textsS xs)) : u ∈ U := by
  have := (u_ok (rows_U _ h)).drops r.length
  rwa [List.drop_left] at this
theorem cmp_same {r r' : List Str} (hr : r ∈ rowsS (textsS xs)) (hr' : r' ∈ rowsS (textsS xs)) : cmpS (belowW (foldersS xs) wayF (pathS r)) (belowW (foldersS xs) wayF (pathS r')) = true ↔ Same (rowsS (textsS xs)) r r' := by
  rw [cmp_iff]
  constructor
  · intro h u hu
    constructor
    · intro hm
      obtain ⟨v, hv, hm', e⟩ := (below_mem hr').mp ((h _).mp ((below_mem hr).mpr ⟨u, hu, hm, rfl⟩))
      rw [path_inj (u_suffix hm) (u_suffix hm') e]; exact hm'
    · intro hm
      obtain ⟨v, hv, hm', e⟩ := (below_mem hr).mp ((h _).mpr ((below_mem hr').mpr ⟨u, hu, hm, rfl⟩))
      rw [path_inj (u_suffix hm) (u_suffix hm') e]; exact hm'
  · intro h y
    rw [below_mem hr, below_mem hr']
    constructor
    · rintro ⟨u, hu, hm, e⟩; exact ⟨u, hu, (h u hu).mp hm, e⟩
    · rintro ⟨u, hu, hm, e⟩; exact ⟨u, hu, (h u hu).mpr hm, e⟩
end
/-! the kinds -/
section
variable {rows : List (List Str)} {κ : List Str → Int}
theorem child_iff {r one : List Str} : one ∈ childs rows r ↔ one ∈ rows ∧ ∃ nm, one = r ++ [nm] := by
  constructor
  · intro h
    obtain ⟨h1, h2, _⟩ := childs_mem h
    exact ⟨h1, _, h2⟩
  · rintro ⟨h, nm, rfl⟩
    unfold childs
    rw [List.mem_filter]
    exact ⟨h, by simp⟩
theorem last_snoc (r : List Str) (nm : Str) : lastS (r ++ [nm]) = nm := by unfold lastS; rw [List.getLast?_concat]; rfl
theorem find_iff {P : List (Str × Int)} (hn : (P.map (·.1)).Nodup) {nm : Str} {p : Str × Int} : P.find? (fun q => decide (q.1 = nm)) = some p ↔ p ∈ P ∧ p.1 = nm := by
  constructor
  · intro h
    exact ⟨List.mem_of_find?_eq_some h, by have := List.find?_some h; simpa using this⟩
  · rintro ⟨hp, rfl⟩
    cases hf : P.find? (fun q => decide (q.1 = p.1)) with
    | none =>
      rw [List.find?_eq_none] at hf
      exact absurd (decide_eq_true rfl) (hf p hp)
    | some q =>
      have h1 := List.mem_of_find?_eq_some hf
      have h2 : q.1 = p.1 := by have := List.find?_some hf; simpa using this
      have : q = p := by
        obtain ⟨i, hi, ei⟩ := List.mem_iff_getElem.mp h1
        obtain ⟨j, hj, ej⟩ := List.mem_iff_getElem.mp hp
        have : i = j := by
          have hn' := hn
          unfold List.Nodup at hn'
          rw [List.pairwise_map, List.pairwise_iff_getElem] at hn'
          rcases Nat.lt_trichotomy i j with h | h | h
          · exact absurd (by rw [ei, ej]; exact h2) (hn' i j hi hj h)
          · exact h
          · exact absurd (by rw [ei, ej]; exact h2.symm) (hn' j i hj hi h)
        subst this
        rw [← ei, ← ej]
      rw [this]
theorem held_mem (nd : rows.Nodup) (ha : ∀ r ∈ rows, ∀ s ∈ r, s ∈ abc) {r : List Str} {nm : Str} {k : Int} : (nm, k) ∈ heldS rows κ r ↔ r ++ [nm] ∈ rows ∧ k = κ (r ++ [nm]) := by
  unfold heldS sortP
  rw [List.mem_filterMap]
  constructor
  · rintro ⟨a, _, h⟩
    obtain ⟨h, e⟩ := (find_iff (childs_names nd)).mp h
    obtain ⟨one, ho, e2⟩ := List.mem_map.mp h
    obtain ⟨h1, nm', rfl⟩ := child_iff.mp ho
    rw [last_snoc] at e2
    cases e2
    exact ⟨h1, rfl⟩
  · rintro ⟨h, rfl⟩
    refine ⟨nm, ha _ h nm (by simp), (find_iff (childs_names nd)).mpr ⟨List.mem_map.mpr ⟨r ++ [nm], child_iff.mpr ⟨h, nm, rfl⟩, by rw [last_snoc]⟩, rfl⟩⟩
theorem held_eq (nd : rows.Nodup) {r r' : List Str} (h : ∀ nm k, (nm, k) ∈ ((childs rows r).map fun one => (lastS one, κ one)) ↔ (nm, k) ∈ ((childs rows r').map fun one => (lastS one, κ one))) : heldS rows κ r = heldS rows κ r' := by
  unfold heldS sortP
  congr 1
  funext nm
  apply Option.ext
  rintro ⟨x, k⟩
  rw [find_iff (childs_names nd), find_iff (childs_names nd), h]
theorem kinds_same (nd : rows.Nodup) (ha : ∀ r ∈ rows, ∀ s ∈ r, s ∈ abc) (pre : ∀ r u, r ++ u ∈ rows → r ∈ rows) (spec : KindsSpec rows κ) : ∀ (n : Nat) (r r' : List Str), r ∈ rows → r' ∈ rows → (∀ u, r ++ u ∈ rows → u.length ≤ n) → (∀ u, r' ++ u ∈ rows → u.length ≤ n) → (κ r = κ r' ↔ Same rows r r') := by
  intro n
  induction n using Nat.strongRecOn with
  | _ n ih =>
    intro r r' hr hr' hn hn'
    have child : ∀ nm, r ++ [nm] ∈ rows → r' ++ [nm] ∈ rows → (κ (r ++ [nm]) = κ (r' ++ [nm]) ↔ Same rows (r ++ [nm]) (r' ++ [nm])) := fun nm h h' => by
      cases n with
      | zero => have := hn [nm] h; simp at this
      | succ n =>
        refine ih n (Nat.lt_succ_self n) _ _ h h' (fun u hu => ?_) (fun u hu => ?_)
        · rw [List.append_assoc] at hu
          have := hn _ hu
          simp at this; omega
        · rw [List.append_assoc] at hu
          have := hn' _ hu
          simp at this; omega
    rw [spec r hr r' hr']
    constructor
    · intro h u hu
      have key : ∀ nm, (r ++ [nm] ∈ rows ↔ r' ++ [nm] ∈ rows) := fun nm => by
        constructor
        · intro hm
          have := (held_mem (κ := κ) nd ha).mpr ⟨hm, rfl⟩
          rw [h] at this
          exact ((held_mem nd ha).mp this).1
        · intro hm
          have := (held_mem (κ := κ) nd ha).mpr ⟨hm, rfl⟩
          rw [← h] at this
          exact ((held_mem nd ha).mp this).1
      have kk : ∀ nm, r ++ [nm] ∈ rows → κ (r ++ [nm]) = κ (r' ++ [nm]) := fun nm hm => by
        have := (held_mem (κ := κ) nd ha).mpr ⟨hm, rfl⟩
        rw [h] at this
        exact ((held_mem nd ha).mp this).2
      cases u with
      | nil => exact absurd rfl hu
      | cons nm u =>
        cases u with
        | nil => exact key nm
        | cons x u =>
          rw [show r ++ nm :: x :: u = (r ++ [nm]) ++ (x :: u) by simp, show r' ++ nm :: x :: u = (r' ++ [nm]) ++ (x :: u) by simp]
          constructor
          · intro hm
            have h1 := pre _ _ hm
            exact ((child nm h1 ((key nm).mp h1)).mp (kk nm h1) _ (by simp)).mp hm
          · intro hm
            have h1 := (key nm).mpr (pre _ _ hm)
            exact ((child nm h1 ((key nm).mp h1)).mp (kk nm h1) _ (by simp)).mpr hm
    · intro h
      have sub : ∀ nm, r ++ [nm] ∈ rows → Same rows (r ++ [nm]) (r' ++ [nm]) := fun nm _ u hu => by
        rw [List.append_assoc, List.append_assoc]
        exact h _ (by simp)
      refine held_eq nd fun nm k => ?_
      rw [List.mem_map, List.mem_map]
      constructor
      · rintro ⟨one, ho, e⟩
        obtain ⟨h1, x, rfl⟩ := child_iff.mp ho
        rw [last_snoc] at e
        cases e
        have h2 := (h [nm] (by simp)).mp h1
        exact ⟨r' ++ [nm], child_iff.mpr ⟨h2, nm, rfl⟩, by rw [last_snoc, (child nm h1 h2).mpr (sub nm h1)]⟩
      · rintro ⟨one, ho, e⟩
        obtain ⟨h1, x, rfl⟩ := child_iff.mp ho
        rw [last_snoc] at e
        cases e
        have h2 := (h [nm] (by simp)).mpr h1
        exact ⟨r ++ [nm], child_iff.mpr ⟨h2, nm, rfl⟩, by rw [last_snoc, (child nm h2 h1).mpr (sub nm h2)]⟩
end
theorem law_ok (xs : List Int) : ∃ wayT wayP, LawOk xs wayT wayP := by
  refine ⟨wayF, wayF, fun t ht => (texts_ok t ht).text, fun t ht => (texts_ok t ht).split, rows_ok, fun r hr => (u_ok (rows_U r hr)).plen, fold_ok, fun r hr => (u_ok (rows_U r hr)).way, pnd_ok, fun κ spec r hr r' hr' => ?_⟩
  have bound : ∀ r u, r ++ u ∈ rowsS (textsS xs) → u.length ≤ 10 := fun r u h => by
    have := rows_ok.rlen _ h
    rw [List.length_append] at this
    omega
  have := kinds_same (κ := κ) rows_ok.nd rows_ok.abc (fun r u h => rows_pre h) spec 10 r r' hr hr' (bound r) (bound r')
  rw [Bool.eq_iff_iff, cmp_same hr hr', decide_eq_true_iff]
  exact this.symm
end

theorem said_ok : PySem.Challenge.rw_ik0189_01.wellSaid = true := by
  unfold OpenLaw.wellSaid OpenRow.wellSaid OpenRow.partSaid looksOpen
  repeat' (with_reducible refine look_both ?_ ?_)
  all_goals first
    | (rw [PySem.W.Fast.te8326940854005059898]; decide +kernel)
    | (rw [PySem.W.Fast.te8377067652309620493]; decide +kernel)
    | (rw [PySem.W.Fast.te17119622794617984870]; decide +kernel)
    | decide +kernel
set_option maxHeartbeats 8000000 in
theorem holds (K : ∀ xs, ∃ wayT wayP, LawOk xs wayT wayP) : PySem.Challenge.rw_ik0189_01.Holds := by
  w_on
  refine holds_law said_ok fun said => ?_
  refine holds_open (q := vw) (loose := vwLoose) (Xt := fun _ => true) (XP := fun _ _ => True) (Yf := Hook.obs hookK) (Ya := Hook.val hookK) (YP := Hook.says hookK) (N := 2638) left_ok (Hook.of hookK) (Hook.keeps hookK) (fun _ _ => trivial) (fun _ _ _ _ _ => trivial) (by rfl) (by rfl) (by rfl) (fun _ _ => recFacts_nil rfl) (by rfl) said (by decide +kernel) ⟨rfl, rfl, rfl, rfl, rfl, by decide +kernel⟩ ?hw ?hc
  case hw => w_witness2
  case hc =>
    clear said
    intro w s₀ s₁ mg mb G Y fa o pm cd doc dV kV ho hd hcd hD hmg hg args vals as hpre hlay hrd hwl hlo
    have KX := km_in_of Y
    have hT8 := km_tabs_of Y
    refine Ground.open G ?_
    intro T B D TE TW
    try (refine guard_noD D (by decide +kernel) ?_; clear D)
    have hT9 : TabsAt ([(49, 45), (204, 202)] : List (Addr × Addr)) s₁.heap := List.forall_mem_cons.mpr ⟨⟨codeHd_of_K (c := 49) (P := 45) KX (by kernel_rfl), hT8 45 (.head _)⟩, List.forall_mem_cons.mpr ⟨⟨codeHd_of_K (c := 204) (P := 202) KX (by kernel_rfl), hT8 202 (.tail _ (.head _))⟩, fun _ h => nomatch h⟩⟩
    have he9 : cd = PySem.Value.ref 204 := law_code (x := PySem.Str.ofString "law") (c := 204) (P := 202) KX (Top.g T) (by kernel_rfl) hmg ho hd
    subst he9
    clear hmg
    wrow_args hpre hlay hrd hwl hlo
    all_goals (first | refine callC_kw (enter_call ?_) | refine enter_call ?_)
    all_goals w_top on
    all_goals refine kn_post hT9 (fun _ _ => rfl) ?_
    have he := Dflts.none hD rfl
    subst he
    have he := Dflts.noKw hD
    subst he
    refine codeAny_mono (entry_ok T KX hT9 ho hd hcd (by assumption) (by assumption) ?hs (K _) ?a1 ?a2 ?a3 ?a4 ?a5 ?a6 ?a7 ?a8 ?a9 ?a10) fun r s' q => ?fin
    case hs =>
      rename IntsAre _ _ => hI
      have hl := @ints_len ⟨fun _ => False⟩ _ _ hI
      rw [hl]
      rename ¬ (_ < _) => hc
      omega
    case a1 => first | rfl | kernel_rfl | with_unfolding_all rfl
    case a2 => first | rfl | kernel_rfl | with_unfolding_all rfl
    case a3 => first | rfl | kernel_rfl | with_unfolding_all rfl
    case a4 => first | rfl | kernel_rfl | with_unfolding_all rfl
    case a5 => first | rfl | kernel_rfl | with_unfolding_all rfl
    case a6 => first | rfl | kernel_rfl | with_unfolding_all rfl
    case a7 => first | rfl | kernel_rfl | with_unfolding_all rfl
    case a8 => first | rfl | kernel_rfl | with_unfolding_all rfl
    case a9 => first | rfl | kernel_rfl | with_unfolding_all rfl
    case a10 => first | rfl | kernel_rfl | with_unfolding_all rfl
    case fin =>
      obtain ⟨rfl, keep, eo, eg, gr⟩ := q
      refine ⟨⟨.inl ⟨.bool true, .bool true, [], rfl, ?_, .bool true, ?_, fun _ => ⟨.nil, fun _ h => nomatch h⟩⟩, keep, eo, eg.trans hg⟩, gr⟩
      · refine raisesW_false ?_
        wrow_none_raised
      · wrow_post

end Mine

theorem PySem.Challenge.cw_ik0189_01_holds : PySem.Challenge.rw_ik0189_01.Holds := by
  exact @Mine.holds ⟨fun _ => False⟩ (@Mine.law_ok ⟨fun _ => False⟩)
