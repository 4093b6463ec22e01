import PyProof.Rows.All
import Wide.All
import OpenK.AllK
import Wide.FinOn
import PyProof.FString5
import PyProof.CompUse
import PyProof.EnumFor
import PyProof.Draws
import PyProof.EnumMake
import PyProof.EqKinds
import PyProof.NeKinds
import Flt.Mod
import KE.KDictIter
import KE.KxPercent
import KE.KRevSl
import PySem.Challenge.RW_oy0201_01
set_option Elab.async false
set_option maxRecDepth 100000
set_option maxHeartbeats 8000000
set_option autoImplicit false
set_option linter.unusedVariables false
namespace Mine
section
open PySem PySem.W PySem.Calls PyProof.Rows

/-! ## the judgement -/
noncomputable def Same (s s' : Shared) : Prop := s'.gens = s.gens ∧ s'.drawn = s.drawn ∧ s'.os = s.os
theorem Same.rfl {s : Shared} : Same s s := ⟨Eq.refl _, Eq.refl _, Eq.refl _⟩
theorem Same.trans {a b c : Shared} (x : Same a b) (y : Same b c) : Same a c := ⟨y.1.trans x.1, y.2.1.trans x.2.1, y.2.2.trans x.2.2⟩
theorem Same.of {s : Shared} {h : Heap} {tk : Nat} : Same s { s with heap := h, toks := tk } := ⟨Eq.refl _, Eq.refl _, Eq.refl _⟩

abbrev NoE : Value → Shared → Prop := fun _ _ => False

noncomputable def Do {α : Type} (prog : Program) (w : World) (A : Around) (t : Sem α) (Q : α → Heap → Prop) (h : Heap) : Prop :=
  ∀ s : Shared, s.heap = h → wpAny (model prog w) A t (fun a s' => Same s s' ∧ Q a s'.heap) NoE s

noncomputable def DoC (prog : Program) (w : World) (A : Around) (c : Code) (Q : Value → Heap → Prop) (h : Heap) : Prop :=
  ∀ s : Shared, s.heap = h → codeAny (model prog w) A c (fun r s' => match r with | .ok (.ret v) => Same s s' ∧ Q v s'.heap | _ => False) s

section
variable {α β : Type} {prog : Program} {w : World} {A : Around} {h : Heap}

theorem Do.imp {t : Sem α} {Q : α → Heap → Prop} {s : Shared} {Q' : α → Shared → Prop} (H : Do prog w A t Q s.heap)
    (k : ∀ a s', Same s s' → Q a s'.heap → Q' a s') : wpAny (model prog w) A t Q' NoE s :=
  wpAny_mono (H s rfl) (fun a s' x => k a s' x.1 x.2) fun _ _ x => x

theorem Do.mono {t : Sem α} {Q Q' : α → Heap → Prop} (H : Do prog w A t Q h) (k : ∀ a h', Q a h' → Q' a h') : Do prog w A t Q' h :=
  fun s hs => wpAny_mono (H s hs) (fun _ _ x => ⟨x.1, k _ _ x.2⟩) fun _ _ x => x

theorem Do.pure {a : α} {Q : α → Heap → Prop} (q : Q a h) : Do prog w A (pure a) Q h := fun s hs => wpAny_pure ⟨Same.rfl, hs ▸ q⟩

theorem Do.bind {m : Sem α} {f : α → Sem β} {Q : β → Heap → Prop} (H : Do prog w A m (fun a h' => Do prog w A (f a) Q h') h) : Do prog w A (m >>= f) Q h :=
  fun s hs => wpAny_bind (wpAny_mono (H s hs) (fun a s' x => wpAny_mono (x.2 s' rfl) (fun _ _ y => ⟨x.1.trans y.1, y.2⟩) fun _ _ z => z) fun _ _ z => z)

theorem Do.holding {vs : List Value} {m : Sem α} {Q : α → Heap → Prop} (H : Do prog w A m Q h) : Do prog w A (holding vs m) Q h := fun s hs => wpAny_holding (H s hs)
theorem Do.rule {tag : String} {Q : Unit → Heap → Prop} (q : Q () h) : Do prog w A (rule tag) Q h := fun _ hs => wpAny_rule ⟨Same.rfl, hs ▸ q⟩
theorem Do.standAt {p : Pos} {Q : Unit → Heap → Prop} (q : Q () h) : Do prog w A (standAt p) Q h := fun _ hs => wpAny_standAt ⟨Same.rfl, hs ▸ q⟩
theorem Do.load {a : Addr} {o : Obj} {Q : Obj → Heap → Prop} (ho : h.get? a = some o) (q : Q o h) : Do prog w A (load a) Q h :=
  fun _ hs => wpAny_load (hs ▸ ho) ⟨Same.rfl, hs ▸ q⟩
theorem Do.mkInt {i : Int} {Q : Value → Heap → Prop} (q : ∀ t, Q (.int i t) h) : Do prog w A (mkInt i) Q h := fun _ hs => wpAny_mkInt ⟨Same.of, hs ▸ q _⟩
theorem Do.mkStr {x : Str} {Q : Value → Heap → Prop} (hx : x.length ≤ sizeLine) (q : ∀ t, Q (.str x t) h) : Do prog w A (mkStr x) Q h :=
  fun _ hs => wpAny_mkStr ⟨Same.of, hs ▸ q _⟩ hx
theorem Do.fieldsOf {a : Addr} {o : Obj} {vs : Array Value} {Q : Array Value → Heap → Prop} (ho : h.get? a = some o) (hd : o.data = .fields vs) (q : Q vs h) : Do prog w A (fieldsOf (.ref a)) Q h :=
  fun _ hs => wpAny_fieldsOf (hs ▸ ho) hd ⟨Same.rfl, hs ▸ q⟩
theorem Do.ite_true {c : Prop} [Decidable c] {a b : Sem α} {Q : α → Heap → Prop} (hc : c) (H : Do prog w A a Q h) : Do prog w A (if c then a else b) Q h := by rw [if_pos hc]; exact H
theorem Do.ite_false {c : Prop} [Decidable c] {a b : Sem α} {Q : α → Heap → Prop} (hc : ¬ c) (H : Do prog w A b Q h) : Do prog w A (if c then a else b) Q h := by rw [if_neg hc]; exact H

theorem Do.call {f : Value} {vs : List Value} {kw : List (Str × Value)} {Q : Value → Heap → Prop} (H : DoC prog w A (.call f ⟨vs, kw⟩) Q h) : Do prog w A (call f vs kw) Q h :=
  fun s hs => wpAny_call (codeAny_mono (H s hs) fun r s' x => by
    match r, x with
    | .ok (.ret v), x => exact x)
end

/-! ## the frame -/
abbrev PM := Addr → Option Obj
noncomputable def PM.set (g : PM) (a : Addr) (o : Obj) : PM := fun b => if b = a then some o else g b
noncomputable def PM.Le (g g' : PM) : Prop := ∀ a o, g a = some o → g' a = some o
theorem PM.Le.refl {g : PM} : g.Le g := fun _ _ e => e
theorem PM.Le.trans {a b c : PM} (x : a.Le b) (y : b.Le c) : a.Le c := fun _ _ e => y _ _ (x _ _ e)
theorem PM.le_set {g : PM} {a : Addr} {o : Obj} (hn : g a = none) : g.Le (g.set a o) := fun b o' e => by
  unfold PM.set
  rw [if_neg (fun q => by rw [q, hn] at e; cases e)]
  exact e
theorem PM.set_self {g : PM} {a : Addr} {o : Obj} : g.set a o a = some o := if_pos rfl
theorem PM.set_some {g : PM} {a b : Addr} {o o' : Obj} (e : g.set a o b = some o') : (b = a ∧ o' = o) ∨ (b ≠ a ∧ g b = some o') := by
  unfold PM.set at e
  by_cases hb : b = a
  · rw [if_pos hb] at e; cases e; exact .inl ⟨hb, rfl⟩
  · rw [if_neg hb] at e; exact .inr ⟨hb, e⟩

structure Cx (W : Heap) (p g : PM) (L : Addr) (own : List (Addr × Obj)) (m : Str → Option Value) (h : Heap) : Prop where
  ns : h.Ns L m
  kp : ∀ a o, p a = some o → h.get? a = some o
  kg : ∀ a o, g a = some o → h.get? a = some o
  wp : ∀ a o, W.get? a = some o → p a = some o
  pg : ∀ a o, g a = some o → p a = none
  pL : p L = none
  gL : g L = none
  ow : ∀ q ∈ own, h.get? q.1 = some q.2 ∧ p q.1 = none ∧ g q.1 = none ∧ q.1 ≠ L
  nd : (own.map (·.1)).Nodup

section
variable {W h h' : Heap} {p g : PM} {L a : Addr} {own : List (Addr × Obj)} {m m' : Str → Option Value} {o o' : Obj}

theorem Cx.kw (C : Cx W p g L own m h) : ∀ a o, W.get? a = some o → h.get? a = some o := fun a o e => C.kp a o (C.wp a o e)
theorem none_of_size {h : Heap} {x : PM} (k : ∀ a o, x a = some o → h.get? a = some o) : x h.objs.size = none := by
  cases e : x h.objs.size with
  | none => rfl
  | some o => exact absurd (Heap.lt_size (k _ _ e)) (Nat.lt_irrefl _)

/-- any heap that keeps all but what is named -/
theorem Cx.keep (C : Cx W p g L own m h) (k : ∀ b o, h.get? b = some o → h'.get? b = some o) : Cx W p g L own m h' where
  ns := C.ns.keeps k
  kp := fun a o e => k _ _ (C.kp a o e)
  kg := fun a o e => k _ _ (C.kg a o e)
  wp := C.wp
  pg := C.pg
  pL := C.pL
  gL := C.gL
  ow := fun q hq => let ⟨a, b⟩ := C.ow q hq; ⟨k _ _ a, b⟩
  nd := C.nd

theorem Cx.store (C : Cx W p g L own m h) (hn : h'.Ns L m') (hs : Heap.SameBut L h h') : Cx W p g L own m' h' where
  ns := hn
  kp := fun a o e => (hs.2 a (fun q => by rw [q, C.pL] at e; cases e)).trans (C.kp a o e)
  kg := fun a o e => (hs.2 a (fun q => by rw [q, C.gL] at e; cases e)).trans (C.kg a o e)
  wp := C.wp
  pg := C.pg
  pL := C.pL
  gL := C.gL
  ow := fun q hq => let ⟨a, b, c, d⟩ := C.ow q hq; ⟨(hs.2 _ d).trans a, b, c, d⟩
  nd := C.nd

theorem Cx.push (C : Cx W p g L own m h) (o : Obj) : Cx W p g L own m (h.push o) := C.keep fun _ _ e => Heap.get?_push_of_some _ e

theorem Cx.newOwn (C : Cx W p g L own m h) (o : Obj) (hf : o.isFreed = false := by rfl) : Cx W p g L ((h.objs.size, o) :: own) m (h.push o) :=
  let D := C.push o
  { ns := D.ns, kp := D.kp, kg := D.kg, wp := D.wp, pg := D.pg, pL := D.pL, gL := D.gL
    ow := fun q hq => by
      rcases List.mem_cons.mp hq with rfl | hq
      · exact ⟨Heap.get?_push_size _ hf, none_of_size C.kp, none_of_size C.kg, fun e => Nat.lt_irrefl _ (by have := C.ns.lt; rw [← e] at this; exact this)⟩
      · exact D.ow q hq
    nd := List.nodup_cons.mpr ⟨fun hm => by
      obtain ⟨q, hq, e⟩ := List.mem_map.mp hm
      have := Heap.lt_size (C.ow q hq).1
      rw [e] at this
      exact Nat.lt_irrefl _ this, C.nd⟩ }

theorem Cx.freeze (C : Cx W p g L ((a, o) :: own) m h) : Cx W p (g.set a o) L own m h where
  ns := C.ns
  kp := C.kp
  kg := fun b o' e => (PM.set_some e).elim (fun ⟨x, y⟩ => by rw [x, y]; exact (C.ow _ (.head _)).1) fun ⟨_, x⟩ => C.kg b o' x
  wp := C.wp
  pg := fun b o' e => (PM.set_some e).elim (fun ⟨x, _⟩ => by rw [x]; exact (C.ow _ (.head _)).2.1) fun ⟨_, x⟩ => C.pg b o' x
  pL := C.pL
  gL := by
    unfold PM.set
    rw [if_neg (fun q => (C.ow _ (.head _)).2.2.2 q.symm)]
    exact C.gL
  ow := fun q hq => by
    obtain ⟨x1, x2, x3, x4⟩ := C.ow q (.tail _ hq)
    refine ⟨x1, x2, ?_, x4⟩
    unfold PM.set
    rw [if_neg, x3]
    intro e
    have := (List.nodup_cons.mp C.nd).1
    have h2 : q.1 ∈ own.map (·.1) := List.mem_map_of_mem hq
    exact this (show a ∈ own.map (·.1) from e ▸ h2)
  nd := (List.nodup_cons.mp C.nd).2
theorem Cx.freeze_le (C : Cx W p g L ((a, o) :: own) m h) : g.Le (g.set a o) := PM.le_set (C.ow _ (.head _)).2.2.1

theorem Cx.newG (C : Cx W p g L own m h) (o : Obj) (hf : o.isFreed = false := by rfl) : Cx W p (g.set h.objs.size o) L own m (h.push o) := (C.newOwn o hf).freeze
theorem Cx.newG_le (C : Cx W p g L own m h) (o : Obj) : g.Le (g.set h.objs.size o) := PM.le_set (none_of_size C.kg)

theorem Cx.sub {own' : List (Addr × Obj)} (C : Cx W p g L own m h) (hs : ∀ q ∈ own', q ∈ own) (hn : (own'.map (·.1)).Nodup) : Cx W p g L own' m h :=
  { C with ow := fun q hq => C.ow q (hs q hq), nd := hn }
theorem Cx.drop {q : Addr × Obj} (C : Cx W p g L (q :: own) m h) : Cx W p g L own m h := C.sub (fun _ hq => .tail _ hq) (List.nodup_cons.mp C.nd).2
theorem Cx.drop1 {q r : Addr × Obj} (C : Cx W p g L (r :: q :: own) m h) : Cx W p g L (r :: own) m h :=
  C.sub (fun _ hq => (List.mem_cons.mp hq).elim (fun e => e ▸ .head _) fun x => .tail _ (.tail _ x)) (by
    have := C.nd
    simp only [List.map_cons, List.nodup_cons, List.mem_cons, not_or] at this ⊢
    exact ⟨this.1.2, this.2.2⟩)
theorem Cx.perm {own' : List (Addr × Obj)} (C : Cx W p g L own m h) (hp : own'.Perm own) : Cx W p g L own' m h :=
  C.sub (fun _ hq => hp.mem_iff.mp hq) ((hp.map _).nodup_iff.mpr C.nd)
theorem Cx.swap {q r : Addr × Obj} (C : Cx W p g L (q :: r :: own) m h) : Cx W p g L (r :: q :: own) m h := C.perm (.swap _ _ _)

theorem Cx.upd0 (C : Cx W p g L ((a, o) :: own) m h) (hs : Heap.SameBut a h h') (ho : h'.get? a = some o') : Cx W p g L ((a, o') :: own) m h' where
  ns := C.ns.sameBut hs (C.ow _ (.head _)).2.2.2.symm
  kp := fun b x e => (hs.2 b (fun q => by rw [q, (C.ow _ (.head _)).2.1] at e; cases e)).trans (C.kp b x e)
  kg := fun b x e => (hs.2 b (fun q => by rw [q, (C.ow _ (.head _)).2.2.1] at e; cases e)).trans (C.kg b x e)
  wp := C.wp
  pg := C.pg
  pL := C.pL
  gL := C.gL
  ow := fun q hq => by
    rcases List.mem_cons.mp hq with rfl | hq
    · exact ⟨ho, (C.ow _ (.head _)).2⟩
    · refine ⟨(hs.2 _ fun e => ?_).trans (C.ow q (.tail _ hq)).1, (C.ow q (.tail _ hq)).2⟩
      have h2 : q.1 ∈ own.map (·.1) := List.mem_map_of_mem hq
      exact (List.nodup_cons.mp C.nd).1 (show a ∈ own.map (·.1) from e ▸ h2)
  nd := C.nd
theorem Cx.upd1 {q : Addr × Obj} (C : Cx W p g L (q :: (a, o) :: own) m h) (hs : Heap.SameBut a h h') (ho : h'.get? a = some o') : Cx W p g L (q :: (a, o') :: own) m h' := (C.swap.upd0 hs ho).swap
theorem Cx.upd2 {q r : Addr × Obj} (C : Cx W p g L (q :: r :: (a, o) :: own) m h) (hs : Heap.SameBut a h h') (ho : h'.get? a = some o') : Cx W p g L (q :: r :: (a, o') :: own) m h' :=
  let e (x : Addr × Obj) : (q :: r :: x :: own).Perm (x :: q :: r :: own) := (List.Perm.cons q (.swap _ _ _)).trans (.swap _ _ _)
  (((C.perm (e (a, o)).symm).upd0 hs ho)).perm (e (a, o'))
end

/-! ## calls of the text's defs -/
noncomputable def retOf : Flow → Value
  | .ret v => v
  | _ => .none

noncomputable def Ret (W : Heap) (p' g : PM) (L' : Addr) (X : List Addr) (K : Value → PM → List (Addr × Obj) → Heap → Prop) : Flow → Heap → Prop := fun fl h' =>
  ∃ g' own' m' X', g.Le g' ∧ Cx W p' g' L' own' m' h' ∧ (∀ q ∈ X', q ∈ own') ∧ X'.map (·.1) = X ∧ K (retOf fl) g' X' h'

noncomputable def inner (X : List (Addr × Obj)) (g : PM) (h : Heap) : PM := fun a => if a ∈ X.map (·.1) then none else if (g a).isSome then none else h.get? a

section
variable {W h h₁ h' : Heap} {p g g' : PM} {L L' : Addr} {X X' rest own' : List (Addr × Obj)} {m m' m₁ : Str → Option Value}
theorem inner_some {a : Addr} {o : Obj} : inner X g h a = some o ↔ a ∉ X.map (·.1) ∧ g a = none ∧ h.get? a = some o := by
  unfold inner
  by_cases hx : a ∈ X.map (·.1)
  · simp [hx]
  · rw [if_neg hx]
    cases hg : g a with
    | none => simp [hx]
    | some x => simp

theorem Cx.enter (C : Cx W p g L (X ++ rest) m h) (hn : h₁.Ns h.objs.size m₁) (k : ∀ b o, h.get? b = some o → h₁.get? b = some o) :
    Cx W (inner X g h) g h.objs.size X m₁ h₁ where
  ns := hn
  kp := fun a o e => k _ _ (inner_some.mp e).2.2
  kg := fun a o e => k _ _ (C.kg a o e)
  wp := fun a o e => by
    have hp := C.wp a o e
    refine inner_some.mpr ⟨fun hm => ?_, ?_, C.kp _ _ hp⟩
    · obtain ⟨q, hq, rfl⟩ := List.mem_map.mp hm
      rw [(C.ow q (List.mem_append_left _ hq)).2.1] at hp; cases hp
    · cases hg : g a with
      | none => rfl
      | some x => rw [C.pg _ _ hg] at hp; cases hp
  pg := fun a o e => by
    cases hi : inner X g h a with
    | none => rfl
    | some x => rw [(inner_some.mp hi).2.1] at e; cases e
  pL := none_of_size fun a o e => (inner_some.mp e).2.2
  gL := none_of_size C.kg
  ow := fun q hq => by
    have := C.ow q (List.mem_append_left _ hq)
    refine ⟨k _ _ this.1, ?_, this.2.2.1, Nat.ne_of_lt (Heap.lt_size this.1)⟩
    cases hi : inner X g h q.1 with
    | none => rfl
    | some x => exact absurd (List.mem_map_of_mem hq) (inner_some.mp hi).1
  nd := by
    have := C.nd
    rw [List.map_append] at this
    exact (List.nodup_append.mp this).1

theorem Cx.leave (C : Cx W p g L (X ++ rest) m h) (C' : Cx W (inner X g h) g' L' own' m' h') (hX : ∀ q ∈ X', q ∈ own') (hA : X'.map (·.1) = X.map (·.1)) : Cx W p g' L (X' ++ rest) m h' := by
  have inP : ∀ a o, p a = some o → inner X g h a = some o := fun a o e => by
    refine inner_some.mpr ⟨fun hm => ?_, ?_, C.kp _ _ e⟩
    · obtain ⟨q, hq, rfl⟩ := List.mem_map.mp hm
      rw [(C.ow q (List.mem_append_left _ hq)).2.1] at e; cases e
    · cases hg : g a with
      | none => rfl
      | some x => rw [C.pg _ _ hg] at e; cases e
  have nd := C.nd
  rw [List.map_append, List.nodup_append] at nd
  have inR : ∀ q ∈ rest, inner X g h q.1 = some q.2 := fun q hq => by
    have := C.ow q (List.mem_append_right _ hq)
    exact inner_some.mpr ⟨fun hm => nd.2.2 _ hm _ (List.mem_map_of_mem hq) rfl, this.2.2.1, this.1⟩
  obtain ⟨oL, es, ep, e1, e2⟩ := id C.ns
  have inL : inner X g h L = some oL := inner_some.mpr ⟨fun hm => by
    obtain ⟨q, hq, e⟩ := List.mem_map.mp hm
    exact (C.ow q (List.mem_append_left _ hq)).2.2.2 e, C.gL, e1⟩
  have gno : ∀ a o, inner X g h a = some o → g' a = none := fun a o e => by
    cases hg : g' a with
    | none => rfl
    | some x => rw [C'.pg _ _ hg] at e; cases e
  exact {
    ns := ⟨oL, es, ep, C'.kp _ _ inL, e2⟩
    kp := fun a o e => C'.kp _ _ (inP a o e)
    kg := C'.kg
    wp := C.wp
    pg := fun a o e => by
      cases hp : p a with
      | none => rfl
      | some x => rw [gno _ _ (inP _ _ hp)] at e; cases e
    pL := C.pL
    gL := gno _ _ inL
    ow := fun q hq => by
      rcases List.mem_append.mp hq with hq | hq
      · have h1 := C'.ow q (hX q hq)
        have : q.1 ∈ X.map (·.1) := hA ▸ List.mem_map_of_mem hq
        obtain ⟨q₀, hq₀, e₀⟩ := List.mem_map.mp this
        have h2 := C.ow q₀ (List.mem_append_left _ hq₀)
        rw [e₀] at h2
        exact ⟨h1.1, h2.2.1, h1.2.2.1, h2.2.2.2⟩
      · have h1 := C.ow q (List.mem_append_right _ hq)
        exact ⟨C'.kp _ _ (inR q hq), h1.2.1, gno _ _ (inR q hq), h1.2.2.2⟩
    nd := by
      rw [List.map_append, hA, ← List.map_append]
      exact C.nd }
end

section
variable {prog : Program} {w : World} {A : Around} {W h : Heap} {p g : PM} {L f : Addr} {X rest : List (Addr × Obj)} {m : Str → Option Value} {Q : Value → Heap → Prop}

theorem call_Cx {fo : Obj} {fd : FuncData} {body : List Stmt} {args : List Value} {kw : List (Str × Value)} {binds : List (Str × Value)}
    (C : Cx W p g L (X ++ rest) m h) (hroom : A.depth < recursionLimit) (hlim : W.NoLimit) (ho : h.get? f = some fo) (hdata : fo.data = .func fd) (hcd : h.CodeRec fd.code fd.qualname)
    (hbody : fd.body = .stmts body) (hbind : ∀ s : Shared, s.heap = h → BindsTo s fd ⟨args, kw⟩ binds)
    (hcell : ∀ x ∈ fd.scope.names, x.2 ≠ .cell) (hloc : ∀ x ∈ binds, fd.scope.names.lookup x.1 = some .local)
    (H : ∀ p' L' h₁, Cx W p' g L' X (fun x => binds.reverse.lookup x) h₁ →
      Do prog w (A.deeper (callEnv fd L' f)) (execs body (callEnv fd L' f)) (Ret W p' g L' (X.map (·.1)) fun v g' X' h' => Cx W p g' L (X' ++ rest) m h' → Q v h') h₁)
    (hco : fd.scope.isCoroutine = false := by rfl) (hgen : fd.scope.isGenerator = false := by rfl) (hk : fd.scope.kind = .function := by rfl) :
    Do prog w A (call (.ref f) args kw) Q h := by
  refine Do.call fun s hs => ?_
  subst hs
  refine codeAny_call_def hroom ho hdata (hlim.keeps C.kw) hcd hbody (hbind s rfl) hcell hloc (fun h₁ hn k => ?_) hco hgen hk
  refine wpAny_mono (H (inner X g s.heap) s.heap.objs.size h₁ (C.enter hn k) _ rfl) (fun fl s' x => ?_) fun _ _ x => x.elim
  obtain ⟨x1, g', own', m', X', le, C', hX, hA, K⟩ := x
  have : Same s s' := Same.of.trans x1
  cases fl <;> exact ⟨this, K (C.leave C' hX hA)⟩
end
end

section
open PySem PySem.W PySem.Calls PyProof.Rows

section
variable {α : Type} {prog : Program} {w : World} {A : Around} {h : Heap} {env : Env}

theorem Do.to {t : Sem α} {Q : α → Heap → Prop} {s : Shared} {Q' : α → Shared → Prop} (H : Do prog w A t Q h) (hs : s.heap = h)
    (k : ∀ a s', Same s s' → Q a s'.heap → Q' a s') : wpAny (model prog w) A t Q' NoE s :=
  wpAny_mono (H s hs) (fun a s' x => k a s' x.1 x.2) fun _ _ x => x

/-! ### statements -/
theorem d_execs_nil {Q : Flow → Heap → Prop} (q : Q .next h) : Do prog w A (execs [] env) Q h := fun _ hs => wpAny_execs_nil ⟨Same.rfl, hs ▸ q⟩
theorem d_execs_cons {st : Stmt} {rest : List Stmt} {Q : Flow → Heap → Prop}
    (H : Do prog w A (exec st env) (fun f h' => match f with | .next => Do prog w A (execs rest env) Q h' | f => Q f h') h) : Do prog w A (execs (st :: rest) env) Q h :=
  fun _ hs => wpAny_execs_cons (H.to hs fun f s₁ e₁ x => by
    cases f with
    | next => exact x.to rfl fun _ _ e₂ q => ⟨e₁.trans e₂, q⟩
    | _ => exact ⟨e₁, x⟩)
/-- a block of which only the end counts: what its statements leave -/
theorem d_Assign_Name {x : Str} {pos' : Pos} {value : Expr} {pos : Pos} {Q : Flow → Heap → Prop}
    (H : Do prog w A (eval value env) (fun v h₁ => Do prog w A (storeName env x v) (fun _ h₂ => Q .next h₂) h₁) h)
    (hw : swapsWith value (some (.Name x pos')) pos.line env = Pure.pure false := by rfl) : Do prog w A (exec (.Assign [.Name x pos'] value pos) env) Q h :=
  fun _ hs => wpAny_Assign_Name (H.to hs fun v s₁ e₁ x => x.to rfl fun _ _ e₂ q => ⟨e₁.trans e₂, q⟩) hw
theorem d_Assign_Tuple {elts : List Expr} {k : Nat} {tpos : Pos} {value : Expr} {pos : Pos} {Q : Flow → Heap → Prop}
    (H : Do prog w A (eval value env) (fun v h₁ => Do prog w A (assign (.Tuple elts k tpos) env v) (fun _ h₂ => Q .next h₂) h₁) h)
    (hw : swapsWithSole [.Tuple elts k tpos] value pos.line env = Pure.pure false := by rfl)
    (hw' : swappedStores [.Tuple elts k tpos] value env = Pure.pure none := by rfl) : Do prog w A (exec (.Assign [.Tuple elts k tpos] value pos) env) Q h :=
  fun _ hs => PyProof.Rows.Assign_Tuple (H.to hs fun v s₁ e₁ x => x.to rfl fun _ _ e₂ q => ⟨e₁.trans e₂, q⟩) hw hw'
theorem d_Expr {e : Expr} {pos : Pos} {Q : Flow → Heap → Prop} (H : Do prog w A (eval e env) (fun v h' => match v with | .ref _ => False | _ => Q .next h') h)
    (hi : interactive env = false := by rfl) (hw : swapsWith e none pos.line env = Pure.pure false := by rfl) : Do prog w A (exec (.Expr e pos) env) Q h :=
  fun _ hs => wpAny_Expr (H.to hs fun v s₁ e₁ x => by cases v <;> first | exact x | exact ⟨e₁, x⟩) hi hw
theorem d_If {test : Expr} {body orelse : List Stmt} {pos : Pos} {Q : Flow → Heap → Prop}
    (H : Do prog w A (isTrue test env (eval test env)) (fun b h₁ => if b then Do prog w A (execs body env) Q h₁ else Do prog w A (execs orelse env) Q h₁) h) :
    Do prog w A (exec (.If test body orelse pos) env) Q h :=
  fun _ hs => wpAny_If (H.to hs fun b s₁ e₁ x => by
    cases b
    · exact x.to rfl fun _ _ e₂ q => ⟨e₁.trans e₂, q⟩
    · exact x.to rfl fun _ _ e₂ q => ⟨e₁.trans e₂, q⟩)
theorem d_Return {e : Expr} {pos : Pos} {Q : Flow → Heap → Prop} (H : Do prog w A (eval e env) (fun v h' => Q (.ret v) h') h) : Do prog w A (exec (.Return (some e) pos) env) Q h :=
  fun s hs => wpAny_Return_some (H s hs)
theorem d_Break {pos : Pos} {Q : Flow → Heap → Prop} (q : Q .brk h) : Do prog w A (exec (.Break pos) env) Q h := fun _ hs => wpAny_Break ⟨Same.rfl, hs ▸ q⟩
theorem d_Assert {test : Expr} {msg : Option Expr} {pos : Pos} {Q : Flow → Heap → Prop} (H : Do prog w A (isTrue test env (eval test env)) (fun b h₁ => b = true ∧ Q .next h₁) h) :
    Do prog w A (exec (.Assert test msg pos) env) Q h := fun _ hs => wpAny_Assert_holds (H.to hs fun _ _ e₁ x => ⟨x.1, e₁, x.2⟩)

/-! ### expressions -/
theorem d_Name {x : Str} {pos : Pos} {Q : Value → Heap → Prop} (H : Do prog w A (loadName env x) Q h) (hd : (x == ("__debug__" : Str)) = false := by decide) : Do prog w A (eval (.Name x pos) env) Q h :=
  fun s hs => wpAny_Name (H s hs) hd
theorem d_Const_int {i : Int} {k : Nat} {pos : Pos} {Q : Value → Heap → Prop} (q : ∀ t, Q (.int i t) h) : Do prog w A (eval (.Constant (.int i) k pos) env) Q h :=
  fun _ hs => wpAny_Constant_int ⟨Same.of, hs ▸ q _⟩
theorem d_Const_str {x : Str} {k : Nat} {pos : Pos} {Q : Value → Heap → Prop} (q : ∀ t, Q (.str x t) h) : Do prog w A (eval (.Constant (.str x) k pos) env) Q h :=
  fun _ hs => wpAny_Constant_str ⟨Same.of, hs ▸ q _⟩
theorem d_Const_none {k : Nat} {pos : Pos} {Q : Value → Heap → Prop} (q : Q .none h) : Do prog w A (eval (.Constant .none k pos) env) Q h :=
  fun _ hs => wpAny_Constant_none ⟨Same.rfl, hs ▸ q⟩
theorem d_Const_bool {b : Bool} {k : Nat} {pos : Pos} {Q : Value → Heap → Prop} (q : Q (.bool b) h) : Do prog w A (eval (.Constant (.bool b) k pos) env) Q h :=
  fun _ hs => wpAny_Constant_bool ⟨Same.rfl, hs ▸ q⟩
theorem d_BinOp {l : PySem.Expr} {op : Operator} {r : PySem.Expr} {pos : Pos} {Q : Value → Heap → Prop}
    (H : Do prog w A (eval l env) (fun a h₁ => Do prog w A (eval r env) (fun b h₂ => Do prog w A (binaryOp op a b) Q h₂) h₁) h) : Do prog w A (eval (.BinOp l op r pos) env) Q h :=
  fun _ hs => wpAny_BinOp (H.to hs fun _ _ e₁ x => x.to rfl fun _ _ e₂ y => y.to rfl fun _ _ e₃ q => ⟨e₁.trans (e₂.trans e₃), q⟩)
theorem d_Compare {l : PySem.Expr} {op : CmpOp} {r : PySem.Expr} {pos : Pos} {Q : Value → Heap → Prop}
    (H : Do prog w A (eval l env) (fun a h₁ => Do prog w A (eval r env) (fun b h₂ => Do prog w A (compareOp op a b) Q h₂) h₁) h)
    (hm : behindInMarks op r = false := by with_unfolding_all rfl) : Do prog w A (eval (.Compare l [op] [r] pos) env) Q h :=
  fun _ hs => wpAny_Compare1 (H.to hs fun _ _ e₁ x => x.to rfl fun _ _ e₂ y => y.to rfl fun _ _ e₃ q => ⟨e₁.trans (e₂.trans e₃), q⟩) hm
theorem d_UnaryOp {op : UnaryOp} {x : PySem.Expr} {pos : Pos} {Q : Value → Heap → Prop} (H : Do prog w A (eval x env) (fun v h₁ => Do prog w A (unaryOp op v) Q h₁) h) : Do prog w A (eval (.UnaryOp op x pos) env) Q h :=
  fun _ hs => wpAny_UnaryOp (H.to hs fun _ _ e₁ x => x.to rfl fun _ _ e₂ q => ⟨e₁.trans e₂, q⟩)
theorem d_And2 {x y : PySem.Expr} {pos : Pos} {Q : Value → Heap → Prop}
    (H : Do prog w A (eval x env) (fun v h₁ => Do prog w A (truthy v) (fun t h₂ => if t then Do prog w A (eval y env) Q h₂ else Q v h₂) h₁) h) : Do prog w A (eval (.BoolOp .And [x, y] pos) env) Q h :=
  fun _ hs => wpAny_And2 (H.to hs fun v s₁ e₁ x => x.to rfl fun t s₂ e₂ y => by
    cases t
    · exact ⟨e₁.trans e₂, y⟩
    · exact y.to rfl fun _ _ e₃ q => ⟨e₁.trans (e₂.trans e₃), q⟩)
theorem d_Or2 {x y : PySem.Expr} {pos : Pos} {Q : Value → Heap → Prop}
    (H : Do prog w A (eval x env) (fun v h₁ => Do prog w A (truthy v) (fun t h₂ => if t then Q v h₂ else Do prog w A (eval y env) Q h₂) h₁) h) : Do prog w A (eval (.BoolOp .Or [x, y] pos) env) Q h :=
  fun _ hs => wpAny_Or2 (H.to hs fun v s₁ e₁ x => x.to rfl fun t s₂ e₂ y => by
    cases t
    · exact y.to rfl fun _ _ e₃ q => ⟨e₁.trans (e₂.trans e₃), q⟩
    · exact ⟨e₁.trans e₂, y⟩)
theorem d_Subscript {value slice : PySem.Expr} {pos : Pos} {Q : Value → Heap → Prop}
    (H : Do prog w A (eval value env) (fun o h₁ => Do prog w A (eval slice env) (fun i h₂ => Do prog w A (subscriptTail value slice o i) Q h₂) h₁) h) : Do prog w A (eval (.Subscript value slice pos) env) Q h :=
  fun _ hs => Subscript_ (H.to hs fun _ _ e₁ x => x.to rfl fun _ _ e₂ y => y.to rfl fun _ _ e₃ q => ⟨e₁.trans (e₂.trans e₃), q⟩)
theorem d_part_none {Q : Value → Heap → Prop} (q : Q .none h) : Do prog w A (evalPart none env) Q h := fun _ hs => wpAny_evalPart_none ⟨Same.rfl, hs ▸ q⟩
theorem d_part_some {e : PySem.Expr} {Q : Value → Heap → Prop} (H : Do prog w A (eval e env) Q h) : Do prog w A (evalPart (some e) env) Q h := fun s hs => wpAny_evalPart_some (H s hs)
theorem d_Slice {lower upper step : Option PySem.Expr} {pos : Pos} {Q : Value → Heap → Prop}
    (H : Do prog w A (evalPart lower env) (fun l h₁ => Do prog w A (evalPart upper env) (fun u h₂ => Do prog w A (evalPart step env) (fun st h₃ =>
      Q (.ref h₃.objs.size) (h₃.push { cls := .type "slice", data := .fields #[l, u, st] })) h₂) h₁) h) : Do prog w A (eval (.Slice lower upper step pos) env) Q h :=
  fun _ hs => wpAny_Slice (H.to hs fun _ _ e₁ x => x.to rfl fun _ _ e₂ y => y.to rfl fun _ _ e₃ q => ⟨e₁.trans (e₂.trans e₃), q⟩)
theorem d_args_nil {pos : Pos} {Q : List Value → Heap → Prop} (q : Q [] h) : Do prog w A (spliced (backTo pos (starEach [] env))) Q h := fun _ hs => PyProof.Rows.args_nil ⟨Same.rfl, hs ▸ q⟩
theorem d_args_cons {e : PySem.Expr} {rest : List PySem.Expr} {pos : Pos} {Q : List Value → Heap → Prop}
    (H : Do prog w A (eval e env) (fun v h₁ => Do prog w A (spliced (backTo pos (starEach rest env))) (fun vs h₂ => Q (v :: vs) h₂) h₁) h)
    (he : starEach (e :: rest) env = (false, eval e env) :: starEach rest env := by rfl) : Do prog w A (spliced (backTo pos (starEach (e :: rest) env))) Q h :=
  fun _ hs => PyProof.Rows.args_cons (H.to hs fun _ _ e₁ x => x.to rfl fun _ _ e₂ q => ⟨e₁.trans e₂, q⟩) he
theorem d_Tuple {elts : List PySem.Expr} {k : Nat} {pos : Pos} {Q : Value → Heap → Prop} (H : Do prog w A (spliced (backTo pos (starEach elts env))) (fun vs h₁ => Do prog w A (newTuple vs) Q h₁) h) :
    Do prog w A (eval (.Tuple elts k pos) env) Q h := fun _ hs => Tuple_ (H.to hs fun _ _ e₁ x => x.to rfl fun _ _ e₂ q => ⟨e₁.trans e₂, q⟩)
theorem d_List {elts : List PySem.Expr} {pos : Pos} {Q : Value → Heap → Prop} (H : Do prog w A (spliced (backTo pos (starEach elts env))) (fun vs h₁ => Do prog w A (newList vs) Q h₁) h) :
    Do prog w A (eval (.List elts pos) env) Q h := fun _ hs => List_ (H.to hs fun _ _ e₁ x => x.to rfl fun _ _ e₂ q => ⟨e₁.trans e₂, q⟩)
theorem d_Call {func : PySem.Expr} {args : List PySem.Expr} {pos : Pos} {Q : Value → Heap → Prop}
    (H : Do prog w A (eval func env) (fun f h₁ => Do prog w A (callWith pos f [] (backTo pos (starEach args env)) []) Q h₁) h)
    (he : eval (.Call func args [] pos) env = (do callWith pos (← eval func env) [] (backTo pos (starEach args env)) (backToKw pos (keywordEach [] env))) := by rfl) :
    Do prog w A (eval (.Call func args [] pos) env) Q h := fun _ hs => Call_ (H.to hs fun _ _ e₁ x => x.to rfl fun _ _ e₂ q => ⟨e₁.trans e₂, q⟩) he
theorem d_MethodCall {o : PySem.Expr} {name : Str} {apos pos : Pos} {args : List PySem.Expr} {pl : Sem Bool} {Q : Value → Heap → Prop}
    (H : Do prog w A (eval o env) (fun ov h₁ => Do prog w A (getMethod ov name pl) (fun fx h₂ => Do prog w A (callWith pos fx.1 fx.2 (backTo pos (starEach args env)) []) Q h₂) h₁) h)
    (he : eval (.Call (.Attribute o name apos) args [] pos) env = (do
      let ov ← eval o env
      PySem.standAt apos.atName
      let (f, first) ← PySem.holding [ov] (getMethod ov name pl)
      callWith pos f first (backTo pos (starEach args env)) []) := by rfl) : Do prog w A (eval (.Call (.Attribute o name apos) args [] pos) env) Q h :=
  fun _ hs => MethodCall_ (H.to hs fun _ _ e₁ x => x.to rfl fun _ _ e₂ y => y.to rfl fun _ _ e₃ q => ⟨e₁.trans (e₂.trans e₃), q⟩) he
theorem d_Attribute {value : PySem.Expr} {attr : Str} {pos : Pos} {Q : Value → Heap → Prop}
    (H : Do prog w A (eval value env) (fun o h₁ => Do prog w A (getAttr o attr true) Q h₁) h)
    (he : eval (.Attribute value attr pos) env = (do
      let o ← eval value env
      PySem.standAt pos.atName
      let r ← PySem.holding [o] (getAttr o attr true)
      letTemporaryGo value o r
      Pure.pure r) := by with_unfolding_all rfl) : Do prog w A (eval (.Attribute value attr pos) env) Q h :=
  fun _ hs => Attribute_any_ (H.to hs fun _ _ e₁ x => x.to rfl fun _ _ e₂ q => ⟨e₁.trans e₂, q⟩) he

/-! ### calls -/
theorem d_callWith_builtin0 {pos : Pos} {id : String} {first : List Value} {Q : Value → Heap → Prop} (H : Do prog w A (PySem.call (.builtin id) first) Q h) :
    Do prog w A (callWith pos (.builtin id) first (backTo pos (starEach [] env)) []) Q h := fun s hs => callWith_method0 (H s hs)
theorem d_callWith_builtin {pos : Pos} {id : String} {first : List Value} {e : PySem.Expr} {rest : List PySem.Expr} {Q : Value → Heap → Prop}
    (H : Do prog w A (spliced (backTo pos (starEach (e :: rest) env))) (fun vs h₁ => Do prog w A (PySem.call (.builtin id) (first ++ vs)) Q h₁) h)
    (he : starEach (e :: rest) env = (false, eval e env) :: starEach rest env := by rfl)
    (hplain : (backTo pos (starEach rest env)).any (·.1) = false := by rfl) : Do prog w A (callWith pos (.builtin id) first (backTo pos (starEach (e :: rest) env)) []) Q h :=
  fun _ hs => callWith_method1 (H.to hs fun _ _ e₁ x => x.to rfl fun _ _ e₂ q => ⟨e₁.trans e₂, q⟩) he hplain
theorem d_callWith_def {pos : Pos} {f : Addr} {o : Obj} {fd : FuncData} {e : PySem.Expr} {rest : List PySem.Expr} {Q : Value → Heap → Prop} (hdat : o.data = .func fd)
    (H : Do prog w A (spliced (backTo pos (starEach (e :: rest) env))) (fun vs h₁ => h₁.get? f = some o ∧ Do prog w A (PySem.call (.ref f) vs) Q h₁) h)
    (he : starEach (e :: rest) env = (false, eval e env) :: starEach rest env := by rfl) :
    Do prog w A (callWith pos (.ref f) [] (backTo pos (starEach (e :: rest) env)) []) Q h :=
  fun _ hs => PyProof.Rows.callWith_def (fd := fd) hdat (H.to hs fun _ _ e₁ x => ⟨x.1, x.2.to rfl fun _ _ e₂ q => ⟨e₁.trans e₂, q⟩⟩) he

/-! ### truth -/
theorem d_isTrue_value {e : PySem.Expr} {whole : Sem Value} {Q : Bool → Heap → Prop} (H : Do prog w A whole (fun v h₁ => Do prog w A (truthy v) Q h₁) h)
    (he : isTrue e env whole = (do let v ← whole; PySem.standAt e.pos; PySem.holding [v] (truthy v)) := by rfl) : Do prog w A (isTrue e env whole) Q h :=
  fun _ hs => wpAny_isTrue_value (H.to hs fun _ _ e₁ x => x.to rfl fun _ _ e₂ q => ⟨e₁.trans e₂, q⟩) he
theorem d_isTrue_Compare {l : PySem.Expr} {op : CmpOp} {r : PySem.Expr} {pos : Pos} {whole : Sem Value} {Q : Bool → Heap → Prop}
    (H : Do prog w A (eval l env) (fun a h₁ => Do prog w A (eval r env) (fun b h₂ => Do prog w A (compareOp op a b) (fun c h₃ => Do prog w A (truthy c) Q h₃) h₂) h₁) h)
    (hm : behindInMarks op r = false := by with_unfolding_all rfl) : Do prog w A (isTrue (.Compare l [op] [r] pos) env whole) Q h :=
  fun _ hs => wpAny_isTrue_Compare1 (H.to hs fun _ _ e₁ x => x.to rfl fun _ _ e₂ y => y.to rfl fun _ _ e₃ z => z.to rfl fun _ _ e₄ q => ⟨e₁.trans (e₂.trans (e₃.trans e₄)), q⟩) hm
theorem d_isTrue_Not {x : PySem.Expr} {pos : Pos} {whole : Sem Value} {Q : Bool → Heap → Prop} (H : Do prog w A (isTrue x env (eval x env)) (fun b h₁ => Q (!b) h₁) h) :
    Do prog w A (isTrue (.UnaryOp .Not x pos) env whole) Q h := fun s hs => wpAny_isTrue_Not (H s hs)
theorem d_isTrue_And2 {x y : PySem.Expr} {pos : Pos} {whole : Sem Value} {Q : Bool → Heap → Prop}
    (H : Do prog w A (isTrue x env (eval x env)) (fun b h₁ => if b then Do prog w A (isTrue y env (eval y env)) (fun c h₂ => Q c h₂) h₁ else Q false h₁) h) :
    Do prog w A (isTrue (.BoolOp .And [x, y] pos) env whole) Q h :=
  fun _ hs => wpAny_isTrue_BoolOp (wpAny_allTrue_And_cons (H.to hs fun b s₁ e₁ x => by
    cases b
    · exact ⟨e₁, x⟩
    · exact wpAny_allTrue_And_cons (x.to rfl fun c s₂ e₂ y => by
        cases c
        · exact ⟨e₁.trans e₂, y⟩
        · exact wpAny_allTrue_And_nil ⟨e₁.trans e₂, y⟩)))
theorem d_truthy_bool {b : Bool} {Q : Bool → Heap → Prop} (q : Q b h) : Do prog w A (truthy (.bool b)) Q h := fun _ hs => wpAny_truthy_bool ⟨Same.rfl, hs ▸ q⟩
theorem d_truthy_none {Q : Bool → Heap → Prop} (q : Q false h) : Do prog w A (truthy .none) Q h := fun _ hs => PyProof.Rows.truthy_none ⟨Same.rfl, hs ▸ q⟩
end

/-! ### names -/
section
variable {prog : Program} {w : World} {A : Around} {W h : Heap} {p g : PM} {L : Addr} {own : List (Addr × Obj)} {m : Str → Option Value} {env : Env}
theorem d_local {x : Str} {v : Value} {Q : Value → Heap → Prop} (C : Cx W p g env.locals own m h) (hv : m x = some v) (q : Q v h)
    (hk : env.scope.kind = .function := by rfl) (hl : env.kindOf x = some .local := by rfl) : Do prog w A (loadName env x) Q h :=
  fun _ hs => wpAny_loadName_local hk hl (hs ▸ C.ns) hv ⟨Same.rfl, hs ▸ q⟩
theorem d_store {x : Str} {v : Value} {Q : Unit → Heap → Prop} (C : Cx W p g env.locals own m h)
    (q : ∀ h', Cx W p g env.locals own (fun y => if y = x then some v else m y) h' → Q () h')
    (hl : env.kindOf x = some .local := by rfl)
    (hp : (env.scope.kind == .class || (env.scope.kind == .module && env.locals != env.globals)) = false := by rfl) : Do prog w A (storeName env x v) Q h :=
  fun _ hs => wpAny_storeName_local hl (hs ▸ C.ns) (fun h' hn hb => ⟨Same.of, q h' (C.store hn (hs ▸ hb))⟩) hp
theorem d_global {mg : Str → Option Value} {x : Str} {v : Value} {Q : Value → Heap → Prop} (C : Cx W p g env.locals own m h) (hg : W.Ns mainGlobals mg) (hv : mg x = some v) (q : Q v h)
    (hk : env.scope.kind = .function := by rfl) (hx : env.kindOf x = some .globalImplicit := by rfl) (he : env.globals = mainGlobals := by rfl) : Do prog w A (loadName env x) Q h := by
  rw [loadName_read hk hx]
  exact fun _ hs => loadGlobal_global (he ▸ hs ▸ hg.keeps C.kw) hv ⟨Same.rfl, hs ▸ q⟩
theorem d_builtin {mg mb : Str → Option Value} {x : Str} {v : Value} {Q : Value → Heap → Prop} (C : Cx W p g env.locals own m h) (hg : W.Ns mainGlobals mg) (hb : W.Ns builtinsNs mb) (hn : mg x = none) (hv : mb x = some v) (q : Q v h)
    (hk : env.scope.kind = .function := by rfl) (hx : env.kindOf x = some .globalImplicit := by rfl) (he : env.globals = mainGlobals := by rfl) (he' : env.builtins = builtinsNs := by rfl) : Do prog w A (loadName env x) Q h := by
  rw [loadName_read hk hx]
  exact fun _ hs => loadGlobal_builtin (he ▸ hs ▸ hg.keeps C.kw) hn (he' ▸ hs ▸ hb.keeps C.kw) hv ⟨Same.rfl, hs ▸ q⟩
theorem d_assign_Name {x : Str} {pos : Pos} {v : Value} {Q : Unit → Heap → Prop} (H : Do prog w A (storeName env x v) Q h) : Do prog w A (assign (.Name x pos) env v) Q h := fun s hs => wpAny_assign_Name (H s hs)

/-! ### making -/
theorem d_newTuple {vs : List Value} {Q : Value → Heap → Prop} (C : Cx W p g L own m h)
    (q : ∀ a h', g a = none → Cx W p (g.set a { cls := .type "tuple", data := .seq vs.toArray }) L own m h' → Q (.ref a) h') (hsz : vs.length ≤ sizeLine := by size_fits) : Do prog w A (newTuple vs) Q h :=
  fun _ hs => wpAny_newObj_type ⟨Same.of, by subst hs; exact q _ _ (none_of_size C.kg) (C.newG _)⟩ (by show vs.toArray.size ≤ sizeLine; rw [List.size_toArray]; exact hsz)
theorem d_newListG {vs : List Value} {Q : Value → Heap → Prop} (C : Cx W p g L own m h)
    (q : ∀ a h', g a = none → Cx W p (g.set a { cls := .type "list", data := .seq vs.toArray }) L own m h' → Q (.ref a) h') (hsz : vs.length ≤ sizeLine := by size_fits) : Do prog w A (newList vs) Q h :=
  fun _ hs => wpAny_newObj_type ⟨Same.of, by subst hs; exact q _ _ (none_of_size C.kg) (C.newG _)⟩ (by show vs.toArray.size ≤ sizeLine; rw [List.size_toArray]; exact hsz)
theorem d_newListO {vs : List Value} {Q : Value → Heap → Prop} (C : Cx W p g L own m h)
    (q : ∀ a h', Cx W p g L ((a, { cls := .type "list", data := .seq vs.toArray }) :: own) m h' → Q (.ref a) h') (hsz : vs.length ≤ sizeLine := by size_fits) : Do prog w A (newList vs) Q h :=
  fun _ hs => wpAny_newObj_type ⟨Same.of, by subst hs; exact q _ _ (C.newOwn _)⟩ (by show vs.toArray.size ≤ sizeLine; rw [List.size_toArray]; exact hsz)
end
end

section
open PySem PySem.W PyProof.Rows
open_top hd for PySem.Challenge.rw_oy0201_01
end

section
open PySem PySem.W PySem.Calls PyProof.Rows

noncomputable abbrev KF (w : World) : Frag := hd.heap_39 w.params

structure Wd (w : World) (W : Heap) (mg mb : Str → Option Value) : Prop where
  K : (KF w).In W
  g : W.Ns mainGlobals mg
  b : W.Ns builtinsNs mb
  bi : ∀ x : Str, x ≠ "__name__" → mb x = bootBuiltins x
  lim : W.NoLimit
  top : ∃ (lo : List Str) (mean : ExcName → Option Value), Top topProg lo mean mg mb W

/-- room for n more frames -/
structure Ar (n : Nat) (A : Around) : Prop where
  hh : A.handled = none
  dp : A.depth + n < recursionLimit
  un : A.units + 8 * n + 64 < cLine

theorem Ar.deeper {n : Nat} {A : Around} (x : Ar (n + 1) A) (env : Env) : Ar n (A.deeper env) :=
  ⟨x.hh, by have := x.dp; show A.depth + 1 + n < _; omega, by have := x.un; show A.units + 3 + 8 * n + 64 < _; omega⟩
theorem Ar.le {n k : Nat} {A : Around} (x : Ar n A) (h : k ≤ n) : Ar k A := ⟨x.hh, by have := x.dp; omega, by have := x.un; omega⟩
theorem Ar.room {n : Nat} {A : Around} (x : Ar n A) : A.depth < recursionLimit := by have := x.dp; omega
theorem Ar.units {n : Nat} {A : Around} (x : Ar n A) : A.units < cLine := by have := x.un; omega
theorem Ar.in1 {n : Nat} {A : Around} (x : Ar (n + 1) A) : Ar n A.in1 := ⟨x.hh, by have := x.dp; show A.depth + n < _; omega, by have := x.un; show A.units + 1 + 8 * n + 64 < _; omega⟩

section
variable {prog : Program} {w : World} {A : Around} {W h : Heap} {p g : PM} {own : List (Addr × Obj)} {m mg mb : Str → Option Value} {env : Env} {x : Str} {v : Value} {Q : Value → Heap → Prop}
theorem d_top (V : Wd w W mg mb) (C : Cx W p g env.locals own m h) (e : nsIn (KF w) mainGlobals x = some (some v)) (q : Q v h)
    (hk : env.scope.kind = .function := by rfl) (hx : env.kindOf x = some .globalImplicit := by rfl) (he : env.globals = mainGlobals := by rfl) : Do prog w A (loadName env x) Q h :=
  d_global C V.g (mg_of V.K V.g e) q hk hx he
theorem d_boot (V : Wd w W mg mb) (C : Cx W p g env.locals own m h) (e : nsIn (KF w) mainGlobals x = some none) (hv : bootBuiltins x = some v) (q : Q v h) (hn : x ≠ "__name__" := by decide)
    (hk : env.scope.kind = .function := by rfl) (hx : env.kindOf x = some .globalImplicit := by rfl) (he : env.globals = mainGlobals := by rfl) (he' : env.builtins = builtinsNs := by rfl) : Do prog w A (loadName env x) Q h :=
  d_builtin C V.g V.b (mg_none_of V.K V.g e) ((V.bi x hn).trans hv) q hk hx he he'
end

section
variable {prog : Program} {w : World} {A : Around} {W h : Heap} {p g : PM} {L f : Addr} {X rest : List (Addr × Obj)} {m mg mb : Str → Option Value} {Q : Value → Heap → Prop}
/-- a def of the top's called -/
theorem call_top {n : Nat} {oc : Value} {od : Option Addr} {osl : Array (Option Value)} {fd : FuncData} {body : List Stmt} {args : List Value} {binds : List (Str × Value)}
    (V : Wd w W mg mb) (hA : Ar (n + 1) A) (C : Cx W p g L (X ++ rest) m h) (ho : (KF w).lookup f = some ⟨oc, od, .func fd, osl⟩) (hcd : codeIn (KF w) fd.code fd.qualname = true)
    (hbody : fd.body = .stmts body) (hbind : bindArgs fd ⟨args, []⟩ = pure binds)
    (hcell : ∀ x ∈ fd.scope.names, x.2 ≠ .cell) (hloc : ∀ x ∈ binds, fd.scope.names.lookup x.1 = some .local)
    (H : ∀ p' L' h₁ A', Cx W p' g L' X (fun x => binds.reverse.lookup x) h₁ → Ar n A' →
      Do prog w A' (execs body (callEnv fd L' f)) (Ret W p' g L' (X.map (·.1)) fun v g' X' h' => Cx W p g' L (X' ++ rest) m h' → Q v h') h₁)
    (hco : fd.scope.isCoroutine = false := by rfl) (hgen : fd.scope.isGenerator = false := by rfl) (hk : fd.scope.kind = .function := by rfl) :
    Do prog w A (call (.ref f) args) Q h :=
  call_Cx C hA.room V.lim (C.kw _ _ (V.K _ _ ho)) rfl (codeRec_of (V.K.keeps C.kw) hcd) hbody (fun _ _ => BindsTo.of_eq hbind) hcell hloc (fun p' L' h₁ C₁ => H p' L' h₁ _ C₁ (hA.deeper _)) hco hgen hk
end
end

section
open PySem PySem.W PySem.Calls PyProof.Rows

section
variable {W h h' : Heap} {p g : PM} {L a : Addr} {own : List (Addr × Obj)} {m m' : Str → Option Value} {o o' : Obj}
theorem Cx.gone (C : Cx W p g L ((a, o) :: own) m h) (hx : Heap.ExtBut a h h') : Cx W p g L own m h' where
  ns := C.ns.extBut hx (C.ow _ (.head _)).2.2.2.symm
  kp := fun b x e => hx b x (fun q => by rw [q, (C.ow _ (.head _)).2.1] at e; cases e) (C.kp b x e)
  kg := fun b x e => hx b x (fun q => by rw [q, (C.ow _ (.head _)).2.2.1] at e; cases e) (C.kg b x e)
  wp := C.wp
  pg := C.pg
  pL := C.pL
  gL := C.gL
  ow := fun q hq => by
    refine ⟨hx _ _ (fun e => ?_) (C.ow q (.tail _ hq)).1, (C.ow q (.tail _ hq)).2⟩
    have h2 : q.1 ∈ own.map (·.1) := List.mem_map_of_mem hq
    exact (List.nodup_cons.mp C.nd).1 (show a ∈ own.map (·.1) from e ▸ h2)
  nd := (List.nodup_cons.mp C.nd).2
end

/-- all that a frame keeps -/
noncomputable def un (g p : PM) : PM := fun a => (g a).or (p a)
theorem un_g {g p : PM} {a : Addr} {o : Obj} (e : g a = some o) : un g p a = some o := by unfold un; rw [e]; rfl
theorem Cx.un_p {W h : Heap} {p g : PM} {L : Addr} {own : List (Addr × Obj)} {m : Str → Option Value} (C : Cx W p g L own m h) {a : Addr} {o : Obj} (e : p a = some o) : un g p a = some o := by
  unfold un
  cases hg : g a with
  | none => exact e
  | some x => rw [C.pg _ _ hg] at e; cases e
theorem Cx.un_w {W h : Heap} {p g : PM} {L : Addr} {own : List (Addr × Obj)} {m : Str → Option Value} (C : Cx W p g L own m h) {a : Addr} {o : Obj} (e : W.get? a = some o) : un g p a = some o := C.un_p (C.wp _ _ e)
theorem Cx.ku {W h : Heap} {p g : PM} {L : Addr} {own : List (Addr × Obj)} {m : Str → Option Value} (C : Cx W p g L own m h) : ∀ a o, un g p a = some o → h.get? a = some o := fun a o e => by
  unfold un at e
  cases hg : g a with
  | none => rw [hg] at e; exact C.kp _ _ e
  | some x => rw [hg] at e; cases e; exact C.kg _ _ hg
theorem Cx.ku' {W h : Heap} {p g g' : PM} {L : Addr} {own : List (Addr × Obj)} {m : Str → Option Value} (C : Cx W p g' L own m h) (le : g.Le g') : ∀ a o, un g p a = some o → h.get? a = some o := fun a o e => by
  unfold un at e
  cases hg : g a with
  | none => rw [hg] at e; exact C.kp _ _ e
  | some x => rw [hg] at e; cases e; exact C.kg _ _ (le _ _ hg)

/-- an iterator of one object that turns -/
structure Iter (prog : Program) (w : World) (A : Around) (K : PM) (I : Addr) (n : Nat) (P : Nat → Obj → Prop) (val : Nat → Value → Prop) : Prop where
  next : ∀ i (h : Heap) o, i < n → P i o → h.get? I = some o → (∀ a o, K a = some o → h.get? a = some o) →
    Do prog w A (pyNext (.ref I)) (fun r h' => ∃ v o', r = some v ∧ val i v ∧ P (i + 1) o' ∧ h'.get? I = some o' ∧ Heap.SameBut I h h') h
  stop : ∀ (h : Heap) o, P n o → h.get? I = some o → (∀ a o, K a = some o → h.get? a = some o) →
    Do prog w A (pyNext (.ref I)) (fun r h' => r = none ∧ Heap.ExtBut I h h') h

abbrev lstO (vs : List Value) (n : Nat) : Obj := { cls := .type "list", data := .seq vs.toArray n }
abbrev tupO (vs : List Value) (n : Nat) : Obj := { cls := .type "tuple", data := .seq vs.toArray n }

section
variable {prog : Program} {w : World} {A : Around}
theorem Iter.mono {K K' : PM} {I : Addr} {n : Nat} {P : Nat → Obj → Prop} {val : Nat → Value → Prop} (x : Iter prog w A K I n P val) (k : K.Le K') : Iter prog w A K' I n P val :=
  ⟨fun i h o a b c d => x.next i h o a b c fun y z e => d y z (k y z e), fun h o a b d => x.stop h o a b fun y z e => d y z (k y z e)⟩

noncomputable def IterList (l : Addr) (i : Nat) (o : Obj) : Prop := o.cls = .type "list_iterator" ∧ o.data = .fields #[.ref l, .int i 0]
theorem Iter.list {K : PM} {I l : Addr} {vs : List Value} {n : Nat} (hh : A.handled = none) (hl : K l = some (lstO vs n)) :
    Iter prog w A K I vs.length (IterList l) (fun i v => vs[i]? = some v) where
  next := fun i h o hi hP ho hK s hs => by
    subst hs
    have hI : s.heap.IsListIter I l i := ⟨o, ho, hP.1, hP.2⟩
    have hL : s.heap.IsList l vs.toArray := ⟨_, hK _ _ hl, rfl, n, rfl⟩
    refine wpAny_pyNext_list_item hI hL (x := vs[i]) (by simp [hi]) fun h' hI' hs' => ⟨Same.of, ?_⟩
    obtain ⟨o', e1, e2, e3⟩ := hI'
    exact ⟨_, o', rfl, by simp [hi], ⟨e2, e3⟩, e1, hs'⟩
  stop := fun h o hP ho hK s hs => by
    subst hs
    have hI : s.heap.IsListIter I l vs.length := ⟨o, ho, hP.1, hP.2⟩
    have hL : s.heap.IsList l vs.toArray := ⟨_, hK _ _ hl, rfl, n, rfl⟩
    exact wpAny_pyNext_list_end hh hI hL (by simp) fun h' hx => ⟨Same.of, rfl, hx⟩

noncomputable def IterTup (l : Addr) (i : Nat) (o : Obj) : Prop := o.cls = .type "tuple_iterator" ∧ o.data = .fields #[.ref l, .int i 0]
theorem Iter.tuple {K : PM} {I l : Addr} {vs : List Value} {n : Nat} (hh : A.handled = none) (hl : K l = some (tupO vs n)) :
    Iter prog w A K I vs.length (IterTup l) (fun i v => vs[i]? = some v) where
  next := fun i h o hi hP ho hK s hs => by
    subst hs
    have hI : s.heap.IsTupleIter I l i := ⟨o, ho, hP.1, hP.2⟩
    have hL : s.heap.IsTuple l vs.toArray := ⟨_, hK _ _ hl, rfl, n, rfl⟩
    refine wpAny_pyNext_tuple_item hI hL (x := vs[i]) (by simp [hi]) fun h' hI' hs' => ⟨Same.of, ?_⟩
    obtain ⟨o', e1, e2, e3⟩ := hI'
    exact ⟨_, o', rfl, by simp [hi], ⟨e2, e3⟩, e1, hs'⟩
  stop := fun h o hP ho hK s hs => by
    subst hs
    have hI : s.heap.IsTupleIter I l vs.length := ⟨o, ho, hP.1, hP.2⟩
    have hL : s.heap.IsTuple l vs.toArray := ⟨_, hK _ _ hl, rfl, n, rfl⟩
    exact wpAny_pyNext_tuple_end hh hI hL (by simp) fun h' hx => ⟨Same.of, rfl, hx⟩

noncomputable def IterRange (n : Nat) (i : Nat) (o : Obj) : Prop := o.cls = .type "range_iterator" ∧ o.data = .fields #[rawInt i, rawInt ((n : Int) - i), rawInt 1]
end

/-! ### for -/
noncomputable def ownTup : List String := ["enumerate", "zip", "dict_itemiterator", "dict_reverseitemiterator", "odict_iterator", "itertools.zip_longest", "itertools.pairwise"]
theorem let_go {M : Model} {A : Around} {E : Value → Shared → Prop} {target : Expr} {I : Addr} {v : Value} {s : Shared} {o : Obj} (ho : s.heap.get? I = some o) (hc : ∃ T, o.cls = .type T ∧ ownTup.contains T = false) :
    wpAny M A (letOwnedTupleGo target (.ref I) v) (fun _ s₂ => s₂ = s) E s := by
  obtain ⟨oc, od, odt, osl⟩ := o
  obtain ⟨T, rfl, hT⟩ := hc
  have core : wpAny M A (do
      let o ← load I
      match o.cls, o.data with
      | .type n, .fields vs =>
        if ownTup.contains n && vs[0]? == some (rawInt (match v with | .ref a => a | _ => 0)) then
          rule "for.unpacks-the-owned-tuple"
          updateField I 0 .none
      | _, _ => pure ()) (fun _ s₂ => s₂ = s) E s := by
    refine wpAny_bind (wpAny_load ho ?_)
    cases odt with
    | fields vs =>
      simp only [hT, Bool.false_and, Bool.false_eq_true, if_false]
      exact wpAny_pure rfl
    | _ => exact wpAny_pure rfl
  cases target with
  | Tuple e k q => cases v <;> first | exact wpAny_pure rfl | exact core
  | List e q => cases v <;> first | exact wpAny_pure rfl | exact core
  | _ => exact wpAny_pure rfl
section
variable {prog : Program} {w : World} {A : Around} {W h : Heap} {env : Env}

noncomputable def ForR (prog : Program) (w : World) (A : Around) (env : Env) (Q : Flow → Heap → Prop) (s : Shared) (r : Result) (s' : Shared) : Prop :=
  match r with | .ok f => Same s s' ∧ Q f s'.heap | .error e => cameBackBy (model prog w) A env NoE e s'
/-- what a turn's end must give -/
noncomputable def TurnEnd (W : Heap) (p g : PM) (L I : Addr) (Pn : Obj → Prop) (Inv : PM → List (Addr × Obj) → (Str → Option Value) → Prop) (Q : Flow → Heap → Prop) (f : Flow) (h : Heap) : Prop :=
  match f with
  | .brk => Q .next h
  | .ret v => Q (.ret v) h
  | _ => ∃ g' o own' m', Pn o ∧ g.Le g' ∧ Cx W p g' L ((I, o) :: own') m' h ∧ Inv g' own' m'

theorem d_forLoop {target : Expr} {body orelse : List Stmt} {I : Addr} {n : Nat} {P : Nat → Obj → Prop} {val : Nat → Value → Prop} {p g : PM} {o : Obj} {own : List (Addr × Obj)} {m : Str → Option Value} {Q : Flow → Heap → Prop}
    (It : Iter prog w A (un g p) I n P val) (C : Cx W p g env.locals ((I, o) :: own) m h) (hP : P 0 o)
    (Inv : Nat → PM → List (Addr × Obj) → (Str → Option Value) → Prop) (h0 : Inv 0 g own m)
    (turn : ∀ i v g' o' own' m' h', i < n → val i v → P (i + 1) o' → g.Le g' → Inv i g' own' m' → Cx W p g' env.locals ((I, o') :: own') m' h' →
      Do prog w A (assign target env v) (fun _ h₁ => Do prog w A (execs body env) (TurnEnd W p g' env.locals I (P (i + 1)) (Inv (i + 1)) Q) h₁) h')
    (done : ∀ g' own' m' h', g.Le g' → Inv n g' own' m' → Cx W p g' env.locals own' m' h' → Do prog w A (execs orelse env) Q h')
    (ht : ∀ i o, P i o → ∃ T, o.cls = .type T ∧ ownTup.contains T = false) (s : Shared) (hs : s.heap = h) :
    codeAny (model prog w) A (.forLoop target (.ref I) body orelse env) (ForR prog w A env Q s) s := by
  refine codeAny_loop' rfl (fun k s' => Same s s' ∧ ∃ i g' o' own' m', k = n - i ∧ i ≤ n ∧ P i o' ∧ g.Le g' ∧ Cx W p g' env.locals ((I, o') :: own') m' s'.heap ∧ Inv i g' own' m') (fun k s' hI => ?_) n
    ⟨Same.rfl, 0, g, o, own, m, rfl, Nat.zero_le _, hP, .refl, hs ▸ C, h0⟩
  obtain ⟨e0, i, g', o', own', m', rfl, hi, hPi, le, C', hInv⟩ := hI
  show wpAny _ _ ((forTurn target (.ref I) body orelse env).onRaise (fun x => do noteFrame x env; theTreesLotGoes x)) _ _ s'
  refine wpAny_noted ?_
  simp only [forTurn]
  refine wpAny_bind (wpAny_standAt (wpAny_bind (wpAny_onRaise ?_)))
  by_cases hlt : i < n
  · refine wpAny_mono (It.next i _ o' hlt hPi (C'.ow _ (.head _)).1 (C'.ku' le) s' rfl) (fun r s₁ h₁ => ?_) fun _ _ x => x.elim
    obtain ⟨e1, v, o₁, rfl, hv, hP1, ho1, hs1⟩ := h₁
    have C₁ := C'.upd0 hs1 ho1
    have tail : Do prog w A (assign target env v) (fun _ h₁ => Do prog w A (execs body env) (TurnEnd W p g' env.locals I (P (i + 1)) (Inv (i + 1)) Q) h₁) s₁.heap := turn i v g' o₁ own' m' s₁.heap hlt hv hP1 le hInv C₁
    have go : wpAny (model prog w) A (letOwnedTupleGo target (.ref I) v) (fun _ s₂ => s₂ = s₁) (notedBy (model prog w) A env fun e s' => cameBackBy (model prog w) A env NoE e s') s₁ := let_go (C₁.ow _ (.head _)).1 (ht _ _ hP1)
    refine wpAny_bind (wpAny_mono go (fun _ s₂ e => ?_) fun _ _ x => x)
    subst e
    refine wpAny_bind (wpAny_mono (tail s₂ rfl) (fun _ s₃ x₃ => ?_) fun _ _ x => x.elim)
    refine wpAny_bind (wpAny_mono (x₃.2 s₃ rfl) (fun f s₄ x₄ => ?_) fun _ _ x => x.elim)
    have eS := e0.trans (e1.trans (x₃.1.trans x₄.1))
    cases f with
    | brk => exact wpAny_pure ⟨eS, x₄.2⟩
    | ret v => exact wpAny_pure ⟨eS, x₄.2⟩
    | next =>
      obtain ⟨g'', o'', own'', m'', hP'', le'', C'', hI''⟩ := x₄.2
      exact wpAny_pure (.inl ⟨rfl, n - (i + 1), by omega, eS, i + 1, g'', o'', own'', m'', rfl, hlt, hP'', le.trans le'', C'', hI''⟩)
    | cont =>
      obtain ⟨g'', o'', own'', m'', hP'', le'', C'', hI''⟩ := x₄.2
      exact wpAny_pure (.inl ⟨rfl, n - (i + 1), by omega, eS, i + 1, g'', o'', own'', m'', rfl, hlt, hP'', le.trans le'', C'', hI''⟩)
  · have hin : i = n := by omega
    subst hin
    refine wpAny_mono (It.stop _ o' hPi (C'.ow _ (.head _)).1 (C'.ku' le) s' rfl) (fun r s₁ h₁ => ?_) fun _ _ x => x.elim
    obtain ⟨e1, rfl, hx⟩ := h₁
    refine wpAny_pure (.inr ⟨rfl, codeAny_block ?_⟩)
    refine wpAny_mono (done g' own' m' s₁.heap le hInv (C'.gone hx) s₁ rfl) (fun f s₂ x => ?_) fun _ _ x => x.elim
    exact ⟨e0.trans (e1.trans x.1), x.2⟩

theorem d_For {target iter : Expr} {body orelse : List Stmt} {pos : Pos} {Q : Flow → Heap → Prop}
    (H : Do prog w A (eval iter env) (fun x h₁ => Do prog w A (pyIter x) (fun it h₂ => ∀ s : Shared, s.heap = h₂ →
      codeAny (model prog w) A (.forLoop target it body orelse env) (ForR prog w A env Q s) s) h₁) h)
    (hf : ∀ x, foldedSetIterable iter env x = pure x := by intro _; rfl) : Do prog w A (exec (.For target iter body orelse pos) env) Q h :=
  fun s hs => wpAny_For (H.to hs fun x s₁ e₁ H₁ => H₁.to rfl fun it s₂ e₂ H₂ => codeAny_mono (H₂ s₂ rfl) fun r s' x => by
    cases r with
    | ok f => exact ⟨e₁.trans (e₂.trans x.1), x.2⟩
    | error e => exact x) hf

theorem d_While {test : Expr} {body orelse : List Stmt} {pos : Pos} {Q : Flow → Heap → Prop} (I : Nat → Heap → Prop) (n : Nat) (h0 : I n h)
    (turn : ∀ n h', I n h' → Do prog w A (isTrue test env (eval test env)) (fun b h₂ =>
      if b then Do prog w A (execs body env) (fun f h₃ => match f with | .brk => Q .next h₃ | .ret v => Q (.ret v) h₃ | _ => ∃ k, k < n ∧ I k h₃) h₂
      else Do prog w A (execs orelse env) Q h₂) h') : Do prog w A (exec (.While test body orelse pos) env) Q h :=
  fun s hs => wpAny_While (codeAny_whileLoop (fun k s' => Same s s' ∧ I k s'.heap) (fun k s' hI => wpAny_mono (turn k s'.heap hI.2 s' rfl) (fun b s₂ x => by
    cases b with
    | false => exact wpAny_mono (x.2 s₂ rfl) (fun f s₃ y => ⟨hI.1.trans (x.1.trans y.1), y.2⟩) fun _ _ z => z.elim
    | true =>
      refine wpAny_mono (x.2 s₂ rfl) (fun f s₃ y => ?_) fun _ _ z => z.elim
      have eS := hI.1.trans (x.1.trans y.1)
      cases f with
      | brk => exact ⟨eS, y.2⟩
      | ret v => exact ⟨eS, y.2⟩
      | next => obtain ⟨j, hj, hI'⟩ := y.2; exact ⟨j, hj, eS, hI'⟩
      | cont => obtain ⟨j, hj, hI'⟩ := y.2; exact ⟨j, hj, eS, hI'⟩) fun _ _ z => z.elim) n ⟨Same.rfl, hs ▸ h0⟩)
end

/-! ### iterators made -/
section
variable {prog : Program} {w : World} {A : Around} {W h : Heap} {p g : PM} {L : Addr} {own : List (Addr × Obj)} {m : Str → Option Value}
theorem d_iter_list {l : Addr} {vs : List Value} {n : Nat} {Q : Value → Heap → Prop} (C : Cx W p g L own m h) (hl : h.get? l = some (lstO vs n))
    (q : ∀ I o h', IterList l 0 o → Cx W p g L ((I, o) :: own) m h' → Q (.ref I) h') : Do prog w A (pyIter (.ref l)) Q h :=
  fun _ hs => by subst hs; exact wpAny_pyIter_list (items := vs.toArray) ⟨_, hl, rfl, n, rfl⟩ ⟨Same.of, q _ _ _ ⟨rfl, rfl⟩ (C.newOwn _)⟩
theorem d_iter_tuple {l : Addr} {vs : List Value} {n : Nat} {Q : Value → Heap → Prop} (C : Cx W p g L own m h) (hl : h.get? l = some (tupO vs n))
    (q : ∀ I o h', IterTup l 0 o → Cx W p g L ((I, o) :: own) m h' → Q (.ref I) h') : Do prog w A (pyIter (.ref l)) Q h :=
  fun _ hs => by subst hs; exact wpAny_pyIter_tuple (items := vs.toArray) ⟨_, hl, rfl, n, rfl⟩ ⟨Same.of, q _ _ _ ⟨rfl, rfl⟩ (C.newOwn _)⟩
end
end

section
open PySem PySem.W PySem.Calls PyProof.Rows

section
variable {prog : Program} {w : World} {A : Around} {h : Heap} {a b : Int} {t u : Tok} {Q : Value → Heap → Prop}
theorem d_add (q : ∀ t, Q (.int (a + b) t) h) : Do prog w A (binaryOp .Add (.int a t) (.int b u)) Q h := fun _ hs => P.add_int ⟨Same.of, hs ▸ q _⟩
theorem d_sub (q : ∀ t, Q (.int (a - b) t) h) : Do prog w A (binaryOp .Sub (.int a t) (.int b u)) Q h := fun _ hs => P.sub_int ⟨Same.of, hs ▸ q _⟩
theorem d_mul (hm : IntMulOk a b) (q : ∀ t, Q (.int (a * b) t) h) : Do prog w A (binaryOp .Mult (.int a t) (.int b u)) Q h := fun _ hs => P.mul_int ⟨Same.of, hs ▸ q _⟩ hm
theorem d_fdiv (hb : b ≠ 0) (hp : Builtin.divisionGoesByPylong a b = false) (q : ∀ t, Q (.int (a.fdiv b) t) h) : Do prog w A (binaryOp .FloorDiv (.int a t) (.int b u)) Q h := fun _ hs => floordiv_int hb ⟨Same.of, hs ▸ q _⟩ (.inl hp)
theorem d_fmod (hb : b ≠ 0) (q : ∀ t, Q (.int (a.fmod b) t) h) : Do prog w A (binaryOp .Mod (.int a t) (.int b u)) Q h := fun _ hs => mod_int' hb ⟨Same.of, hs ▸ q _⟩
theorem d_and (q : ∀ t, Q (.int (Builtin.bitAnd a b) t) h) : Do prog w A (binaryOp .BitAnd (.int a t) (.int b u)) Q h := fun _ hs => and_int ⟨Same.of, hs ▸ q _⟩
theorem d_pow (hn : 0 ≤ b) (hsz : (Builtin.Int.intBits a : Int) * b ≤ 2 ^ 27) (q : ∀ t, Q (.int (a ^ b.toNat) t) h) : Do prog w A (binaryOp .Pow (.int a t) (.int b u)) Q h := fun _ hs => pow_int hn hsz ⟨Same.of, hs ▸ q _⟩
theorem d_eq (q : Q (.bool (a == b)) h) : Do prog w A (compareOp .Eq (.int a t) (.int b u)) Q h := fun _ hs => P.eq_int ⟨Same.rfl, hs ▸ q⟩
theorem d_ne (q : Q (.bool (a != b)) h) : Do prog w A (compareOp .NotEq (.int a t) (.int b u)) Q h := fun _ hs => P.ne_int ⟨Same.rfl, hs ▸ q⟩
theorem d_lt (q : Q (.bool (decide (a < b))) h) : Do prog w A (compareOp .Lt (.int a t) (.int b u)) Q h := fun _ hs => P.lt_int ⟨Same.rfl, hs ▸ q⟩
theorem d_gt (q : Q (.bool (decide (a > b))) h) : Do prog w A (compareOp .Gt (.int a t) (.int b u)) Q h := fun _ hs => P.gt_int ⟨Same.rfl, hs ▸ q⟩
end

theorem fdiv_pos {a b : Int} (hb : 0 < b) : a.fdiv b = a / b := Int.fdiv_eq_ediv_of_nonneg a (Int.le_of_lt hb)
theorem fmod_pos {a b : Int} (hb : 0 < b) : a.fmod b = a % b := Int.fmod_eq_emod_of_nonneg a (Int.le_of_lt hb)
section
variable {prog : Program} {w : World} {A : Around} {h : Heap} {a b : Int} {t u : Tok} {Q : Value → Heap → Prop}
theorem d_fdivE (hb : 0 < b) (hb2 : b < 1073741824) (q : ∀ t, Q (.int (a / b) t) h) : Do prog w A (binaryOp .FloorDiv (.int a t) (.int b u)) Q h :=
  d_fdiv (by omega) (PyProof.noPylong_small (by omega)) (fun t => by rw [fdiv_pos hb]; exact q t)
theorem d_fmodE (hb : 0 < b) (q : ∀ t, Q (.int (a % b) t) h) : Do prog w A (binaryOp .Mod (.int a t) (.int b u)) Q h := d_fmod (by omega) (fun t => by rw [fmod_pos hb]; exact q t)
end

/-! ### texts -/
abbrev S (l : List Nat) : Str := ⟨l.toArray⟩
section
variable {prog : Program} {w : World} {A : Around} {h : Heap} {x y : List Nat} {t u : Tok} {Q : Value → Heap → Prop}
theorem S_add (x y : List Nat) : S x ++ S y = S (x ++ y) := by
  show (⟨x.toArray ++ y.toArray⟩ : Str) = _
  simp
theorem S_len (x : List Nat) : (S x).length = x.length := by show x.toArray.size = _; simp
theorem d_sadd (hz : x.length + y.length ≤ sizeLine) (q : ∀ t, Q (.str (S (x ++ y)) t) h) : Do prog w A (binaryOp .Add (.str (S x) t) (.str (S y) u)) Q h := fun s hs => by
  refine P.add_str ?_
  by_cases hx : (S x).length = 0
  · rw [if_pos (by simpa using hx)]
    have e : x = [] := by rw [S_len] at hx; exact List.length_eq_zero_iff.mp hx
    subst e
    exact ⟨Same.rfl, hs ▸ q _⟩
  · rw [if_neg (by simpa using hx)]
    by_cases hy : (S y).length = 0
    · rw [if_pos (by simpa using hy)]
      have e : y = [] := by rw [S_len] at hy; exact List.length_eq_zero_iff.mp hy
      subst e
      have := q t
      rw [List.append_nil] at this
      exact ⟨Same.rfl, hs ▸ this⟩
    · rw [if_neg (by simpa using hy), S_add]
      exact ⟨by rw [S_len, List.length_append]; exact hz, Same.of, hs ▸ q _⟩
theorem d_seq (q : Q (.bool (x == y)) h) : Do prog w A (compareOp .Eq (.str (S x) t) (.str (S y) u)) Q h := fun _ hs => P.eq_str ⟨Same.rfl, by subst hs; exact q⟩
theorem d_sne (q : Q (.bool (x != y)) h) : Do prog w A (compareOp .NotEq (.str (S x) t) (.str (S y) u)) Q h := fun _ hs => P.ne_str ⟨Same.rfl, by subst hs; exact q⟩
theorem d_slen (hz : x.length ≤ sizeLine) (q : ∀ t, Q (.int x.length t) h) : Do prog w A (call (.builtin "len") [.str (S x) t]) Q h := fun _ hs =>
  P.len_str (by rw [S_len]; rw [sizeLine_eq] at hz; omega) ⟨Same.of, by rw [S_len]; exact hs ▸ q _⟩
theorem d_struth {Q : Bool → Heap → Prop} (hz : x.length ≤ sizeLine) (q : Q (!x.isEmpty) h) : Do prog w A (truthy (.str (S x) t)) Q h := fun _ hs =>
  P.truthy_str (by rw [S_len]; rw [sizeLine_eq] at hz; omega) ⟨Same.of, by
    rw [S_len]
    have : ((x.length : Int) != 0) = !x.isEmpty := by cases x <;> simp; omega
    rw [this]
    exact hs ▸ q⟩
/-- an item of a text -/
theorem d_sitem {value slice : Expr} {i : Int} {c : Nat} (h0 : 0 ≤ i) (hz : x.length ≤ sizeLine) (hc : x[i.toNat]? = some c) (q : ∀ t, Q (.str (S [c]) t) h)
    (hs' : subscripted slice false (.str (S x) t) (.int i u) = operate [.str (S x) t, .int i u] (getItem (.str (S x) t) (.int i u)) := by with_unfolding_all rfl) :
    Do prog w A (subscriptTail value slice (.str (S x) t) (.int i u)) Q h := fun s hs => by
  have hi : i.toNat < x.length := by
    obtain ⟨hi, _⟩ := List.getElem?_eq_some_iff.mp hc
    exact hi
  rw [sizeLine_eq] at hz
  refine tail_any (T := "str") (typeIs_str _ _ _) F.slot_str_getitem.lookup (P.getItem_str (c := c) (by simp; omega) ?_ ⟨Same.of, hs ▸ q _⟩) hs'
  rw [S_len]
  have e1 : seqIndex? i x.length = some i.toNat := by
    unfold seqIndex?
    have h1 : ¬ i < 0 := by omega
    have h2 : i < x.length := by omega
    simp [h1, h2, h0]
  rw [e1]
  simpa using hc
theorem d_sitem' {value slice : Expr} {i : Int} (h0 : 0 ≤ i) (hi : i < x.length) (hz : x.length ≤ sizeLine) (q : ∀ t, Q (.str (S [x.getD i.toNat 0]) t) h)
    (hs' : subscripted slice false (.str (S x) t) (.int i u) = operate [.str (S x) t, .int i u] (getItem (.str (S x) t) (.int i u)) := by with_unfolding_all rfl) :
    Do prog w A (subscriptTail value slice (.str (S x) t) (.int i u)) Q h :=
  d_sitem h0 hz (by have : i.toNat < x.length := by omega
                    simp [List.getD, this]) q hs'
theorem d_Const_S {env : Env} {y : Str} {k : Nat} {pos : Pos} (e : y = S x) (q : ∀ t, Q (.str (S x) t) h) : Do prog w A (eval (.Constant (.str y) k pos) env) Q h := by
  subst e; exact d_Const_str q
end
/-! ### items of tuples and lists -/
theorem bool_index : typeLookup (.type "bool") "__index__" = pure (some (.builtin "int.__index__")) := by kernel_rfl
theorem seqIndex_nat {i : Int} {n : Nat} (h0 : 0 ≤ i) (h1 : i.toNat < n) : seqIndex? i n = some i.toNat := by
  unfold seqIndex?
  have h2 : ¬ i < 0 := by omega
  have h3 : i < n := by omega
  simp [h2, h3, h0]
theorem getItem_tupleB {prog : Program} {w : World} {A : Around} {E : Value → Shared → Prop} {s : Shared} {t : Addr} {items : Array Value} {k : Bool} {x : Value} {Q : Value → Shared → Prop} (ht : IsTup s.heap t items)
    (hx : items[k.toNat]? = some x) (h : Q x s) : wpAny (model prog w) A (getItem (.ref t) (.bool k)) Q E s := by
  unfold getItem
  try with_reducible refine wpAny_holding ?_
  first | refine wpAny_bind (wpAny_pure ?_) | skip
  refine wpAny_bind (wpAny_sequenceKey ht.typeIs (by decide) ?_)
  refine wpAny_bind (wpAny_callSpecial?_slot (name := Str.ofString "__getitem__") ht.typeIs slot_tuple_getitem
    (wpAny_call_entry slot_tuple_getitem ht.typeIs entry_tuple_getitem ?_ (args_tuple_getitem _ _)))
  show wpAny _ _ (Builtin.Tuple.tupleItemsOf (.ref t) >>= _) _ _ s
  refine wpAny_bind (tupleItemsOf_ ht ?_)
  refine wpAny_bind (wpAny_typeOf (PySem.typeIs_bool s k) ?_)
  rw [if_neg (by decide)]
  refine wpAny_bind (wpAny_specialOf (T := "bool") (PySem.typeIs_bool s k) bool_index ?_)
  rw [if_neg (by simp)]
  refine wpAny_bind (wpAny_of_eq (a := (k.toNat : Int)) (by cases k <;> rfl) ?_)
  have hk : k.toNat < items.size := by
    obtain ⟨hk, _⟩ := Array.getElem?_eq_some_iff.mp hx
    exact hk
  have hk2 : k.toNat < 2 := by cases k <;> decide
  rw [if_neg (by simp only [Bool.or_eq_true, decide_eq_true_eq]; omega)]
  rw [seqIndex_nat (by omega) (by omega)]
  simp only [Int.toNat_natCast, Option.bind_some, hx]
  exact wpAny_pure ⟨_, rfl, wpAny_pure h⟩
section
variable {prog : Program} {w : World} {A : Around} {h : Heap} {a : Addr} {vs : List Value} {n : Nat} {v : Value} {u : Tok} {Q : Value → Heap → Prop} {value slice : Expr} {i : Int}
theorem d_titem (ho : h.get? a = some (tupO vs n)) (h0 : 0 ≤ i) (h1 : i < 2 ^ 63) (hv : vs[i.toNat]? = some v) (q : Q v h)
    (hs' : subscripted slice false (.ref a) (.int i u) = operate [.ref a, .int i u] (getItem (.ref a) (.int i u)) := by with_unfolding_all rfl) :
    Do prog w A (subscriptTail value slice (.ref a) (.int i u)) Q h := fun s hs => by
  subst hs
  have ht : IsTup s.heap a vs.toArray := ⟨_, ho, rfl, n, rfl⟩
  have hi : i.toNat < vs.length := (List.getElem?_eq_some_iff.mp hv).1
  exact tail_any ht.typeIs slot_tuple_getitem.lookup (getItem_tuple (j := i.toNat) ht (by omega) h1 (seqIndex_nat h0 (by simpa using hi)) (by simpa using hv) ⟨Same.rfl, q⟩) hs'
theorem d_titemB {k : Bool} (ho : h.get? a = some (tupO vs n)) (hv : vs[k.toNat]? = some v) (q : Q v h)
    (hs' : subscripted slice false (.ref a) (.bool k) = operate [.ref a, .bool k] (getItem (.ref a) (.bool k)) := by with_unfolding_all rfl) :
    Do prog w A (subscriptTail value slice (.ref a) (.bool k)) Q h := fun s hs => by
  subst hs
  have ht : IsTup s.heap a vs.toArray := ⟨_, ho, rfl, n, rfl⟩
  exact tail_any ht.typeIs slot_tuple_getitem.lookup (getItem_tupleB ht (by simpa using hv) ⟨Same.rfl, q⟩) hs'
theorem d_litem (ho : h.get? a = some (lstO vs n)) (h0 : 0 ≤ i) (h1 : i < 2 ^ 63) (hv : vs[i.toNat]? = some v) (q : Q v h)
    (hs' : subscripted slice false (.ref a) (.int i u) = operate [.ref a, .int i u] (getItem (.ref a) (.int i u)) := by with_unfolding_all rfl) :
    Do prog w A (subscriptTail value slice (.ref a) (.int i u)) Q h := fun s hs => by
  subst hs
  have ht : s.heap.IsList a vs.toArray := ⟨_, ho, rfl, n, rfl⟩
  exact tail_any ht.typeIs slot_list_getitem.lookup (wpAny_getItem_list ht h0 h1 (by simpa using hv) ⟨Same.rfl, q⟩) hs'
theorem d_litemNeg (ho : h.get? a = some (lstO vs n)) (h0 : i < 0) (h1 : -(vs.length : Int) ≤ i) (h2 : -(2 ^ 63) ≤ i) (hv : vs[(i + vs.length).toNat]? = some v) (q : Q v h)
    (hs' : subscripted slice false (.ref a) (.int i u) = operate [.ref a, .int i u] (getItem (.ref a) (.int i u)) := by with_unfolding_all rfl) :
    Do prog w A (subscriptTail value slice (.ref a) (.int i u)) Q h := fun s hs => by
  subst hs
  have ht : s.heap.IsList a vs.toArray := ⟨_, ho, rfl, n, rfl⟩
  exact tail_any ht.typeIs slot_list_getitem.lookup (wpAny_getItem_list_neg ht h0 (by simpa using h1) h2 (by simpa using hv) ⟨Same.rfl, q⟩) hs'
end
/-! the written texts -/
theorem l_types : Str.ofString "?pc?d?b?-?l?s???" = S [63, 112, 99, 63, 100, 63, 98, 63, 45, 63, 108, 63, 115, 63, 63, 63] := rfl
theorem l_r : Str.ofString "-r" = S [45, 114] := rfl
theorem l_w : Str.ofString "-w" = S [45, 119] := rfl
theorem l_xs : Str.ofString "-xSs" = S [45, 120, 83, 115] := rfl
theorem l_xt : Str.ofString "-xTt" = S [45, 120, 84, 116] := rfl
theorem l_nil : Str.ofString "" = S [] := rfl
theorem l_bs : Str.ofString "\\" = S [92] := rfl
theorem l_q : Str.ofString "\"" = S [34] := rfl
theorem l_eq : Str.ofString "=" = S [61] := rfl
theorem l_semi : Str.ofString "; " = S [59, 32] := rfl
theorem l_seq : Str.ofString "%s=%s" = S [37, 115, 61, 37, 115] := rfl
theorem l_sq : Str.ofString "\"%s\"" = S [34, 37, 115, 34] := rfl
theorem l_com : Str.ofString ", " = S [44, 32] := rfl
theorem l_c : Str.ofString "," = S [44] := rfl
theorem l_ask : Str.ofString "?" = S [63] := rfl
theorem l_dash : Str.ofString "-" = S [45] := rfl
end

section
open PySem PySem.Sre

noncomputable def iter : Nat → M → M
  | 0, m => m
  | n + 1, m => iter n m.step
theorem step_done {m : M} (h : m.outcome.isSome = true) : m.step = m := by unfold M.step; rw [if_pos h]
theorem iter_done {m : M} (h : m.outcome.isSome = true) : ∀ n, iter n m = m
  | 0 => rfl
  | n + 1 => by rw [iter, step_done h]; exact iter_done h n
theorem runFor_iter : ∀ n m, M.runFor n m = iter n m
  | 0, _ => rfl
  | n + 1, m => by
    rw [M.runFor, iter]
    split
    · rename_i h; rw [step_done h, iter_done h]
    · exact runFor_iter n _
theorem iter_add : ∀ a b m, iter (a + b) m = iter b (iter a m)
  | 0, b, m => by rw [Nat.zero_add]; rfl
  | a + 1, b, m => by rw [Nat.add_right_comm, iter, iter, iter_add a b]

/-- within k steps it comes to a state of P -/
noncomputable def Rn (k : Nat) (m : M) (P : M → Prop) : Prop := ∃ n, n ≤ k ∧ P (iter n m)
theorem Rn.here {m : M} {P : M → Prop} (h : P m) : Rn 0 m P := ⟨0, Nat.le_refl _, h⟩
theorem Rn.step {k : Nat} {m m' : M} {P : M → Prop} (e : m.step = m') (h : Rn k m' P) : Rn (k + 1) m P :=
  let ⟨n, hn, hp⟩ := h; ⟨n + 1, Nat.succ_le_succ hn, by rw [iter, e]; exact hp⟩
theorem Rn.trans {a b : Nat} {m : M} {P R : M → Prop} (h : Rn a m P) (k : ∀ m', P m' → Rn b m' R) : Rn (a + b) m R :=
  let ⟨n, hn, hp⟩ := h
  let ⟨j, hj, hr⟩ := k _ hp
  ⟨n + j, Nat.add_le_add hn hj, by rw [iter_add]; exact hr⟩
theorem Rn.le {a b : Nat} {m : M} {P : M → Prop} (h : Rn a m P) (hab : a ≤ b) : Rn b m P := let ⟨n, hn, hp⟩ := h; ⟨n, Nat.le_trans hn hab, hp⟩
theorem Rn.mono {a : Nat} {m : M} {P R : M → Prop} (h : Rn a m P) (k : ∀ m', P m' → R m') : Rn a m R := let ⟨n, hn, hp⟩ := h; ⟨n, hn, k _ hp⟩

section
variable {prog : Program} {w : World} {A : Around} {h : Heap}
theorem d_drive : ∀ (turns n : Nat) (m : M) (Q : M → Heap → Prop), n ≤ 4 * turns → 0 < turns → (iter n m).outcome.isSome = true → Q (iter n m) h → Do prog w A (Builtin.Re.reDrive turns m) Q h
  | 0, _, _, _, _, h0, _, _ => absurd h0 (Nat.lt_irrefl _)
  | turns + 1, n, m, Q, hn, _, ho, q => by
    unfold Builtin.Re.reDrive
    simp only [runFor_iter, Builtin.Re.reTurnSteps]
    by_cases h4 : (iter 4 m).outcome.isSome = true
    · rw [if_pos h4]
      have e : iter 4 m = iter n m := by
        by_cases hl : n ≤ 4
        · have : 4 = n + (4 - n) := by omega
          rw [this, iter_add, iter_done ho]
        · have : n = 4 + (n - 4) := by omega
          rw [this, iter_add, iter_done h4]
      exact Do.pure (e ▸ q)
    · rw [if_neg h4]
      have hl : 4 < n := by
        refine Nat.lt_of_not_le fun hl => h4 ?_
        have : 4 = n + (4 - n) := by omega
        rw [this, iter_add, iter_done ho]
        exact ho
      have e : iter n m = iter (n - 4) (iter 4 m) := by
        have : n = 4 + (n - 4) := by omega
        rw [← iter_add, ← this]
      rw [e] at ho q
      exact Do.bind (Do.rule (d_drive turns (n - 4) _ Q (by omega) (by omega) ho q))

theorem forIn_rules {f : Nat → PUnit → Sem (ForInStep PUnit)} (hf : ∀ i u (Q : ForInStep PUnit → Heap → Prop), Q (.yield ⟨⟩) h → Do prog w A (f i u) Q h) : ∀ (l : List Nat) (Q : PUnit → Heap → Prop), Q ⟨⟩ h →
    Do prog w A (forIn l PUnit.unit f) Q h
  | [], Q, q => by rw [List.forIn_nil]; exact Do.pure q
  | x :: l, Q, q => by
    rw [List.forIn_cons]
    exact Do.bind (hf x _ _ (forIn_rules hf l Q q))

theorem d_runToEnd {k : Nat} {m : M} {Q : Option M → Heap → Prop} (hk : k ≤ 4 * 2 ^ 64)
    (H : Rn k m fun m' => (m'.outcome = some .matched ∧ Q (some m') h) ∨ (m'.outcome = some .failed ∧ Q none h)) : Do prog w A (Builtin.Re.reRunToEnd m) Q h := by
  obtain ⟨n, hn, hm⟩ := H
  unfold Builtin.Re.reRunToEnd
  refine Do.bind (d_drive (2 ^ 64) n m _ (by omega) (by decide) ?_ ?_)
  · rcases hm with ⟨e, _⟩ | ⟨e, _⟩ <;> rw [e] <;> rfl
  · refine Do.bind (forIn_rules (fun i u Q q => ?_) _ _ ?_)
    · split
      · exact Do.bind (Do.rule (Do.pure q))
      · exact Do.pure q
    rcases hm with ⟨e, q⟩ | ⟨e, q⟩
    · rw [e]; exact Do.pure q
    · rw [e]; exact Do.pure q
end
end

section
set_option linter.unusedSimpArgs false
open PySem PySem.Sre

abbrev mm (code text : Array Nat) (lim start last : Nat) (whole must : Bool) (pc pos handed : Nat) (om : Bool) (marks : Array (Option Nat)) (lm li : Int) (loops : Array Loop) (inner : Option Nat) (frames : List Sre.Frame) (wt : Nat) (ans : Option Bool) (seen : Seen) : M :=
  ⟨code, text, lim, start, last, whole, must, pc, pos, handed, om, marks, lm, li, loops, inner, frames, wt, ans, seen, none⟩

/-- a class of signs: what one item of the code takes -/
noncomputable def Cls (code : Array Nat) (i : Nat) (f : Nat → Bool) : Prop := ∀ c seen, ∃ seen', accepts code i c seen = .ok (f c, seen')

noncomputable def cw (f : Nat → Bool) (text : Array Nat) : (n p : Nat) → Nat
  | 0, _ => 0
  | n + 1, p => if f (text.getD p 0) then cw f text n (p + 1) + 1 else 0
theorem cw_le (f : Nat → Bool) (text : Array Nat) : ∀ n p, cw f text n p ≤ n
  | 0, _ => Nat.le_refl _
  | n + 1, p => by
    unfold cw
    split
    · exact Nat.succ_le_succ (cw_le f text n (p + 1))
    · exact Nat.zero_le _
theorem run_cw {code text : Array Nat} {i : Nat} {f : Nat → Bool} (hc : Cls code i f) : ∀ n p found seen, ∃ seen', Sre.run code text i n p found seen = .ok (found + cw f text n p, seen')
  | 0, p, found, seen => ⟨seen, rfl⟩
  | n + 1, p, found, seen => by
    obtain ⟨s1, e1⟩ := hc (text.getD p 0) seen
    unfold Sre.run cw
    rw [e1]
    cases hf : f (text.getD p 0) with
    | true =>
      obtain ⟨s2, e2⟩ := run_cw hc n (p + 1) (found + 1) s1
      exact ⟨s2, by show Sre.run code text i n (p + 1) (found + 1) s1 = _; rw [e2]; simp; omega⟩
    | false => exact ⟨s1, rfl⟩

section
variable {code text : Array Nat} {lim start last : Nat} {whole must : Bool} {pc pos handed : Nat} {om : Bool} {marks : Array (Option Nat)} {lm li : Int} {loops : Array Loop} {inner : Option Nat} {frames : List Sre.Frame} {wt : Nat} {seen : Seen}

theorem o16 : ops[16]? = some .LITERAL := rfl
theorem o2 : ops[2]? = some .ANY := rfl
theorem o13 : ops[13]? = some .IN := rfl
theorem o6 : ops[6]? = some .AT := rfl
theorem o17 : ops[17]? = some .MARK := rfl
theorem o24 : ops[24]? = some .REPEAT_ONE := rfl
theorem o1 : ops[1]? = some .SUCCESS := rfl
theorem o23 : ops[23]? = some .REPEAT := rfl
theorem o18 : ops[18]? = some .MAX_UNTIL := rfl

theorem st_lit {c : Nat} (hp : pc < code.size) (h0 : code.getD pc 0 = 16) (h1 : code.getD (pc + 1) 0 = c) (hl : pos < lim) (ht : text.getD pos 0 = c) :
    ∃ seen', (mm code text lim start last whole must pc pos handed om marks lm li loops inner frames wt none seen).step = mm code text lim start last whole must (pc + 2) (pos + 1) handed om marks lm li loops inner frames wt none seen' := by
  refine ⟨seen.add 16, ?_⟩
  simp only [M.step, M.exec, M.word, Nat.add_zero, h0, h1, o16, hp, Option.isSome_none, Bool.false_eq_true, if_false, if_true, ge_iff_le, Nat.not_le.mpr hl, accepts, ht, beq_self_eq_true, itemWidth]
theorem st_lit_no {c : Nat} (hp : pc < code.size) (h0 : code.getD pc 0 = 16) (h1 : code.getD (pc + 1) 0 = c) (ht : ¬ (pos < lim ∧ text.getD pos 0 = c)) :
    ∃ seen', (mm code text lim start last whole must pc pos handed om marks lm li loops inner frames wt none seen).step = mm code text lim start last whole must pc pos handed om marks lm li loops inner frames wt (some false) seen' := by
  refine ⟨seen.add 16, ?_⟩
  by_cases hl : pos < lim
  · have hne : (text.getD pos 0 == c) = false := by simpa using fun e => ht ⟨hl, e⟩
    simp only [M.step, M.exec, M.word, Nat.add_zero, h0, h1, o16, hp, Option.isSome_none, Bool.false_eq_true, if_false, if_true, ge_iff_le, Nat.not_le.mpr hl, accepts, hne, M.say]
  · simp only [M.step, M.exec, M.word, Nat.add_zero, h0, h1, o16, hp, Option.isSome_none, Bool.false_eq_true, if_false, if_true, ge_iff_le, Nat.not_lt.mp hl, M.say]
theorem st_any (hp : pc < code.size) (h0 : code.getD pc 0 = 2) (hl : pos < lim) (ht : text.getD pos 0 ≠ 10) :
    ∃ seen', (mm code text lim start last whole must pc pos handed om marks lm li loops inner frames wt none seen).step = mm code text lim start last whole must (pc + 1) (pos + 1) handed om marks lm li loops inner frames wt none seen' := by
  refine ⟨seen.add 2, ?_⟩
  have hne : (text.getD pos 0 != 10) = true := by simpa using ht
  simp only [M.step, M.exec, M.word, Nat.add_zero, h0, o2, hp, Option.isSome_none, Bool.false_eq_true, if_false, if_true, ge_iff_le, Nat.not_le.mpr hl, accepts, hne, itemWidth]
theorem st_in {f : Nat → Bool} (hp : pc < code.size) (h0 : code.getD pc 0 = 13) (hc : Cls code pc f) (hl : pos < lim) (ht : f (text.getD pos 0) = true) :
    ∃ seen', (mm code text lim start last whole must pc pos handed om marks lm li loops inner frames wt none seen).step = mm code text lim start last whole must (pc + (1 + code.getD (pc + 1) 0)) (pos + 1) handed om marks lm li loops inner frames wt none seen' := by
  obtain ⟨s', e⟩ := hc (text.getD pos 0) (seen.add 13)
  refine ⟨s', ?_⟩
  simp only [M.step, M.exec, M.word, Nat.add_zero, h0, o13, hp, Option.isSome_none, Bool.false_eq_true, if_false, if_true, ge_iff_le, Nat.not_le.mpr hl, e, ht, itemWidth]
theorem st_at (hp : pc < code.size) (h0 : code.getD pc 0 = 6) (h1 : code.getD (pc + 1) 0 = 0) :
    ∃ seen', (mm code text lim start last whole must pc 0 handed om marks lm li loops inner frames wt none seen).step = mm code text lim start last whole must (pc + 2) 0 handed om marks lm li loops inner frames wt none seen' := by
  refine ⟨(seen.add 6).add 43, ?_⟩
  simp only [M.step, M.exec, M.word, Nat.add_zero, h0, h1, o6, hp, Option.isSome_none, Bool.false_eq_true, if_false, if_true, M.isAt, beq_self_eq_true]
theorem st_at_no (hp : pc < code.size) (h0 : code.getD pc 0 = 6) (h1 : code.getD (pc + 1) 0 = 0) (hne : pos ≠ 0) :
    ∃ seen', (mm code text lim start last whole must pc pos handed om marks lm li loops inner frames wt none seen).step = mm code text lim start last whole must pc pos handed om marks lm li loops inner frames wt (some false) seen' := by
  refine ⟨(seen.add 6).add 43, ?_⟩
  have e : (pos == 0) = false := by simpa using hne
  simp only [M.step, M.exec, M.word, Nat.add_zero, h0, h1, o6, hp, Option.isSome_none, Bool.false_eq_true, if_false, if_true, M.isAt, e, M.say]
/-- a mark at its own place, none left out -/
theorem st_mark {i : Nat} (hp : pc < code.size) (h0 : code.getD pc 0 = 17) (h1 : code.getD (pc + 1) 0 = i) (hm : (i : Int) ≤ lm + 1) :
    ∃ seen', (mm code text lim start last whole must pc pos handed om marks lm li loops inner frames wt none seen).step =
      mm code text lim start last whole must (pc + 2) pos handed om (marks.setIfInBounds i (some pos)) (max lm i) (if i % 2 == 1 then (i / 2 + 1 : Nat) else li) loops inner frames wt none seen' := by
  refine ⟨seen.add 17, ?_⟩
  simp only [M.step, M.exec, M.word, Nat.add_zero, h0, h1, o17, hp, Option.isSome_none, Bool.false_eq_true, if_false, if_true, M.mark, hm]
theorem st_success (hp : pc < code.size) (h0 : code.getD pc 0 = 1) (ho : (om && ((whole && pos != lim) || (must && pos == start))) = false) :
    ∃ seen', (mm code text lim start last whole must pc pos handed om marks lm li loops inner frames wt none seen).step = mm code text lim start last whole must pc pos pos om marks lm li loops inner frames wt (some true) seen' := by
  refine ⟨seen.add 1, ?_⟩
  simp only [M.step, M.exec, M.word, Nat.add_zero, h0, o1, hp, Option.isSome_none, Bool.false_eq_true, if_false, if_true, ho, M.say]
theorem st_success_no (hp : pc < code.size) (h0 : code.getD pc 0 = 1) (ho : (om && ((whole && pos != lim) || (must && pos == start))) = true) :
    ∃ seen', (mm code text lim start last whole must pc pos handed om marks lm li loops inner frames wt none seen).step = mm code text lim start last whole must pc pos handed om marks lm li loops inner frames wt (some false) seen' := by
  refine ⟨seen.add 1, ?_⟩
  simp only [M.step, M.exec, M.word, Nat.add_zero, h0, o1, hp, Option.isSome_none, Bool.false_eq_true, if_false, if_true, ho, M.say]

abbrev kp0 (lm li : Int) : Sre.Kept := { lastmark := lm, lastindex := li, whole := false, marks := #[] }
abbrev kp1 (lm li : Int) (marks : Array (Option Nat)) : Sre.Kept := { lastmark := lm, lastindex := li, whole := true, marks := marks.extract 0 (lm + 1).toNat }
abbrev fgb (pc pos : Nat) (om : Bool) (n : Int) (k : Sre.Kept) : Sre.Frame := { wait := .giveBack, pc := pc, pos := pos, outermost := om, count := n, kept := k }

theorem st_rep {f : Nat → Bool} {least sk : Nat} {k : Sre.Kept} (hk : k = (if inner.isSome then kp1 lm li marks else kp0 lm li)) (hp : pc < code.size) (h0 : code.getD pc 0 = 24) (h1 : code.getD (pc + 1) 0 = sk) (h2 : code.getD (pc + 2) 0 = least) (h3 : code.getD (pc + 3) 0 = 4294967295)
    (hc : Cls code (pc + 4) f) (hpl : pos ≤ lim) (hlim : lim ≤ 4294967295) (hle : least ≤ cw f text (lim - pos) pos) (hw : wt + 1 + k.marks.size ≤ 16777216) :
    ∃ seen', (mm code text lim start last whole must pc pos handed om marks lm li loops inner frames wt none seen).step =
      mm code text lim start last whole must (pc + 1 + sk) (pos + cw f text (lim - pos) pos) (pos + cw f text (lim - pos) pos) om marks lm li loops inner (fgb pc (pos + cw f text (lim - pos) pos) om (cw f text (lim - pos) pos) k :: frames) (wt + 1 + k.marks.size) none seen' := by
  obtain ⟨s', e⟩ := run_cw (text := text) hc (lim - pos) pos 0 ((seen.add 24).add (code.getD (pc + 4) 0))
  refine ⟨s', ?_⟩
  have hcl := cw_le f text (lim - pos) pos
  have hroom : ((lim : Int) - pos).toNat = lim - pos := by omega
  have hmin : min 4294967295 (lim - pos) = lim - pos := by omega
  have hle' : ¬ ((least : Int) > (lim : Int) - pos) := by omega
  have hlt : ¬ (cw f text (lim - pos) pos < least) := by omega
  rw [Nat.zero_add] at e
  subst hk
  cases inner with
  | none =>
    simp only [Option.isSome_none, Bool.false_eq_true, if_false, Array.size_empty] at hw
    simp only [M.step, M.exec, M.word, Nat.add_zero, h0, h1, h2, h3, o24, hp, Option.isSome_none, Bool.false_eq_true, if_false, if_true, hle', hroom, hmin, e, hlt, M.afterRun, M.frame, M.keep, M.attempt, Array.size_empty]
    rw [if_neg (by omega)]
  | some i =>
    simp only [Option.isSome_some, if_true] at hw
    simp only [M.step, M.exec, M.word, Nat.add_zero, h0, h1, h2, h3, o24, hp, Option.isSome_none, Option.isSome_some, Bool.false_eq_true, if_false, if_true, hle', hroom, hmin, e, hlt, M.afterRun, M.frame, M.keep, M.attempt]
    rw [if_neg (by omega)]
theorem st_rep_no {f : Nat → Bool} {least : Nat} (hp : pc < code.size) (h0 : code.getD pc 0 = 24) (h2 : code.getD (pc + 2) 0 = least) (h3 : code.getD (pc + 3) 0 = 4294967295)
    (hc : Cls code (pc + 4) f) (hpl : pos ≤ lim) (hlim : lim ≤ 4294967295) (hle : cw f text (lim - pos) pos < least) :
    ∃ seen', (mm code text lim start last whole must pc pos handed om marks lm li loops inner frames wt none seen).step = mm code text lim start last whole must pc pos handed om marks lm li loops inner frames wt (some false) seen' := by
  by_cases hr : (least : Int) > (lim : Int) - pos
  · refine ⟨seen.add 24, ?_⟩
    simp only [M.step, M.exec, M.word, Nat.add_zero, h0, h2, h3, o24, hp, Option.isSome_none, Bool.false_eq_true, if_false, if_true, hr, M.say]
  · obtain ⟨s', e⟩ := run_cw (text := text) hc (lim - pos) pos 0 ((seen.add 24).add (code.getD (pc + 4) 0))
    refine ⟨s', ?_⟩
    have hcl := cw_le f text (lim - pos) pos
    have hroom : ((lim : Int) - pos).toNat = lim - pos := by omega
    have hmin : min 4294967295 (lim - pos) = lim - pos := by omega
    rw [Nat.zero_add] at e
    simp only [M.step, M.exec, M.word, Nat.add_zero, h0, h2, h3, o24, hp, Option.isSome_none, Bool.false_eq_true, if_false, if_true, hr, hroom, hmin, e, hle, M.say]

/-! ### coming back -/
theorem bk_end {b : Bool} : (mm code text lim start last whole must pc pos handed om marks lm li loops inner [] wt (some b) seen).step =
    { mm code text lim start last whole must pc pos handed om marks lm li loops inner [] wt (some b) seen with outcome := some (if b then .matched else .failed) } := rfl
theorem bk_give {fpc fpos : Nat} {fom : Bool} {n : Int} {k : Sre.Kept} : (mm code text lim start last whole must pc pos handed om marks lm li loops inner (fgb fpc fpos fom n k :: frames) wt (some true) seen).step =
    mm code text lim start last whole must fpc fpos handed fom marks lm li loops inner frames (wt - (1 + k.marks.size)) (some true) seen := by
  simp only [M.step, Option.isSome_none, Bool.false_eq_true, if_false, M.resume, if_true, M.say]
theorem bk_give_stop {fpc fpos : Nat} {fom : Bool} {n : Int} {lm' li' : Int} (hn : n - 1 < (code.getD (fpc + 2) 0 : Int)) :
    (mm code text lim start last whole must pc pos handed om marks lm li loops inner (fgb fpc fpos fom n (kp0 lm' li') :: frames) wt (some false) seen).step =
    mm code text lim start last whole must fpc fpos handed fom marks lm' li' loops inner frames (wt - 1) (some false) seen := by
  simp only [M.step, Option.isSome_none, Bool.false_eq_true, if_false, M.resume, M.word, hn, if_true, M.say, M.putBack, Array.size_empty, Nat.add_zero]
theorem bk_give_again {fpc fpos : Nat} {fom : Bool} {n : Int} {lm' li' : Int} (hn : ¬ n - 1 < (code.getD (fpc + 2) 0 : Int)) (hw : wt ≤ 16777216) (hw1 : 1 ≤ wt) :
    (mm code text lim start last whole must pc pos handed om marks lm li loops none (fgb fpc fpos fom n (kp0 lm' li') :: frames) wt (some false) seen).step =
    mm code text lim start last whole must (fpc + 1 + code.getD (fpc + 1) 0) (fpos - 1) (fpos - 1) fom marks lm' li' loops none (fgb fpc (fpos - 1) fom (n - 1) (kp0 lm' li') :: frames) wt none seen := by
  simp only [M.step, Option.isSome_none, Bool.false_eq_true, if_false, M.resume, M.word, hn, M.putBack, Array.size_empty, Nat.add_zero, M.afterRun, M.frame, M.attempt]
  rw [if_neg (by omega)]
  have : wt - 1 + 1 = wt := by omega
  rw [this]

abbrev fns (pc pos : Nat) (om : Bool) : Sre.Frame := { wait := .nextStart, pc := pc, pos := pos, outermost := om }
theorem bk_start {fpc fpos : Nat} {fom : Bool} : (mm code text lim start last whole must pc pos handed om marks lm li loops inner (fns fpc fpos fom :: frames) wt (some true) seen).step =
    mm code text lim start last whole must fpc fpos handed fom marks lm li loops inner frames (wt - 1) (some true) seen := by
  simp only [M.step, Option.isSome_none, Bool.false_eq_true, if_false, M.resume, if_true, M.say, Array.size_empty, Nat.add_zero]
theorem bk_start_stop {fpc fpos : Nat} {fom : Bool} (hl : ¬ fpos < last) : (mm code text lim start last whole must pc pos handed om marks lm li loops inner (fns fpc fpos fom :: frames) wt (some false) seen).step =
    mm code text lim start last whole must fpc fpos handed fom marks lm li loops inner frames (wt - 1) (some false) seen := by
  simp only [M.step, Option.isSome_none, Bool.false_eq_true, if_false, M.resume, hl, M.say, Array.size_empty, Nat.add_zero]
/-- the next start, where the code has no first set -/
theorem bk_start_next {fpc fpos : Nat} {fom : Bool} (hl : fpos < last) (hf : code.getD 2 0 ≠ 4) (hw : wt ≤ 16777216) (hw1 : 1 ≤ wt) :
    (mm code text lim start last whole must pc pos handed om marks lm li loops inner (fns fpc fpos fom :: frames) wt (some false) seen).step =
    mm code text lim (fpos + 1) last whole false fpc (fpos + 1) (fpos + 1) false marks (-1) (-1) loops inner (fns fpc (fpos + 1) false :: frames) wt none seen := by
  have e4 : (code.getD 2 0 == 4) = false := by simpa using hf
  simp only [M.step, Option.isSome_none, Bool.false_eq_true, if_false, M.resume, hl, if_true, M.attemptFrom, M.hasFirstSet, e4, Bool.and_false, Bool.not_false, M.attemptAt, M.attempt, Array.size_empty, Nat.add_zero]
  rw [if_neg (by omega)]
  have : wt - 1 + 1 = wt := by omega
  rw [this]
end
end

section
set_option linter.unusedSimpArgs false
open PySem PySem.Sre

/-- the code words of the text's i-th pattern -/
noncomputable def pcode (i : Nat) : Array Nat := (((Flt.patsOf PySem.Challenge.pw_oy0201_01)[i]?).map fun r => r.code.toArray).getD #[]
theorem pz0 : (pcode 0).size = 22 := by decide +kernel
theorem pz1 : (pcode 1).size = 42 := by decide +kernel
theorem pz5 : (pcode 5).size = 23 := by decide +kernel

theorem o9 : ops[9]? = some .CHARSET := rfl
theorem o0 : ops[0]? = some .FAILURE := rfl
theorem o21 : ops[21]? = some .NEGATE := rfl
theorem o8 : ops[8]? = some .CATEGORY := rfl

section
variable {code : Array Nat} {c i fuel : Nat} {yes : Bool} {seen : Seen}
theorem is_fail {b : Bool} (h : code.getD i 0 = 0) (hb : b = !yes) : ∃ s', inSet code c (fuel + 1) i yes seen = .ok (b, s') := by
  subst hb
  unfold inSet
  simp only [Nat.add_zero, h, o0]
  exact ⟨_, rfl⟩
theorem is_neg {b : Bool} (h : code.getD i 0 = 21) (k : ∀ s, ∃ s', inSet code c fuel (i + 1) (!yes) s = .ok (b, s')) : ∃ s', inSet code c (fuel + 1) i yes seen = .ok (b, s') := by
  unfold inSet
  simp only [Nat.add_zero, h, o21]
  exact k _
theorem is_lit {b : Bool} {x : Nat} (h : code.getD i 0 = 16) (h1 : code.getD (i + 1) 0 = x) (hy : c = x → b = yes) (k : ∀ s, c ≠ x → ∃ s', inSet code c fuel (i + 2) yes s = .ok (b, s')) : ∃ s', inSet code c (fuel + 1) i yes seen = .ok (b, s') := by
  unfold inSet
  simp only [Nat.add_zero, h, h1, o16]
  by_cases e : c = x
  · simp only [e, beq_self_eq_true, if_true, hy e]; exact ⟨_, rfl⟩
  · have : (c == x) = false := by simpa using e
    simp only [this, Bool.false_eq_true, if_false]; exact k _ e
theorem is_cat {b : Bool} (h : code.getD i 0 = 8) (h1 : code.getD (i + 1) 0 = 12) (hy : Unicode.isSpace c = true → b = yes) (k : ∀ s, Unicode.isSpace c = false → ∃ s', inSet code c fuel (i + 2) yes s = .ok (b, s')) : ∃ s', inSet code c (fuel + 1) i yes seen = .ok (b, s') := by
  unfold inSet
  have e : category 12 c = .ok (Unicode.isSpace c) := by
    show Except.ok (Unicode.isSpace c != false) = _
    cases Unicode.isSpace c <;> rfl
  simp only [Nat.add_zero, h, h1, o8, e]
  cases hs : Unicode.isSpace c with
  | true => rw [hy hs]; exact ⟨_, rfl⟩
  | false => exact k _ hs
theorem is_set {b : Bool} (h : code.getD i 0 = 9) (hy : (c < 256 && (code.getD (i + (1 + c / 32)) 0).testBit (c % 32)) = true → b = yes)
    (k : ∀ s, (c < 256 && (code.getD (i + (1 + c / 32)) 0).testBit (c % 32)) = false → ∃ s', inSet code c fuel (i + 9) yes s = .ok (b, s')) : ∃ s', inSet code c (fuel + 1) i yes seen = .ok (b, s') := by
  unfold inSet
  simp only [Nat.add_zero, h, o9]
  split
  · rename_i e; rw [hy e]; exact ⟨_, rfl⟩
  · rename_i e; exact k _ (by simpa using e)
theorem acc_in (h : code.getD i 0 = 13) : accepts code i c seen = inSet code c code.size (i + 2) true seen := by
  unfold accepts; simp only [h, o13]
end

noncomputable def fTok (c : Nat) : Bool := c < 256 && ((pcode 5).getD (11 + (1 + c / 32)) 0).testBit (c % 32)
noncomputable def fName (c : Nat) : Bool := !((c < 256 && ((pcode 1).getD (26 + (1 + c / 32)) 0).testBit (c % 32)) || Unicode.isSpace c)
noncomputable def fSp (c : Nat) : Bool := Unicode.isSpace c
noncomputable def fQ (c : Nat) : Bool := !(c == 34 || c == 92)
noncomputable def fVal (c : Nat) : Bool := !(Unicode.isSpace c || c == 59 || c == 44)
noncomputable def fJunk (c : Nat) : Bool := c == 61 || Unicode.isSpace c || c == 59
noncomputable def fEsc (c : Nat) : Bool := c == 34 || c == 92

theorem cls_tok : Cls (pcode 5) 9 fTok := fun c seen => by
  have hz : (pcode 5).size = 21 + 2 := by decide +kernel
  rw [acc_in (by decide +kernel), hz]
  refine is_set (i := 11) (by decide +kernel) (fun e => by unfold fTok; rw [e]) (fun s e => ?_)
  exact is_fail (i := 20) (by decide +kernel) (by unfold fTok; rw [e]; rfl)
theorem cls_sp (k i n : Nat) (hk : (pcode k).size = n + 2) (h0 : (pcode k).getD i 0 = 13) (h2 : (pcode k).getD (i + 2) 0 = 8) (h3 : (pcode k).getD (i + 3) 0 = 12) (h4 : (pcode k).getD (i + 4) 0 = 0) : Cls (pcode k) i fSp := fun c seen => by
  rw [acc_in h0, hk]
  refine is_cat (i := i + 2) h2 h3 (fun e => by unfold fSp; rw [e]) (fun s e => ?_)
  exact is_fail (i := i + 4) h4 (by unfold fSp; rw [e]; rfl)
theorem cls_name : Cls (pcode 1) 23 fName := fun c seen => by
  have hz : (pcode 1).size = 38 + 4 := by decide +kernel
  rw [acc_in (by decide +kernel), hz]
  refine is_neg (i := 25) (by decide +kernel) fun s => is_set (i := 26) (by decide +kernel) (fun e => by unfold fName; rw [e]; rfl) fun s e => is_cat (i := 35) (by decide +kernel) (by decide +kernel) (fun e2 => by unfold fName; rw [e, e2]; rfl) fun s e2 => ?_
  exact is_fail (i := 37) (by decide +kernel) (by unfold fName; rw [e, e2]; rfl)
theorem cls_q (i n : Nat) (hz : (pcode 2).size = n + 4) (h0 : (pcode 2).getD i 0 = 13) (h2 : (pcode 2).getD (i + 2) 0 = 21) (h3 : (pcode 2).getD (i + 3) 0 = 16) (h4 : (pcode 2).getD (i + 4) 0 = 34) (h5 : (pcode 2).getD (i + 5) 0 = 16) (h6 : (pcode 2).getD (i + 6) 0 = 92) (h7 : (pcode 2).getD (i + 7) 0 = 0) : Cls (pcode 2) i fQ := fun c seen => by
  rw [acc_in h0, hz]
  refine is_neg (i := i + 2) h2 fun s => is_lit (i := i + 3) h3 h4 (fun e => by subst e; rfl) fun s e => is_lit (i := i + 5) h5 h6 (fun e => by subst e; rfl) fun s e2 => ?_
  exact is_fail (i := i + 7) h7 (by simp [fQ, e, e2])
theorem cls_val : Cls (pcode 3) 35 fVal := fun c seen => by
  have hz : (pcode 3).size = 44 + 5 := by decide +kernel
  rw [acc_in (by decide +kernel), hz]
  refine is_neg (i := 37) (by decide +kernel) fun s => is_cat (i := 38) (by decide +kernel) (by decide +kernel) (fun e => by unfold fVal; rw [e]; rfl) fun s e => is_lit (i := 40) (by decide +kernel) (x := 59) (by decide +kernel) (fun e2 => by unfold fVal; rw [e, e2]; rfl) fun s e2 => is_lit (i := 42) (by decide +kernel) (x := 44) (by decide +kernel) (fun e3 => by unfold fVal; rw [e, e3]; rfl) fun s e3 => ?_
  exact is_fail (i := 44) (by decide +kernel) (by simp [fVal, e, e2, e3])
theorem cls_junk : Cls (pcode 0) 11 fJunk := fun c seen => by
  have hz : (pcode 0).size = 18 + 4 := by decide +kernel
  rw [acc_in (by decide +kernel), hz]
  refine is_lit (i := 13) (by decide +kernel) (x := 61) (by decide +kernel) (fun e => by subst e; rfl) fun s e => is_cat (i := 15) (by decide +kernel) (by decide +kernel) (fun e2 => by simp [fJunk, e2]) fun s e2 => is_lit (i := 17) (by decide +kernel) (x := 59) (by decide +kernel) (fun e3 => by simp [fJunk, e3]) fun s e3 => ?_
  exact is_fail (i := 19) (by decide +kernel) (by simp [fJunk, e, e2, e3])
theorem cls_esc : Cls (pcode 6) 12 fEsc := fun c seen => by
  have hz : (pcode 6).size = 19 + 3 := by decide +kernel
  rw [acc_in (by decide +kernel), hz]
  refine is_lit (i := 14) (by decide +kernel) (x := 34) (by decide +kernel) (fun e => by subst e; rfl) fun s e => is_lit (i := 16) (by decide +kernel) (x := 92) (by decide +kernel) (fun e2 => by subst e2; rfl) fun s e2 => ?_
  exact is_fail (i := 18) (by decide +kernel) (by simp [fEsc, e, e2])
end

section
set_option linter.unusedSimpArgs false
open PySem PySem.Sre

theorem getD_list (l : List Nat) (i : Nat) : l.toArray.getD i 0 = l.getD i 0 := by
  simp only [Array.getD, List.getD, List.size_toArray, List.getElem_toArray]
  split
  · rename_i h; simp [h]
  · rename_i h; simp [h]
theorem cw_list {f : Nat → Bool} (pre u v : List Nat) (hu : u.all f = true) (hv : v.head?.all (fun c => !f c) = true) :
    cw f (pre ++ u ++ v).toArray (u.length + v.length) pre.length = u.length := by
  induction u generalizing pre with
  | nil =>
    cases v with
    | nil => rfl
    | cons c v =>
      have hc : f c = false := by simpa using hv
      simp only [List.append_nil, List.length_nil, Nat.zero_add, List.length_cons]
      unfold cw
      rw [getD_list]
      have : (pre ++ c :: v).getD pre.length 0 = c := by simp [List.getD]
      rw [this, hc]
      rfl
  | cons c u ih =>
    simp only [List.all_cons, Bool.and_eq_true] at hu
    have e : (c :: u).length + v.length = (u.length + v.length) + 1 := by simp; omega
    rw [e]
    unfold cw
    rw [getD_list]
    have : (pre ++ c :: u ++ v).getD pre.length 0 = c := by simp [List.getD]
    rw [this, if_pos hu.1]
    have := ih (pre ++ [c]) hu.2
    simp only [List.append_assoc, List.cons_append, List.nil_append, List.length_append, List.length_cons, List.length_nil] at this ⊢
    rw [this]
/-- the same, told of the whole text -/
theorem cw_at {f : Nat → Bool} {l : List Nat} {lim p : Nat} (pre u v : List Nat) (hl : l = pre ++ u ++ v) (hlim : lim = l.length) (hp : p = pre.length) (hu : u.all f = true) (hv : v.head?.all (fun c => !f c) = true) :
    cw f l.toArray (lim - p) p = u.length := by
  subst hl hlim hp
  have : (pre ++ u ++ v).length - pre.length = u.length + v.length := by simp
  rw [this]
  exact cw_list pre u v hu hv

section
variable {code text : Array Nat} {lim start last : Nat} {whole must : Bool} {pc pos handed : Nat} {om : Bool} {marks : Array (Option Nat)} {lm li : Int} {loops : Array Loop} {inner : Option Nat} {frames : List Sre.Frame} {wt : Nat} {seen : Seen}
/-- a pattern that opens by ^ finds nothing behind the first start -/
theorem at_fail (hz : 5 < code.size) (h5 : code.getD 5 0 = 6) (h6 : code.getD 6 0 = 0) (h2 : code.getD 2 0 ≠ 4) : ∀ d fpos start must pc pos handed om lm li fom seen, last - fpos = d →
    Rn (2 * d + 2) (mm code text lim start last whole must pc pos handed om marks lm li loops inner [fns 5 fpos fom] 1 (some false) seen) (fun m' => m'.outcome = some .failed) := by
  intro d
  induction d with
  | zero =>
    intro fpos start must pc pos handed om lm li fom seen hd
    exact .step (bk_start_stop (by omega)) (.step bk_end (.here rfl))
  | succ d ih =>
    intro fpos start must pc pos handed om lm li fom seen hd
    refine .step (bk_start_next (by omega) h2 (by decide) (by decide)) ?_
    obtain ⟨s1, e1⟩ := st_at_no (code := code) (text := text) (lim := lim) (start := fpos + 1) (last := last) (whole := whole) (must := false) (handed := fpos + 1) (om := false) (marks := marks) (lm := -1) (li := -1) (loops := loops) (inner := inner) (frames := [fns 5 (fpos + 1) false]) (wt := 1) (seen := seen) hz h5 h6 (pos := fpos + 1) (by omega)
    have := ih (fpos + 1) (fpos + 1) false 5 (fpos + 1) (fpos + 1) false (-1) (-1) false s1 (by omega)
    exact (Rn.step e1 this).le (by omega)
end

abbrev mk2 : Array (Option Nat) := Array.replicate 2 none
/-- what a match of a pattern with one group leaves -/
noncomputable def Mt (b e gb ge : Nat) (m : M) : Prop := m.outcome = some .matched ∧ m.start = b ∧ m.handed = e ∧ m.marks = #[some gb, some ge] ∧ m.lastmark = 1
noncomputable def Mt0 (b e : Nat) (m : M) : Prop := m.outcome = some .matched ∧ m.start = b ∧ m.handed = e
noncomputable def Failed (m : M) : Prop := m.outcome = some .failed

theorem Rn.fin {k : Nat} {m : M} {P : M → Prop} (h : P m) : Rn k m P := ⟨0, Nat.zero_le _, h⟩
theorem marks2 (a b : Nat) : ((Array.replicate (2 * 1) (none : Option Nat)).setIfInBounds 0 (some a)).setIfInBounds 1 (some b) = #[some a, some b] := rfl
theorem Rn.stepE {k : Nat} {m : M} {P : M → Prop} {f : Seen → M} (e : ∃ s, m.step = f s) (h : ∀ s, Rn k (f s) P) : Rn (k + 1) m P := let ⟨s, e⟩ := e; .step e (h s)
theorem forSearch_eq (code text : Array Nat) (groups pos lim : Nat) (must : Bool) : forSearch code text groups pos lim must =
    (let m : M := { code, text, lim, start := pos, pc := (header code).2, pos, handed := pos, marks := Array.replicate (2 * groups) none, mustAdvance := must, seen := if (header code).2 == 0 then {} else ({} : Seen).add 14 }
     let least := (header code).1
     let hinted := (header code).2 != 0 && code.getD 2 0 &&& 5 != 0
     if pos > lim || lim - pos < least then m.say false
     else { m with lastStart := if least > 1 && !hinted then max pos (lim - (least - 1)) else lim }.attemptFrom pos true) := rfl
theorem forMatch_eq (code text : Array Nat) (groups pos lim : Nat) (wholeText must : Bool) : forMatch code text groups pos lim wholeText must =
    (let m : M := { code, text, lim, start := pos, pc := (header code).2, pos, handed := pos, marks := Array.replicate (2 * groups) none, mustAdvance := must, seen := (if (header code).2 == 0 then {} else ({} : Seen).add 14), wholeText := wholeText }
     let least := (header code).1
     if least != 0 && pos ≤ lim && lim - pos < least then m.say false else m) := rfl
theorem search_new {k least : Nat} {text : Array Nat} {groups pos lim : Nat} {must : Bool} (h0 : (pcode k).getD 0 0 = 14) (h1 : (pcode k).getD 1 0 = 4) (h2 : (pcode k).getD 2 0 = 0) (h3 : (pcode k).getD 3 0 = least) (hl : pos + least ≤ lim) :
    forSearch (pcode k) text groups pos lim must = mm (pcode k) text lim pos (if least > 1 then max pos (lim - (least - 1)) else lim) false must 5 pos pos true (Array.replicate (2 * groups) none) (-1) (-1) #[] none [fns 5 pos true] 1 none (({} : Seen).add 14) := by
  have hd : header (pcode k) = (least, 5) := by unfold header; rw [h0, h3, h1]; rfl
  have hpl : (pos > lim || lim - pos < least) = false := by simp; omega
  have a1 : ((0 : Nat) &&& 5 != 0) = false := by decide
  have a2 : ((5 : Nat) != 0) = true := by decide
  have a3 : ((5 : Nat) == 0) = false := by decide
  have a4 : ((0 : Nat) == 4) = false := by decide
  rw [forSearch_eq]
  simp only [hd, hpl, if_false, Bool.false_eq_true, h2, a1, a2, a3, a4, Bool.and_false, Bool.not_false, Bool.and_true, decide_eq_true_eq, M.attemptFrom, M.hasFirstSet, if_true, M.attemptAt, M.attempt, Array.size_empty, Nat.add_zero, Nat.zero_add]
  rw [if_neg (by decide)]
theorem search_short {k least : Nat} {text : Array Nat} {groups pos lim : Nat} {must : Bool} (h0 : (pcode k).getD 0 0 = 14) (h3 : (pcode k).getD 3 0 = least) (hl : lim < pos + least) (hpl : pos ≤ lim) :
    Rn 1 (forSearch (pcode k) text groups pos lim must) Failed := by
  have hd : (header (pcode k)).1 = least := by unfold header; rw [h0, h3]; rfl
  rw [forSearch_eq]
  have hpl : (pos > lim || lim - pos < least) = true := by simp; omega
  simp only [hd, hpl, if_true]
  exact .step rfl (.here rfl)

theorem k1_0 : (pcode 1).getD 0 0 = 14 := by decide +kernel
theorem k1_1 : (pcode 1).getD 1 0 = 4 := by decide +kernel
theorem k1_2 : (pcode 1).getD 2 0 = 0 := by decide +kernel
theorem k1_3 : (pcode 1).getD 3 0 = 1 := by decide +kernel
theorem z1 (i : Nat) (h : i < 42) : i < (pcode 1).size := by rw [pz1]; exact h
theorem cls_sp1 : Cls (pcode 1) 11 fSp := cls_sp 1 11 40 (by decide +kernel) (by decide +kernel) (by decide +kernel) (by decide +kernel) (by decide +kernel)

theorem name_sp {c : Nat} (h : fName c = true) : fSp c = false := by
  unfold fName at h
  unfold fSp
  cases hh : Unicode.isSpace c with
  | false => rfl
  | true => rw [hh, Bool.or_true] at h; cases h
/-- no blank ahead -/
theorem sp0 {l : List Nat} {lim : Nat} (hlim : lim = l.length) (p : Nat) (pre v : List Nat) (hl : l = pre ++ v) (hp : p = pre.length) (hv : v.head?.all (fun c => !fSp c) = true) : cw fSp l.toArray (lim - p) p = 0 :=
  cw_at pre [] v (by simpa using hl) hlim hp rfl hv

theorem tok_ok {l u v : List Nat} (hl : l = u ++ v) (hu : u ≠ []) (ha : u.all fName = true) (hv : v.head?.all (fun c => !fName c) = true) (hz : l.length ≤ 1000000) :
    Rn 10 (forSearch (pcode 1) l.toArray 1 0 l.length false) (Mt 0 u.length 0 u.length) := by
  have hlen : u.length + v.length = l.length := by rw [hl]; simp
  have hpos : 0 < u.length := List.length_pos_iff.mpr hu
  rw [search_new (pos := 0) k1_0 k1_1 k1_2 k1_3 (by omega)]
  have c0 : cw fSp l.toArray (l.length - 0) 0 = 0 := sp0 rfl 0 [] l rfl rfl (by
    cases u with
    | nil => exact absurd rfl hu
    | cons c u =>
      subst hl
      simp only [List.all_cons, Bool.and_eq_true] at ha
      simp [name_sp ha.1])
  have c1 : cw fName l.toArray (l.length - 0) 0 = u.length := cw_at [] u v (by simpa using hl) rfl rfl ha hv
  refine .stepE (st_at (z1 _ (by decide)) (by decide +kernel) (by decide +kernel)) fun s => ?_
  refine .stepE (st_rep (k := kp0 _ _) (least := 0) (sk := 9) rfl (z1 _ (by decide)) (by decide +kernel) (by decide +kernel) (by decide +kernel) (by decide +kernel) cls_sp1 (by omega) (by omega) (by omega) (by decide)) fun s => ?_
  rw [c0]
  refine .stepE (st_mark (i := 0) (z1 _ (by decide)) (by decide +kernel) (by decide +kernel) (by decide)) fun s => ?_
  refine .stepE (st_rep (k := kp0 _ _) (least := 1) (sk := 19) rfl (z1 _ (by decide)) (by decide +kernel) (by decide +kernel) (by decide +kernel) (by decide +kernel) cls_name (by omega) (by omega) (by rw [c1]; omega) (by decide)) fun s => ?_
  rw [c1]
  refine .stepE (st_mark (i := 1) (z1 _ (by decide)) (by decide +kernel) (by decide +kernel) (by decide)) fun s => ?_
  refine .stepE (st_success (z1 _ (by decide)) (by decide +kernel) rfl) fun s => ?_
  refine .step bk_give (.step bk_give (.step bk_start (.step bk_end (.fin ?_))))
  exact ⟨rfl, rfl, by simp, (marks2 _ _).trans (by simp), rfl⟩
/-- no word ahead -/
theorem tok_no {l : List Nat} (hl : l.head?.all (fun c => !fName c && !fSp c) = true) (hz : l.length ≤ 1000000) : Rn (2 * l.length + 8) (forSearch (pcode 1) l.toArray 1 0 l.length false) Failed := by
  by_cases h0 : l = []
  · subst h0
    exact (search_short k1_0 k1_3 (by decide) (by decide)).le (by omega)
  have hpos : 0 < l.length := List.length_pos_iff.mpr h0
  rw [search_new (pos := 0) k1_0 k1_1 k1_2 k1_3 (by omega)]
  have hl2 : l.head?.all (fun c => !fName c) = true ∧ l.head?.all (fun c => !fSp c) = true := by
    cases l with
    | nil => exact ⟨rfl, rfl⟩
    | cons c l => simpa using hl
  have c0 : cw fSp l.toArray (l.length - 0) 0 = 0 := sp0 rfl 0 [] l rfl rfl hl2.2
  have c1 : cw fName l.toArray (l.length - 0) 0 = 0 := cw_at [] [] l rfl rfl rfl rfl hl2.1
  refine (Rn.stepE (k := 2 * l.length + 7) (st_at (z1 _ (by decide)) (by decide +kernel) (by decide +kernel)) fun s => ?_).le (by omega)
  refine .stepE (st_rep (k := kp0 _ _) (least := 0) (sk := 9) rfl (z1 _ (by decide)) (by decide +kernel) (by decide +kernel) (by decide +kernel) (by decide +kernel) cls_sp1 (by omega) (by omega) (by omega) (by decide)) fun s => ?_
  rw [c0]
  refine .stepE (st_mark (i := 0) (z1 _ (by decide)) (by decide +kernel) (by decide +kernel) (by decide)) fun s => ?_
  refine .stepE (st_rep_no (least := 1) (z1 _ (by decide)) (by decide +kernel) (by decide +kernel) (by decide +kernel) cls_name (by omega) (by omega) (by rw [c1]; decide)) fun s => ?_
  refine .step (bk_give_stop (by decide +kernel)) ?_
  exact (at_fail (z1 _ (by decide)) (by decide +kernel) (by decide +kernel) (by decide +kernel) l.length 0 _ _ _ _ _ _ _ _ _ _ rfl).le (by omega)

/-! ### the bare value -/
theorem k3_0 : (pcode 3).getD 0 0 = 14 := by decide +kernel
theorem k3_1 : (pcode 3).getD 1 0 = 4 := by decide +kernel
theorem k3_2 : (pcode 3).getD 2 0 = 0 := by decide +kernel
theorem k3_3 : (pcode 3).getD 3 0 = 1 := by decide +kernel
theorem z3 (i : Nat) (h : i < 49) : i < (pcode 3).size := by rw [show (pcode 3).size = 49 from by decide +kernel]; exact h
theorem cls_sp3 : Cls (pcode 3) 11 fSp := cls_sp 3 11 47 (by decide +kernel) (by decide +kernel) (by decide +kernel) (by decide +kernel) (by decide +kernel)
theorem cls_sp3' : Cls (pcode 3) 23 fSp := cls_sp 3 23 47 (by decide +kernel) (by decide +kernel) (by decide +kernel) (by decide +kernel) (by decide +kernel)
theorem eq_sp : fSp 61 = false := by decide +kernel
theorem val_sp {c : Nat} (h : fVal c = true) : fSp c = false := by
  unfold fVal at h
  unfold fSp
  cases hh : Unicode.isSpace c with
  | false => rfl
  | true => rw [hh] at h; cases h
theorem val_ok {l u v : List Nat} (hl : l = 61 :: u ++ v) (hu : u ≠ []) (ha : u.all fVal = true) (hv : v.head?.all (fun c => !fVal c) = true) (hz : l.length ≤ 1000000) :
    Rn 14 (forSearch (pcode 3) l.toArray 1 0 l.length false) (Mt 0 (1 + u.length) 1 (1 + u.length)) := by
  have hlen : 1 + u.length + v.length = l.length := by rw [hl]; simp; omega
  rw [search_new (pos := 0) k3_0 k3_1 k3_2 k3_3 (by omega)]
  have c0 : cw fSp l.toArray (l.length - 0) 0 = 0 := sp0 rfl 0 [] l rfl rfl (by subst hl; simp [eq_sp])
  have c1 : cw fSp l.toArray (l.length - (0 + 1)) (0 + 1) = 0 := sp0 rfl (0 + 1) [61] (u ++ v) hl rfl (by
    cases u with
    | nil => exact absurd rfl hu
    | cons c u =>
      simp only [List.all_cons, Bool.and_eq_true] at ha
      simp [val_sp ha.1])
  have c2 : cw fVal l.toArray (l.length - (0 + 1)) (0 + 1) = u.length := cw_at [61] u v (by simpa using hl) rfl rfl ha hv
  have t0 : l.toArray.getD 0 0 = 61 := by rw [getD_list]; subst hl; rfl
  refine .stepE (st_at (z3 _ (by decide)) (by decide +kernel) (by decide +kernel)) fun s => ?_
  refine .stepE (st_rep (k := kp0 _ _) (least := 0) (sk := 9) rfl (z3 _ (by decide)) (by decide +kernel) (by decide +kernel) (by decide +kernel) (by decide +kernel) cls_sp3 (by omega) (by omega) (by omega) (by decide)) fun s => ?_
  rw [c0]
  refine .stepE (st_lit (c := 61) (z3 _ (by decide)) (by decide +kernel) (by decide +kernel) (by omega) t0) fun s => ?_
  refine .stepE (st_rep (k := kp0 _ _) (least := 0) (sk := 9) rfl (z3 _ (by decide)) (by decide +kernel) (by decide +kernel) (by decide +kernel) (by decide +kernel) cls_sp3' (by omega) (by omega) (by omega) (by decide)) fun s => ?_
  rw [show 0 + 0 + 1 = 0 + 1 from rfl, c1]
  refine .stepE (st_mark (i := 0) (z3 _ (by decide)) (by decide +kernel) (by decide +kernel) (by decide)) fun s => ?_
  refine .stepE (st_rep (k := kp0 _ _) (least := 0) (sk := 14) rfl (z3 _ (by decide)) (by decide +kernel) (by decide +kernel) (by decide +kernel) (by decide +kernel) cls_val (by omega) (by omega) (by omega) (by decide)) fun s => ?_
  rw [show 0 + 1 + 0 = 0 + 1 from rfl, c2]
  refine .stepE (st_mark (i := 1) (z3 _ (by decide)) (by decide +kernel) (by decide +kernel) (by decide)) fun s => ?_
  refine .stepE (st_success (z3 _ (by decide)) (by decide +kernel) rfl) fun s => ?_
  refine .step bk_give (.step bk_give (.step bk_give (.step bk_start (.step bk_end (.fin ?_)))))
  exact ⟨rfl, rfl, by simp, (marks2 _ _).trans (by simp), rfl⟩
/-- no = ahead -/
theorem val_no {l : List Nat} (hl : l.head?.all (fun c => !fSp c && c != 61) = true) (hz : l.length ≤ 1000000) : Rn (2 * l.length + 8) (forSearch (pcode 3) l.toArray 1 0 l.length false) Failed := by
  by_cases h0 : l = []
  · subst h0
    exact (search_short k3_0 k3_3 (by decide) (by decide)).le (by omega)
  have hpos : 0 < l.length := List.length_pos_iff.mpr h0
  rw [search_new (pos := 0) k3_0 k3_1 k3_2 k3_3 (by omega)]
  have hl2 : l.head?.all (fun c => !fSp c) = true ∧ l.toArray.getD 0 0 ≠ 61 := by
    rw [getD_list]
    cases l with
    | nil => exact absurd rfl h0
    | cons c l => simpa using hl
  have c0 : cw fSp l.toArray (l.length - 0) 0 = 0 := sp0 rfl 0 [] l rfl rfl hl2.1
  refine (Rn.stepE (k := 2 * l.length + 7) (st_at (z3 _ (by decide)) (by decide +kernel) (by decide +kernel)) fun s => ?_).le (by omega)
  refine .stepE (st_rep (k := kp0 _ _) (least := 0) (sk := 9) rfl (z3 _ (by decide)) (by decide +kernel) (by decide +kernel) (by decide +kernel) (by decide +kernel) cls_sp3 (by omega) (by omega) (by omega) (by decide)) fun s => ?_
  rw [c0]
  refine .stepE (st_lit_no (c := 61) (z3 _ (by decide)) (by decide +kernel) (by decide +kernel) (fun x => hl2.2 x.2)) fun s => ?_
  refine .step (bk_give_stop (by decide +kernel)) ?_
  exact (at_fail (z3 _ (by decide)) (by decide +kernel) (by decide +kernel) (by decide +kernel) l.length 0 _ _ _ _ _ _ _ _ _ _ rfl).le (by omega)
end

section
set_option linter.unusedSimpArgs false
open PySem PySem.Sre

/-! ### junk -/
theorem z0 (i : Nat) (h : i < 22) : i < (pcode 0).size := by rw [pz0]; exact h
theorem k0_0 : (pcode 0).getD 0 0 = 14 := by decide +kernel
theorem k0_1 : (pcode 0).getD 1 0 = 4 := by decide +kernel
theorem k0_2 : (pcode 0).getD 2 0 = 0 := by decide +kernel
theorem k0_3 : (pcode 0).getD 3 0 = 0 := by decide +kernel
theorem junk_ok {l u v : List Nat} (hl : l = u ++ v) (ha : u.all fJunk = true) (hv : v.head?.all (fun c => !fJunk c) = true) (hz : l.length ≤ 1000000) :
    Rn 8 (forSearch (pcode 0) l.toArray 0 0 l.length false) (Mt0 0 u.length) := by
  rw [search_new (pos := 0) k0_0 k0_1 k0_2 k0_3 (by omega)]
  have c1 : cw fJunk l.toArray (l.length - 0) 0 = u.length := cw_at [] u v (by simpa using hl) rfl rfl ha hv
  refine .stepE (st_at (z0 _ (by decide)) (by decide +kernel) (by decide +kernel)) fun s => ?_
  refine .stepE (st_rep (k := kp0 _ _) (least := 0) (sk := 13) rfl (z0 _ (by decide)) (by decide +kernel) (by decide +kernel) (by decide +kernel) (by decide +kernel) cls_junk (by omega) (by omega) (by omega) (by decide)) fun s => ?_
  rw [c1]
  refine .stepE (st_success (z0 _ (by decide)) (by decide +kernel) rfl) fun s => ?_
  refine .step bk_give (.step bk_start (.step bk_end (.fin ?_)))
  exact ⟨rfl, rfl, by simp⟩
theorem junk_again {l : List Nat} {pos : Nat} {must : Bool} (hp : pos ≠ 0) (hl : pos ≤ l.length) (hz : l.length ≤ 1000000) :
    Rn (2 * l.length + 8) (forSearch (pcode 0) l.toArray 0 pos l.length must) Failed := by
  rw [search_new (pos := pos) k0_0 k0_1 k0_2 k0_3 (by omega)]
  refine (Rn.stepE (k := 2 * l.length + 7) (st_at_no (z0 _ (by decide)) (by decide +kernel) (by decide +kernel) hp) fun s => ?_)
  exact (at_fail (z0 _ (by decide)) (by decide +kernel) (by decide +kernel) (by decide +kernel) (l.length - pos) pos _ _ _ _ _ _ _ _ _ _ rfl).le (by omega)

/-! ### a value that stands bare -/
theorem z5 (i : Nat) (h : i < 23) : i < (pcode 5).size := by rw [pz5]; exact h
theorem k5_0 : (pcode 5).getD 0 0 = 14 := by decide +kernel
theorem k5_1 : (pcode 5).getD 1 0 = 4 := by decide +kernel
theorem k5_3 : (pcode 5).getD 3 0 = 1 := by decide +kernel
theorem match_new {text : Array Nat} {lim : Nat} (hl : 1 ≤ lim) :
    forMatch (pcode 5) text 0 0 lim true false = mm (pcode 5) text lim 0 0 true false 5 0 0 true (Array.replicate (2 * 0) none) (-1) (-1) #[] none [] 0 none (({} : Seen).add 14) := by
  have hd : header (pcode 5) = (1, 5) := by unfold header; rw [k5_0, k5_1, k5_3]; rfl
  have hpl : ((1 : Nat) != 0 && decide (0 ≤ lim) && decide (lim - 0 < 1)) = false := by simp; omega
  have a3 : ((5 : Nat) == 0) = false := by decide
  rw [forMatch_eq]
  simp only [hd, hpl, if_false, Bool.false_eq_true, a3]
theorem jt_ok {l : List Nat} (hu : l ≠ []) (ha : l.all fTok = true) (hz : l.length ≤ 1000000) : Rn 8 (forMatch (pcode 5) l.toArray 0 0 l.length true false) (Mt0 0 l.length) := by
  have hpos : 0 < l.length := List.length_pos_iff.mpr hu
  rw [match_new hpos]
  have c1 : cw fTok l.toArray (l.length - 0) 0 = l.length := cw_at [] l [] (by simp) rfl rfl ha rfl
  refine .stepE (st_rep (k := kp0 _ _) (least := 1) (sk := 16) rfl (z5 _ (by decide)) (by decide +kernel) (by decide +kernel) (by decide +kernel) (by decide +kernel) cls_tok (by omega) (by omega) (by omega) (by decide)) fun s => ?_
  rw [c1]
  refine .stepE (st_success (z5 _ (by decide)) (by decide +kernel) (by simp)) fun s => ?_
  refine .step bk_give (.step bk_end (.fin ?_))
  exact ⟨rfl, rfl, by simp⟩
theorem jt_back {l : List Nat} : ∀ (n : Nat) (pc pos handed : Nat) (om : Bool) (lm li : Int) (seen : Seen), n < l.length →
    Rn (2 * n + 2) (mm (pcode 5) l.toArray l.length 0 0 true false pc pos handed om (Array.replicate (2 * 0) none) lm li #[] none [fgb 5 n true n (kp0 (-1) (-1))] 1 (some false) seen) Failed := by
  have e7 : (pcode 5).getD (5 + 2) 0 = 1 := by decide +kernel
  have e6 : (pcode 5).getD (5 + 1) 0 = 16 := by decide +kernel
  intro n
  induction n with
  | zero =>
    intro pc pos handed om lm li seen hn
    exact .step (bk_give_stop (by rw [e7]; decide)) (.step bk_end (.fin rfl))
  | succ n ih =>
    intro pc pos handed om lm li seen hn
    by_cases h0 : n = 0
    · subst h0
      exact .step (bk_give_stop (by rw [e7]; decide)) (.step bk_end (.fin rfl))
    · refine .step (bk_give_again (by rw [e7]; omega) (by decide) (by decide)) ?_
      rw [e6]
      refine .stepE (st_success_no (z5 _ (by decide)) (by decide +kernel) (by simp; omega)) fun s => ?_
      have := ih 22 (n + 1 - 1) (n + 1 - 1) true (-1) (-1) s (by omega)
      rw [show ((n + 1 : Nat) : Int) - 1 = (n : Int) from by omega]
      rw [show n + 1 - 1 = n from rfl] at this ⊢
      exact this
theorem jt_no {l u v : List Nat} (hl : l = u ++ v) (hv : v ≠ []) (ha : u.all fTok = true) (hv2 : v.head?.all (fun c => !fTok c) = true) (hz : l.length ≤ 1000000) :
    Rn (2 * l.length + 8) (forMatch (pcode 5) l.toArray 0 0 l.length true false) Failed := by
  have hlen : u.length + v.length = l.length := by rw [hl]; simp
  have hpos : 0 < v.length := List.length_pos_iff.mpr hv
  rw [match_new (by omega)]
  have c1 : cw fTok l.toArray (l.length - 0) 0 = u.length := cw_at [] u v (by simpa using hl) rfl rfl ha hv2
  by_cases h0 : u.length = 0
  · refine .stepE (st_rep_no (least := 1) (z5 _ (by decide)) (by decide +kernel) (by decide +kernel) (by decide +kernel) cls_tok (by omega) (by omega) (by omega)) fun s => ?_
    exact .step bk_end (.fin rfl)
  · refine .stepE (st_rep (k := kp0 _ _) (least := 1) (sk := 16) rfl (z5 _ (by decide)) (by decide +kernel) (by decide +kernel) (by decide +kernel) (by decide +kernel) cls_tok (by omega) (by omega) (by omega) (by decide)) fun s => ?_
    rw [c1]
    refine .stepE (st_success_no (z5 _ (by decide)) (by decide +kernel) (by simp; omega)) fun s => ?_
    have := jt_back (l := l) u.length 22 (0 + u.length) (0 + u.length) true (-1) (-1) s (by omega)
    rw [Nat.zero_add] at this ⊢
    exact this.le (by omega)

/-! ### a backslash and its sign -/
theorem k4_0 : (pcode 4).getD 0 0 = 14 := by decide +kernel
theorem k4_1 : (pcode 4).getD 1 0 = 8 := by decide +kernel
theorem k4_2 : (pcode 4).getD 2 0 = 1 := by decide +kernel
theorem k4_3 : (pcode 4).getD 3 0 = 2 := by decide +kernel
theorem z4 (i : Nat) (h : i < 17) : i < (pcode 4).size := by rw [show (pcode 4).size = 17 from by decide +kernel]; exact h
theorem search_new4 {text : Array Nat} {pos lim : Nat} {must : Bool} (hl : pos + 2 ≤ lim) :
    forSearch (pcode 4) text 1 pos lim must = mm (pcode 4) text lim pos lim false must 9 pos pos true (Array.replicate (2 * 1) none) (-1) (-1) #[] none [fns 9 pos true] 1 none (({} : Seen).add 14) := by
  have hd : header (pcode 4) = (2, 9) := by unfold header; rw [k4_0, k4_3, k4_1]; rfl
  have hpl : (pos > lim || lim - pos < 2) = false := by simp; omega
  have a1 : ((1 : Nat) &&& 5 != 0) = true := by decide
  have a2 : ((9 : Nat) != 0) = true := by decide
  have a3 : ((9 : Nat) == 0) = false := by decide
  have a4 : ((1 : Nat) == 4) = false := by decide
  rw [forSearch_eq]
  simp only [hd, hpl, if_false, Bool.false_eq_true, k4_2, a1, a2, a3, a4, Bool.and_true, Bool.not_true, Bool.and_false, Bool.not_false, decide_eq_true_eq, M.attemptFrom, M.hasFirstSet, if_true, M.attemptAt, M.attempt, Array.size_empty, Nat.add_zero, Nat.zero_add]
  rw [if_neg (by decide)]
/-- from a start: the first backslash -/
theorem esc_from {l rest : List Nat} {c : Nat} (hc : c ≠ 10) : ∀ (b pre : List Nat) (start pos handed : Nat) (must om : Bool) (seen : Seen), l = pre ++ b ++ 92 :: c :: rest → (∀ x ∈ b, x ≠ 92) →
    (must = true → om = true) →
    Rn (2 * b.length + 8) (mm (pcode 4) l.toArray l.length pre.length l.length false must 9 pre.length pre.length om (Array.replicate (2 * 1) none) (-1) (-1) #[] none [fns 9 pre.length om] 1 none seen)
      (Mt (pre.length + b.length) (pre.length + b.length + 2) (pre.length + b.length + 1) (pre.length + b.length + 2)) := by
  intro b
  induction b with
  | nil =>
    intro pre start pos handed must om seen hl hb hm
    have hlen : pre.length + 2 + rest.length = l.length := by rw [hl]; simp; omega
    have t0 : l.toArray.getD pre.length 0 = 92 := by rw [getD_list, hl]; simp [List.getD]
    have t1 : l.toArray.getD (pre.length + 1) 0 = c := by rw [getD_list, hl]; simp [List.getD]
    refine .stepE (st_lit (c := 92) (z4 _ (by decide)) (by decide +kernel) (by decide +kernel) (by omega) t0) fun s => ?_
    refine .stepE (st_mark (i := 0) (z4 _ (by decide)) (by decide +kernel) (by decide +kernel) (by decide)) fun s => ?_
    refine .stepE (st_any (z4 _ (by decide)) (by decide +kernel) (by omega) (by rw [t1]; exact hc)) fun s => ?_
    refine .stepE (st_mark (i := 1) (z4 _ (by decide)) (by decide +kernel) (by decide +kernel) (by decide)) fun s => ?_
    refine .stepE (st_success (z4 _ (by decide)) (by decide +kernel) (by simp; intros; omega)) fun s => ?_
    refine .step bk_start (.step bk_end (.fin ?_))
    exact ⟨rfl, by simp, by simp, (marks2 _ _).trans (by simp), rfl⟩
  | cons x b ih =>
    intro pre start pos handed must om seen hl hb hm
    have hlen : pre.length + 1 + b.length + 2 + rest.length = l.length := by rw [hl]; simp; omega
    have t0 : l.toArray.getD pre.length 0 = x := by rw [getD_list, hl]; simp [List.getD]
    refine (Rn.stepE (k := 2 * b.length + 9) (st_lit_no (c := 92) (z4 _ (by decide)) (by decide +kernel) (by decide +kernel) (fun y => hb x (.head _) (t0 ▸ y.2))) fun s => ?_)
    refine .step (bk_start_next (by omega) (by decide +kernel) (by decide) (by decide)) ?_
    have := ih (pre ++ [x]) 0 0 0 false false s (by rw [hl]; simp) (fun y hy => hb y (.tail _ hy)) (fun e => by cases e)
    simp only [List.length_append, List.length_cons, List.length_nil, Nat.zero_add] at this
    have e : pre.length + (x :: b).length = pre.length + 1 + b.length := by simp; omega
    rw [e]
    exact this
theorem esc_find {l rest b pre : List Nat} {c : Nat} {must : Bool} (hl : l = pre ++ b ++ 92 :: c :: rest) (hc : c ≠ 10) (hb : ∀ x ∈ b, x ≠ 92) :
    Rn (2 * l.length + 8) (forSearch (pcode 4) l.toArray 1 pre.length l.length must) (Mt (pre.length + b.length) (pre.length + b.length + 2) (pre.length + b.length + 1) (pre.length + b.length + 2)) := by
  have hlen : pre.length + b.length + 2 + rest.length = l.length := by rw [hl]; simp; omega
  rw [search_new4 (by omega)]
  exact (esc_from hc b pre 0 0 0 must true _ hl hb (fun _ => rfl)).le (by omega)
theorem esc_none_from {l : List Nat} : ∀ (b pre : List Nat) (must om : Bool) (seen : Seen), l = pre ++ b → (∀ x ∈ b, x ≠ 92) →
    Rn (2 * b.length + 8) (mm (pcode 4) l.toArray l.length pre.length l.length false must 9 pre.length pre.length om (Array.replicate (2 * 1) none) (-1) (-1) #[] none [fns 9 pre.length om] 1 none seen) Failed := by
  intro b
  induction b with
  | nil =>
    intro pre must om seen hl hb
    have hlen : pre.length = l.length := by rw [hl]; simp
    refine .stepE (st_lit_no (c := 92) (z4 _ (by decide)) (by decide +kernel) (by decide +kernel) (fun y => by omega)) fun s => ?_
    exact .step (bk_start_stop (by omega)) (.step bk_end (.fin rfl))
  | cons x b ih =>
    intro pre must om seen hl hb
    have hlen : pre.length + 1 + b.length = l.length := by rw [hl]; simp; omega
    have t0 : l.toArray.getD pre.length 0 = x := by rw [getD_list, hl]; simp [List.getD]
    refine (Rn.stepE (k := 2 * b.length + 9) (st_lit_no (c := 92) (z4 _ (by decide)) (by decide +kernel) (by decide +kernel) (fun y => hb x (.head _) (t0 ▸ y.2))) fun s => ?_)
    refine .step (bk_start_next (by omega) (by decide +kernel) (by decide) (by decide)) ?_
    have := ih (pre ++ [x]) false false s (by rw [hl]; simp) (fun y hy => hb y (.tail _ hy))
    simp only [List.length_append, List.length_cons, List.length_nil, Nat.zero_add] at this
    exact this
theorem esc_none {l pre b : List Nat} {must : Bool} (hl : l = pre ++ b) (hb : ∀ x ∈ b, x ≠ 92) : Rn (2 * l.length + 8) (forSearch (pcode 4) l.toArray 1 pre.length l.length must) Failed := by
  have hlen : pre.length + b.length = l.length := by rw [hl]; simp
  by_cases h2 : b.length < 2
  · exact (search_short k4_0 k4_3 (by omega) (by omega)).le (by omega)
  · rw [search_new4 (by omega)]
    exact (esc_none_from b pre must true _ hl hb).le (by omega)

/-! ### a mark or a backslash -/
theorem k6_0 : (pcode 6).getD 0 0 = 14 := by decide +kernel
theorem k6_1 : (pcode 6).getD 1 0 = 9 := by decide +kernel
theorem k6_2 : (pcode 6).getD 2 0 = 4 := by decide +kernel
theorem k6_3 : (pcode 6).getD 3 0 = 1 := by decide +kernel
theorem z6 (i : Nat) (h : i < 22) : i < (pcode 6).size := by rw [show (pcode 6).size = 22 from by decide +kernel]; exact h
theorem set6 (c : Nat) (seen : Seen) : ∃ s', inSet (pcode 6) c (pcode 6).size 5 true seen = .ok (fEsc c, s') := by
  have hz : (pcode 6).size = 19 + 3 := by decide +kernel
  rw [hz]
  refine is_lit (i := 5) (by decide +kernel) (x := 34) (by decide +kernel) (fun e => by subst e; rfl) fun s e => is_lit (i := 7) (by decide +kernel) (x := 92) (by decide +kernel) (fun e2 => by subst e2; rfl) fun s e2 => ?_
  exact is_fail (i := 9) (by decide +kernel) (by simp [fEsc, e, e2])
theorem admitted_find {m : M} {l rest : List Nat} {x : Nat} (hcode : m.code = pcode 6) (htext : m.text = l.toArray) (hlim : m.lim = l.length) (hx : fEsc x = true) : ∀ (b pre : List Nat) (fuel : Nat) (seen : Seen), l = pre ++ b ++ x :: rest → (∀ y ∈ b, fEsc y = false) → b.length < fuel →
    ∃ s', M.admitted m fuel pre.length seen = .ok (some (pre.length + b.length), s') := by
  intro b
  induction b with
  | nil =>
    intro pre fuel seen hl hb hf
    obtain ⟨fuel, rfl⟩ : ∃ k, fuel = k + 1 := ⟨fuel - 1, by simp at hf; omega⟩
    have hlen : pre.length + 1 + rest.length = l.length := by rw [hl]; simp; omega
    have t0 : l.toArray.getD pre.length 0 = x := by rw [getD_list, hl]; simp [List.getD]
    obtain ⟨s', e⟩ := set6 x seen
    unfold M.admitted
    rw [if_neg (by omega), hcode, htext, t0, e, hx]
    exact ⟨s', rfl⟩
  | cons y b ih =>
    intro pre fuel seen hl hb hf
    obtain ⟨fuel, rfl⟩ : ∃ k, fuel = k + 1 := ⟨fuel - 1, by simp at hf; omega⟩
    have hlen : pre.length + 1 + b.length + 1 + rest.length = l.length := by rw [hl]; simp; omega
    have t0 : l.toArray.getD pre.length 0 = y := by rw [getD_list, hl]; simp [List.getD]
    obtain ⟨s', e⟩ := set6 y seen
    obtain ⟨s2, e2⟩ := ih (pre ++ [y]) fuel s' (by rw [hl]; simp) (fun z hz => hb z (.tail _ hz)) (by simp at hf; omega)
    simp only [List.length_append, List.length_cons, List.length_nil, Nat.zero_add] at e2 ⊢
    unfold M.admitted
    rw [if_neg (by omega), hcode, htext, t0, e, hb y (.head _)]
    refine ⟨s2, ?_⟩
    show M.admitted m fuel (pre.length + 1) s' = _
    rw [e2, show pre.length + 1 + b.length = pre.length + (b.length + 1) from by omega]
theorem admitted_none {m : M} {l : List Nat} (hcode : m.code = pcode 6) (htext : m.text = l.toArray) (hlim : m.lim = l.length) : ∀ (b pre : List Nat) (fuel : Nat) (seen : Seen), l = pre ++ b → (∀ y ∈ b, fEsc y = false) →
    ∃ s', M.admitted m fuel pre.length seen = .ok (none, s') := by
  intro b
  induction b with
  | nil =>
    intro pre fuel seen hl hb
    have hlen : pre.length = l.length := by rw [hl]; simp
    cases fuel with
    | zero => exact ⟨seen, rfl⟩
    | succ fuel => unfold M.admitted; rw [if_pos (by omega)]; exact ⟨seen, rfl⟩
  | cons y b ih =>
    intro pre fuel seen hl hb
    have hlen : pre.length + 1 + b.length = l.length := by rw [hl]; simp; omega
    cases fuel with
    | zero => exact ⟨seen, rfl⟩
    | succ fuel =>
      have t0 : l.toArray.getD pre.length 0 = y := by rw [getD_list, hl]; simp [List.getD]
      obtain ⟨s', e⟩ := set6 y seen
      obtain ⟨s2, e2⟩ := ih (pre ++ [y]) fuel s' (by rw [hl]; simp) (fun z hz => hb z (.tail _ hz))
      simp only [List.length_append, List.length_cons, List.length_nil, Nat.zero_add] at e2 ⊢
      unfold M.admitted
      rw [if_neg (by omega), hcode, htext, t0, e, hb y (.head _)]
      exact ⟨s2, e2⟩
theorem je_find {l rest b pre : List Nat} {x : Nat} {must : Bool} (hl : l = pre ++ b ++ x :: rest) (hx : fEsc x = true) (hb : ∀ y ∈ b, fEsc y = false) :
    Rn 8 (forSearch (pcode 6) l.toArray 1 pre.length l.length must) (Mt (pre.length + b.length) (pre.length + b.length + 1) (pre.length + b.length) (pre.length + b.length + 1)) := by
  have hlen : pre.length + b.length + 1 + rest.length = l.length := by rw [hl]; simp; omega
  have hd : header (pcode 6) = (1, 10) := by unfold header; rw [k6_0, k6_3, k6_1]; rfl
  have hpl : (pre.length > l.length || l.length - pre.length < 1) = false := by simp; omega
  have a3 : ((10 : Nat) == 0) = false := by decide
  have a5 : (match ops[(14 : Nat)]? with | some .INFO => true | _ => false) = true := rfl
  have t0 : l.toArray.getD (pre.length + b.length) 0 = x := by rw [getD_list, hl]; simp [List.getD]
  have go : ∃ seen, forSearch (pcode 6) l.toArray 1 pre.length l.length must = mm (pcode 6) l.toArray l.length (pre.length + b.length) l.length false false 10 (pre.length + b.length) (pre.length + b.length) true (Array.replicate (2 * 1) none) (-1) (-1) #[] none [fns 10 (pre.length + b.length) true] 1 none seen := by
    rw [forSearch_eq]
    have lst : (if (decide ((1 : Nat) > 1) && !((10 : Nat) != 0 && (4 : Nat) &&& 5 != 0)) = true then max pre.length (l.length - (1 - 1)) else l.length) = l.length := by rw [if_neg (by decide)]
    simp only [hd, hpl, if_false, Bool.false_eq_true, k6_2, a3, lst]
    unfold M.attemptFrom
    have hf : M.hasFirstSet ({ code := pcode 6, text := l.toArray, lim := l.length, start := pre.length, lastStart := l.length, mustAdvance := must, pc := 10, pos := pre.length, handed := pre.length, marks := Array.replicate (2 * 1) none, seen := ({} : Seen).add 14 } : M) = true := by
      unfold M.hasFirstSet; simp only [k6_0, k6_2]; rfl
    rw [hf]
    obtain ⟨s', e⟩ := admitted_find (m := { code := pcode 6, text := l.toArray, lim := l.length, start := pre.length, lastStart := l.length, mustAdvance := must, pc := 10, pos := pre.length, handed := pre.length, marks := Array.replicate (2 * 1) none, seen := ({} : Seen).add 14 }) rfl rfl rfl hx b pre (l.length + 1 - pre.length) (({} : Seen).add 14) hl hb (by omega)
    refine ⟨s', ?_⟩
    simp only [Bool.not_true, Bool.false_eq_true, if_false, e, M.attemptAt, M.attempt, Array.size_empty, Nat.add_zero, Nat.zero_add]
    rw [if_neg (by decide)]
  obtain ⟨seen, e⟩ := go
  rw [e]
  refine .stepE (st_mark (i := 0) (z6 _ (by decide)) (by decide +kernel) (by decide +kernel) (by decide)) fun s => ?_
  refine .stepE (st_in (z6 _ (by decide)) (by decide +kernel) cls_esc (by omega) (by rw [t0]; exact hx)) fun s => ?_
  rw [show 10 + 2 + (1 + (pcode 6).getD (10 + 2 + 1) 0) = 19 from by decide +kernel]
  refine .stepE (st_mark (i := 1) (z6 _ (by decide)) (by decide +kernel) (by decide +kernel) (by decide)) fun s => ?_
  refine .stepE (st_success (z6 _ (by decide)) (by decide +kernel) rfl) fun s => ?_
  refine .step bk_start (.step bk_end (.fin ?_))
  exact ⟨rfl, by simp, by simp, (marks2 _ _).trans (by simp), rfl⟩
theorem je_none {l b pre : List Nat} {must : Bool} (hl : l = pre ++ b) (hb : ∀ y ∈ b, fEsc y = false) : Rn 8 (forSearch (pcode 6) l.toArray 1 pre.length l.length must) Failed := by
  have hlen : pre.length + b.length = l.length := by rw [hl]; simp
  by_cases h1 : b.length = 0
  · exact (search_short k6_0 k6_3 (by omega) (by omega)).le (by decide)
  have hd : header (pcode 6) = (1, 10) := by unfold header; rw [k6_0, k6_3, k6_1]; rfl
  have hpl : (pre.length > l.length || l.length - pre.length < 1) = false := by simp; omega
  have a3 : ((10 : Nat) == 0) = false := by decide
  rw [forSearch_eq]
  have lst : (if (decide ((1 : Nat) > 1) && !((10 : Nat) != 0 && (4 : Nat) &&& 5 != 0)) = true then max pre.length (l.length - (1 - 1)) else l.length) = l.length := by rw [if_neg (by decide)]
  simp only [hd, hpl, if_false, Bool.false_eq_true, k6_2, a3, lst]
  unfold M.attemptFrom
  have hf : M.hasFirstSet ({ code := pcode 6, text := l.toArray, lim := l.length, start := pre.length, lastStart := l.length, mustAdvance := must, pc := 10, pos := pre.length, handed := pre.length, marks := Array.replicate (2 * 1) none, seen := ({} : Seen).add 14 } : M) = true := by
    unfold M.hasFirstSet; simp only [k6_0, k6_2]; rfl
  rw [hf]
  obtain ⟨s', e⟩ := admitted_none (m := { code := pcode 6, text := l.toArray, lim := l.length, start := pre.length, lastStart := l.length, mustAdvance := must, pc := 10, pos := pre.length, handed := pre.length, marks := Array.replicate (2 * 1) none, seen := ({} : Seen).add 14 }) rfl rfl rfl b pre (l.length + 1 - pre.length) (({} : Seen).add 14) hl hb
  simp only [Bool.not_true, Bool.false_eq_true, if_false, e, M.say]
  exact .step rfl (.fin rfl)
end

section
set_option linter.unusedSimpArgs false
open PySem PySem.Sre

section
variable {code text : Array Nat} {lim start last : Nat} {whole must : Bool} {pc pos handed : Nat} {om : Bool} {marks : Array (Option Nat)} {lm li : Int} {loops : Array Loop} {inner : Option Nat} {frames : List Sre.Frame} {wt : Nat} {seen : Seen}
abbrev fcl (pc pos : Nat) (om : Bool) : Sre.Frame := { wait := .closeLoop, pc := pc, pos := pos, outermost := om, loop := 0 }
abbrev fmore (pc pos : Nat) (om : Bool) (n : Int) (k : Sre.Kept) (b : Option Nat) : Sre.Frame := { wait := .maxMore, pc := pc, pos := pos, outermost := om, count := n, kept := k, loop := 0, began := b }
abbrev ftail (pc pos : Nat) (om : Bool) (n : Int) (k : Sre.Kept) : Sre.Frame := { wait := .maxTail, pc := pc, pos := pos, outermost := om, count := n, kept := k, loop := 0 }

theorem st_repeat {sk : Nat} (hp : pc < code.size) (h0 : code.getD pc 0 = 23) (h1 : code.getD (pc + 1) 0 = sk) (hw : wt + 1 ≤ 16777216) :
    ∃ seen', (mm code text lim start last whole must pc pos handed om marks lm li #[] none frames wt none seen).step =
      mm code text lim start last whole must (pc + 1 + sk) pos pos om marks lm li #[{ pc := pc, outer := none }] (some 0) (fcl pc pos om :: frames) (wt + 1) none seen' := by
  refine ⟨seen.add 23, ?_⟩
  simp only [M.step, M.exec, M.word, Nat.add_zero, h0, h1, o23, hp, Option.isSome_none, Bool.false_eq_true, if_false, if_true, M.frame, M.attempt, Array.size_empty]
  rw [if_neg (by omega)]
  rfl
theorem st_until {lpc : Nat} {cnt : Int} {bg : Option Nat} (hp : pc < code.size) (h0 : code.getD pc 0 = 18) (h2 : code.getD (lpc + 2) 0 = 0) (h3 : code.getD (lpc + 3) 0 = 4294967295) (hc : -1 ≤ cnt) (hb : bg ≠ some pos)
    (hw : wt + 1 + (kp1 lm li marks).marks.size ≤ 16777216) :
    ∃ seen', (mm code text lim start last whole must pc pos handed om marks lm li #[{ pc := lpc, count := cnt, began := bg, outer := none }] (some 0) frames wt none seen).step =
      mm code text lim start last whole must (lpc + 4) pos pos om marks lm li #[{ pc := lpc, count := cnt + 1, began := some pos, outer := none }] (some 0) (fmore (pc + 1) pos om (cnt + 1) (kp1 lm li marks) bg :: frames) (wt + 1 + (kp1 lm li marks).marks.size) none seen' := by
  refine ⟨seen.add 18, ?_⟩
  have hb' : (bg != some pos) = true := by simpa using hb
  have hl : (#[{ pc := lpc, count := cnt, began := bg, outer := none }] : Array Loop).getD 0 { pc := 0, outer := none } = { pc := lpc, count := cnt, began := bg, outer := none } := rfl
  have hlt : ¬ (cnt + 1 < ((0 : Nat) : Int)) := by omega
  have e1 : ((4294967295 : Nat) == maxRepeat) = true := rfl
  simp only [M.step, M.exec, M.word, Nat.add_zero, h0, o18, hp, Option.isSome_none, Bool.false_eq_true, if_false, if_true, M.until_, M.loopAt, hl, h2, h3, hlt, Bool.not_true, e1, Bool.or_true, hb', Bool.and_true, M.round, M.setLoop, M.frame, M.keep, M.attempt]
  rw [if_neg (by simpa using hw)]
  rfl
theorem bk_more {fpc fpos : Nat} {fom : Bool} {n : Int} {k : Sre.Kept} {b : Option Nat} : ∃ loops', (mm code text lim start last whole must pc pos handed om marks lm li loops inner (fmore fpc fpos fom n k b :: frames) wt (some true) seen).step =
    mm code text lim start last whole must fpc fpos handed fom marks lm li loops' inner frames (wt - (1 + k.marks.size)) (some true) seen := by
  refine ⟨loops.modify 0 fun l => { l with began := b }, ?_⟩
  simp only [M.step, Option.isSome_none, Bool.false_eq_true, if_false, M.resume, M.setLoop, if_true, M.say]
theorem bk_tail {fpc fpos : Nat} {fom : Bool} {n : Int} {k : Sre.Kept} : (mm code text lim start last whole must pc pos handed om marks lm li loops inner (ftail fpc fpos fom n k :: frames) wt (some true) seen).step =
    mm code text lim start last whole must fpc fpos handed fom marks lm li loops (some 0) frames (wt - (1 + k.marks.size)) (some true) seen := by
  simp only [M.step, Option.isSome_none, Bool.false_eq_true, if_false, M.resume, if_true, M.say]
theorem bk_close {fpc fpos : Nat} {fom : Bool} : ∃ loops' inner', (mm code text lim start last whole must pc pos handed om marks lm li loops inner (fcl fpc fpos fom :: frames) wt (some true) seen).step =
    mm code text lim start last whole must fpc fpos handed fom marks lm li loops' inner' frames (wt - 1) (some true) seen := by
  refine ⟨loops.pop, (loops.getD 0 { pc := 0, outer := none }).outer, ?_⟩
  simp only [M.step, Option.isSome_none, Bool.false_eq_true, if_false, M.resume, if_true, M.say, M.loopAt, Array.size_empty, Nat.add_zero]
/-- no more rounds: on behind the loop -/
theorem bk_more_no {fpc fpos : Nat} {fom : Bool} {n : Int} {lpc : Nat} {cnt : Int} {bg b : Option Nat} {gb : Nat} {li' : Int} (hw : wt ≤ 16777216) (hw2 : 2 ≤ wt) :
    (mm code text lim start last whole must pc pos handed om #[some gb, none] lm li #[{ pc := lpc, count := cnt, began := bg, outer := none }] (some 0) (fmore fpc fpos fom n (kp1 0 li' #[some gb, none]) b :: frames) wt (some false) seen).step =
    mm code text lim start last whole must fpc fpos fpos fom #[some gb, none] 0 li' #[{ pc := lpc, count := n - 1, began := b, outer := none }] none (ftail fpc fpos fom n (kp0 0 li') :: frames) (wt - 1) none seen := by
  have hs : (kp1 0 li' #[some gb, none]).marks.size = 1 := rfl
  have hmk : (kp1 0 li' #[some gb, none]).marks ++ (#[some gb, none] : Array (Option Nat)).extract (kp1 0 li' #[some gb, none]).marks.size (#[some gb, none] : Array (Option Nat)).size = #[some gb, none] := rfl
  have hl1 : (#[{ pc := lpc, count := cnt, began := bg, outer := none }] : Array Loop).modify 0 (fun l => { l with began := b }) = #[{ pc := lpc, count := cnt, began := b, outer := none }] := rfl
  have hl2 : (#[{ pc := lpc, count := cnt, began := b, outer := none }] : Array Loop).modify 0 (fun l => { l with count := n - 1 }) = #[{ pc := lpc, count := n - 1, began := b, outer := none }] := rfl
  have hg : (#[{ pc := lpc, count := n - 1, began := b, outer := none }] : Array Loop).getD 0 { pc := 0, outer := none } = { pc := lpc, count := n - 1, began := b, outer := none } := rfl
  simp only [M.step, Option.isSome_none, Bool.false_eq_true, if_false, M.resume, M.setLoop, M.putBack, if_true, hmk, hl1, hl2, M.afterLoop, M.loopAt, hg, M.frame, M.keep, M.attempt, hs, Array.size_empty, Nat.add_zero]
  rw [if_neg (by omega)]
  have : wt - (1 + 1) + 1 = wt - 1 := by omega
  rw [this]
  rfl
end

theorem k2_0 : (pcode 2).getD 0 0 = 14 := by decide +kernel
theorem k2_1 : (pcode 2).getD 1 0 = 4 := by decide +kernel
theorem k2_2 : (pcode 2).getD 2 0 = 0 := by decide +kernel
theorem k2_3 : (pcode 2).getD 3 0 = 3 := by decide +kernel
theorem z2 (i : Nat) (h : i < 72) : i < (pcode 2).size := by rw [show (pcode 2).size = 72 from by decide +kernel]; exact h
theorem cls_sp2 : Cls (pcode 2) 11 fSp := cls_sp 2 11 70 (by decide +kernel) (by decide +kernel) (by decide +kernel) (by decide +kernel) (by decide +kernel)
theorem cls_sp2' : Cls (pcode 2) 23 fSp := cls_sp 2 23 70 (by decide +kernel) (by decide +kernel) (by decide +kernel) (by decide +kernel) (by decide +kernel)
theorem cls_q2 : Cls (pcode 2) 37 fQ := cls_q 37 68 (by decide +kernel) (by decide +kernel) (by decide +kernel) (by decide +kernel) (by decide +kernel) (by decide +kernel) (by decide +kernel) (by decide +kernel)
theorem cls_q2' : Cls (pcode 2) 57 fQ := cls_q 57 68 (by decide +kernel) (by decide +kernel) (by decide +kernel) (by decide +kernel) (by decide +kernel) (by decide +kernel) (by decide +kernel) (by decide +kernel)

/-- it answers yes, all that was laid on F taken off again -/
noncomputable def Ans (l : List Nat) (last gb ge : Nat) (F : List Sre.Frame) (m : M) : Prop :=
  ∃ pc pos om li loops inner wt seen, m = mm (pcode 2) l.toArray l.length 0 last false false pc pos (ge + 1) om #[some gb, some ge] 1 li loops inner F wt (some true) seen

noncomputable def blks (bs : List (Nat × List Nat)) : List Nat := bs.flatMap fun b => 92 :: b.1 :: b.2
theorem q_loop {l rest : List Nat} {last gb : Nat} : ∀ (bs : List (Nat × List Nat)) (pre : List Nat) (handed : Nat) (om : Bool) (li : Int) (cnt : Int) (bg : Option Nat) (F : List Sre.Frame) (wt : Nat) (seen : Seen),
    l = pre ++ blks bs ++ 34 :: rest → (∀ b ∈ bs, b.1 ≠ 10 ∧ b.2.all fQ = true) → l.length ≤ 1000000 → -1 ≤ cnt → bg ≠ some pre.length → wt + 4 * (bs.length + 1) ≤ 16777216 →
    Rn (8 * bs.length + 8) (mm (pcode 2) l.toArray l.length 0 last false false 66 pre.length handed om #[some gb, none] 0 li #[{ pc := 46, count := cnt, began := bg, outer := none }] (some 0) F wt none seen)
      (Ans l last gb (pre.length + (blks bs).length) F) := by
  intro bs
  induction bs with
  | nil =>
    intro pre handed om li cnt bg F wt seen hl hb hz hc hbg hw
    have hlen : pre.length + 1 + rest.length = l.length := by rw [hl]; simp [blks]; omega
    have t0 : l.toArray.getD pre.length 0 = 34 := by rw [getD_list, hl]; simp [List.getD, blks]
    have hs : (kp1 0 li #[some gb, none]).marks.size = 1 := rfl
    refine .stepE (st_until (z2 _ (by decide)) (by decide +kernel) (by decide +kernel) (by decide +kernel) hc hbg (by rw [hs]; simp at hw; omega)) fun s => ?_
    rw [hs]
    refine .stepE (st_lit_no (c := 92) (z2 _ (by decide)) (by decide +kernel) (by decide +kernel) (fun y => by rw [t0] at y; exact absurd y.2 (by decide))) fun s => ?_
    refine .step (bk_more_no (by simp at hw; omega) (by omega)) ?_
    refine .stepE (st_mark (i := 1) (z2 _ (by decide)) (by decide +kernel) (by decide +kernel) (by decide)) fun s => ?_
    refine .stepE (st_lit (c := 34) (z2 _ (by decide)) (by decide +kernel) (by decide +kernel) (by omega) t0) fun s => ?_
    refine .stepE (st_success (z2 _ (by decide)) (by decide +kernel) (by cases om <;> rfl)) fun s => ?_
    refine .step bk_tail (.fin ?_)
    exact ⟨_, _, _, _, _, _, _, _, rfl⟩
  | cons b bs ih =>
    intro pre handed om li cnt bg F wt seen hl hb hz hc hbg hw
    obtain ⟨c, u⟩ := b
    have hb0 := hb _ (.head _)
    simp only [] at hb0
    have hl2 : l = pre ++ 92 :: c :: u ++ (blks bs ++ 34 :: rest) := by rw [hl]; simp [blks]
    have hlen : pre.length + 2 + u.length + (blks bs).length + 1 + rest.length = l.length := by rw [hl2]; simp; omega
    have t0 : l.toArray.getD pre.length 0 = 92 := by rw [getD_list, hl2]; simp [List.getD]
    have t1 : l.toArray.getD (pre.length + 1) 0 = c := by rw [getD_list, hl2]; simp [List.getD]
    have hs : (kp1 0 li #[some gb, none]).marks.size = 1 := rfl
    have c1 : cw fQ l.toArray (l.length - (pre.length + 1 + 1)) (pre.length + 1 + 1) = u.length := by
      refine cw_at (pre ++ [92, c]) u (blks bs ++ 34 :: rest) (by rw [hl2]; simp) rfl (by simp) hb0.2 ?_
      cases bs with
      | nil => rfl
      | cons b bs => rfl
    simp only [List.length_cons] at hw
    refine (Rn.le ?_ (show (8 * bs.length + 8) + 2 + 1 + 1 + 1 + 1 ≤ 8 * (bs.length + 1) + 8 by omega))
    refine .stepE (st_until (z2 _ (by decide)) (by decide +kernel) (by decide +kernel) (by decide +kernel) hc hbg (by rw [hs]; omega)) fun s => ?_
    rw [hs]
    refine .stepE (st_lit (c := 92) (z2 _ (by decide)) (by decide +kernel) (by decide +kernel) (by omega) t0) fun s => ?_
    refine .stepE (st_any (z2 _ (by decide)) (by decide +kernel) (by omega) (by rw [t1]; exact hb0.1)) fun s => ?_
    refine .stepE (st_rep (k := kp1 0 li #[some gb, none]) (least := 0) (sk := 12) rfl (z2 _ (by decide)) (by decide +kernel) (by decide +kernel) (by decide +kernel) (by decide +kernel) cls_q2' (by omega) (by omega) (by omega) (by rw [hs]; omega)) fun s => ?_
    rw [c1, hs]
    have hpre : (pre ++ 92 :: c :: u).length = pre.length + 1 + 1 + u.length := by simp; omega
    have := ih (pre ++ 92 :: c :: u) (pre.length + 1 + 1 + u.length) om li (cnt + 1) (some pre.length) (fgb 53 (pre.length + 1 + 1 + u.length) om (u.length) (kp1 0 li #[some gb, none]) :: fmore 67 pre.length om (cnt + 1) (kp1 0 li #[some gb, none]) bg :: F) (wt + 1 + 1 + 1 + 1) s
      (by rw [hl2]; simp) (fun b hb' => hb b (.tail _ hb')) hz (by omega) (by rw [hpre]; simp; omega) (by omega)
    rw [hpre] at this
    refine Rn.trans (a := 8 * bs.length + 8) (b := 2) this fun m' hm => ?_
    obtain ⟨pc', pos', om', li', loops', inner', wt', seen', rfl⟩ := hm
    refine .step bk_give ?_
    obtain ⟨lp, e⟩ := bk_more (code := pcode 2) (text := l.toArray) (lim := l.length) (start := 0) (last := last) (whole := false) (must := false) (pc := 53) (pos := pre.length + 1 + 1 + u.length) (handed := pre.length + 1 + 1 + u.length + (blks bs).length + 1) (om := om) (marks := #[some gb, some (pre.length + 1 + 1 + u.length + (blks bs).length)]) (lm := 1) (li := li') (loops := loops') (inner := inner') (frames := F) (wt := wt' - (1 + (kp1 0 li #[some gb, none]).marks.size)) (seen := seen') (fpc := 67) (fpos := pre.length) (fom := om) (n := cnt + 1) (k := kp1 0 li #[some gb, none]) (b := bg)
    refine .step e (.fin ?_)
    have e2 : pre.length + (blks ((c, u) :: bs)).length = pre.length + 1 + 1 + u.length + (blks bs).length := by simp [blks]; omega
    rw [e2]
    exact ⟨_, _, _, _, _, _, _, _, rfl⟩

theorem q_ok {l u rest : List Nat} {bs : List (Nat × List Nat)} (hl : l = 61 :: 34 :: u ++ blks bs ++ 34 :: rest) (hu : u.all fQ = true) (hb : ∀ b ∈ bs, b.1 ≠ 10 ∧ b.2.all fQ = true) (hz : l.length ≤ 1000000) :
    Rn (8 * l.length + 40) (forSearch (pcode 2) l.toArray 1 0 l.length false) (Mt 0 (2 + (u ++ blks bs).length + 1) 2 (2 + (u ++ blks bs).length)) := by
  have hlen : 2 + u.length + (blks bs).length + 1 + rest.length = l.length := by rw [hl]; simp; omega
  have hbl : bs.length ≤ (blks bs).length := by
    clear hl hb hlen
    induction bs with
    | nil => simp
    | cons b bs ih => simp [blks] at ih ⊢; omega
  rw [search_new (pos := 0) k2_0 k2_1 k2_2 k2_3 (by omega)]
  have c0 : cw fSp l.toArray (l.length - 0) 0 = 0 := sp0 rfl 0 [] l rfl rfl (by subst hl; simp [eq_sp])
  have q_sp : fSp 34 = false := by decide +kernel
  have c1 : cw fSp l.toArray (l.length - (0 + 1)) (0 + 1) = 0 := sp0 rfl (0 + 1) [61] (34 :: u ++ blks bs ++ 34 :: rest) (by rw [hl]; simp) rfl (by simp [q_sp])
  have c2 : cw fQ l.toArray (l.length - (0 + 1 + 1)) (0 + 1 + 1) = u.length := by
    refine cw_at [61, 34] u (blks bs ++ 34 :: rest) (by rw [hl]; simp) rfl rfl hu ?_
    cases bs with
    | nil => rfl
    | cons b bs => rfl
  have t0 : l.toArray.getD 0 0 = 61 := by rw [getD_list]; subst hl; rfl
  have t1 : l.toArray.getD 1 0 = 34 := by rw [getD_list]; subst hl; rfl
  refine (Rn.le ?_ (show (8 * bs.length + 8) + 20 ≤ 8 * l.length + 40 by omega))
  refine .stepE (st_at (z2 _ (by decide)) (by decide +kernel) (by decide +kernel)) fun s => ?_
  refine .stepE (st_rep (k := kp0 _ _) (least := 0) (sk := 9) rfl (z2 _ (by decide)) (by decide +kernel) (by decide +kernel) (by decide +kernel) (by decide +kernel) cls_sp2 (by omega) (by omega) (by omega) (by decide)) fun s => ?_
  rw [c0]
  refine .stepE (st_lit (c := 61) (z2 _ (by decide)) (by decide +kernel) (by decide +kernel) (by omega) t0) fun s => ?_
  refine .stepE (st_rep (k := kp0 _ _) (least := 0) (sk := 9) rfl (z2 _ (by decide)) (by decide +kernel) (by decide +kernel) (by decide +kernel) (by decide +kernel) cls_sp2' (by omega) (by omega) (by omega) (by decide)) fun s => ?_
  rw [show 0 + 0 + 1 = 0 + 1 from rfl, c1]
  refine .stepE (st_lit (c := 34) (z2 _ (by decide)) (by decide +kernel) (by decide +kernel) (by omega) t1) fun s => ?_
  refine .stepE (st_mark (i := 0) (z2 _ (by decide)) (by decide +kernel) (by decide +kernel) (by decide)) fun s => ?_
  refine .stepE (st_rep (k := kp0 _ _) (least := 0) (sk := 12) rfl (z2 _ (by decide)) (by decide +kernel) (by decide +kernel) (by decide +kernel) (by decide +kernel) cls_q2 (by omega) (by omega) (by omega) (by decide)) fun s => ?_
  rw [show 0 + 1 + 0 + 1 = 0 + 1 + 1 from rfl, c2]
  refine .stepE (st_repeat (sk := 19) (z2 _ (by decide)) (by decide +kernel) (by decide +kernel) (by decide)) fun s => ?_
  have key := q_loop (l := l) (rest := rest) (last := max 0 (l.length - (3 - 1))) (gb := 2) bs ([61, 34] ++ u) (2 + u.length) true (-1) (-1) none
    [fcl 46 (2 + u.length) true, fgb 33 (2 + u.length) true u.length (kp0 0 (-1)), fgb 19 (0 + 1 + 0) true 0 (kp0 (-1) (-1)), fgb 7 (0 + 0) true 0 (kp0 (-1) (-1)), fns 5 0 true] 5 s (by rw [hl]; simp) hb hz (by decide) (by simp) (by omega)
  have hpl : ([61, 34] ++ u).length = 2 + u.length := by simp; omega
  rw [hpl] at key
  refine Rn.trans (a := 8 * bs.length + 8) (b := 12) key fun m' hm => ?_
  obtain ⟨pc', pos', om', li', loops', inner', wt', seen', rfl⟩ := hm
  obtain ⟨lp, inn, e⟩ := bk_close (code := pcode 2) (text := l.toArray) (lim := l.length) (start := 0) (last := max 0 (l.length - (3 - 1))) (whole := false) (must := false) (pc := pc') (pos := pos') (handed := 2 + u.length + (blks bs).length + 1) (om := om') (marks := #[some 2, some (2 + u.length + (blks bs).length)]) (lm := 1) (li := li') (loops := loops') (inner := inner') (frames := [fgb 33 (2 + u.length) true u.length (kp0 0 (-1)), fgb 19 (0 + 1 + 0) true 0 (kp0 (-1) (-1)), fgb 7 (0 + 0) true 0 (kp0 (-1) (-1)), fns 5 0 true]) (wt := wt') (seen := seen') (fpc := 46) (fpos := 2 + u.length) (fom := true)
  refine .step e (.step bk_give (.step bk_give (.step bk_give (.step bk_start (.step bk_end (.fin ?_))))))
  have e3 : 2 + (u ++ blks bs).length = 2 + u.length + (blks bs).length := by simp; omega
  rw [e3]
  exact ⟨rfl, rfl, rfl, rfl, rfl⟩

/-- no quoted value ahead -/
theorem q_no {l : List Nat} (hl : l.head?.all (fun c => !fSp c) = true) (h2 : ∀ c v, l = 61 :: c :: v → c ≠ 34 ∧ fSp c = false) (hz : l.length ≤ 1000000) :
    Rn (2 * l.length + 12) (forSearch (pcode 2) l.toArray 1 0 l.length false) Failed := by
  by_cases h0 : l.length < 3
  · exact (search_short k2_0 k2_3 (by omega) (by omega)).le (by omega)
  rw [search_new (pos := 0) k2_0 k2_1 k2_2 k2_3 (by omega)]
  have c0 : cw fSp l.toArray (l.length - 0) 0 = 0 := sp0 rfl 0 [] l rfl rfl hl
  have hlast : (if 3 > 1 then max 0 (l.length - (3 - 1)) else l.length) = l.length - 2 := by rw [if_pos (by decide)]; omega
  rw [hlast]
  refine (Rn.le ?_ (show (2 * l.length + 6) + 1 + 1 ≤ 2 * l.length + 12 by omega))
  refine .stepE (st_at (z2 _ (by decide)) (by decide +kernel) (by decide +kernel)) fun s => ?_
  refine .stepE (st_rep (k := kp0 _ _) (least := 0) (sk := 9) rfl (z2 _ (by decide)) (by decide +kernel) (by decide +kernel) (by decide +kernel) (by decide +kernel) cls_sp2 (by omega) (by omega) (by omega) (by decide)) fun s => ?_
  rw [c0]
  by_cases h61 : l.toArray.getD 0 0 = 61
  · obtain ⟨c, v, hcv⟩ : ∃ c v, l = 61 :: c :: v := by
      rw [getD_list] at h61
      match l, h0, h61 with
      | a :: b :: v, _, h61 => exact ⟨b, v, by simp [List.getD] at h61; rw [h61]⟩
      | [], h0, _ => simp at h0
      | [_], h0, _ => simp at h0
    have hc := h2 c v hcv
    have c1 : cw fSp l.toArray (l.length - (0 + 1)) (0 + 1) = 0 := sp0 rfl (0 + 1) [61] (c :: v) hcv rfl (by simp [hc.2])
    have t1 : l.toArray.getD 1 0 = c := by rw [getD_list, hcv]; rfl
    refine .stepE (st_lit (c := 61) (z2 _ (by decide)) (by decide +kernel) (by decide +kernel) (by omega) h61) fun s => ?_
    refine .stepE (st_rep (k := kp0 _ _) (least := 0) (sk := 9) rfl (z2 _ (by decide)) (by decide +kernel) (by decide +kernel) (by decide +kernel) (by decide +kernel) cls_sp2' (by omega) (by omega) (by omega) (by decide)) fun s => ?_
    rw [show 0 + 0 + 1 = 0 + 1 from rfl, c1]
    refine .stepE (st_lit_no (c := 34) (z2 _ (by decide)) (by decide +kernel) (by decide +kernel) (fun x => hc.1 (t1 ▸ x.2))) fun s => ?_
    refine .step (bk_give_stop (by decide +kernel)) ?_
    refine .step (bk_give_stop (by decide +kernel)) ?_
    exact (at_fail (z2 _ (by decide)) (by decide +kernel) (by decide +kernel) (by decide +kernel) (l.length - 2) 0 _ _ _ _ _ _ _ _ _ _ rfl).le (by omega)
  · refine .stepE (st_lit_no (c := 61) (z2 _ (by decide)) (by decide +kernel) (by decide +kernel) (fun x => h61 x.2)) fun s => ?_
    refine .step (bk_give_stop (by decide +kernel)) ?_
    exact (at_fail (z2 _ (by decide)) (by decide +kernel) (by decide +kernel) (by decide +kernel) (l.length - 2) 0 _ _ _ _ _ _ _ _ _ _ rfl).le (by omega)
end

section
open PySem PySem.W PySem.Calls PyProof.Rows PySem.Builtin.Re

/-! ### the types' facts -/
theorem pa_pat : PlainAttrs "re.Pattern" := ⟨⟨"object.__getattribute__", by rw [typeLookup_type, builtinLookup_eq_fast]; kernel_rfl, by decide +kernel⟩, by rw [typeLookup_type, builtinLookup_eq_fast]; kernel_rfl⟩
theorem pa_mat : PlainAttrs "re.Match" := ⟨⟨"object.__getattribute__", by rw [typeLookup_type, builtinLookup_eq_fast]; kernel_rfl, by decide +kernel⟩, by rw [typeLookup_type, builtinLookup_eq_fast]; kernel_rfl⟩
theorem sl_search : Slot "re.Pattern" "search" "re.Pattern.search" :=
  .of (owner := "re.Pattern") (n := "search") (by rw [typeLookup_type, builtinLookup_eq_fast]; kernel_rfl) (by decide +kernel) (by decide +kernel) (by decide +kernel)
    (by first | exact .inl (by decide +kernel) | exact .inr (by decide +kernel)) (by rw [isSubtype_type]; kernel_rfl)
theorem sl_full : Slot "re.Pattern" "fullmatch" "re.Pattern.fullmatch" :=
  .of (owner := "re.Pattern") (n := "fullmatch") (by rw [typeLookup_type, builtinLookup_eq_fast]; kernel_rfl) (by decide +kernel) (by decide +kernel) (by decide +kernel)
    (by first | exact .inl (by decide +kernel) | exact .inr (by decide +kernel)) (by rw [isSubtype_type]; kernel_rfl)
theorem sl_sub : Slot "re.Pattern" "sub" "re.Pattern.sub" :=
  .of (owner := "re.Pattern") (n := "sub") (by rw [typeLookup_type, builtinLookup_eq_fast]; kernel_rfl) (by decide +kernel) (by decide +kernel) (by decide +kernel)
    (by first | exact .inl (by decide +kernel) | exact .inr (by decide +kernel)) (by rw [isSubtype_type]; kernel_rfl)
theorem sl_subn : Slot "re.Pattern" "subn" "re.Pattern.subn" :=
  .of (owner := "re.Pattern") (n := "subn") (by rw [typeLookup_type, builtinLookup_eq_fast]; kernel_rfl) (by decide +kernel) (by decide +kernel) (by decide +kernel)
    (by first | exact .inl (by decide +kernel) | exact .inr (by decide +kernel)) (by rw [isSubtype_type]; kernel_rfl)
theorem sl_group : Slot "re.Match" "group" "re.Match.group" :=
  .of (owner := "re.Match") (n := "group") (by rw [typeLookup_type, builtinLookup_eq_fast]; kernel_rfl) (by decide +kernel) (by decide +kernel) (by decide +kernel)
    (by first | exact .inl (by decide +kernel) | exact .inr (by decide +kernel)) (by rw [isSubtype_type]; kernel_rfl)
theorem sl_span : Slot "re.Match" "span" "re.Match.span" :=
  .of (owner := "re.Match") (n := "span") (by rw [typeLookup_type, builtinLookup_eq_fast]; kernel_rfl) (by decide +kernel) (by decide +kernel) (by decide +kernel)
    (by first | exact .inl (by decide +kernel) | exact .inr (by decide +kernel)) (by rw [isSubtype_type]; kernel_rfl)
theorem ty_search : typeOf (.builtin "re.Pattern.search") = pure (.type "method_descriptor") := by show builtinType _ = _; rw [builtinType_eq_fast]; kernel_rfl
theorem ty_full : typeOf (.builtin "re.Pattern.fullmatch") = pure (.type "method_descriptor") := by show builtinType _ = _; rw [builtinType_eq_fast]; kernel_rfl
theorem ty_sub : typeOf (.builtin "re.Pattern.sub") = pure (.type "method_descriptor") := by show builtinType _ = _; rw [builtinType_eq_fast]; kernel_rfl
theorem ty_subn : typeOf (.builtin "re.Pattern.subn") = pure (.type "method_descriptor") := by show builtinType _ = _; rw [builtinType_eq_fast]; kernel_rfl
theorem ty_group : typeOf (.builtin "re.Match.group") = pure (.type "method_descriptor") := by show builtinType _ = _; rw [builtinType_eq_fast]; kernel_rfl
theorem ty_span : typeOf (.builtin "re.Match.span") = pure (.type "method_descriptor") := by show builtinType _ = _; rw [builtinType_eq_fast]; kernel_rfl
theorem en_search : entryFor table "re.Pattern.search" = some Builtin.«re.Pattern.search» := entryFor_of_tree (by kernel_rfl)
theorem en_full : entryFor table "re.Pattern.fullmatch" = some Builtin.«re.Pattern.fullmatch» := entryFor_of_tree (by kernel_rfl)
theorem en_sub : entryFor table "re.Pattern.sub" = some Builtin.«re.Pattern.sub» := entryFor_of_tree (by kernel_rfl)
theorem en_subn : entryFor table "re.Pattern.subn" = some Builtin.«re.Pattern.subn» := entryFor_of_tree (by kernel_rfl)
theorem en_loop : entryFor table "re.Pattern.sub.loop" = some Builtin.«re.Pattern.sub.loop» := entryFor_of_tree (by kernel_rfl)
theorem en_group : entryFor table "re.Match.group" = some Builtin.«re.Match.group» := entryFor_of_tree (by kernel_rfl)
theorem en_span : entryFor table "re.Match.span" = some Builtin.«re.Match.span» := entryFor_of_tree (by kernel_rfl)
theorem ar_search (a b : Value) : argsOk "re.Pattern.search" ⟨[a, b], []⟩ := by unfold argsOk; kernel_rfl
theorem ar_full (a b : Value) : argsOk "re.Pattern.fullmatch" ⟨[a, b], []⟩ := by unfold argsOk; kernel_rfl
theorem ar_sub (a b c : Value) : argsOk "re.Pattern.sub" ⟨[a, b, c], []⟩ := by unfold argsOk; kernel_rfl
theorem ar_subn (a b c : Value) : argsOk "re.Pattern.subn" ⟨[a, b, c], []⟩ := by unfold argsOk; kernel_rfl
theorem ar_group (a b : Value) : argsOk "re.Match.group" ⟨[a, b], []⟩ := by unfold argsOk; kernel_rfl
theorem ar_span (a b : Value) : argsOk "re.Match.span" ⟨[a, b], []⟩ := by unfold argsOk; kernel_rfl

theorem sl_mga : Slot "re.Match" "__getattribute__" "object.__getattribute__" :=
  .of (owner := "object") (n := "__getattribute__") (by rw [typeLookup_type, builtinLookup_eq_fast]; kernel_rfl) (by decide +kernel) (by decide +kernel) (by decide +kernel)
    (by first | exact .inl (by decide +kernel) | exact .inr (by decide +kernel)) (by rw [isSubtype_type]; kernel_rfl)
theorem lk_string : typeLookup (.type "re.Match") "string" = pure (some (.builtin "re.Match.string")) := by rw [typeLookup_type, builtinLookup_eq_fast]; kernel_rfl
theorem ty_string : typeOf (.builtin "re.Match.string") = pure (.type "member_descriptor") := by show builtinType _ = _; rw [builtinType_eq_fast]; kernel_rfl
theorem sl_mdget : Slot "member_descriptor" "__get__" "member_descriptor.__get__" :=
  .of (owner := "member_descriptor") (n := "__get__") (by rw [typeLookup_type, builtinLookup_eq_fast]; kernel_rfl) (by decide +kernel) (by decide +kernel) (by decide +kernel)
    (by first | exact .inl (by decide +kernel) | exact .inr (by decide +kernel)) (by rw [isSubtype_type]; kernel_rfl)
theorem sl_mdset : Slot "member_descriptor" "__set__" "member_descriptor.__set__" :=
  .of (owner := "member_descriptor") (n := "__set__") (by rw [typeLookup_type, builtinLookup_eq_fast]; kernel_rfl) (by decide +kernel) (by decide +kernel) (by decide +kernel)
    (by first | exact .inl (by decide +kernel) | exact .inr (by decide +kernel)) (by rw [isSubtype_type]; kernel_rfl)
theorem en_mdget : entryFor table "member_descriptor.__get__" = some Builtin.«member_descriptor.__get__» := entryFor_of_tree (by kernel_rfl)
theorem en_oga : entryFor table "object.__getattribute__" = some Builtin.«object.__getattribute__» := entryFor_of_tree (by kernel_rfl)
theorem en_string : entryFor table "re.Match.string" = some Builtin.«re.Match.string» := entryFor_of_tree (by kernel_rfl)
theorem ar_mdget (a b c : Value) : argsOk "member_descriptor.__get__" ⟨[a, b, c], []⟩ := by unfold argsOk; kernel_rfl
theorem ar_oga (a b : Value) : argsOk "object.__getattribute__" ⟨[a, b], []⟩ := by unfold argsOk; kernel_rfl
theorem ow_string : (".".intercalate ("re.Match.string".cutAt '.').dropLast) = "re.Match" := by
  have e0 : "re.Match.string".cutAt '.' = ["re", "Match", "string"] := by first | rfl | decide +kernel
  rw [e0]; decide +kernel
theorem sub_mat : isSubtype (.type "re.Match") (.type "re.Match") = pure true := by rw [isSubtype_type]; kernel_rfl
theorem no_bool : typeLookup (.type "re.Match") "__bool__" = pure none := by rw [typeLookup_type, builtinLookup_eq_fast]; kernel_rfl
theorem no_len : typeLookup (.type "re.Match") "__len__" = pure none := by rw [typeLookup_type, builtinLookup_eq_fast]; kernel_rfl
end

section
open PySem PySem.W PySem.Calls PyProof.Rows PySem.Builtin.Re

theorem named1 (id f : String) (v : Value) : reNamed id f ["string", "pos", "endpos"] 1 [v] [] = pure [some v, none, none] := rfl
theorem named2 (id f : String) (v u : Value) : reNamed id f ["repl", "string", "count"] 2 [v, u] [] = pure [some v, some u, none] := rfl

/-- the i-th pattern of the text lies at a -/
noncomputable def Pat (h : Heap) (k a groups : Nat) : Prop := ∃ (x0 x1 x2 x6 : Value) (T : Addr) (ws : List Value) (n : Nat), h.get? a = some { cls := .type "re.Pattern", data := .fields #[x0, x1, x2, .none, .none, .ref T, x6] } ∧ reRawNat x2 = groups ∧ reRawNat x6 = 0 ∧
  h.get? T = some (tupO ws n) ∧ (ws.toArray.map reRawOf).map (·.toNat) = pcode k
theorem Pat.keeps {h h' : Heap} {k a groups : Nat} (x : Pat h k a groups) (kk : ∀ b o, h.get? b = some o → h'.get? b = some o) : Pat h' k a groups :=
  let ⟨x0, x1, x2, x6, T, ws, n, e1, e2, e3, e4, e5⟩ := x; ⟨x0, x1, x2, x6, T, ws, n, kk _ _ e1, e2, e3, kk _ _ e4, e5⟩

section
variable {prog : Program} {w : World} {A : Around} {h : Heap}
/-- a built-in of a type, called: its entry run -/
theorem d_entry {T : String} {name : Str} {id : String} {b : Builtin} {self : Value} {rest : List Value} {Q : Value → Heap → Prop} (sl : Slot T name id) (hT : ∀ s : Shared, s.heap = h → s.TypeIs self T) (hb : entryFor table id = some b) (ha : argsOk id ⟨self :: rest, []⟩)
    (H : Do prog w A.in1 (b ⟨self :: rest, []⟩) (fun fin h' => ∃ v, fin = .done (.ret v) ∧ Q v h') h) : Do prog w A (call (.builtin id) (self :: rest)) Q h :=
  fun s hs => wpAny_call_entry sl (hT s hs) hb (wpAny_mono (H s hs) (fun fin s' x => let ⟨v, e, q⟩ := x.2; ⟨v, e, x.1, q⟩) fun _ _ x => x) ha
theorem d_method {T : String} {name : Str} {id : String} {a : Addr} {o : Obj} {pl : Sem Bool} {Q : Value × List Value → Heap → Prop} (ho : h.get? a = some o) (hc : o.cls = .type T) (hd : o.dict = none) (pa : PlainAttrs T) (sl : Slot T name id) (ty : typeOf (.builtin id) = pure (.type "method_descriptor"))
    (q : Q (.builtin id, [.ref a]) h) : Do prog w A (getMethod (.ref a) name pl) Q h :=
  fun s hs => by subst hs; exact getMethod_builtin ⟨o, ho, hc⟩ pa sl ty (fun b e => by cases e; exact ⟨o, ho, hd⟩) ⟨Same.rfl, q⟩
theorem d_seqItems {a : Addr} {ws : List Value} {n : Nat} {cls : Value} {d : Option Addr} {sl : Array (Option Value)} {Q : Option (Array Value) → Heap → Prop} (ho : h.get? a = some ⟨cls, d, .seq ws.toArray n, sl⟩) (q : Q (some ws.toArray) h) : Do prog w A (seqItems? (.ref a)) Q h :=
  Do.bind (Do.load ho (Do.pure q))
theorem d_rawItems {a : Addr} {ws : List Value} {n : Nat} {Q : Array Int → Heap → Prop} (ho : h.get? a = some (tupO ws n)) (q : Q (ws.toArray.map reRawOf) h) : Do prog w A (reRawItems (.ref a)) Q h := by
  unfold reRawItems
  exact Do.bind (d_seqItems ho (Do.pure q))

theorem textOf_str (x : Str) (t : Tok) : reTextOf (.str x t) = pure (x.cps, 0) := rfl
theorem d_target {k a groups : Nat} {id f : String} {l : List Nat} {t : Tok} {Q : ReTarget → Heap → Prop} (P : Pat h k a groups)
    (hz : l.length < 2 ^ 63) (q : Q { pattern := .ref a, string := .str (S l) t, code := pcode k, text := l.toArray, kind := 0, groups := groups, pos := 0, lim := l.length } h) :
    Do prog w A (reTarget id f ⟨[.ref a, .str (S l) t], []⟩) Q h := by
  obtain ⟨x0, x1, x2, x6, T, ws, n, e1, e2, e3, e4, e5⟩ := P
  have g6 : (#[x0, x1, x2, Value.none, Value.none, Value.ref T, x6] : Array Value).getD 6 Value.none = x6 := rfl
  have g5 : (#[x0, x1, x2, Value.none, Value.none, Value.ref T, x6] : Array Value).getD 5 Value.none = .ref T := rfl
  have g2 : (#[x0, x1, x2, Value.none, Value.none, Value.ref T, x6] : Array Value).getD 2 Value.none = x2 := rfl
  have b1 : ((0 : Nat) == 0 && (0 : Nat) == 1) = false := rfl
  have b2 : ((0 : Nat) == 1 && (0 : Nat) == 0) = false := rfl
  have hn : reNoCollectionInside (.str (S l) t) 0 = pure () := rfl
  unfold reTarget
  simp only [named1, pure_bind]
  refine Do.bind (Do.fieldsOf e1 rfl ?_)
  simp only [textOf_str, pure_bind, g6, g5, g2, e3, b1, b2, Bool.false_eq_true, if_false, hn]
  refine Do.bind (d_rawItems e4 (Do.pure ?_))
  rw [e5, e2]
  have m1 : min (Int.toNat 0) l.toArray.size = 0 := by simp
  have m2 : min ((2 : Int) ^ 63 - 1).toNat l.toArray.size = l.length := by
    rw [List.size_toArray]
    have : ((2 : Int) ^ 63 - 1).toNat = 2 ^ 63 - 1 := by decide
    rw [this]
    omega
  rw [m1, m2]
  exact q
theorem d_wholeTarget {k a groups : Nat} {l : List Nat} {t : Tok} {Q : ReTarget → Heap → Prop} (P : Pat h k a groups)
    (q : Q { pattern := .ref a, string := .str (S l) t, code := pcode k, text := l.toArray, kind := 0, groups := groups, pos := 0, lim := l.length } h) :
    Do prog w A (reWholeTarget (.ref a) (.str (S l) t)) Q h := by
  obtain ⟨x0, x1, x2, x6, T, ws, n, e1, e2, e3, e4, e5⟩ := P
  have g6 : (#[x0, x1, x2, Value.none, Value.none, Value.ref T, x6] : Array Value).getD 6 Value.none = x6 := rfl
  have g5 : (#[x0, x1, x2, Value.none, Value.none, Value.ref T, x6] : Array Value).getD 5 Value.none = .ref T := rfl
  have g2 : (#[x0, x1, x2, Value.none, Value.none, Value.ref T, x6] : Array Value).getD 2 Value.none = x2 := rfl
  have b1 : ((0 : Nat) == 0 && (0 : Nat) == 1) = false := rfl
  have b2 : ((0 : Nat) == 1 && (0 : Nat) == 0) = false := rfl
  have hn : reNoCollectionInside (.str (S l) t) 0 = pure () := rfl
  unfold reWholeTarget
  refine Do.bind (Do.fieldsOf e1 rfl ?_)
  simp only [textOf_str, pure_bind, g6, g5, g2, e3, b1, b2, Bool.false_eq_true, if_false, hn]
  refine Do.bind (d_rawItems e4 (Do.pure ?_))
  rw [e5, e2, List.size_toArray]
  exact q

/-- a match object: its text and spans -/
noncomputable def Mo (g : PM) (a : Addr) (l : List Nat) (spans : List Int) : Prop := ∃ (t : Tok) (x1 x2 x3 x4 : Value) (T : Addr),
  g a = some { cls := .type "re.Match", data := .fields #[.str (S l) t, x1, x2, x3, x4, .ref T] } ∧ g T = some (tupO (spans.map rawInt) 0)
theorem Mo.mono {g g' : PM} {a : Addr} {l : List Nat} {sp : List Int} (x : Mo g a l sp) (k : g.Le g') : Mo g' a l sp :=
  let ⟨t, x1, x2, x3, x4, T, e1, e2⟩ := x; ⟨t, x1, x2, x3, x4, T, k _ _ e1, k _ _ e2⟩

variable {W : Heap} {p g : PM} {L : Addr} {own : List (Addr × Obj)} {m : Str → Option Value}
theorem d_newMatch {pat : Value} {l : List Nat} {t : Tok} {b e gb ge pos lim : Nat} {mm : Sre.M} {Q : Value → Heap → Prop} (C : Cx W p g L own m h) (M : Mt b e gb ge mm) (hge : gb ≤ ge)
    (q : ∀ a g' h', g.Le g' → Mo g' a l [b, e, gb, ge] → Cx W p g' L own m h' → Q (.ref a) h') : Do prog w A (reNewMatch pat (.str (S l) t) 1 pos lim mm) Q h := by
  obtain ⟨_, m1, m2, m3, m4⟩ := M
  unfold reNewMatch
  have r1 : List.range 1 = [0] := rfl
  have g0 : (#[some gb, some ge] : Array (Option Nat)).getD (2 * 0) none = some gb := rfl
  have g1 : (#[some gb, some ge] : Array (Option Nat)).getD (2 * 0 + 1) none = some ge := rfl
  have le : (((2 * 0 + 1 : Nat) : Int) ≤ 1) = True := by simp
  have lt : (decide (ge < gb)) = false := by simp; omega
  simp only [r1, m3, m4, g0, g1, le, if_true, List.flatMap_cons, List.flatMap_nil, List.append_nil, List.any_cons, List.any_nil, Bool.or_false, decide_true, Bool.true_and, lt, Bool.false_eq_true, if_false, m1, m2]
  refine Do.bind (d_newTuple C (fun T h₁ hn C₁ => ?_) (by simp; decide))
  refine fun s hs => wpAny_newObj_type ⟨Same.of, ?_⟩ (by size_fits)
  subst hs
  refine q _ _ _ ((PM.le_set hn).trans (C₁.newG_le _)) ⟨t, _, _, _, _, T, PM.set_self, C₁.newG_le _ _ _ PM.set_self⟩ (C₁.newG _)
theorem d_newMatch0 {pat : Value} {l : List Nat} {t : Tok} {b e pos lim : Nat} {mm : Sre.M} {Q : Value → Heap → Prop} (C : Cx W p g L own m h) (M : Mt0 b e mm)
    (q : ∀ a g' h', g.Le g' → Mo g' a l [b, e] → Cx W p g' L own m h' → Q (.ref a) h') : Do prog w A (reNewMatch pat (.str (S l) t) 0 pos lim mm) Q h := by
  obtain ⟨_, m1, m2⟩ := M
  unfold reNewMatch
  have r1 : List.range 0 = [] := rfl
  simp only [r1, List.flatMap_nil, List.any_nil, Bool.false_eq_true, if_false, m1, m2]
  refine Do.bind (d_newTuple C (fun T h₁ hn C₁ => ?_) (by simp; decide))
  refine fun s hs => wpAny_newObj_type ⟨Same.of, ?_⟩ (by size_fits)
  subst hs
  refine q _ _ _ ((PM.le_set hn).trans (C₁.newG_le _)) ⟨t, _, _, _, _, T, PM.set_self, C₁.newG_le _ _ _ PM.set_self⟩ (C₁.newG _)

theorem pat_type {k a groups : Nat} (P : Pat h k a groups) : ∀ s : Shared, s.heap = h → s.TypeIs (.ref a) "re.Pattern" := fun s hs => by
  obtain ⟨x0, x1, x2, x6, T, ws, n, e1, _⟩ := P
  exact ⟨_, hs ▸ e1, rfl⟩
theorem d_patMethod {k a groups : Nat} {name : Str} {id : String} {pl : Sem Bool} {Q : Value × List Value → Heap → Prop} (P : Pat h k a groups) (sl : Slot "re.Pattern" name id) (ty : typeOf (.builtin id) = pure (.type "method_descriptor"))
    (q : Q (.builtin id, [.ref a]) h) : Do prog w A (getMethod (.ref a) name pl) Q h := by
  obtain ⟨x0, x1, x2, x6, T, ws, n, e1, _⟩ := P
  exact d_method e1 rfl rfl pa_pat sl ty q
theorem d_moMethod {a : Addr} {l : List Nat} {sp : List Int} {name : Str} {id : String} {pl : Sem Bool} {Q : Value × List Value → Heap → Prop} (M : Mo g a l sp) (C : Cx W p g L own m h) (sl : Slot "re.Match" name id) (ty : typeOf (.builtin id) = pure (.type "method_descriptor"))
    (q : Q (.builtin id, [.ref a]) h) : Do prog w A (getMethod (.ref a) name pl) Q h := by
  obtain ⟨t, x1, x2, x3, x4, T, e1, e2⟩ := M
  exact d_method (C.kg _ _ e1) rfl rfl pa_mat sl ty q

/-- search that finds -/
theorem d_search {k a n : Nat} {l : List Nat} {t : Tok} {b e gb ge : Nat} {Q : Value → Heap → Prop} (C : Cx W p g L own m h) (P : Pat h k a 1) (hz : l.length ≤ 1000000) (hn : n ≤ 100000000) (hge : gb ≤ ge)
    (R : Rn n (Sre.forSearch (pcode k) l.toArray 1 0 l.length false) (Mt b e gb ge))
    (q : ∀ x g' h', g.Le g' → Mo g' x l [b, e, gb, ge] → Cx W p g' L own m h' → Q (.ref x) h') : Do prog w A (call (.builtin "re.Pattern.search") [.ref a, .str (S l) t]) Q h := by
  refine d_entry sl_search (pat_type P) en_search (ar_search _ _) ?_
  unfold Builtin.«re.Pattern.search»
  refine Do.bind (d_target P (by omega) ?_)
  unfold reAnswer
  refine Do.bind (d_runToEnd (k := n) (by omega) (R.mono fun m' hm => .inl ⟨hm.1, ?_⟩))
  exact Do.bind (d_newMatch C hm hge fun x g' h' le M' C' => Do.pure ⟨_, rfl, q x g' h' le M' C'⟩)
/-- search that finds nothing -/
theorem d_search_no {k a n : Nat} {l : List Nat} {t : Tok} {Q : Value → Heap → Prop} (P : Pat h k a 1) (hz : l.length ≤ 1000000) (hn : n ≤ 100000000)
    (R : Rn n (Sre.forSearch (pcode k) l.toArray 1 0 l.length false) Failed) (q : Q .none h) : Do prog w A (call (.builtin "re.Pattern.search") [.ref a, .str (S l) t]) Q h := by
  refine d_entry sl_search (pat_type P) en_search (ar_search _ _) ?_
  unfold Builtin.«re.Pattern.search»
  refine Do.bind (d_target P (by omega) ?_)
  unfold reAnswer
  refine Do.bind (d_runToEnd (k := n) (by omega) (R.mono fun m' hm => .inr ⟨hm, ?_⟩))
  exact Do.pure ⟨_, rfl, q⟩
theorem d_full {a n : Nat} {l : List Nat} {t : Tok} {b e : Nat} {Q : Value → Heap → Prop} (C : Cx W p g L own m h) (P : Pat h 5 a 0) (hz : l.length ≤ 1000000) (hn : n ≤ 100000000)
    (R : Rn n (Sre.forMatch (pcode 5) l.toArray 0 0 l.length true false) (Mt0 b e))
    (q : ∀ x g' h', g.Le g' → Mo g' x l [b, e] → Cx W p g' L own m h' → Q (.ref x) h') : Do prog w A (call (.builtin "re.Pattern.fullmatch") [.ref a, .str (S l) t]) Q h := by
  refine d_entry sl_full (pat_type P) en_full (ar_full _ _) ?_
  unfold Builtin.«re.Pattern.fullmatch»
  refine Do.bind (d_target P (by omega) ?_)
  unfold reAnswer
  refine Do.bind (d_runToEnd (k := n) (by omega) (R.mono fun m' hm => .inl ⟨hm.1, ?_⟩))
  exact Do.bind (d_newMatch0 C hm fun x g' h' le M' C' => Do.pure ⟨_, rfl, q x g' h' le M' C'⟩)
theorem d_full_no {a n : Nat} {l : List Nat} {t : Tok} {Q : Value → Heap → Prop} (P : Pat h 5 a 0) (hz : l.length ≤ 1000000) (hn : n ≤ 100000000)
    (R : Rn n (Sre.forMatch (pcode 5) l.toArray 0 0 l.length true false) Failed) (q : Q .none h) : Do prog w A (call (.builtin "re.Pattern.fullmatch") [.ref a, .str (S l) t]) Q h := by
  refine d_entry sl_full (pat_type P) en_full (ar_full _ _) ?_
  unfold Builtin.«re.Pattern.fullmatch»
  refine Do.bind (d_target P (by omega) ?_)
  unfold reAnswer
  refine Do.bind (d_runToEnd (k := n) (by omega) (R.mono fun m' hm => .inr ⟨hm, ?_⟩))
  exact Do.pure ⟨_, rfl, q⟩

/-! ### of a match -/
theorem d_found {a : Addr} {l : List Nat} {sp : List Int} {Q : ReFound → Heap → Prop} (M : Mo g a l sp) (C : Cx W p g L own m h)
    (q : ∀ t x1 x2 x3 x4 T, Q { fields := #[.str (S l) t, x1, x2, x3, x4, .ref T], spans := sp.toArray } h) : Do prog w A (reFound (.ref a)) Q h := by
  obtain ⟨t, x1, x2, x3, x4, T, e1, e2⟩ := M
  unfold reFound
  refine Do.bind (Do.fieldsOf (C.kg _ _ e1) rfl ?_)
  have g5 : (#[.str (S l) t, x1, x2, x3, x4, .ref T] : Array Value).getD 5 Value.none = .ref T := rfl
  simp only [g5]
  refine Do.bind (d_rawItems (C.kg _ _ e2) (Do.pure ?_))
  have : ((sp.map rawInt).toArray.map reRawOf) = sp.toArray := by
    rw [List.map_toArray, List.map_map]
    have : (reRawOf ∘ rawInt) = id := rfl
    rw [this, List.map_id]
  rw [this]
  exact q ..
theorem d_groupNo {x : ReFound} {i : Nat} {t : Tok} {Q : Nat → Heap → Prop} (hi : 2 * i < x.spans.size) (q : Q i h) : Do prog w A (reGroupNumber x (.int i t)) Q h := by
  unfold reGroupNumber
  have e1 : asInt? (.int (i : Int) t) = pure (some (i : Int)) := rfl
  have e2 : asIndex (.int (i : Int) t) = pure (i : Int) := rfl
  simp only [e1, e2, pure_bind, Option.isSome_some, if_true]
  rw [if_neg (by simp; omega)]
  exact Do.pure (by simpa using q)
theorem d_groupText {l : List Nat} {t : Tok} {x1 x2 x3 x4 : Value} {T : Addr} {sp : List Int} {i b e : Nat} {d : Value} {Q : Value → Heap → Prop} (hb : sp.toArray.getD (2 * i) (-1) = b) (he : sp.toArray.getD (2 * i + 1) (-1) = e) (hz : l.length ≤ sizeLine)
    (q : ∀ t, Q (.str (S ((l.take e).drop b)) t) h) : Do prog w A (reGroupText { fields := #[.str (S l) t, x1, x2, x3, x4, .ref T], spans := sp.toArray } i d) Q h := by
  unfold reGroupText
  have g0 : (#[.str (S l) t, x1, x2, x3, x4, .ref T] : Array Value).getD 0 Value.none = .str (S l) t := rfl
  simp only [hb, he, g0]
  rw [if_neg (by simp)]
  simp only [textOf_str, pure_bind, Int.toNat_natCast]
  unfold reSlice
  simp only [beq_self_eq_true, if_true]
  have : (⟨(S l).cps.extract b e⟩ : Str) = S ((l.take e).drop b) := by
    show (⟨l.toArray.extract b e⟩ : Str) = _
    rw [List.extract_toArray, List.extract_eq_take_drop, List.drop_take]
  rw [this]
  exact Do.mkStr (by rw [S_len]; simp; omega) q

theorem d_group {a : Addr} {l : List Nat} {sp : List Int} {i b e : Nat} {t : Tok} {Q : Value → Heap → Prop} (M : Mo g a l sp) (C : Cx W p g L own m h) (hi : 2 * i + 1 < sp.length) (hb : sp.toArray.getD (2 * i) (-1) = b) (he : sp.toArray.getD (2 * i + 1) (-1) = e) (hz : l.length ≤ sizeLine)
    (q : ∀ t, Q (.str (S ((l.take e).drop b)) t) h) : Do prog w A (call (.builtin "re.Match.group") [.ref a, .int i t]) Q h := by
  have hT : ∀ s : Shared, s.heap = h → s.TypeIs (.ref a) "re.Match" := fun s hs => by
    obtain ⟨t, x1, x2, x3, x4, T, e1, e2⟩ := M
    exact ⟨_, hs ▸ C.kg _ _ e1, rfl⟩
  refine d_entry sl_group hT en_group (ar_group _ _) ?_
  unfold Builtin.«re.Match.group»
  refine Do.bind (m := noKeywords _ _) (Do.pure ?_)
  refine Do.bind (d_found M C fun t x1 x2 x3 x4 T => ?_)
  refine Do.bind (d_groupNo (by simp; omega) ?_)
  exact Do.bind (d_groupText hb he hz fun t => Do.pure ⟨_, rfl, q t⟩)
theorem d_span {a : Addr} {l : List Nat} {sp : List Int} {b e : Int} {t : Tok} {Q : Value → Heap → Prop} (M : Mo g a l sp) (C : Cx W p g L own m h) (hi : 1 < sp.length) (hb : sp.toArray.getD 0 (-1) = b) (he : sp.toArray.getD 1 (-1) = e)
    (q : ∀ t u x g' h', g.Le g' → g' x = some (tupO [.int b t, .int e u] 0) → Cx W p g' L own m h' → Q (.ref x) h') : Do prog w A (call (.builtin "re.Match.span") [.ref a, .int 0 t]) Q h := by
  have hT : ∀ s : Shared, s.heap = h → s.TypeIs (.ref a) "re.Match" := fun s hs => by
    obtain ⟨t, x1, x2, x3, x4, T, e1, e2⟩ := M
    exact ⟨_, hs ▸ C.kg _ _ e1, rfl⟩
  refine d_entry sl_span hT en_span (ar_span _ _) ?_
  unfold Builtin.«re.Match.span» reOneGroup
  refine Do.bind (Do.bind (m := selfAndSome _ _ _ _ _) (Do.bind (m := noKeywords _ _) (Do.pure (Do.bind (m := checkCount _ _ _ _) (Do.pure (Do.pure ?_))))))
  refine Do.bind (d_found M C fun t' x1 x2 x3 x4 T => ?_)
  refine Do.bind (d_groupNo (i := 0) (by simp; omega) (Do.pure ?_))
  simp only [Nat.mul_zero, Nat.zero_add, hb, he]
  refine Do.bind (Do.mkInt fun t1 => Do.bind (Do.mkInt fun t2 => Do.bind (d_newTuple C (fun x h' hn C' => Do.pure ⟨_, rfl, ?_⟩) (by exact Nat.le_of_ble_eq_true rfl))))
  exact q _ _ _ _ _ (PM.le_set hn) PM.set_self C'
theorem d_moTrue {a : Addr} {l : List Nat} {sp : List Int} {Q : Bool → Heap → Prop} (M : Mo g a l sp) (C : Cx W p g L own m h) (q : Q true h) : Do prog w A (truthy (.ref a)) Q h := fun s hs => by
  subst hs
  have hT : s.TypeIs (.ref a) "re.Match" := by
    obtain ⟨t, x1, x2, x3, x4, T, e1, e2⟩ := M
    exact ⟨_, C.kg _ _ e1, rfl⟩
  unfold truthy
  refine wpAny_bind (wpAny_callSpecial?_none hT no_bool ?_)
  refine wpAny_bind (wpAny_specialOf hT no_len ?_)
  exact wpAny_pure ⟨Same.rfl, q⟩
end

section
variable {prog : Program} {w : World} {A : Around} {E : Value → Shared → Prop} {h : Heap} {g : Array GenState} {d : Drawn} {t : Nat} {os : OsState} {a : Addr} {o : Obj} {vs : Array Value} {a0 : Value}
theorem string_get {R : Result → Shared → Prop} (hx : h.get? a = some o) (hc : o.cls = .type "re.Match") (hd : o.data = .fields vs) (h0 : vs[0]? = some a0) (hnd : (a0 == doubtfulMember) = false) (hq : R (.ok (.ret a0)) ⟨h, g, d, t, os⟩) :
    codeAny (model prog w) A (.call (.builtin "member_descriptor.__get__") ⟨[.builtin "re.Match.string", .ref a, .type "re.Match"], []⟩) R ⟨h, g, d, t, os⟩ := by
  have hT : (⟨h, g, d, t, os⟩ : Shared).TypeIs (.ref a) "re.Match" := ⟨_, hx, hc⟩
  have hT5 : (⟨h, g, d, t, os⟩ : Shared).TypeIs (.builtin "re.Match.string") "member_descriptor" := ty_string
  have f8 : isSubtype (.type "re.Match") (.type (".".intercalate ("re.Match.string".cutAt '.').dropLast)) = pure true := by rw [ow_string]; exact sub_mat
  refine codeAny_call_builtin sl_mdget.plain en_mdget (sl_mdget.check _ _ _ _ _ _ _ _ hT5 (ar_mdget _ _ _) ?_)
  repeat (any_goals (first | assumption | wp_step))
  refine ⟨Code.quiet_builtin _ (by decide +kernel), codeAny_builtin en_string ?_⟩
  unfold Builtin.«re.Match.string»
  exact wpAny_bind (wpAny_field hx hd h0 (wpAny_pure hq))
theorem string_entry {tk : Tok} {Q : Fin → Shared → Prop} (hx : h.get? a = some o) (hc : o.cls = .type "re.Match") (hd : o.data = .fields vs) (h0 : vs[0]? = some a0) (hnd : (a0 == doubtfulMember) = false) (hq : Q (.done (.ret a0)) ⟨h, g, d, t, os⟩) :
    wpAny (model prog w) A (Builtin.«object.__getattribute__» ⟨[.ref a, .str "string" tk], []⟩) Q E ⟨h, g, d, t, os⟩ := by
  have hT : (⟨h, g, d, t, os⟩ : Shared).TypeIs (.ref a) "re.Match" := ⟨_, hx, hc⟩
  have hT5 : (⟨h, g, d, t, os⟩ : Shared).TypeIs (.builtin "re.Match.string") "member_descriptor" := ty_string
  have f4 := lk_string
  have f5 := ty_string
  have f6 := sl_mdget.lookup
  have f7 := sl_mdset.lookup
  repeat (any_goals (first | assumption | wp_step))
  refine string_get hx hc hd h0 hnd ?_
  repeat (any_goals (first | assumption | wp_step))
theorem string_call {tk : Tok} {R : Result → Shared → Prop} (hx : h.get? a = some o) (hc : o.cls = .type "re.Match") (hd : o.data = .fields vs) (h0 : vs[0]? = some a0) (hnd : (a0 == doubtfulMember) = false) (hq : R (.ok (.ret a0)) ⟨h, g, d, t, os⟩) :
    codeAny (model prog w) A (.call (.builtin "object.__getattribute__") ⟨[.ref a, .str "string" tk], []⟩) R ⟨h, g, d, t, os⟩ :=
  codeAny_call_builtin sl_mga.plain en_oga (sl_mga.check _ _ _ _ _ _ _ _ (show (⟨h, g, d, t, os⟩ : Shared).TypeIs (.ref a) "re.Match" from ⟨_, hx, hc⟩) (ar_oga _ _) (string_entry hx hc hd h0 hnd hq))
theorem string_by {tk : Tok} {fill expr : Bool} {x : Str} {u : Tok} {Q : Value → Shared → Prop} (hx : h.get? a = some o) (hc : o.cls = .type "re.Match") (hd : o.data = .fields vs) (h0 : vs[0]? = some (.str x u))
    (hq : Q (.str x u) ⟨h, g, d, t, os⟩) : wpAny (model prog w) A (getAttrBy (.ref a) (.str "string" tk) fill expr) Q E ⟨h, g, d, t, os⟩ := by
  have hT : (⟨h, g, d, t, os⟩ : Shared).TypeIs (.ref a) "re.Match" := ⟨_, hx, hc⟩
  have f2 := sl_mga.lookup
  have f3 := sl_mga.bind (.ref a)
  have hx0 : (expr && onTheHeap (Value.builtin "object.__getattribute__")) = false := by cases expr <;> rfl
  repeat (any_goals (first | assumption | wp_step))
  refine string_call hx hc hd h0 (by first | rfl | decide | simp [doubtfulMember, rawInt]) ?_
  repeat (any_goals (first | assumption | wp_step))
theorem string_attr {expr : Bool} {x : Str} {u : Tok} {Q : Value → Shared → Prop} (hx : h.get? a = some o) (hc : o.cls = .type "re.Match") (hd : o.data = .fields vs) (h0 : vs[0]? = some (.str x u))
    (hq : Q (.str x u) ⟨h, g, d, t + 1, os⟩) : wpAny (model prog w) A (getAttr (.ref a) "string" expr) Q E ⟨h, g, d, t, os⟩ := by
  unfold getAttr
  repeat (any_goals (first | assumption | with_reducible apply string_by hx hc hd h0 | wp_step))
end
theorem d_string {prog : Program} {w : World} {A : Around} {W h : Heap} {p g : PM} {L : Addr} {own : List (Addr × Obj)} {m : Str → Option Value} {a : Addr} {l : List Nat} {sp : List Int} {ex : Bool} {Q : Value → Heap → Prop} (M : Mo g a l sp) (C : Cx W p g L own m h)
    (q : ∀ t, Q (.str (S l) t) h) : Do prog w A (getAttr (.ref a) "string" ex) Q h := fun s hs => by
  subst hs
  obtain ⟨t, x1, x2, x3, x4, T, e1, e2⟩ := M
  obtain ⟨hh, gs, dr, tk, os⟩ := s
  exact string_attr (C.kg _ _ e1) rfl rfl rfl ⟨Same.of, q t⟩
end

section
open PySem PySem.W PySem.Calls PyProof.Rows

/-- a code table: empty, or it holds the one code that was made at pos -/
noncomputable def TabOk (g : PM) (ps : Array Value) (pos : Pos) (qual : Str) : Prop :=
  ps = #[] ∨ ∃ c oc vs t, ps = #[rawInt pos.line, rawInt pos.col, .ref c] ∧ g c = some oc ∧ oc.data = .fields vs ∧ vs[1]? = some (.str qual t)
theorem TabOk.mono {g g' : PM} {ps : Array Value} {pos : Pos} {qual : Str} (x : TabOk g ps pos qual) (k : g.Le g') : TabOk g' ps pos qual :=
  x.imp id fun ⟨c, oc, vs, t, e1, e2, e3⟩ => ⟨c, oc, vs, t, e1, k _ _ e2, e3⟩

section
variable {W h h' : Heap} {p g : PM} {L a : Addr} {own : List (Addr × Obj)} {m : Str → Option Value} {o o' : Obj}
theorem Cx.ext (C : Cx W p g L ((a, o) :: own) m h) (hx : Heap.ExtBut a h h') (ho : h'.get? a = some o') : Cx W p g L ((a, o') :: own) m h' :=
  let D := C.gone hx
  { ns := D.ns, kp := D.kp, kg := D.kg, wp := D.wp, pg := D.pg, pL := D.pL, gL := D.gL
    ow := fun q hq => by
      rcases List.mem_cons.mp hq with rfl | hq
      · exact ⟨ho, (C.ow _ (.head _)).2⟩
      · exact D.ow q hq
    nd := C.nd }
/-- an object that was not there before, taken into the data -/
theorem Cx.take {b : Addr} {ob : Obj} (C : Cx W p g L own m h') (hb : h'.get? b = some ob) (hp : p b = none) (hL : b ≠ L) (ho : b ∉ own.map (·.1)) : Cx W p (g.set b ob) L own m h' where
  ns := C.ns
  kp := C.kp
  kg := fun c o' e => (PM.set_some e).elim (fun ⟨x, y⟩ => by rw [x, y]; exact hb) fun ⟨_, x⟩ => C.kg c o' x
  wp := C.wp
  pg := fun c o' e => (PM.set_some e).elim (fun ⟨x, _⟩ => by rw [x]; exact hp) fun ⟨_, x⟩ => C.pg c o' x
  pL := C.pL
  gL := by
    unfold PM.set
    rw [if_neg (fun q => hL q.symm)]
    exact C.gL
  ow := fun q hq => by
    obtain ⟨x1, x2, x3, x4⟩ := C.ow q hq
    refine ⟨x1, x2, ?_, x4⟩
    unfold PM.set
    rw [if_neg, x3]
    intro e
    exact ho (e ▸ List.mem_map_of_mem hq)
  nd := C.nd
end

section
variable {prog : Program} {w : World} {A : Around} {W h : Heap} {p g : PM} {L f : Addr} {own X rest : List (Addr × Obj)} {m mg mb : Str → Option Value}

theorem made_tail {P : Addr} {ps : Array Value} {pos : Pos} {qual : Str} {h' : Heap} {fo : Obj} {c' : Addr} (hf : fo.isFreed = false) (C : Cx W p g L ((P, tabObj ps) :: own) m h) (hx : Heap.ExtBut P h h') (hge : h.objs.size ≤ c') (hrec : h'.CodeRec (.ref c') qual)
    (htb : h'.get? P = some (tabObj #[rawInt pos.line, rawInt pos.col, .ref c'])) :
    ∃ g', g.Le g' ∧ g' h'.objs.size = some fo ∧ (∃ oc vs t, g' c' = some oc ∧ oc.data = .fields vs ∧ vs[1]? = some (.str qual t)) ∧ TabOk g' #[rawInt pos.line, rawInt pos.col, .ref c'] pos qual ∧
      Cx W p g' L ((P, tabObj #[rawInt pos.line, rawInt pos.col, .ref c']) :: own) m (h'.push fo) := by
  obtain ⟨c₂, oc, vs, t, e2, hoc, hd, hv⟩ := hrec
  cases e2
  have C1 := C.ext hx htb
  have hfresh : ∀ (x : PM), (∀ a o, x a = some o → h.get? a = some o) → x c' = none := fun x k => by
    cases e : x c' with
    | none => rfl
    | some o => exact absurd (Heap.lt_size (k _ _ e)) (Nat.not_lt.mpr hge)
  have hg0 : g c' = none := hfresh g C.kg
  have C2 := C1.take hoc (hfresh p C.kp) (fun e => Nat.not_lt.mpr hge (e ▸ C.ns.lt)) (fun hm => by
    obtain ⟨q, hq, e⟩ := List.mem_map.mp hm
    rcases List.mem_cons.mp hq with rfl | hq
    · exact Nat.not_lt.mpr hge (e ▸ Heap.lt_size (C.ow _ (.head _)).1)
    · exact Nat.not_lt.mpr hge (e ▸ Heap.lt_size (C.ow q (.tail _ hq)).1))
  have C3 := C2.newG fo hf
  have le1 : g.Le (g.set c' oc) := PM.le_set hg0
  have le2 : (g.set c' oc).Le ((g.set c' oc).set h'.objs.size fo) := C2.newG_le fo
  have hc : ((g.set c' oc).set h'.objs.size fo) c' = some oc := le2 _ _ PM.set_self
  exact ⟨_, le1.trans le2, PM.set_self, ⟨oc, vs, t, hc, hd, hv⟩, .inr ⟨c', oc, vs, t, rfl, hc, hd, hv⟩, C3⟩

/-- what was made: a function object with its code -/
noncomputable def FnAt (g : PM) (f : Addr) (fd : FuncData) (qual : Str) : Prop := g f = some { cls := .type "function", data := .func fd } ∧ ∃ c oc vs t, fd.code = .ref c ∧ fd.qualname = qual ∧ g c = some oc ∧ oc.data = .fields vs ∧ vs[1]? = some (.str qual t)
theorem FnAt.mono {g g' : PM} {f : Addr} {fd : FuncData} {qual : Str} (x : Mine.FnAt g f fd qual) (k : g.Le g') : Mine.FnAt g' f fd qual :=
  ⟨k _ _ x.1, let ⟨c, oc, vs, t, e1, e2, e3, r⟩ := x.2; ⟨c, oc, vs, t, e1, e2, k _ _ e3, r⟩⟩
theorem FnAt.rec {f : Addr} {fd : FuncData} {qual : Str} (x : Mine.FnAt g f fd qual) (C : Cx W p g L own m h) : h.CodeRec fd.code fd.qualname :=
  let ⟨c, oc, vs, t, e1, e2, e3, e4, e5⟩ := x.2; ⟨c, oc, vs, t, e1, C.kg _ _ e3, e4, e2 ▸ e5⟩

theorem builtinsAt {c P : Addr} {ps : Array Value} (V : Wd w W mg mb) (C : Cx W p g L ((P, tabObj ps) :: own) m h) : h.BuiltinsAt mg P ∧ mainGlobals ≠ P := by
  obtain ⟨lo, mean, T⟩ := V.top
  have hm := (C.ow _ (.head _)).1
  have hgs := V.g.keeps C.kw
  obtain ⟨bm, ob, b1, b2, b3, b4, b5, b6⟩ := T.bmain
  have hgP : mainGlobals ≠ P := fun q => by
    obtain ⟨o, es, ep, e, hd, _⟩ := hgs
    rw [q, hm] at e; cases e; cases hd
  have hbP : bm ≠ P := fun q => by
    have e := C.kw _ _ b3
    rw [q, hm] at e; cases e; cases b4
  have hbG : bm ≠ mainGlobals := fun q => by
    obtain ⟨o, es, ep, e, hd, _⟩ := T.g
    rw [q, e] at b3; cases b3; rw [hd] at b6; cases b6
  exact ⟨⟨bm, ob, b1, b2, hbG, hbP, C.kw _ _ b3, b4, b5, b6⟩, hgP⟩

/-- a lambda, made for the first time or again -/
theorem d_Lambda {params : Arguments} {body : Expr} {scope : Scope} {pos : Pos} {env : Env} {c P : Addr} {ps : Array Value} {Q : Value → Heap → Prop} (V : Wd w W mg mb) (H : CodeHd W c P) (C : Cx W p g L ((P, tabObj ps) :: own) m h)
    (tk : TabOk g ps pos (env.qual ++ "<lambda>")) (hc : env.code = .ref c)
    (q : ∀ fa g' ps' cd ctv h', g.Le g' → Mine.FnAt g' fa (kla_fn "<lambda>" (env.qual ++ "<lambda>") params body scope [] ((mg "__name__").getD .none) cd ctv) (env.qual ++ "<lambda>") → TabOk g' ps' pos (env.qual ++ "<lambda>") → Cx W p g' L ((P, tabObj ps') :: own) m h' → Q (.ref fa) h')
    (hdef : defaultsOf params env = ([], []) := by rfl) (hcl : closureFor scope env = pure [] := by rfl) (hge0 : env.globals = mainGlobals := by rfl) : Do prog w A (eval (.Lambda params body scope pos) env) Q h := fun s hs => by
  subst hs
  obtain ⟨hb, hgP⟩ := builtinsAt (c := c) V C
  have hm := (C.ow _ (.head _)).1
  have CH : CodeHd s.heap c P := H.keeps C.kw
  rcases tk with rfl | ⟨c0, oc, vs, t, rfl, e1, e2, e3⟩
  · refine kla_eval hdef (kla_makeFunction (mg := mg) hcl hge0 (V.g.keeps C.kw) hc CH hm trivial rfl hgP hb fun c' ctv h' tk' hx hge hlt hrec htb => ⟨Same.of, ?_⟩)
    have htb' : h'.get? P = some (tabObj #[rawInt pos.line, rawInt pos.col, .ref c']) := by simpa using htb
    obtain ⟨g', le, e1, ⟨oc, vs, t, k1, k2, k3⟩, e3, C'⟩ := made_tail (fo := kla_obj "<lambda>" (env.qual ++ "<lambda>") params body scope [] ((mg "__name__").getD .none) c' ctv) rfl C hx hge hrec htb'
    exact q _ g' _ (.ref c') ctv _ le ⟨e1, c', oc, vs, t, rfl, rfl, k1, k2, k3⟩ e3 C'
  · have hf : codeAmong pos (#[rawInt pos.line, rawInt pos.col, .ref c0] : Array Value).toList = some (.ref c0) := by simp [codeAmong, rawInt]
    refine kla_eval hdef (kla_makeFunctionHit (mg := mg) hcl hge0 (V.g.keeps C.kw) hc CH hm trivial hf hb fun ctv h' tk' hk hsz => ⟨Same.of, ?_⟩)
    have C1 := C.keep hk
    have C2 := C1.newG (kla_obj "<lambda>" (env.qual ++ "<lambda>") params body scope [] ((mg "__name__").getD .none) c0 ctv)
    exact q _ _ _ (.ref c0) ctv _ (C1.newG_le _) ⟨PM.set_self, c0, oc, vs, t, rfl, rfl, C1.newG_le _ _ _ e1, e2, e3⟩ (.inr ⟨c0, oc, vs, t, rfl, C1.newG_le _ _ _ e1, e2, e3⟩) C2

/-- a def within a def, made once -/
theorem d_Def {name : Str} {params : Arguments} {body : List Stmt} {scope : Scope} {pos : Pos} {env : Env} {c P : Addr} {Q : Flow → Heap → Prop} (V : Wd w W mg mb) (H : CodeHd W c P) (C : Cx W p g env.locals ((P, tabObj #[]) :: own) m h) (hc : env.code = .ref c)
    (q : ∀ fa g' ps' cd ctv doc h', g.Le g' → Mine.FnAt g' fa (fnX name (qualnameIn env name name) params body scope [] .none .none doc ((mg "__name__").getD .none) none cd ctv) (qualnameIn env name name) →
      Cx W p g' env.locals ((P, tabObj ps') :: own) (fun y => if y = name then some (.ref fa) else m y) h' → Q .next h')
    (hd0 : params.defaults = [] := by rfl) (hk0 : params.kw_defaults = [] := by rfl) (ha : annTrees params none env = [] := by rfl) (hcl : closureFor scope env = pure [] := by rfl) (hge0 : env.globals = mainGlobals := by rfl)
    (hl : env.kindOf name = some .local := by rfl) (hp : (env.scope.kind == .class || (env.scope.kind == .module && env.locals != env.globals)) = false := by rfl) :
    Do prog w A (exec (.FunctionDef name params body [] none [] scope none name pos) env) Q h := fun s hs => by
  subst hs
  obtain ⟨hb, hgP⟩ := builtinsAt (c := c) V C
  have hm := (C.ow _ (.head _)).1
  have CH : CodeHd s.heap c P := H.keeps C.kw
  refine nestDef_K hd0 hk0 ha (makeFunction_K (mg := mg) hcl hge0 (V.g.keeps C.kw) hc CH hm trivial rfl hgP hb fun c' ctv doc h' tk' hx hge hlt hrec htb => ?_)
  have htb' : h'.get? P = some (tabObj #[rawInt pos.line, rawInt pos.col, .ref c']) := by simpa using htb
  obtain ⟨g', le, e1, ⟨oc, vs, t, k1, k2, k3⟩, e3, C'⟩ := made_tail (fo := fnMade name (qualnameIn env name name) params body scope [] doc ((mg "__name__").getD .none) c' ctv) rfl C hx hge hrec htb'
  refine wpAny_storeName_local hl C'.ns (fun h'' hn hb => ⟨Same.of, ?_⟩) hp
  exact q _ g' _ (.ref c') ctv doc _ le ⟨e1, c', oc, vs, t, rfl, rfl, k1, k2, k3⟩ (C'.store hn hb)

/-- a lambda called -/
theorem call_lam {n : Nat} {qual : Str} {fd : FuncData} {body : Expr} {args : List Value} {binds : List (Str × Value)} {Q : Value → Heap → Prop}
    (V : Wd w W mg mb) (hA : Ar (n + 1) A) (C : Cx W p g L (X ++ rest) m h) (ho : Mine.FnAt g f fd qual)
    (hbody : fd.body = .expr body) (hbind : bindArgs fd ⟨args, []⟩ = pure binds)
    (hcell : ∀ x ∈ fd.scope.names, x.2 ≠ .cell) (hloc : ∀ x ∈ binds, fd.scope.names.lookup x.1 = some .local)
    (H : ∀ p' L' h₁ A', Cx W p' g L' X (fun x => binds.reverse.lookup x) h₁ → Ar n A' →
      Do prog w A' (eval body (callEnv fd L' f)) (fun v => Ret W p' g L' (X.map (·.1)) (fun v g' X' h' => Cx W p g' L (X' ++ rest) m h' → Q v h') (.ret v)) h₁)
    (hco : fd.scope.isCoroutine = false := by rfl) (hgen : fd.scope.isGenerator = false := by rfl) (hk : fd.scope.kind = .function := by rfl) :
    Do prog w A (call (.ref f) args) Q h := by
  refine Do.call fun s hs => ?_
  subst hs
  refine kla_callFunE hA.room (C.kg _ _ ho.1) rfl hco hgen hbody (ho.rec C) ?_
  rw [hbind]
  refine wpAny_pure (wpAny_newFunctionEnv hcell hloc (fun h₁ hns hsb => ⟨(V.lim.keeps C.kw).fresh _ hsb, ?_⟩) hk)
  have hk₁ : ∀ b o, s.heap.get? b = some o → h₁.get? b = some o := fun b o e => hsb.extBut b o (Nat.ne_of_lt (Heap.lt_size e)) (Heap.get?_push_of_some _ e)
  refine kla_codeExpr (wpAny_mono (H (inner X g s.heap) s.heap.objs.size h₁ _ (C.enter hns hk₁) (hA.deeper _) _ rfl) (fun v s' x => ?_) fun _ _ y => y.elim)
  obtain ⟨x1, g', own', m', X', le, C', hX, hA', K⟩ := x
  exact ⟨Same.of.trans x1, K (C.leave C' hX hA')⟩

/-- a def that was made within a def, called -/
theorem call_made {n : Nat} {qual : Str} {fd : FuncData} {body : List Stmt} {args : List Value} {binds : List (Str × Value)} {Q : Value → Heap → Prop}
    (V : Wd w W mg mb) (hA : Ar (n + 1) A) (C : Cx W p g L (X ++ rest) m h) (ho : Mine.FnAt g f fd qual)
    (hbody : fd.body = .stmts body) (hbind : bindArgs fd ⟨args, []⟩ = pure binds)
    (hcell : ∀ x ∈ fd.scope.names, x.2 ≠ .cell) (hloc : ∀ x ∈ binds, fd.scope.names.lookup x.1 = some .local)
    (H : ∀ p' L' h₁ A', Cx W p' g L' X (fun x => binds.reverse.lookup x) h₁ → Ar n A' →
      Do prog w A' (execs body (callEnv fd L' f)) (Ret W p' g L' (X.map (·.1)) fun v g' X' h' => Cx W p g' L (X' ++ rest) m h' → Q v h') h₁)
    (hco : fd.scope.isCoroutine = false := by rfl) (hgen : fd.scope.isGenerator = false := by rfl) (hk : fd.scope.kind = .function := by rfl) :
    Do prog w A (call (.ref f) args) Q h :=
  call_Cx C hA.room V.lim (C.kg _ _ ho.1) rfl (ho.rec C) hbody (fun _ _ => BindsTo.of_eq hbind) hcell hloc (fun p' L' h₁ C₁ => H p' L' h₁ _ C₁ (hA.deeper _)) hco hgen hk
end
end

section
open PySem PySem.W PySem.Calls PyProof.Rows PySem.Builtin.Re

/-! ### lists of texts -/
noncomputable def sv (l : List (List Nat × Tok)) : List Value := l.map fun p => .str (S p.1) p.2
theorem sv_append (a b : List (List Nat × Tok)) : sv (a ++ b) = sv a ++ sv b := List.map_append
theorem sv_len (l : List (List Nat × Tok)) : (sv l).length = l.length := by simp [sv]
noncomputable def joinL (sep : List Nat) : List (List Nat) → List Nat
  | [] => []
  | x :: r => x ++ r.flatMap fun y => sep ++ y
theorem glued_foldl (sep : List Nat) : ∀ (r : List (List Nat)) (acc : List Nat), (r.map S).foldl (fun (acc : Array Nat) p => acc ++ (S sep).cps ++ p.cps) acc.toArray = (acc ++ r.flatMap fun y => sep ++ y).toArray
  | [], acc => by simp
  | y :: r, acc => by
    have := glued_foldl sep r (acc ++ sep ++ y)
    simp only [List.map_cons, List.foldl_cons, List.flatMap_cons]
    rw [show (acc.toArray ++ (S sep).cps ++ (S y).cps) = (acc ++ sep ++ y).toArray from by simp [S]]
    rw [this]
    simp
theorem glued_S (sep : List Nat) (xs : List (List Nat)) : Builtin.Str.glued (S sep) (xs.map S) = S (joinL sep xs) := by
  unfold Builtin.Str.glued
  cases xs with
  | nil => rfl
  | cons x r =>
    have := glued_foldl sep r x
    show (⟨((x :: r).map S |>.drop 1).foldl _ _⟩ : Str) = _
    simp only [List.map_cons, List.drop_succ_cons, List.drop_zero, List.headD_cons]
    rw [this]
    rfl
theorem long_foldl (k : Nat) : ∀ (xs : List (List Nat)) (acc : Nat), (xs.map S).foldl (fun (a : Nat) (p : Str) => a + p.length + k) acc = acc + (xs.map List.length).sum + xs.length * k
  | [], acc => by simp
  | x :: r, acc => by
    simp only [List.map_cons, List.foldl_cons, List.sum_cons, List.length_cons]
    rw [long_foldl k r, S_len, Nat.succ_mul]
    omega

theorem fm_len (sep : List Nat) : ∀ r : List (List Nat), (r.flatMap fun y => sep ++ y).length = (r.map List.length).sum + r.length * sep.length
  | [] => by simp
  | y :: r => by
    rw [List.flatMap_cons, List.length_append, List.length_append, fm_len sep r, List.map_cons, List.sum_cons, List.length_cons, Nat.succ_mul]
    omega
theorem joinL_len (sep : List Nat) (xs : List (List Nat)) : (joinL sep xs).length ≤ (xs.map List.length).sum + xs.length * sep.length := by
  cases xs with
  | nil => simp [joinL]
  | cons x r =>
    rw [joinL, List.length_append, fm_len, List.map_cons, List.sum_cons, List.length_cons, Nat.succ_mul]
    omega

section
variable {prog : Program} {w : World} {A : Around} {h : Heap}
theorem d_join {a : Addr} {l : List (List Nat × Tok)} {n : Nat} {sep : List Nat} {t : Tok} {Q : Value → Heap → Prop} (ho : h.get? a = some (lstO (sv l) n)) (hz : ((l.map (·.1)).map List.length).sum + l.length * sep.length ≤ sizeLine)
    (q : ∀ t, Q (.str (S (joinL sep (l.map (·.1)))) t) h) : Do prog w A (call (.builtin "str.join") [.str (S sep) t, .ref a]) Q h := fun s hs => by
  subst hs
  have hl : (l.map fun p => (S p.1, p.2)).map (·.1) = (l.map (·.1)).map S := by simp
  have e : sv l = strValues (l.map fun p => (S p.1, p.2)) := by simp [sv, strValues]
  have hlong : Builtin.Str.tooLong (((l.map fun p => (S p.1, p.2)).map (·.1)).toArray.foldl (· + ·.length + (S sep).length) 0) = false := by
    rw [hl]
    unfold Builtin.Str.tooLong
    have := long_foldl sep.length (l.map (·.1)) 0
    rw [List.foldl_toArray', S_len, this]
    · simp at hz ⊢; omega
    · rfl
  refine call_meets PySem.F.slot_str_join (typeIs_str _ _ _) PySem.F.entry_str_join (PySem.F.args_str_join_2 _ _) (meets_str_join_list (S sep) t a (l.map fun p => (S p.1, p.2)) hlong) ⟨⟨_, ho, rfl, n, by rw [e]⟩, ?_⟩
  have hz2 : (joinL sep (l.map (·.1))).length ≤ sizeLine := Nat.le_trans (joinL_len _ _) (by simpa using hz)
  have hg : Builtin.Str.glued (S sep) ((l.map fun p => (S p.1, p.2)).map (·.1)) = S (joinL sep (l.map (·.1))) := by rw [hl, glued_S]
  have big : (Made.str (Builtin.Str.glued (S sep) ((l.map fun p => (S p.1, p.2)).map (·.1)))).post (fun v s' => (fun r s' => match r with | Except.ok (Flow.ret v) => Same s s' ∧ Q v s'.heap | Except.ok _ => False | Except.error e => NoE e s') (.ok (.ret v)) s') s := by
    rw [hg]
    exact ⟨by rw [S_len]; exact hz2, Same.of, q _⟩
  match l, q, big with
  | [], q, big => exact big
  | [x], q, big =>
    refine ⟨Same.rfl, ?_⟩
    have := q x.2
    simpa [joinL] using this
  | x :: y :: r, q, big => exact big

variable {W : Heap} {p g : PM} {L : Addr} {own : List (Addr × Obj)} {m : Str → Option Value}
theorem Cx.pushed {a : Addr} {vs : List Value} {n : Nat} {v : Value} (C : Cx W p g L ((a, lstO vs n) :: own) m h) : Cx W p g L ((a, lstO (vs ++ [v]) (n + 1)) :: own) m (h.update a (Obj.mapSeq (·.push v))) := by
  have ho := (C.ow _ (.head _)).1
  refine C.upd0 (Heap.SameBut.update _ _ _) ?_
  refine (Heap.get?_update_self _ ho rfl).trans ?_
  simp [Obj.mapSeq]
theorem d_push {a : Addr} {vs : List Value} {n : Nat} {v : Value} {Q : Unit → Heap → Prop} (C : Cx W p g L ((a, lstO vs n) :: own) m h) (hz : vs.length ≤ sizeLine)
    (q : ∀ h', Cx W p g L ((a, lstO (vs ++ [v]) (n + 1)) :: own) m h' → Q () h') : Do prog w A (updateSeq a (·.push v)) Q h := fun s hs => by
  subst hs
  exact wpAny_updateSeq (C.ow _ (.head _)).1 rfl ⟨Same.of, q _ C.pushed⟩ (by simpa using hz) (by simp; omega)

theorem fn_call : typeLookup (.type "function") "__call__" = pure (some (.builtin "function.__call__")) := by rw [typeLookup_type, builtinLookup_eq_fast]; kernel_rfl
theorem str_nocall : typeLookup (.type "str") "__call__" = pure none := by rw [typeLookup_type, builtinLookup_eq_fast]; kernel_rfl
theorem notHeld (x : Str) (t : Tok) (id : String) : reNotHeld id (.str x t) = pure () := by
  unfold reNotHeld
  kernel_rfl

/-- what the function in re.sub hands back for a match of its one sign -/
noncomputable def Rep (prog : Program) (w : World) (n : Nat) (W : Heap) (p g : PM) (L : Addr) (m : Str → Option Value) (F : Addr) (l : List Nat) (r : Nat → List Nat) : Prop :=
  ∀ (A : Around) (own : List (Addr × Obj)) (g' : PM) (h : Heap) (a : Addr) (b e gb c : Nat) (Q : Value → Heap → Prop), Ar n A → g.Le g' → Mo g' a l [b, e, gb, (gb + 1 : Nat)] → (l.take (gb + 1)).drop gb = [c] → Cx W p g' L own m h →
    (∀ t g'' h', g'.Le g'' → Cx W p g'' L own m h' → Q (.str (S (r c)) t) h') → Do prog w A (call (.ref F) [.ref a]) Q h

abbrev subArgs (a : Addr) (l : List Nat) (t : Tok) (repl : Value) (way : Int) (n done : Nat) (P : Addr) (withCount : Bool) : Args :=
  ⟨[.ref a, .str (S l) t, repl, rawInt way, rawInt 0, rawInt n, rawInt done, rawInt done, .bool false, .ref P, .bool withCount], []⟩
theorem pl_loop : plainId "re.Pattern.sub.loop" = true := by decide +kernel

theorem d_codeB {id : String} {args : Args} {b : Builtin} {Q : Value → Heap → Prop} (hb : entryFor table id = some b) (hp : plainId id = true)
    (H : Do prog w A.in1 (b args) (fun fin h' => (∃ v, fin = .done (.ret v) ∧ Q v h') ∨ (∃ c, fin = .again c ∧ c.quiet = true ∧ DoC prog w A c Q h')) h) : DoC prog w A (.builtin id args) Q h := fun s hs => by
  refine codeAny_builtin hb ?_
  rw [Around.under_plainId hp]
  refine wpAny_mono (H s hs) (fun fin s' x => ?_) fun _ _ x => x.elim
  obtain ⟨e, x⟩ := x
  rcases x with ⟨v, rfl, q⟩ | ⟨c, rfl, hq, D⟩
  · exact ⟨e, q⟩
  · refine ⟨hq, codeAny_mono (D s' rfl) fun r s'' y => ?_⟩
    match r, y with
    | .ok (.ret v), y => exact ⟨e.trans y.1, y.2⟩
theorem slice_S {l : List Nat} {b e : Nat} {Q : Value → Heap → Prop} (hz : l.length ≤ sizeLine) (q : ∀ t, Q (.str (S ((l.take e).drop b)) t) h) : Do prog w A (reSlice l.toArray 0 b e) Q h := by
  unfold reSlice
  simp only [beq_self_eq_true, if_true]
  have : (⟨l.toArray.extract b e⟩ : Str) = S ((l.take e).drop b) := by
    rw [List.extract_toArray, List.extract_eq_take_drop, List.drop_take]
  rw [this]
  exact Do.mkStr (by rw [S_len]; simp; omega) q
theorem flat_len (vs : List (List Nat × Tok)) : (vs.map (·.1)).flatten.length = ((vs.map (·.1)).map List.length).sum := by rw [List.length_flatten]
theorem joinL_nil (xs : List (List Nat)) : joinL [] xs = xs.flatten := by
  cases xs with
  | nil => rfl
  | cons x r =>
    show x ++ r.flatMap (fun y => [] ++ y) = x ++ r.flatten
    simp [List.flatMap]

/-- the slice ahead, where there is one -/
theorem d_slicePush {α : Type} {P : Addr} {vs : List (List Nat × Tok)} {np b e : Nat} {l : List Nat} {jp : PUnit → Sem α} {Q : α → Heap → Prop} (C : Cx W p g L ((P, lstO (sv vs) np) :: own) m h) (hz : l.length ≤ sizeLine) (hvl : vs.length ≤ 1000000)
    (q : ∀ vs' np' h', (vs'.map (·.1)).flatten = (vs.map (·.1)).flatten ++ (l.take e).drop b → vs'.length ≤ vs.length + 1 → Cx W p g L ((P, lstO (sv vs') np') :: own) m h' → Do prog w A (jp ⟨⟩) Q h') :
    Do prog w A (if b < e then (do let x ← reSlice l.toArray 0 b e; let r ← updateSeq P (fun a => a.push x); jp r) else jp ⟨⟩) Q h := by
  by_cases hb : b < e
  · rw [if_pos hb]
    refine Do.bind (slice_S hz fun t => Do.bind (d_push C (by rw [sv_len, sizeLine_eq]; omega) fun h' C' => ?_))
    refine q (vs ++ [((l.take e).drop b, t)]) (np + 1) h' (by simp) (by simp) ?_
    rw [sv_append]
    exact C'
  · rw [if_neg hb]
    refine q vs np h ?_ (by omega) C
    rw [List.drop_eq_nil_of_le (by simp; omega), List.append_nil]

/-- a turn that finds: by the function -/
theorem sub_turn {k a n P np kk done nn : Nat} {F : Addr} {l : List Nat} {t : Tok} {vs : List (List Nat × Tok)} {r : Nat → List Nat} {b e gb c : Nat} {Q : Value → Heap → Prop} (hA : Ar (nn + 1) A) (C : Cx W p g L ((P, lstO (sv vs) np) :: own) m h) (Pt : Pat h k a 1) (hz : l.length ≤ 100000) (hkk : kk ≤ 100000000)
    (hvl : vs.length ≤ 100000) (hr : Rep prog w nn W p g L m F l r) (hc : (l.take (gb + 1)).drop gb = [c]) (hbe : e ≠ b)
    (R : Rn kk (Sre.forSearch (pcode k) l.toArray 1 done l.length false) (Mt b e gb (gb + 1)))
    (next : ∀ g' vs' np' h', g.Le g' → (vs'.map (·.1)).flatten = (vs.map (·.1)).flatten ++ (l.take b).drop done ++ r c → vs'.length ≤ vs.length + 2 → Cx W p g' L ((P, lstO (sv vs') np') :: own) m h' →
      DoC prog w A (.builtin "re.Pattern.sub.loop" (subArgs a l t (.ref F) 1 (n + 1) e P false)) Q h') :
    DoC prog w A (.builtin "re.Pattern.sub.loop" (subArgs a l t (.ref F) 1 n done P false)) Q h := by
  refine d_codeB en_loop pl_loop ?_
  unfold Builtin.«re.Pattern.sub.loop»
  refine Do.bind (d_wholeTarget Pt ?_)
  have b0 : ((0 : Int) != 0 && decide ((n : Int) ≥ 0)) = false := rfl
  have b1 : ((1 : Int) == 0) = false := rfl
  have b2 : ((1 : Int) == 1) = true := rfl
  dsimp only
  simp only [b0, b1, b2, Bool.false_eq_true, if_false, if_true, Int.toNat_natCast]
  refine Do.bind (m := reNextFound _ _ _) (d_runToEnd (k := kk) (by omega) (R.mono fun m' hm => .inl ⟨hm.1, ?_⟩))
  have hm1 := hm.2.1
  have hm2 := hm.2.2.1
  have hm3 : (m'.handed == m'.start) = false := by rw [hm1, hm2]; simpa using hbe
  dsimp only
  rw [hm3, hm1, hm2]
  refine d_slicePush C (by rw [sizeLine_eq]; omega) (by omega) fun vs1 np1 h1 hv1 hl1 C1 => ?_
  refine Do.bind (d_newMatch C1 hm (by omega) fun x g' h' le M' C' => ?_)
  refine Do.bind (Do.holding (hr _ _ g' h' x b e gb c _ hA.in1 le M' hc C' fun t g'' h'' le' C'' => ?_))
  have b3 : (Value.str (S (r c)) t != Value.none) = true := rfl
  rw [b3, if_pos rfl]
  refine Do.bind (d_push C'' (by rw [sv_len, sizeLine_eq]; omega) fun h3 C3 => ?_)
  refine Do.pure (.inr ⟨_, rfl, plainId_quiet pl_loop _, ?_⟩)
  refine next g'' (vs1 ++ [(r c, t)]) _ h3 (le.trans le') (by rw [List.map_append, List.flatten_append, hv1]; simp) (by simp; omega) (by rw [sv_append]; exact C3)

/-- the last turn: nothing more is found -/
theorem sub_end {k a n P np kk done : Nat} {F : Addr} {l : List Nat} {t : Tok} {vs : List (List Nat × Tok)} {Q : Value → Heap → Prop} (C : Cx W p g L ((P, lstO (sv vs) np) :: own) m h) (Pt : Pat h k a 1) (hz : l.length ≤ 100000) (hkk : kk ≤ 100000000)
    (hvl : vs.length ≤ 1000000) (hvs : (vs.map (·.1)).flatten.length ≤ 1000000)
    (R : Rn kk (Sre.forSearch (pcode k) l.toArray 1 done l.length false) Failed)
    (q : ∀ t h', Cx W p g L own m h' → Q (.str (S ((vs.map (·.1)).flatten ++ l.drop done)) t) h') :
    DoC prog w A (.builtin "re.Pattern.sub.loop" (subArgs a l t (.ref F) 1 n done P false)) Q h := by
  refine d_codeB en_loop pl_loop ?_
  unfold Builtin.«re.Pattern.sub.loop»
  refine Do.bind (d_wholeTarget Pt ?_)
  have b0 : ((0 : Int) != 0 && decide ((n : Int) ≥ 0)) = false := rfl
  have b1 : ((1 : Int) == 0) = false := rfl
  have b2 : ((1 : Int) == 1) = true := rfl
  dsimp only
  simp only [b0, b1, b2, Bool.false_eq_true, if_false, if_true, Int.toNat_natCast]
  refine Do.bind (m := reNextFound _ _ _) (d_runToEnd (k := kk) (by omega) (R.mono fun m' hm => .inr ⟨hm, ?_⟩))
  dsimp only
  refine d_slicePush C (by rw [sizeLine_eq]; omega) (by omega) fun vs1 np1 h1 hv1 hl1 C1 => ?_
  rw [List.take_length] at hv1
  refine Do.bind (slice_S (by rw [sizeLine_eq]; omega) fun t => ?_)
  refine Do.bind (d_seqItems (C1.ow _ (.head _)).1 ?_)
  by_cases he : vs1 = []
  · subst he
    have hq := q t h1 C1.drop
    rw [← hv1] at hq
    refine Do.bind (Do.pure (Do.pure (.inl ⟨_, rfl, ?_⟩)))
    simpa using hq
  · have : ((some (sv vs1).toArray).getD #[]).isEmpty = false := by
      cases vs1 with
      | nil => exact absurd rfl he
      | cons x r => simp [sv]
    rw [this, if_neg Bool.false_ne_true]
    have hlen := flat_len vs1
    rw [hv1, List.length_append] at hlen
    have hdl : (l.drop done).length ≤ l.length := by simp
    refine Do.bind (d_join (C1.ow _ (.head _)).1 (by simp only [List.take_zero, List.drop_nil, List.length_nil, Nat.mul_zero, Nat.add_zero]; rw [← hlen, sizeLine_eq]; omega) fun t => Do.pure (.inl ⟨_, rfl, ?_⟩))
    have hq := q t h1 C1.drop
    rw [← hv1] at hq
    simpa [joinL_nil] using hq

/-! ### the whole of sub -/
theorem d_entryA {T : String} {name : Str} {id : String} {b : Builtin} {self : Value} {rest : List Value} {Q : Value → Heap → Prop} (sl : Slot T name id) (hT : ∀ s : Shared, s.heap = h → s.TypeIs self T) (hb : entryFor table id = some b) (ha : argsOk id ⟨self :: rest, []⟩)
    (H : Do prog w A.in1 (b ⟨self :: rest, []⟩) (fun fin h' => ∃ c, fin = .again c ∧ c.quiet = true ∧ DoC prog w A c Q h') h) : Do prog w A (call (.builtin id) (self :: rest)) Q h :=
  fun s hs => wpAny_call (codeAny_call_builtin sl.plain hb (sl.check _ _ _ _ _ _ _ _ (hT s hs) ha (wpAny_mono (H s hs) (fun fin s' x => by
    obtain ⟨e, c, rfl, hq, D⟩ := x
    refine ⟨hq, codeAny_mono (D s' rfl) fun r s'' y => ?_⟩
    match r, y with
    | .ok (.ret v), y => exact ⟨e.trans y.1, y.2⟩) fun _ _ x => x.elim)))
theorem sub_head {k a : Nat} {F : Addr} {fo : Obj} {fd : FuncData} {l : List Nat} {t : Tok} {Q : Value → Heap → Prop} (C : Cx W p g L own m h) (Pt : Pat h k a 1) (hF : g F = some fo) (hc : fo.cls = .type "function")
    (next : ∀ P np h', Cx W p g L ((P, lstO (sv []) np) :: own) m h' → DoC prog w A (.builtin "re.Pattern.sub.loop" (subArgs a l t (.ref F) 1 0 0 P false)) Q h') :
    Do prog w A (call (.builtin "re.Pattern.sub") [.ref a, .ref F, .str (S l) t]) Q h := by
  refine d_entryA sl_sub (pat_type Pt) en_sub (ar_sub _ _ _) ?_
  show Do prog w A.in1 (reSubstitute "re.Pattern.sub" "sub" false ⟨[.ref a, .ref F, .str (S l) t], []⟩) _ h
  unfold reSubstitute
  dsimp only
  simp only [named2, pure_bind]
  refine Do.bind (m := specialOf (.ref F) "__call__") (fun s hs => wpAny_specialOf (T := "function") ⟨fo, hs ▸ C.kg _ _ hF, hc⟩ fn_call ⟨Same.rfl, ?_⟩)
  subst hs
  simp only [Option.isSome_some, if_true, pure_bind, beq_self_eq_true, notHeld]
  refine Do.bind (Do.holding (d_wholeTarget Pt ?_))
  refine Do.bind (d_newListO C (fun P h' C' => ?_) (by exact Nat.le_of_ble_eq_true rfl))
  exact Do.pure ⟨_, rfl, plainId_quiet pl_loop _, next P 0 h' C'⟩

/-- marks and backslashes behind a backslash -/
noncomputable def esc (l : List Nat) : List Nat := l.flatMap fun c => if fEsc c then [92, c] else [c]
theorem esc_append (a b : List Nat) : esc (a ++ b) = esc a ++ esc b := List.flatMap_append
theorem esc_plain {l : List Nat} (h : ∀ y ∈ l, fEsc y = false) : esc l = l := by
  induction l with
  | nil => rfl
  | cons x r ih =>
    show (if fEsc x then [92, x] else [x]) ++ esc r = _
    rw [h x (.head _), ih fun y hy => h y (.tail _ hy)]
    rfl
theorem esc_len (l : List Nat) : (esc l).length ≤ 2 * l.length := by
  induction l with
  | nil => exact Nat.le_refl _
  | cons x r ih =>
    show ((if fEsc x then [92, x] else [x]) ++ esc r).length ≤ _
    rw [List.length_append, List.length_cons]
    split <;> simp <;> omega
theorem first_esc (l : List Nat) : (∀ y ∈ l, fEsc y = false) ∨ ∃ b x r, l = b ++ x :: r ∧ fEsc x = true ∧ ∀ y ∈ b, fEsc y = false := by
  induction l with
  | nil => exact .inl fun _ h => nomatch h
  | cons x r ih =>
    cases hx : fEsc x with
    | true => exact .inr ⟨[], x, r, rfl, hx, fun _ h => nomatch h⟩
    | false =>
      rcases ih with ih | ⟨b, y, r', e, hy, hb⟩
      · exact .inl fun y hy => (List.mem_cons.mp hy).elim (fun e => e ▸ hx) (ih y)
      · exact .inr ⟨x :: b, y, r', by rw [e]; rfl, hy, fun z hz => (List.mem_cons.mp hz).elim (fun e => e ▸ hx) (hb z)⟩
theorem take_one (a : List Nat) (x : Nat) (r : List Nat) : ((a ++ x :: r).take (a.length + 1)).drop a.length = [x] := by
  rw [show a ++ x :: r = (a ++ [x]) ++ r from by simp, show a.length + 1 = (a ++ [x]).length from by simp, List.take_left, List.drop_left]
theorem je_loop {a P nn : Nat} {F : Addr} {l : List Nat} {t : Tok} (hA : Ar (nn + 1) A) (hz : l.length ≤ 10000) : ∀ (k : Nat) (pre rest : List Nat) (g : PM) (vs : List (List Nat × Tok)) (np n : Nat) (h : Heap) (Q : Value → Heap → Prop), rest.length ≤ k → l = pre ++ rest →
    Cx W p g L ((P, lstO (sv vs) np) :: own) m h → Pat h 6 a 1 → (∀ h' g', g.Le g' → Cx W p g' L own m h' → Pat h' 6 a 1) → Rep prog w nn W p g L m F l (fun c => [92, c]) →
    (vs.map (·.1)).flatten = esc pre → vs.length ≤ 2 * pre.length →
    (∀ t g' h', g.Le g' → Cx W p g' L own m h' → Q (.str (S (esc l)) t) h') → DoC prog w A (.builtin "re.Pattern.sub.loop" (subArgs a l t (.ref F) 1 n pre.length P false)) Q h := by
  intro k
  induction k with
  | zero =>
    intro pre rest g vs np n h Q hk hl C Pt keepP hr hv hvl q
    have : rest = [] := List.length_eq_zero_iff.mp (by omega)
    subst this
    have hlen : l.length = pre.length := by rw [hl]; simp
    have he := esc_len pre
    refine sub_end C Pt (by omega) (by decide) (by omega) (by rw [hv]; omega) (je_none hl (fun _ h => nomatch h)) fun t h' C' => ?_
    have := q t g h' .refl C'
    rw [hv, hl]
    simpa [hl] using this
  | succ k ih =>
    intro pre rest g vs np n h Q hk hl C Pt keepP hr hv hvl q
    have hlen : l.length = pre.length + rest.length := by rw [hl]; simp
    rcases first_esc rest with hno | ⟨b, x, r, hrest, hx, hb⟩
    · have he := esc_len pre
      refine sub_end C Pt (by omega) (by decide) (by omega) (by rw [hv]; omega) (je_none hl hno) fun t h' C' => ?_
      have := q t g h' .refl C'
      rw [hv, hl, List.drop_left]
      rw [hl, esc_append, esc_plain hno] at this
      exact this
    · have hl2 : l = pre ++ b ++ x :: r := by rw [hl, hrest]; simp
      have hlen2 : rest.length = b.length + 1 + r.length := by rw [hrest]; simp; omega
      refine sub_turn (c := x) hA C Pt (by omega) (show (8 : Nat) ≤ 100000000 by decide) (by omega) hr ?_ (by omega) (je_find hl2 hx hb) fun g' vs' np' h' le hv' hvl' C' => ?_
      · rw [hl2, show pre.length + b.length = (pre ++ b).length from by simp]
        exact take_one _ _ _
      · have e1 : (pre ++ b ++ [x]).length = pre.length + b.length + 1 := by simp; omega
        have hd : (l.take (pre.length + b.length)).drop pre.length = b := by
          rw [hl2, show pre.length + b.length = (pre ++ b).length from by simp, List.take_left, List.drop_left]
        have := ih (pre ++ b ++ [x]) r g' vs' np' (n + 1) h' Q (by omega) (by rw [hl2]; simp) C' (keepP h' g' le C'.drop) (fun h' g'' le' C => keepP h' g'' (le.trans le') C)
          (fun A own g'' h a b e gb c Q hA le' => hr A own g'' h a b e gb c Q hA (le.trans le'))
          (by rw [hv', hv, hd, esc_append, esc_append, esc_plain hb]; simp [esc, hx]) (by rw [e1]; omega) (fun t g'' h' le' C => q t g'' h' (le.trans le') C)
        rw [e1] at this
        exact this
end
end

section
open PySem PySem.W PySem.Calls PyProof.Rows

section
variable {prog : Program} {w : World} {A : Around} {W h : Heap} {p g : PM} {L : Addr} {own : List (Addr × Obj)} {m : Str → Option Value} {a b : Addr} {vs ws : List Value} {n k : Nat}

/-! ### lists -/
theorem lst_is (ho : h.get? a = some (lstO vs n)) : h.IsList a vs.toArray := ⟨_, ho, rfl, n, rfl⟩
theorem d_ladd {Q : Value → Heap → Prop} (C : Cx W p g L own m h) (ha : h.get? a = some (lstO vs n)) (hb : h.get? b = some (lstO ws k)) (hz : vs.length + ws.length ≤ sizeLine)
    (q : ∀ x h', g x = none → Cx W p (g.set x (lstO (vs ++ ws) 0)) L own m h' → Q (.ref x) h') : Do prog w A (binaryOp .Add (.ref a) (.ref b)) Q h := fun s hs => by
  subst hs
  have e : vs.toArray ++ ws.toArray = (vs ++ ws).toArray := by simp
  refine concat_meets ⟨_, ha, rfl⟩ ⟨_, hb, rfl⟩ noFill_list_add seq_list_add PySem.F.slot_list_add PySem.F.entry_list_add (PySem.F.args_list_add_2 _ _) (list_addW a b vs.toArray ws.toArray n k none none #[] #[] (by simpa using hz)) ⟨ha, hb, ?_⟩
  rw [e]
  exact ⟨Same.of, q _ _ (none_of_size C.kg) (C.newG _)⟩
theorem d_lslice {value slice : Expr} {vl vu vk : Value} {lo hi st : Option Int} {ops : List Value} {Q : Value → Heap → Prop} {rs : List Value} (C : Cx W p g L own m h) (ha : h.get? a = some (lstO vs n)) (pl : IsPart vl lo) (pu : IsPart vu hi) (pk : IsPart vk st) (h0 : st ≠ some 0)
    (hr : slicePick vs.toArray lo hi st = rs.toArray) (hz : vs.length ≤ sizeLine)
    (q : ∀ x h', g x = none → Cx W p (g.set x (lstO rs 0)) L own m h' → Q (.ref x) h')
    (hs' : subscripted slice false (.ref a) (.ref h.objs.size) = operate ops (getItem (.ref a) (.ref h.objs.size)) := by with_unfolding_all rfl) :
    Do prog w A (subscriptTail value slice (.ref a) (.ref h.objs.size)) Q (h.push { cls := .type "slice", data := .fields #[vl, vu, vk] }) := fun s hs => by
  have C1 := C.push { cls := .type "slice", data := .fields #[vl, vu, vk] }
  have hl : s.heap.IsList a vs.toArray := by rw [hs]; exact (lst_is ha).push _
  refine tail_any (Heap.IsList.typeIs hl) list_getitem_lookup (wpAny_getItem_list_slice hl (by rw [hs]; exact Heap.IsSliceOf.new ..) pl pu pk h0 ⟨Same.of, ?_⟩ (by simpa using hz)) hs'
  rw [hr, hs]
  exact q _ _ (none_of_size C1.kg) (C1.newG _)
theorem d_append {v : Value} {Q : Value → Heap → Prop} (C : Cx W p g L ((a, lstO vs n) :: own) m h) (hz : vs.length ≤ sizeLine)
    (q : ∀ n h', Cx W p g L ((a, lstO (vs ++ [v]) n) :: own) m h' → Q .none h') : Do prog w A (call (.builtin "list.append") [.ref a, v]) Q h := fun s hs => by
  subst hs
  refine call_meets PySem.F.slot_list_append ⟨_, (C.ow _ (.head _)).1, rfl⟩ PySem.F.entry_list_append (PySem.F.args_list_append_2 _ _) (PySem.AutoListH.list_append_list_val_0 a vs.toArray n v (by simpa using hz)) ⟨(C.ow _ (.head _)).1, ?_⟩
  exact ⟨Same.of, q _ _ C.pushed⟩
theorem d_extend {Q : Value → Heap → Prop} (C : Cx W p g L ((a, lstO vs n) :: own) m h) (hb : h.get? b = some (lstO ws k)) (hz : vs.length + ws.length ≤ 1000000)
    (q : ∀ n h', Cx W p g L ((a, lstO (vs ++ ws) n) :: own) m h' → Q .none h') : Do prog w A (call (.builtin "list.extend") [.ref a, .ref b]) Q h := fun s hs => by
  subst hs
  refine call_meets PySem.F.slot_list_extend ⟨_, (C.ow _ (.head _)).1, rfl⟩ PySem.F.entry_list_extend (PySem.F.args_list_extend_2 _ _) (PySem.AutoSeq1.list_extend_list_list_0 a vs.toArray n b ws.toArray k ?_ (by rw [sizeLine_eq]; simp; omega) (by rw [sizeLine_eq]; simp; omega)) ⟨(C.ow _ (.head _)).1, hb, ?_⟩
  · unfold Builtin.List.listTooLong
    rw [sizeLine_eq]
    simp
    omega
  · refine ⟨Same.of, q (if ws = [] then n else n + 1) _ ?_⟩
    have ho := (C.ow _ (.head _)).1
    refine C.upd0 (Heap.SameBut.update _ _ _) ?_
    refine (Heap.get?_update_self _ ho rfl).trans ?_
    simp [Obj.mapSeq]
theorem d_lappend {pl : Sem Bool} {Q : Value × List Value → Heap → Prop} (ho : h.get? a = some (lstO vs n)) (q : Q (.builtin "list.append", [.ref a]) h) : Do prog w A (getMethod (.ref a) "append" pl) Q h := fun s hs => by
  subst hs
  exact getMethod_list_append ho rfl rfl ⟨Same.rfl, q⟩
theorem d_ltruth {Q : Bool → Heap → Prop} (ho : h.get? a = some (lstO vs n)) (hz : vs.length ≤ sizeLine) (q : Q (!vs.isEmpty) h) : Do prog w A (truthy (.ref a)) Q h := fun s hs => by
  subst hs
  rw [sizeLine_eq] at hz
  refine wpAny_truthy_list (lst_is ho) (by simp; omega) ⟨Same.of, ?_⟩
  simpa using q
theorem d_llen {Q : Value → Heap → Prop} (ho : h.get? a = some (lstO vs n)) (hz : vs.length ≤ sizeLine) (q : ∀ t, Q (.int vs.length t) h) : Do prog w A (call (.builtin "len") [.ref a]) Q h := fun s hs => by
  subst hs
  rw [sizeLine_eq] at hz
  refine call_len_list (lst_is ho) (by simp; omega) ⟨Same.of, ?_⟩
  simpa using q _
theorem d_isNotNone {v : Value} {Q : Value → Heap → Prop} (q : Q (.bool (!(v == .none))) h) : Do prog w A (compareOp .IsNot v .none) Q h := fun s hs => by
  subst hs; exact isNot_none ⟨Same.rfl, q⟩
theorem d_isinst {Q : Value → Heap → Prop} (ho : h.get? a = some (lstO vs n)) (q : Q (.bool false) h) : Do prog w A (call (.builtin "isinstance") [.ref a, .type "str"]) Q h := fun s hs => by
  subst hs; exact IsiPair.list_str ho rfl ⟨Same.of, q⟩
theorem d_min {x y : Int} {t u : Tok} {Q : Value → Heap → Prop} (hh : A.handled = none) (C : Cx W p g L own m h) (q : ∀ t h', Cx W p g L own m h' → Q (.int (if y < x then y else x) t) h') : Do prog w A (call (.builtin "min") [.int x t, .int y u]) Q h := fun s hs => by
  subst hs
  refine min_two_ints hh fun h' tk hk => ⟨Same.of, ?_⟩
  have C' := C.keep hk
  by_cases hxy : y < x
  · rw [if_pos hxy]; have := q u h' C'; rwa [if_pos hxy] at this
  · rw [if_neg hxy]; have := q t h' C'; rwa [if_neg hxy] at this
end

/-! ### texts -/
abbrev strSliceIndicesN (l : List Nat) (a b : Nat) : List Nat := Builtin.Str.strSliceIndices (some (a : Int)) (some (b : Int)) 1 l.length
section
variable {prog : Program} {w : World} {A : Around} {W h : Heap} {p g : PM} {L : Addr} {own : List (Addr × Obj)} {m : Str → Option Value} {l : List Nat} {t : Tok}
theorem sliced_S {a b : Nat} (hab : a ≤ b) (hb : b ≤ l.length) : (strSliceIndicesN l a b).filterMap ((S l).cps[·]?) = (l.take b).drop a := by
  have := PySem.StrLaws.sliced_plain (S l) hab (by rw [S_len]; exact hb)
  rw [S_len] at this
  show (Builtin.Str.strSliceIndices (some (a : Int)) (some (b : Int)) 1 l.length).filterMap _ = _
  rw [this]
  simp [List.drop_take]
theorem post_slice {a b : Nat} {lo hi : Option (Int × Tok)} {s : Shared} {Q : Value → Shared → Prop} (hab : a ≤ b) (hb : b ≤ l.length) (hz : l.length ≤ sizeLine)
    (hp : slicePicked (S l) lo hi none = strSliceIndicesN l a b) (q : ∀ t k, Q (.str (S ((l.take b).drop a)) t) { s with toks := k }) : (sliceMade (S l) t lo hi none).post Q s := by
  unfold sliceMade
  rw [hp]
  by_cases hc : (((none : Option (Int × Tok)).map (·.1)).getD 1 == 1 && (strSliceIndicesN l a b).length == (S l).length) = true
  · rw [if_pos hc]
    have hl : (strSliceIndicesN l a b).length = l.length := by
      rw [S_len] at hc
      simpa using hc
    have e : (strSliceIndicesN l a b).length = b - a := by
      show (Builtin.Str.strSliceIndices (some (a : Int)) (some (b : Int)) 1 l.length).length = _
      rw [PySem.StrLaws.strSliceIndices_plain hab hb]; simp
    have h0 : a = 0 := by omega
    have h1 : b = l.length := by omega
    subst h0 h1
    have := q t s.toks
    show Q _ _
    simpa using this
  · rw [if_neg hc, sliced_S hab hb]
    exact ⟨by rw [S_len]; simp; omega, q _ _⟩
theorem d_sslice {value slice : Expr} {vl vu : Value} {lo hi : Option (Int × Tok)} {ops : List Value} {Q : Value → Heap → Prop} {a b : Nat} (C : Cx W p g L own m h) (hl : vl = partValue lo) (hu : vu = partValue hi)
    (hab : a ≤ b) (hb : b ≤ l.length) (hz : l.length ≤ sizeLine) (hp : slicePicked (S l) lo hi none = strSliceIndicesN l a b)
    (q : ∀ t h', Cx W p g L own m h' → Q (.str (S ((l.take b).drop a)) t) h')
    (hs' : subscripted slice false (.str (S l) t) (.ref h.objs.size) = operate ops (getItem (.str (S l) t) (.ref h.objs.size)) := by with_unfolding_all rfl) :
    Do prog w A (subscriptTail value slice (.str (S l) t) (.ref h.objs.size)) Q (h.push { cls := .type "slice", data := .fields #[vl, vu, .none] }) := fun s hs => by
  have C1 := C.push { cls := .type "slice", data := .fields #[vl, vu, .none] }
  refine tail_any (typeIs_str _ _ _) PySem.F.slot_str_getitem.lookup (wpAny_getItem_str_slice (l := lo) (u := hi) (st := none) (by rw [hs]; subst hl hu; exact ⟨_, Heap.get?_push_size _ rfl, rfl, rfl⟩) rfl (post_slice hab hb hz hp fun t k => ⟨Same.of, ?_⟩)) hs'
  rw [hs]
  exact q _ _ C1
theorem picked_to {b : Nat} {t : Tok} (hb : b ≤ l.length) : slicePicked (S l) none (some ((b : Int), t)) none = strSliceIndicesN l 0 b := by
  show Builtin.Str.strSliceIndices none (some (b : Int)) 1 (S l).length = Builtin.Str.strSliceIndices (some ((0 : Nat) : Int)) (some (b : Int)) 1 l.length
  rw [S_len]
  unfold Builtin.Str.strSliceIndices
  simp
  rw [show min (0 : Int) (l.length : Int) = 0 by omega]
  rfl
theorem picked_from {a : Nat} {t : Tok} : slicePicked (S l) (some ((a : Int), t)) none none = strSliceIndicesN l a l.length := by
  show Builtin.Str.strSliceIndices (some (a : Int)) none 1 (S l).length = Builtin.Str.strSliceIndices (some (a : Int)) (some (l.length : Int)) 1 l.length
  rw [S_len]
  unfold Builtin.Str.strSliceIndices
  simp
  rw [if_neg (show ¬ ((l.length : Int) < 0) by omega), Int.min_self, show max (0 : Int) (l.length : Int) = l.length by omega]
theorem d_rstrip {Q : Value → Heap → Prop} (hl : l.reverse.head?.all (fun c => !Unicode.isSpace c) = true) (q : Q (.str (S l) t) h) : Do prog w A (call (.builtin "str.rstrip") [.str (S l) t]) Q h := fun s hs => by
  refine call_gives PySem.F.slot_str_rstrip (typeIs_str _ _ _) PySem.F.entry_str_rstrip (PySem.F.args_str_rstrip_1 _) (gives_str_rstrip _ t) ?_
  have : stripSame Unicode.isSpace false true (S l) = true := by
    unfold stripSame stripLo stripHi
    cases hr : l.reverse with
    | nil => simp [hr]
    | cons x r =>
      rw [hr] at hl
      simp at hl
      simp [hr, hl]
  rw [if_pos this]
  exact ⟨Same.rfl, hs ▸ q⟩
theorem d_lstrip {Q : Value → Heap → Prop} (hl : l.head?.all (fun c => !Unicode.isSpace c) = true) (q : Q (.str (S l) t) h) : Do prog w A (call (.builtin "str.lstrip") [.str (S l) t]) Q h := fun s hs => by
  refine call_gives PySem.F.slot_str_lstrip (typeIs_str _ _ _) PySem.F.entry_str_lstrip (PySem.F.args_str_lstrip_1 _) (gives_str_lstrip _ t) ?_
  have : stripSame Unicode.isSpace true false (S l) = true := by
    unfold stripSame stripLo stripHi
    cases l with
    | nil => simp
    | cons x r => simp at hl; simp [hl]
  rw [if_pos this]
  exact ⟨Same.rfl, hs ▸ q⟩
theorem d_startsComma {Q : Value → Heap → Prop} {u : Tok} (hl : l.head?.all (fun c => c != 44) = true) (q : Q (.bool false) h) : Do prog w A (call (.builtin "str.startswith") [.str (S l) t, .str (S [44]) u]) Q h := fun s hs => by
  refine call_gives PySem.F.slot_str_startswith (typeIs_str _ _ _) PySem.F.entry_str_startswith (PySem.F.args_str_startswith_2 _ _) (gives_str_startswith _ _ t u) ?_
  have : (decide (0 + (S [44]).length ≤ (S l).length) && Builtin.Str.subAt (S l) (S [44]) 0) = false := by
    unfold Builtin.Str.subAt
    rw [S_len, S_len]
    cases l with
    | nil => simp
    | cons x r =>
      simp at hl
      simp [hl]
  rw [this]
  exact ⟨Same.rfl, hs ▸ q⟩
theorem d_smeth {name : Str} {id : String} {pl : Sem Bool} {Q : Value × List Value → Heap → Prop} (sl : Slot "str" name id) (ty : typeOf (.builtin id) = pure (.type "method_descriptor"))
    (q : Q (.builtin id, [.str (S l) t]) h) : Do prog w A (getMethod (.str (S l) t) name pl) Q h :=
  fun s hs => by subst hs; exact getMethod_builtin (typeIs_str _ _ _) PySem.F.plainAttrs_str sl ty (fun b e => nomatch e) ⟨Same.rfl, q⟩
theorem occ_semi (c : Nat) : (!(Builtin.Str.occurrences (S [59, 32]) (S [c]) 0 (S [59, 32]).length 1).isEmpty) = (c == 59 || c == 32) := by
  by_cases h1 : c = 59
  · subst h1; decide +kernel
  by_cases h2 : c = 32
  · subst h2; decide +kernel
  have e1 : (c == 59 || c == 32) = false := by simp [h1, h2]
  rw [e1]
  have f : ∀ i, Builtin.Str.subAt (S [59, 32]) (S [c]) i = true → i < 2 → False := by
    intro i hi hlt
    match i, hlt with
    | 0, _ => simp [Builtin.Str.subAt, Str.length] at hi; exact h1 hi.symm
    | 1, _ => simp [Builtin.Str.subAt, Str.length] at hi; exact h2 hi.symm
  have g0 : Builtin.Str.subAt (S [59, 32]) (S [c]) 0 = false := by cases e : Builtin.Str.subAt (S [59, 32]) (S [c]) 0 with | false => rfl | true => exact (f 0 e (by decide)).elim
  have g1 : Builtin.Str.subAt (S [59, 32]) (S [c]) 1 = false := by cases e : Builtin.Str.subAt (S [59, 32]) (S [c]) 1 with | false => rfl | true => exact (f 1 e (by decide)).elim
  unfold Builtin.Str.occurrences
  rw [S_len, S_len]
  simp [Std.Legacy.Range.forIn_eq_forIn_range', Std.Legacy.Range.size, List.range', g0, g1, Id.run]
  rfl
theorem d_inSemi {c : Nat} {u : Tok} {Q : Value → Heap → Prop} (q : Q (.bool (c == 59 || c == 32)) h) : Do prog w A (compareOp .In (.str (S [c]) u) (.str (S [59, 32]) t)) Q h := fun s hs => by
  subst hs
  refine P.in_str ?_
  rw [occ_semi]
  exact ⟨Same.rfl, q⟩
end
end

section
open PySem PySem.W PySem.Calls PyProof.Rows
open Builtin Builtin.Str

section
variable {prog : Program} {w : World} {A : Around} {W h : Heap} {p g : PM} {L : Addr} {own : List (Addr × Obj)} {m : PySem.Str → Option Value} {l : List Nat} {t u : Tok}
theorem meets_quote (t u : Tok) : ∀ z : PySem.Str, z.length ≤ 1000000 → Meets («str.__mod__» ⟨[.str ⟨#[34, 37, 115, 34]⟩ t, .str z u], []⟩) (fun _ R s => ∀ t' k, R (.ok (.ret (.str (PySem.Str.ofString "\"" ++ z ++ PySem.Str.ofString "\"") t'))) { s with toks := k }) := by
  kpc_run_s
theorem d_quote {Q : Value → Heap → Prop} (hz : l.length ≤ 1000000) (q : ∀ t, Q (.str (S (34 :: l ++ [34])) t) h) : Do prog w A (binaryOp .Mod (.str (S [34, 37, 115, 34]) t) (.str (S l) u)) Q h := fun s hs => by
  subst hs
  refine KPc.mod_str (X' := ⟨#[34, 37, 115, 34]⟩) rfl (by rw [S_len]; exact hz) (meets_quote t u) fun t' k => ⟨Same.of, ?_⟩
  have e : (PySem.Str.ofString "\"" ++ S l ++ PySem.Str.ofString "\"") = S (34 :: l ++ [34]) := by
    rw [l_q, S_add, S_add]; rfl
  rw [e]
  exact q _
end
end

section
open PySem PySem.W PySem.Calls PyProof.Rows

section
variable {prog : Program} {w : World} {A : Around}
noncomputable def IterRg (n : Nat) (i : Nat) (o : Obj) : Prop := o = { cls := .type "range_iterator", data := .fields #[rawInt i, rawInt ((n : Int) - i), rawInt 1] }
theorem Iter.range {K : PM} {I : Addr} {n : Nat} (hh : A.handled = none) : Iter prog w A K I n (IterRg n) (fun i v => ∃ t, v = .int i t) where
  next := fun i h o hi hP ho hK s hs => by
    subst hs
    have hI : IsRangeIter s.heap I (i : Int) ((n : Int) - i) 1 := by rw [hP] at ho; exact ho
    refine wpAny_pyNext_range_item hI (by omega) fun h' hI' hs' => ⟨Same.of, ?_⟩
    refine ⟨_, _, rfl, ⟨_, rfl⟩, ?_, hI', hs'⟩
    show _ = _
    have : (n : Int) - i - 1 = (n : Int) - ((i + 1 : Nat) : Int) := by omega
    rw [this]
    rfl
  stop := fun h o hP ho hK s hs => by
    subst hs
    have hI : IsRangeIter s.heap I (n : Int) ((n : Int) - n) 1 := by rw [hP] at ho; exact ho
    exact wpAny_pyNext_range_end hh hI (by omega) fun h' hx => ⟨Same.of, rfl, hx⟩
noncomputable def IterStr (l : List Nat) (t : Tok) (i : Nat) (o : Obj) : Prop := o.cls = .type "str_ascii_iterator" ∧ o.data = .fields #[.str (S l) t, .int i 0]
theorem Iter.str {K : PM} {I : Addr} {l : List Nat} {t : Tok} (hh : A.handled = none) : Iter prog w A K I l.length (IterStr l t) (fun i v => ∃ c t, l[i]? = some c ∧ v = .str (S [c]) t) where
  next := fun i h o hi hP ho hK s hs => by
    subst hs
    have hI : s.heap.IsStrIter I "str_ascii_iterator" (S l) t i := ⟨o, ho, hP.1, hP.2⟩
    refine wpAny_pyNext_ascii_item hI (c := l[i]) (by simp [hi]) fun h' hI' hs' => ⟨Same.of, ?_⟩
    obtain ⟨o', e1, e2, e3⟩ := hI'
    exact ⟨_, o', rfl, ⟨l[i], _, by simp [hi], rfl⟩, ⟨e2, e3⟩, e1, hs'⟩
  stop := fun h o hP ho hK s hs => by
    subst hs
    have hI : s.heap.IsStrIter I "str_ascii_iterator" (S l) t l.length := ⟨o, ho, hP.1, hP.2⟩
    exact wpAny_pyNext_ascii_end hh hI (by simp) fun h' hx => ⟨Same.of, rfl, hx⟩
end
section
variable {prog : Program} {w : World} {A : Around} {W h : Heap} {p g : PM} {L : Addr} {own : List (Addr × Obj)} {m : Str → Option Value}
theorem d_iter_str {l : List Nat} {t : Tok} {Q : Value → Heap → Prop} (C : Cx W p g L own m h) (ha : l.all (· < 128) = true)
    (q : ∀ I o h', IterStr l t 0 o → Cx W p g L ((I, o) :: own) m h' → Q (.ref I) h') : Do prog w A (pyIter (.str (S l) t)) Q h :=
  fun _ hs => by subst hs; exact wpAny_pyIter_ascii (by simpa using ha) ⟨Same.of, q _ _ _ ⟨rfl, rfl⟩ (C.newOwn _)⟩
theorem d_iter_self_list {I l : Addr} {i : Nat} {o : Obj} {Q : Value → Heap → Prop} (ho : h.get? I = some o) (hP : IterList l i o) (q : Q (.ref I) h) : Do prog w A (pyIter (.ref I)) Q h :=
  fun _ hs => by subst hs; exact wpAny_pyIter_listiter ⟨o, ho, hP.1, hP.2⟩ ⟨Same.rfl, q⟩
theorem d_iter_self_str {I : Addr} {l : List Nat} {t : Tok} {i : Nat} {o : Obj} {Q : Value → Heap → Prop} (ho : h.get? I = some o) (hP : IterStr l t i o) (q : Q (.ref I) h) : Do prog w A (pyIter (.ref I)) Q h :=
  fun _ hs => by subst hs; exact wpAny_pyIter_striter_ascii ⟨o, ho, hP.1, hP.2⟩ ⟨Same.rfl, q⟩
theorem d_range {n : Nat} {t : Tok} {Q : Value → Heap → Prop} (C : Cx W p g L own m h) (q : ∀ r u v h' , Cx W p (g.set r { cls := .type "range", data := .fields #[.int 0 u, .int n t, .int 1 v] }) L own m h' → g r = none → Q (.ref r) h') : Do prog w A (call (.type "range") [.int n t]) Q h :=
  fun _ hs => by subst hs; exact call_range_1 ⟨Same.of, q _ _ _ _ (C.newG _) (none_of_size C.kg)⟩
theorem d_iter_range {n : Nat} {r : Addr} {t u v : Tok} {Q : Value → Heap → Prop} (C : Cx W p g L own m h) (hr : h.get? r = some { cls := .type "range", data := .fields #[.int 0 u, .int n t, .int 1 v] }) (hn : n < 1000000)
    (q : ∀ I o h', IterRg n 0 o → Cx W p g L ((I, o) :: own) m h' → Q (.ref I) h') : Do prog w A (pyIter (.ref r)) Q h :=
  fun _ hs => by
    subst hs
    refine wpAny_pyIter_range (show IsRange _ r 0 n 1 u t v from hr) (small_one (by decide) (by decide) (by omega) (by omega)) ⟨Same.of, q _ _ _ ?_ (C.newOwn _)⟩
    show _ = _
    rw [rangeSize_one]
    by_cases h0 : (0 : Int) < n
    · rw [if_pos h0]; rfl
    · rw [if_neg h0, show n = 0 by omega]; rfl
theorem d_iterCall {x : Value} {Q : Value → Heap → Prop} (H : Do prog w A.in1 (pyIter x) Q h) : Do prog w A (call (.builtin "iter") [x]) Q h := fun s hs => by
  refine call_function_entry (by decide +kernel) (by decide +kernel) kdk_entry_iter (kdk_args_iter _) ?_
  unfold Builtin.«iter»
  refine wpAny_bind (m := someArgs "iter" 1 2 _) (wpAny_of_eq (a := [x]) (by first | rfl | kernel_rfl!) ?_)
  show wpAny _ _ (pyIter x >>= _) _ _ _
  exact wpAny_bind (wpAny_mono (H s hs) (fun v s' y => wpAny_pure ⟨_, rfl, y⟩) fun _ _ y => y)
theorem d_callWith_type {env : Env} {pos : Pos} {T : String} {e : Expr} {rest : List Expr} {Q : Value → Heap → Prop}
    (H : Do prog w A (spliced (backTo pos (starEach (e :: rest) env))) (fun vs h₁ => Do prog w A (PySem.call (.type T) vs) Q h₁) h)
    (he : starEach (e :: rest) env = (false, eval e env) :: starEach rest env := by rfl)
    (hplain : (backTo pos (starEach rest env)).any (·.1) = false := by rfl) : Do prog w A (callWith pos (.type T) [] (backTo pos (starEach (e :: rest) env)) []) Q h :=
  fun _ hs => callWith_type1 (H.to hs fun _ _ e₁ x => x.to rfl fun _ _ e₂ q => ⟨e₁.trans e₂, q⟩) he hplain

/-! ### a tuple taken apart -/
theorem d_inOrder_nil {Q : Unit → Heap → Prop} (q : Q () h) : Do prog w A (assignInOrder [] []) Q h := fun s hs => by
  subst hs; exact wpAny_pure ⟨Same.rfl, q⟩
theorem d_unpack {env : Env} {elts : List Expr} {k : Nat} {pos : Pos} {T : Addr} {vs : List Value} {n : Nat} {Q : Unit → Heap → Prop} (hh : A.handled = none) (C : Cx W p g L own m h) (ho : h.get? T = some (tupO vs n))
    (hn : (assignEach elts env).length = vs.length) (hstar : (assignEach elts env).findIdx? (·.1) = none)
    (q : ∀ h', Cx W p g L own m h' → Do prog w A (assignInOrder ((assignEach elts env).map (·.2)) vs) Q h') : Do prog w A (assign (.Tuple elts k pos) env (.ref T)) Q h := fun s hs => by
  subst hs
  refine wpAny_assign_Tuple hh ⟨_, ho, rfl, n, rfl⟩ (by simpa using hn) hstar fun h' hx => ?_
  have C' : Cx W p g L own m h' := C.keep fun b o e => hx b o (Nat.ne_of_lt (Heap.lt_size e)) e
  exact wpAny_mono (q h' C' _ rfl) (fun _ _ y => ⟨Same.of.trans y.1, y.2⟩) fun _ _ y => y
end
end

section
open PySem PySem.W PySem.Calls PyProof.Rows
open AutoSeq1 (wpAny_loadPart')

section
variable {prog : Program} {w : World} {A : Around} {E : Value → Shared → Prop} {s : Shared}
theorem tupNext_item {it t : Addr} {i : Nat} {items : Array Value} {x : Value} {Q : Value → Shared → Prop} (hit : s.heap.IsTupleIter it t i)
    (ht : s.heap.IsTuple t items) (hx : items[i]? = some x)
    (hQ : ∀ h', h'.IsTupleIter it t (i + 1) → Heap.SameBut it s.heap h' → Q x { s with heap := h' }) :
    wpAny (model prog w) A (Builtin.SmallTypes.nextOf (.ref it)) Q E s := by
  obtain ⟨o, ho, hc, hd⟩ := id hit
  obtain ⟨ol, hol, _, nl, hdl⟩ := ht
  unfold Builtin.SmallTypes.nextOf
  refine wpAny_bind (wpAny_callSpecial?_slot (name := Str.ofString "__next__") hit.typeIs PySem.F.slot_tuple_iterator_next
    (wpAny_call_entry PySem.F.slot_tuple_iterator_next hit.typeIs PySem.F.entry_tuple_iterator_next ?_ (PySem.F.args_tuple_iterator_next_1 _)))
  show wpAny _ _ (field (.ref it) 0 >>= _) _ _ s
  refine wpAny_bind (wpAny_field ho hd (x := .ref t) rfl ?_)
  show wpAny _ _ (if (Value.ref t == Value.none) = true then _ else _) _ _ s
  rw [if_neg (show ¬ ((Value.ref t == Value.none) = true) from Bool.false_ne_true)]
  refine wpAny_bind (wpAny_field ho hd (x := .int i 0) rfl ?_)
  refine wpAny_bind (wpAny_seqItems hol hdl ?_)
  simp only [Int.toNat_natCast, hx]
  refine wpAny_bind (wpAny_setField ho hd (by simp) (wpAny_pure ⟨x, rfl, wpAny_pure (hQ _ ?_ (Heap.SameBut.update ..))⟩))
  exact ⟨_, Heap.get?_update_self _ ho (Obj.isFreed_of_fields (Obj.data_mapFields hd _)), (Obj.cls_mapFields ..).trans hc, by
    rw [Obj.data_mapFields hd]; simp [rawInt]⟩
theorem tupNext_end {it t : Addr} {i : Nat} {items : Array Value} {Q : Value → Shared → Prop} (hh : A.handled = none)
    (hit : s.heap.IsTupleIter it t i) (ht : s.heap.IsTuple t items) (hx : items[i]? = none)
    (hE : ∀ h' e, Heap.ExtBut it s.heap h' → (∃ o, h'.get? e = some o ∧ o.cls = .type "StopIteration") → E (.ref e) { s with heap := h' }) :
    wpAny (model prog w) A (Builtin.SmallTypes.nextOf (.ref it)) Q E s := by
  obtain ⟨o, ho, hc, hd⟩ := id hit
  obtain ⟨ol, hol, _, nl, hdl⟩ := ht
  unfold Builtin.SmallTypes.nextOf
  refine wpAny_bind (wpAny_callSpecial?_slot (name := Str.ofString "__next__") hit.typeIs PySem.F.slot_tuple_iterator_next
    (wpAny_call_entry PySem.F.slot_tuple_iterator_next hit.typeIs PySem.F.entry_tuple_iterator_next ?_ (PySem.F.args_tuple_iterator_next_1 _)))
  show wpAny _ _ (field (.ref it) 0 >>= _) _ _ s
  refine wpAny_bind (wpAny_field ho hd (x := .ref t) rfl ?_)
  show wpAny _ _ (if (Value.ref t == Value.none) = true then _ else _) _ _ s
  rw [if_neg (show ¬ ((Value.ref t == Value.none) = true) from Bool.false_ne_true)]
  refine wpAny_bind (wpAny_field ho hd (x := .int i 0) rfl ?_)
  refine wpAny_bind (wpAny_seqItems hol hdl ?_)
  simp only [Int.toNat_natCast, hx]
  refine wpAny_bind (wpAny_rule (wpAny_bind (wpAny_setField ho hd (by simp) ?_)))
  show wpAny _ _ (newExc (.type "StopIteration") [] >>= _) _ _ _
  refine wpAny_bind ?_
  simp only [newExc, newTuple]
  refine wpAny_bind (wpAny_newObj_type ?_ (by size_fits))
  refine wpAny_bind (m := firstArgMember _ _) (wpAny_of_eq (a := Value.none) (by first | rfl | (simp only [firstArgMember]; rfl)) ?_)
  refine wpAny_newObj_type ?_ (by size_fits)
  simp only [raiseNew]
  refine wpAny_bind (wpAny_handled ?_)
  first | rw [show A.in1.handled = none from hh] | rw [hh]
  refine wpAny_bind (wpAny_pure (wpAny_throw ?_))
  exact hE _ _ (((Heap.SameBut.update ..).extBut.push _).push _) ⟨_, Heap.get?_push_size _ rfl, rfl⟩
theorem tupDraws (hh : A.handled = none) (it l : Addr) (hne : l ≠ it) (items : Array Value) :
    Draws prog w A it [it, l] items.size (fun i v => items[i]? = some v) (fun i h => h.IsTupleIter it l i ∧ h.IsTuple l items) where
  live := fun _ _ st => let ⟨o, ho, _⟩ := st.1; ⟨o, ho⟩
  frame := fun _ _ _ st hk => ⟨let ⟨o, ho, r⟩ := st.1; ⟨o, hk it (by simp) o ho, r⟩, let ⟨o, ho, r⟩ := st.2; ⟨o, hk l (by simp) o ho, r⟩⟩
  item := fun i s Q E hi st hQ => by
    refine tupNext_item st.1 st.2 (x := items[i]) (by simp [hi]) fun h' hit' hs' => ?_
    exact hQ _ h' s.toks (by simp [hi]) ⟨hit', let ⟨o, ho, r⟩ := st.2; ⟨o, hs'.extBut l o hne ho, r⟩⟩ hs'
  done := fun s Q E st hE => tupNext_end hh st.1 st.2 (by simp) hE
end
theorem meets_enumT (l : Addr) (items : Array Value) (n : Nat) (dct : Option Addr) (sl : Array (Option Value)) :
    Meets (Builtin.«enumerate.__new__» ⟨[.type "enumerate", .ref l], []⟩) (fun _ R s => s.heap.get? l = some { cls := .type "tuple", dict := dct, data := .seq items n, slots := sl } ∧
      R (.ok (.ret (.ref (s.heap.push { cls := .type "tuple_iterator", data := .fields #[.ref l, .int 0 0] }).objs.size)))
        { s with heap := (s.heap.push { cls := .type "tuple_iterator", data := .fields #[.ref l, .int 0 0] }).push { cls := .type "enumerate", data := .fields #[.none, .bool false, .ref s.heap.objs.size, rawInt 0, .none, .none] } }) :=
  .of_wp fun prog w A R s h => by
    obtain ⟨hp, g, d, tk, os⟩ := s; obtain ⟨hl, h⟩ := h
    have hsub := sub_enumerate
    have hL : Heap.IsTuple (Shared.heap ⟨hp, g, d, tk, os⟩) l items := ⟨_, hl, rfl, n, rfl⟩
    wp_walk using wpAny_loadPart' hl
    refine wpAny_stack_any fun st => wpAny_pure ?_
    split
    · rename_i c _ _ _ _ _
      cases (c == Value.type "enumerate")
      · wp_walk using wpAny_loadPart' hl, wpAny_pyIter_tuple hL
        exact ⟨_, rfl, h⟩
      · wp_walk using wpAny_loadPart' hl, wpAny_pyIter_tuple hL
        exact ⟨_, rfl, h⟩
    · wp_walk using wpAny_loadPart' hl, wpAny_pyIter_tuple hL
      exact ⟨_, rfl, h⟩

section
variable {W h h' : Heap} {p g : PM} {L a b : Addr} {own : List (Addr × Obj)} {m : Str → Option Value} {o o' oa ob : Obj}
theorem Cx.two (C : Cx W p g L ((a, o) :: (b, o') :: own) m h) (hk : ∀ c x, c ≠ a → c ≠ b → h.get? c = some x → h'.get? c = some x) (ha : h'.get? a = some oa) (hb : h'.get? b = some ob) : Cx W p g L ((a, oa) :: (b, ob) :: own) m h' := by
  have wa := C.ow _ (.head _)
  have wb := C.ow _ (.tail _ (.head _))
  have nd := C.nd
  simp only [List.map_cons, List.nodup_cons, List.mem_cons, not_or] at nd
  obtain ⟨oL, es, ep, e1, e2⟩ := id C.ns
  exact {
    ns := ⟨oL, es, ep, hk _ _ wa.2.2.2.symm wb.2.2.2.symm e1, e2⟩
    kp := fun c x e => hk c x (fun q => by rw [q, wa.2.1] at e; cases e) (fun q => by rw [q, wb.2.1] at e; cases e) (C.kp c x e)
    kg := fun c x e => hk c x (fun q => by rw [q, wa.2.2.1] at e; cases e) (fun q => by rw [q, wb.2.2.1] at e; cases e) (C.kg c x e)
    wp := C.wp
    pg := C.pg
    pL := C.pL
    gL := C.gL
    ow := fun q hq => by
      rcases List.mem_cons.mp hq with rfl | hq
      · exact ⟨ha, wa.2⟩
      rcases List.mem_cons.mp hq with rfl | hq
      · exact ⟨hb, wb.2⟩
      have wq := C.ow q (.tail _ (.tail _ hq))
      have h2 : q.1 ∈ own.map (·.1) := List.mem_map_of_mem hq
      exact ⟨hk _ _ (fun e => nd.1.2 (e ▸ h2)) (fun e => nd.2.1 (e ▸ h2)) wq.1, wq.2⟩
    nd := C.nd }
end
noncomputable def EnumO (I : Addr) (i : Nat) (o : Obj) : Prop := ∃ old, o = { cls := .type "enumerate", dict := none, data := .fields #[.none, .bool false, .ref I, rawInt i, .none, old], slots := #[] }
section
variable {prog : Program} {w : World} {A : Around} {W h : Heap} {p g : PM} {L : Addr} {own : List (Addr × Obj)} {m : Str → Option Value} {env : Env}
theorem d_enum {T : Addr} {vs : List Value} {n : Nat} {Q : Value → Heap → Prop} (C : Cx W p g L own m h) (ho : h.get? T = some (tupO vs n))
    (q : ∀ I oI E oE h', IterTup T 0 oI → EnumO I 0 oE → Cx W p g L ((E, oE) :: (I, oI) :: own) m h' → Q (.ref E) h') : Do prog w A (call (.type "enumerate") [.ref T]) Q h := fun s hs => by
  subst hs
  refine callType_new PySem.F.called_enumerate (by decide) (PySem.F.typeCall_enumerate_1 _) (PySem.F.newCall_enumerate_1 _) (fun obj => PySem.F.args_object_init_2 obj _) PySem.F.entry_enumerate_new
    (meets_enumT T vs.toArray n none #[]) ⟨ho, ?_⟩
  show _ ∧ _
  have C1 := C.newOwn { cls := .type "tuple_iterator", data := .fields #[.ref T, .int 0 0] }
  have C2 := C1.newOwn { cls := .type "enumerate", data := .fields #[.none, .bool false, .ref s.heap.objs.size, rawInt 0, .none, .none] }
  exact ⟨⟨_, (C2.ow _ (.head _)).1, rfl⟩, Same.of, q _ _ _ _ _ ⟨rfl, rfl⟩ ⟨_, rfl⟩ C2⟩
theorem d_iter_enum {E I : Addr} {i : Nat} {o : Obj} {Q : Value → Heap → Prop} (ho : h.get? E = some o) (hP : EnumO I i o) (q : Q (.ref E) h) : Do prog w A (pyIter (.ref E)) Q h :=
  fun _ hs => by subst hs; obtain ⟨old, rfl⟩ := hP; exact wpAny_pyIter_enum ho ⟨Same.rfl, q⟩

noncomputable def TurnEndE (W : Heap) (p g : PM) (L E I : Addr) (T : Addr) (i : Nat) (Inv : PM → List (Addr × Obj) → (Str → Option Value) → Prop) (Q : Flow → Heap → Prop) (f : Flow) (h : Heap) : Prop :=
  match f with
  | .brk => Q .next h
  | .ret v => Q (.ret v) h
  | _ => ∃ g' oE oI own' m', EnumO I i oE ∧ IterTup T i oI ∧ g.Le g' ∧ Cx W p g' L ((E, oE) :: (I, oI) :: own') m' h ∧ Inv g' own' m'
theorem d_forEnum {elts : List Expr} {k : Nat} {tpos : Pos} {body orelse : List Stmt} {E I T : Addr} {vs : List Value} {nT : Nat} {oE oI : Obj} {Q : Flow → Heap → Prop} (hh : A.handled = none)
    (hT : un g p T = some (tupO vs nT)) (C : Cx W p g env.locals ((E, oE) :: (I, oI) :: own) m h) (hE : EnumO I 0 oE) (hI : IterTup T 0 oI)
    (Inv : Nat → PM → List (Addr × Obj) → (Str → Option Value) → Prop) (h0 : Inv 0 g own m)
    (turn : ∀ i v tk X g' g'' oE oI own' m' h', i < vs.length → vs[i]? = some v → EnumO I (i + 1) oE → IterTup T (i + 1) oI → g.Le g' → Inv i g' own' m' → g'.Le g'' → g'' X = some (tupO [.int i tk, v] 0) →
      Cx W p g'' env.locals ((E, oE) :: (I, oI) :: own') m' h' →
      Do prog w A (assign (.Tuple elts k tpos) env (.ref X)) (fun _ h₁ => Do prog w A (execs body env) (TurnEndE W p g'' env.locals E I T (i + 1) (Inv (i + 1)) Q) h₁) h')
    (done : ∀ g' own' m' h', g.Le g' → Inv vs.length g' own' m' → Cx W p g' env.locals own' m' h' → Do prog w A (execs orelse env) Q h') (s : Shared) (hs : s.heap = h) :
    codeAny (model prog w) A (.forLoop (.Tuple elts k tpos) (.ref E) body orelse env) (ForR prog w A env Q s) s := by
  refine codeAny_loop' rfl (fun k s' => Same s s' ∧ ∃ i g' oE oI own' m', k = vs.length - i ∧ i ≤ vs.length ∧ EnumO I i oE ∧ IterTup T i oI ∧ g.Le g' ∧ Cx W p g' env.locals ((E, oE) :: (I, oI) :: own') m' s'.heap ∧ Inv i g' own' m') (fun k s' hI => ?_) vs.length
    ⟨Same.rfl, 0, g, oE, oI, own, m, rfl, Nat.zero_le _, hE, hI, .refl, hs ▸ C, h0⟩
  obtain ⟨e0, i, g', oE', oI', own', m', rfl, hi, hEi, hIi, le, C', hInv⟩ := hI
  show wpAny _ _ ((forTurn (.Tuple elts k tpos) (.ref E) body orelse env).onRaise (fun x => do noteFrame x env; theTreesLotGoes x)) _ _ s'
  refine wpAny_noted ?_
  simp only [forTurn]
  refine wpAny_bind (wpAny_standAt (wpAny_bind (wpAny_onRaise ?_)))
  have hoE := (C'.ow _ (.head _)).1
  have hoI := (C'.ow _ (.tail _ (.head _))).1
  have hoT := C'.ku' le _ _ hT
  obtain ⟨old, rfl⟩ := hEi
  have nd := C'.nd
  simp only [List.map_cons, List.nodup_cons, List.mem_cons, not_or] at nd
  have hEI : E ≠ I := nd.1.1
  have hTI : T ≠ I := fun e => by rw [e, hoI] at hoT; have h2 := hIi.1; cases hoT; exact absurd (Value.type.inj h2) (by decide)
  have hTE : E ≠ T := fun e => by rw [← e, hoE] at hoT; have h2 := congrArg Obj.cls (Option.some.inj hoT); exact absurd (Value.type.inj h2) (by decide)
  have D := tupDraws (prog := prog) (w := w) (A := A.in1) hh I T hTI vs.toArray
  by_cases hlt : i < vs.length
  · refine wpAny_pyNext_enum_itemD D hoE ⟨⟨_, hoI, hIi.1, hIi.2⟩, ⟨_, hoT, rfl, nT, rfl⟩⟩ (by simpa using hlt) hEI (by simp [hEI, hTE]) fun x h1 tk hx ho1 hst hX hsz hk => ?_
    obtain ⟨⟨oI1, hoI1, hc1, hd1⟩, _⟩ := hst
    have C1 := C'.two hk ho1 hoI1
    have hXn : ∀ (x : PM), (∀ a o, x a = some o → s'.heap.get? a = some o) → x s'.heap.objs.size = none := fun x k => none_of_size k
    have C2 := C1.take hX (hXn p C'.kp) (fun e => Nat.lt_irrefl _ (by have := C'.ns.lt; rw [← e] at this; exact this)) (fun hm => by
      obtain ⟨q, hq, e⟩ := List.mem_map.mp hm
      have hq' : ∃ o, s'.heap.get? q.1 = some o := by
        rcases List.mem_cons.mp hq with rfl | hq
        · exact ⟨_, hoE⟩
        rcases List.mem_cons.mp hq with rfl | hq
        · exact ⟨_, hoI⟩
        exact ⟨_, (C'.ow q (.tail _ (.tail _ hq))).1⟩
      obtain ⟨o, ho⟩ := hq'
      have := Heap.lt_size ho
      rw [e] at this
      exact Nat.lt_irrefl _ this)
    have leX : g'.Le (g'.set s'.heap.objs.size (tupO [.int i tk, x] 0)) := PM.le_set (hXn g' C'.kg)
    refine wpAny_bind (wpAny_letOwnedTupleGo_enum (s := { s' with heap := h1, toks := tk + 1 }) ho1 fun h2 he2 hs2 => ?_)
    have C3 := C2.upd0 hs2 he2
    have tail := turn i x tk s'.heap.objs.size g' _ _ oI1 own' m' h2 hlt (by simpa using hx) ⟨_, rfl⟩ ⟨hc1, hd1⟩ le hInv leX PM.set_self C3
    refine wpAny_bind (wpAny_mono (tail _ rfl) (fun _ s₃ x₃ => ?_) fun _ _ x => x.elim)
    refine wpAny_bind (wpAny_mono (x₃.2 s₃ rfl) (fun f s₄ x₄ => ?_) fun _ _ x => x.elim)
    have eS : Same s s₄ := e0.trans ((Same.of (s := s') (h := h2) (tk := tk + 1)).trans (x₃.1.trans x₄.1))
    cases f with
    | brk => exact wpAny_pure ⟨eS, x₄.2⟩
    | ret v => exact wpAny_pure ⟨eS, x₄.2⟩
    | next =>
      obtain ⟨g'', oE'', oI'', own'', m'', hE'', hI'', le'', C'', hv⟩ := x₄.2
      exact wpAny_pure (.inl ⟨rfl, vs.length - (i + 1), by omega, eS, i + 1, g'', oE'', oI'', own'', m'', rfl, hlt, hE'', hI'', le.trans (leX.trans le''), C'', hv⟩)
    | cont =>
      obtain ⟨g'', oE'', oI'', own'', m'', hE'', hI'', le'', C'', hv⟩ := x₄.2
      exact wpAny_pure (.inl ⟨rfl, vs.length - (i + 1), by omega, eS, i + 1, g'', oE'', oI'', own'', m'', rfl, hlt, hE'', hI'', le.trans (leX.trans le''), C'', hv⟩)
  · have hin : i = vs.length := by omega
    subst hin
    refine wpAny_pyNext_enum_endD D hoE (by simpa using (⟨⟨_, hoI, hIi.1, hIi.2⟩, ⟨_, hoT, rfl, nT, rfl⟩⟩ : _ ∧ _)) fun h1 hx => ?_
    refine wpAny_pure (.inr ⟨rfl, codeAny_block ?_⟩)
    refine wpAny_mono (done g' own' m' h1 le hInv (C'.drop.gone hx) _ rfl) (fun f s₂ x => ?_) fun _ _ x => x.elim
    exact ⟨e0.trans (Same.of.trans x.1), x.2⟩
end
end

section
open PySem PySem.W PySem.Calls PyProof.Rows
theorem tp_unmatched {w : World} : nsIn (KF w) mainGlobals (Str.ofString "unmatched") = some (some (.ref 43)) := rfl
theorem tp_split_header_words {w : World} : nsIn (KF w) mainGlobals (Str.ofString "split_header_words") = some (some (.ref 70)) := rfl
theorem tp_join_header_words {w : World} : nsIn (KF w) mainGlobals (Str.ofString "join_header_words") = some (some (.ref 87)) := rfl
theorem tp_reduce {w : World} : nsIn (KF w) mainGlobals (Str.ofString "reduce") = some (some (.ref 96)) := rfl
theorem tp__initial_missing {w : World} : nsIn (KF w) mainGlobals (Str.ofString "_initial_missing") = some (some (.ref 88)) := rfl
theorem tp_S_IFMT {w : World} : nsIn (KF w) mainGlobals (Str.ofString "S_IFMT") = some (some (.ref 103)) := rfl
theorem tp_filemode {w : World} : nsIn (KF w) mainGlobals (Str.ofString "filemode") = some (some (.ref 143)) := rfl
theorem tp__law_rows {w : World} : nsIn (KF w) mainGlobals (Str.ofString "_law_rows") = some (some (.ref 150)) := rfl
theorem tp__law_written {w : World} : nsIn (KF w) mainGlobals (Str.ofString "_law_written") = some (some (.ref 157)) := rfl
theorem tp__law_signs {w : World} : nsIn (KF w) mainGlobals (Str.ofString "_law_signs") = some (some (.ref 164)) := rfl
theorem tp__law_header {w : World} : nsIn (KF w) mainGlobals (Str.ofString "_law_header") = some (some (.ref 171)) := rfl
theorem tp__law_split {w : World} : nsIn (KF w) mainGlobals (Str.ofString "_law_split") = some (some (.ref 178)) := rfl
theorem tp__law_scanned {w : World} : nsIn (KF w) mainGlobals (Str.ofString "_law_scanned") = some (some (.ref 185)) := rfl
theorem tp_HEADER_TOKEN_RE {w : World} : nsIn (KF w) mainGlobals (Str.ofString "HEADER_TOKEN_RE") = some (some (.ref 48)) := rfl
theorem tp_HEADER_QUOTED_VALUE_RE {w : World} : nsIn (KF w) mainGlobals (Str.ofString "HEADER_QUOTED_VALUE_RE") = some (some (.ref 53)) := rfl
theorem tp_HEADER_VALUE_RE {w : World} : nsIn (KF w) mainGlobals (Str.ofString "HEADER_VALUE_RE") = some (some (.ref 58)) := rfl
theorem tp_HEADER_ESCAPE_RE {w : World} : nsIn (KF w) mainGlobals (Str.ofString "HEADER_ESCAPE_RE") = some (some (.ref 63)) := rfl
theorem tp_HEADER_JOIN_TOKEN_RE {w : World} : nsIn (KF w) mainGlobals (Str.ofString "HEADER_JOIN_TOKEN_RE") = some (some (.ref 75)) := rfl
theorem tp_HEADER_JOIN_ESCAPE_RE {w : World} : nsIn (KF w) mainGlobals (Str.ofString "HEADER_JOIN_ESCAPE_RE") = some (some (.ref 80)) := rfl
theorem tp__twin_re_7 {w : World} : nsIn (KF w) mainGlobals (Str.ofString "_twin_re_7") = some (some (.ref 36)) := rfl
theorem tp__filemode_table {w : World} : nsIn (KF w) mainGlobals (Str.ofString "_filemode_table") = some (some (.ref 136)) := rfl
theorem bt_enumerate : bootBuiltins (Str.ofString "enumerate") = some (.type "enumerate") := by rfl
theorem bt_range : bootBuiltins (Str.ofString "range") = some (.type "range") := by rfl
theorem bt_min : bootBuiltins (Str.ofString "min") = some (.builtin "min") := by rfl
theorem bt_len : bootBuiltins (Str.ofString "len") = some (.builtin "len") := by rfl
theorem bt_isinstance : bootBuiltins (Str.ofString "isinstance") = some (.builtin "isinstance") := by rfl
theorem bt_iter : bootBuiltins (Str.ofString "iter") = some (.builtin "iter") := by rfl
theorem bt_str : bootBuiltins (Str.ofString "str") = some (.type "str") := by rfl
theorem bt_next : bootBuiltins (Str.ofString "next") = some (.builtin "next") := by rfl
section
variable {prog : Program} {w : World} {A : Around} {W h : Heap} {p g : PM} {L : Addr} {own pre post : List (Addr × Obj)} {m mg mb : Str → Option Value} {env : Env} {a b : Addr} {vs ws : List Value} {n k : Nat}
theorem d_inOrder {t : Value → Sem Unit} {ts : List (Value → Sem Unit)} {v : Value} {Q : Unit → Heap → Prop}
    (H : Do prog w A (t v) (fun _ h₁ => Do prog w A (assignInOrder ts vs) Q h₁) h) : Do prog w A (assignInOrder (t :: ts) (v :: vs)) Q h := by
  show Do prog w A (do PySem.holding vs (t v); assignInOrder ts vs) Q h
  exact Do.bind (Do.holding H)
theorem d_unpack2 {x y : Str} {px py pos : Pos} {k : Nat} {T : Addr} {v₁ v₂ : Value} {Q : Unit → Heap → Prop} (hh : A.handled = none) (C : Cx W p g L own m h) (ho : h.get? T = some (tupO [v₁, v₂] n))
    (q : ∀ h', Cx W p g L own m h' → Do prog w A (storeName env x v₁) (fun _ h₁ => Do prog w A (storeName env y v₂) Q h₁) h') : Do prog w A (assign (.Tuple [.Name x px, .Name y py] k pos) env (.ref T)) Q h := by
  refine d_unpack hh C ho rfl rfl fun h' C' => ?_
  show Do prog w A (assignInOrder [fun v => assign (.Name x px) env v, fun v => assign (.Name y py) env v] [v₁, v₂]) Q h'
  refine d_inOrder (d_assign_Name ((q h' C').mono fun _ h₁ H => d_inOrder (d_assign_Name (H.mono fun _ h₂ r => d_inOrder_nil r))))
theorem d_unpack5 {x1 x2 x3 x4 x5 : Str} {p1 p2 p3 p4 p5 pos : Pos} {k : Nat} {T : Addr} {v₁ v₂ v₃ v₄ v₅ : Value} {Q : Unit → Heap → Prop} (hh : A.handled = none) (C : Cx W p g L own m h) (ho : h.get? T = some (tupO [v₁, v₂, v₃, v₄, v₅] n))
    (q : ∀ h', Cx W p g L own m h' → Do prog w A (storeName env x1 v₁) (fun _ h₁ => Do prog w A (storeName env x2 v₂) (fun _ h₂ => Do prog w A (storeName env x3 v₃) (fun _ h₃ => Do prog w A (storeName env x4 v₄) (fun _ h₄ => Do prog w A (storeName env x5 v₅) Q h₄) h₃) h₂) h₁) h') :
    Do prog w A (assign (.Tuple [.Name x1 p1, .Name x2 p2, .Name x3 p3, .Name x4 p4, .Name x5 p5] k pos) env (.ref T)) Q h := by
  refine d_unpack hh C ho rfl rfl fun h' C' => ?_
  show Do prog w A (assignInOrder [fun v => assign (.Name x1 p1) env v, fun v => assign (.Name x2 p2) env v, fun v => assign (.Name x3 p3) env v, fun v => assign (.Name x4 p4) env v, fun v => assign (.Name x5 p5) env v] [v₁, v₂, v₃, v₄, v₅]) Q h'
  refine d_inOrder (d_assign_Name ((q h' C').mono fun _ h₁ H => d_inOrder (d_assign_Name (H.mono fun _ h₂ H => d_inOrder (d_assign_Name (H.mono fun _ h₃ H => d_inOrder (d_assign_Name (H.mono fun _ h₄ H => d_inOrder (d_assign_Name (H.mono fun _ h₅ r => d_inOrder_nil r))))))))))
theorem d_fieldS {value : PySem.Expr} {pos : Pos} {Q : Value → Heap → Prop} (H : Do prog w A (eval value env) (fun v h₁ => ∃ l t, v = .str (S l) t ∧ l.length ≤ sizeLine ∧ ∀ t, Q (.str (S l) t) h₁) h) :
    Do prog w A (eval (.FormattedValue value 115 none pos) env) Q h := fun s hs => by
  refine wpAny_FormattedValue_s (H.to hs fun v s₁ e₁ x => ?_)
  obtain ⟨l, t, rfl, hz, q⟩ := x
  have hz' : (S l).length ≤ sizeLine := by rw [S_len]; exact hz
  show wpAny _ _ (habitSame "fstring-hands-on-the-str" (.str (S l) t)) _ _ _
  exact wpAny_habitSame_str (wpAny_formatField_str ⟨e₁, q _⟩ ⟨e₁.trans Same.of, q _⟩ hz') (wpAny_formatField_str ⟨e₁.trans Same.of, q _⟩ ⟨e₁.trans Same.of, q _⟩ hz') hz'
theorem d_Joined3 {e₁ e₂ e₃ : PySem.Expr} {pos : Pos} {Q : Value → Heap → Prop}
    (H : Do prog w A (eval e₁ env) (fun a h₁ => ∃ x t, a = .str (S x) t ∧ x.length ≤ sizeLine ∧ Do prog w A (eval e₂ env) (fun b h₂ => ∃ y t, b = .str (S y) t ∧ (x ++ y).length ≤ sizeLine ∧ Do prog w A (eval e₃ env) (fun c h₃ => ∃ z t, c = .str (S z) t ∧ (x ++ y ++ z).length ≤ sizeLine ∧ ∀ t, Q (.str (S (x ++ y ++ z)) t) h₃) h₂) h₁) h) :
    Do prog w A (eval (.JoinedStr [e₁, e₂, e₃] pos) env) Q h := fun s hs => by
  refine JoinedStr_many (joinParts_cons (H.to hs fun a s₁ f₁ r => ?_))
  obtain ⟨x, t, rfl, hx, r⟩ := r
  have e0 : Str.empty ++ S x = S x := by
    show (⟨#[] ++ x.toArray⟩ : Str) = _
    simp
  refine ⟨?_, joinParts_cons (r.to rfl fun b s₂ f₂ r => ?_)⟩
  · rw [e0, S_len]; exact hx
  · obtain ⟨y, t, rfl, hxy, r⟩ := r
    refine ⟨by rw [e0, S_add, S_len]; exact hxy, joinParts_consE (joinParts_cons (r.to rfl fun c s₃ f₃ r => ?_))⟩
    obtain ⟨z, t, rfl, hz, q⟩ := r
    rw [e0, S_add]
    show (S (x ++ y) ++ S z).length ≤ sizeLine ∧ wpAny _ _ (joinParts (S (x ++ y) ++ S z) _) _ _ _
    rw [S_add]
    have hz' : (S (x ++ y ++ z)).length ≤ sizeLine := by rw [S_len]; exact hz
    exact ⟨hz', joinParts_nilE (joinParts_nil ⟨f₁.trans (f₂.trans (f₃.trans Same.of)), q _⟩ hz')⟩
theorem to_front (pre post : List (Addr × Obj)) (x : Addr × Obj) : (x :: (pre ++ post)).Perm (pre ++ x :: post) := List.perm_middle.symm
theorem d_appendAt (pre post : List (Addr × Obj)) {v : Value} {Q : Value → Heap → Prop} (C : Cx W p g L (pre ++ (a, lstO vs n) :: post) m h) (hz : vs.length ≤ sizeLine)
    (q : ∀ n h', Cx W p g L (pre ++ (a, lstO (vs ++ [v]) n) :: post) m h' → Q .none h') : Do prog w A (call (.builtin "list.append") [.ref a, v]) Q h :=
  d_append (C.perm (to_front pre post _)) hz fun n h' C' => q n h' (C'.perm (to_front pre post _).symm)
theorem d_extendAt (pre post : List (Addr × Obj)) {Q : Value → Heap → Prop} (C : Cx W p g L (pre ++ (a, lstO vs n) :: post) m h) (hb : h.get? b = some (lstO ws k)) (hz : vs.length + ws.length ≤ 1000000)
    (q : ∀ n h', Cx W p g L (pre ++ (a, lstO (vs ++ ws) n) :: post) m h' → Q .none h') : Do prog w A (call (.builtin "list.extend") [.ref a, .ref b]) Q h :=
  d_extend (C.perm (to_front pre post _)) hb hz fun n h' C' => q n h' (C'.perm (to_front pre post _).symm)
theorem Cx.own_at (pre post : List (Addr × Obj)) {o : Obj} (C : Cx W p g L (pre ++ (a, o) :: post) m h) : h.get? a = some o := (C.ow _ (List.mem_append_right _ (.head _))).1
theorem d_lextend {pl : Sem Bool} {Q : Value × List Value → Heap → Prop} (ho : h.get? a = some (lstO vs n)) (q : Q (.builtin "list.extend", [.ref a]) h) : Do prog w A (getMethod (.ref a) "extend" pl) Q h := fun s hs => by
  subst hs
  exact getMethod_builtin (T := "list") ⟨_, ho, rfl⟩ PySem.F.plainAttrs_list PySem.F.slot_list_extend PySem.F.type_list_extend (fun b e => by cases e; exact ⟨_, ho, rfl⟩) ⟨Same.rfl, q⟩
/-- a def of the text's called by its name -/
theorem d_callTop {pos : Pos} {f : Addr} {o : Obj} {fd : FuncData} {e : PySem.Expr} {rest : List PySem.Expr} {Q : Value → Heap → Prop} (V : Wd w W mg mb) (ho : (KF w).lookup f = some o) (hdat : o.data = .func fd)
    (H : Do prog w A (spliced (backTo pos (starEach (e :: rest) env))) (fun vs h₁ => (∀ a o, W.get? a = some o → h₁.get? a = some o) ∧ Do prog w A (PySem.call (.ref f) vs) Q h₁) h)
    (he : starEach (e :: rest) env = (false, eval e env) :: starEach rest env := by rfl) :
    Do prog w A (callWith pos (.ref f) [] (backTo pos (starEach (e :: rest) env)) []) Q h :=
  d_callWith_def hdat (H.mono fun vs h' x => ⟨x.1 _ _ (V.K _ _ ho), x.2⟩) he
end
end

section
open PySem PySem.W PySem.Calls PyProof.Rows
/-! an end taken as a variable: what stands behind a walk is then not carried through it -/
section
variable {α β : Type} {prog : Program} {w : World} {A : Around} {h : Heap}
theorem abs1 {t : Sem α} {T : α → Heap → Prop} (H : ∀ R : α → Heap → Prop, (∀ a h, T a h → R a h) → Do prog w A t R h) : Do prog w A t T h := H T fun _ _ x => x
theorem abs2 {t : Sem α} {u : Sem β} {T : β → Heap → Prop} (H : ∀ R : β → Heap → Prop, (∀ a h, T a h → R a h) → Do prog w A t (fun _ h₁ => Do prog w A u R h₁) h) : Do prog w A t (fun _ h₁ => Do prog w A u T h₁) h := H T fun _ _ x => x
theorem abs3 {t : Sem Bool} {u v : Sem β} {T Q : β → Heap → Prop} (H : ∀ R S : β → Heap → Prop, (∀ a h, T a h → R a h) → (∀ a h, Q a h → S a h) → Do prog w A t (fun b h₁ => if b then Do prog w A u R h₁ else Do prog w A v S h₁) h) :
    Do prog w A t (fun b h₁ => if b then Do prog w A u T h₁ else Do prog w A v Q h₁) h := H T Q (fun _ _ x => x) fun _ _ x => x
end
end

end Mine
namespace Mine
open PySem PySem.W PySem.Calls PyProof.Rows
set_option compiler.extract_closed false
local macro_rules | `(tactic| walk_at "mname") => `(tactic| first
  | (refine' d_Name (d_local ?c ?e ?_); (case c => assumption); (case e => first | rfl | assumption))
  | (refine' d_Name (d_top ?v ?c ?e ?_); (case v => assumption); (case c => assumption); (case e => with_reducible first | exact tp_unmatched | exact tp_split_header_words | exact tp_join_header_words | exact tp_reduce | exact tp__initial_missing | exact tp_S_IFMT | exact tp_filemode | exact tp__law_rows | exact tp__law_written | exact tp__law_signs | exact tp__law_header | exact tp__law_split | exact tp__law_scanned | exact tp_HEADER_TOKEN_RE | exact tp_HEADER_QUOTED_VALUE_RE | exact tp_HEADER_VALUE_RE | exact tp_HEADER_ESCAPE_RE | exact tp_HEADER_JOIN_TOKEN_RE | exact tp_HEADER_JOIN_ESCAPE_RE | exact tp__twin_re_7 | exact tp__filemode_table))
  | (refine' d_Name (d_boot ?v ?c ?e ?f ?_); (case v => assumption); (case c => assumption); (case e => rfl); (case f => with_reducible first | exact bt_enumerate | exact bt_range | exact bt_min | exact bt_len | exact bt_isinstance | exact bt_iter | exact bt_str)))
local macro_rules | `(tactic| walk_at "mlit") => `(tactic| with_reducible first | exact l_nil | exact l_r | exact l_w | exact l_xs | exact l_xt | exact l_types | exact l_bs | exact l_q | exact l_eq | exact l_semi | exact l_sq | exact l_com | exact l_c | exact l_ask | exact l_dash)
local macro_rules | `(tactic| walk_at "meval") => `(tactic| first
  | ((with_reducible show Do _ _ _ (eval (PySem.Expr.Name _ _) _) _ _); walk_at "mname")
  | (with_reducible first
    | (refine d_Const_int ?_; intro t)
    | refine d_BinOp ?_
    | refine d_Subscript ?_
    | refine d_Tuple ?_
    | refine d_List ?_
    | refine d_Slice ?_
    | refine d_Const_none ?_
    | refine d_Or2 ?_
    | refine d_And2 ?_
    | refine d_Const_bool ?_
    | (refine' d_Const_S ?e ?_; (case e => walk_at "mlit"); intro t))
  | ((with_reducible refine' d_Compare ?_ ?w); (case w => with_unfolding_all rfl))
  | ((with_reducible first | refine' d_MethodCall ?_ ?w | refine' d_Call ?_ ?w); (case w => rfl))
  | ((with_reducible refine' d_Attribute ?_ ?w); (case w => with_unfolding_all rfl)))
local macro_rules | `(tactic| walk_at "mexec") => `(tactic| first
  | ((with_reducible refine' d_Assign_Name ?_ ?w); (case w => rfl))
  | (with_reducible first | refine d_If ?_ | refine d_Return ?_ | refine d_Break ?_ | refine d_Assert ?_)
  | ((with_reducible first | refine' d_Expr ?_ ?w ?w' | refine' d_Assign_Tuple ?_ ?w ?w'); (case w => rfl); (case w' => rfl))
  | ((with_reducible refine' d_For ?_ ?w); (case w => (intro _; rfl))))
local macro_rules | `(tactic| walk_at "mtrue") => `(tactic| first
  | ((with_reducible refine' d_isTrue_Compare ?_ ?w); (case w => with_unfolding_all rfl))
  | (with_reducible first | refine d_isTrue_Not ?_ | refine d_isTrue_And2 ?_)
  | ((with_reducible refine' d_isTrue_value ?_ ?w); (case w => rfl)))
local macro_rules | `(tactic| walk_at "mop") => `(tactic| with_reducible first
  | ((first | refine d_add ?_ | refine d_sub ?_ | refine d_and ?_); intro t)
  | refine d_eq ?_
  | refine d_ne ?_
  | refine d_lt ?_
  | refine d_gt ?_
  | refine d_seq ?_
  | refine d_sne ?_
  | refine d_isNotNone ?_)
local macro_rules | `(tactic| walk_at "m") => `(tactic| first
  | ((with_reducible show Do _ _ _ (eval _ _) _ _); walk_at "meval")
  | (with_reducible refine d_execs_cons ?_)
  | ((with_reducible show Do _ _ _ (exec _ _) _ _); walk_at "mexec")
  | ((with_reducible refine' d_store ?c ?_ ?w ?w'); (case c => assumption); (case w => rfl); (case w' => rfl); intro h C; try dsimp only)
  | ((with_reducible refine' d_args_cons ?_ ?w); (case w => rfl))
  | (with_reducible refine d_args_nil ?_)
  | ((with_reducible show Do _ _ _ (isTrue _ _ _) _ _); walk_at "mtrue")
  | (with_reducible first
    | refine d_truthy_bool ?_
    | refine d_truthy_none ?_
    | refine d_execs_nil ?_
    | refine d_part_none ?_
    | refine d_part_some ?_
    | refine d_assign_Name ?_)
  | ((with_reducible refine d_inOrder ?_); try dsimp only)
  | (with_reducible refine d_inOrder_nil ?_)
  | walk_at "mop")
local macro_rules | `(tactic| walk_at "ms") => `(tactic| repeat walk_at "m")
local macro_rules | `(tactic| walk_at "mfdiv") => `(tactic| ((with_reducible refine' d_fdivE ?a ?b ?_); (case a => first | decide | omega); (case b => first | decide | omega); intro t))
local macro_rules | `(tactic| walk_at "mfmod") => `(tactic| ((with_reducible refine' d_fmodE ?a ?_); (case a => first | decide | omega); intro t))
local macro_rules | `(tactic| walk_at "msitem") => `(tactic| ((with_reducible refine' d_sitem' ?a ?b ?c ?_ ?d); (case a => omega); (case b => simp only [List.length_cons, List.length_nil]; omega); (case c => decide); (case d => with_unfolding_all rfl); intro t))
local macro_rules | `(tactic| walk_at "mlen") => `(tactic| ((rw [sizeLine_eq]); (try simp only [List.length_append, List.length_cons, List.length_nil]); omega))
local macro_rules | `(tactic| walk_at "mtup") => `(tactic| ((with_reducible refine' d_newTuple ?c ?_ ?z); (case c => assumption); (case z => exact Nat.le_of_ble_eq_true rfl); intro a h hn C))
local macro_rules | `(tactic| walk_at "msadd") => `(tactic| ((with_reducible refine' d_sadd ?a ?_); (case a => walk_at "mlen"); intro t))
local macro_rules | `(tactic| walk_at "mcall") => `(tactic| ((with_reducible refine' d_callTop ?v rfl rfl ?_ ?w); (case v => assumption); (case w => rfl)))
local macro_rules | `(tactic| walk_at "mbuilt") => `(tactic| first | ((with_reducible refine' d_callWith_builtin ?_ ?w ?w'); (case w => rfl); (case w' => rfl)) | ((with_reducible refine' d_callWith_type ?_ ?w ?w'); (case w => rfl); (case w' => rfl)))
local macro_rules | `(tactic| walk_at "mbuilt0") => `(tactic| (with_reducible refine d_callWith_builtin0 ?_))
local macro_rules | `(tactic| walk_at "mtype") => `(tactic| walk_at "mbuilt")
set_option compiler.extract_closed true


section
open PySem PySem.W PySem.Calls PyProof.Rows
/-! ## the ten signs, as the law reckons them -/
noncomputable def gT : List Nat := [63, 112, 99, 63, 100, 63, 98, 63, 45, 63, 108, 63, 115, 63, 63, 63]
noncomputable def gX (place : Int) : List Nat := if place = 0 then [45, 120, 84, 116] else [45, 120, 83, 115]
noncomputable def sgAdd (mode place : Int) (pre : List Nat) : List Nat :=
  let f := mode / 8 ^ place.toNat % 8
  pre ++ [[45, 114].getD (f / 4).toNat 0] ++ [[45, 119].getD (f / 2 % 2).toNat 0] ++ [(gX place).getD (f % 2 + 2 * (mode / (512 * 2 ^ place.toNat) % 2)).toNat 0]
noncomputable def sgI (mode : Int) : List Nat := sgAdd mode 0 (sgAdd mode 1 (sgAdd mode 2 [gT.getD (mode / 4096 % 16).toNat 0]))
theorem sgAdd_len (mode place : Int) (pre : List Nat) : (sgAdd mode place pre).length = pre.length + 3 := by simp [sgAdd]

noncomputable def sgF (mode : Int) (pls : List Int) : List Nat := pls.foldl (fun pre pl => sgAdd mode pl pre) [gT.getD (mode / 4096 % 16).toNat 0]
theorem sgF_snoc (mode : Int) (pls : List Int) (pl : Int) : sgF mode (pls ++ [pl]) = sgAdd mode pl (sgF mode pls) := by simp [sgF]
theorem sgF_len (mode : Int) (pls : List Int) : (sgF mode pls).length = 1 + 3 * pls.length := by
  have : ∀ (pls : List Int) (pre : List Nat), (pls.foldl (fun pre pl => sgAdd mode pl pre) pre).length = pre.length + 3 * pls.length := by
    intro pls
    induction pls with
    | nil => intro pre; simp
    | cons a l ih => intro pre; rw [List.foldl_cons, ih, sgAdd_len]; simp; omega
  rw [sgF, this]; simp

theorem c_signs {prog : Program} {w : World} {A : Around} {W h : Heap} {p g : PM} {L : Addr} {rest : List (Addr × Obj)} {m mg mb : Str → Option Value} {Q : Value → Heap → Prop} {mode : Int} {t0 : Tok}
    (V : Wd w W mg mb) (hA : Ar 1 A) (C : Cx W p g L rest m h) (h0 : 0 ≤ mode) (h1 : mode < 65536)
    (ret : ∀ t g' h', g.Le g' → Cx W p g' L rest m h' → Q (.str (S (sgI mode)) t) h') : Do prog w A (call (.ref 164) [.int mode t0]) Q h := by
  refine call_top (X := []) (binds := [("mode", .int mode t0)]) V hA C rfl rfl rfl rfl (by decide) (locs rfl) (fun p' L' h₁ A' C hA => abs1 fun R0 hR0 => ?_)
  walk_at "ms"
  walk_at "mfdiv"
  walk_at "ms"
  walk_at "mfmod"
  walk_at "msitem"
  walk_at "ms"
  rename Cx _ _ _ _ _ _ _ => C
  refine d_newTuple C (fun a h' hn C' => ?_)
  refine d_iter_tuple C' (C'.kg _ _ PM.set_self) (fun I o h' hP C' => ?_)
  intro s hs
  refine d_forLoop (Iter.tuple hA.hh (un_g PM.set_self)) C' hP (fun i g' own m => own = [] ∧ m "mode" = some (.int mode t0) ∧ ∃ t, m "signs" = some (.str (S (sgF mode (([2, 1, 0] : List Int).take i))) t)) ⟨rfl, rfl, _, rfl⟩ ?_ ?_ (fun i o hP => ⟨_, hP.1, by decide⟩) s hs
  · intro i v g' o' own' m' h' hi hv hP' le hI C
    refine abs2 fun R1 hR1 => ?_
    obtain ⟨rfl, hm, ts, hsg⟩ := hI
    obtain ⟨pl, tp, rfl, hp0, hp2, hpl⟩ : ∃ pl tp, v = .int pl tp ∧ 0 ≤ pl ∧ pl ≤ 2 ∧ ([2, 1, 0] : List Int).take (i + 1) = ([2, 1, 0] : List Int).take i ++ [pl] := by
      match i, hi, hv with
      | 0, _, hv => cases hv; exact ⟨2, _, rfl, by decide, by decide, rfl⟩
      | 1, _, hv => cases hv; exact ⟨1, _, rfl, by decide, by decide, rfl⟩
      | 2, _, hv => cases hv; exact ⟨0, _, rfl, by decide, by decide, rfl⟩
    rw [hpl, sgF_snoc] at hR1
    have hlen := sgF_len mode (([2, 1, 0] : List Int).take i)
    have hlen : (sgF mode (([2, 1, 0] : List Int).take i)).length ≤ 10 := by
      rw [hlen, List.length_take]
      have : min i ([2, 1, 0] : List Int).length ≤ 3 := Nat.min_le_right _ _
      omega
    generalize sgF mode (([2, 1, 0] : List Int).take i) = pre at hsg hlen hR1
    have hpow : 0 < (8 : Int) ^ pl.toNat ∧ (8 : Int) ^ pl.toNat ≤ 64 ∧ 0 < (2 : Int) ^ pl.toNat ∧ (2 : Int) ^ pl.toNat ≤ 4 := by
      have : pl = 0 ∨ pl = 1 ∨ pl = 2 := by omega
      rcases this with rfl | rfl | rfl <;> decide
    obtain ⟨hpow1, hpow2, hpow3, hpow4⟩ := hpow
    have hb8 : Builtin.Int.intBits 8 = 4 := by decide
    have hb2 : Builtin.Int.intBits 2 = 2 := by decide
    walk_at "ms"
    (with_reducible refine' d_pow hp0 ?a ?_); (case a => rw [hb8]; omega)
    intro t
    walk_at "mfdiv"
    walk_at "ms"
    walk_at "mfmod"
    walk_at "ms"
    (with_reducible refine' d_pow hp0 ?a ?_); (case a => rw [hb2]; omega)
    intro t
    (with_reducible refine' d_mul ?a ?_); (case a => exact IntMulOk.of_left (by decide))
    intro t
    walk_at "mfdiv"
    walk_at "ms"
    walk_at "mfmod"
    walk_at "ms"
    walk_at "mfdiv"
    walk_at "msitem"
    walk_at "msadd"
    walk_at "ms"
    walk_at "mfdiv"
    walk_at "ms"
    walk_at "mfmod"
    walk_at "msitem"
    walk_at "msadd"
    walk_at "ms"
    walk_at "mtup"
    rename_i tA tB a₂ h' hn₂ C
    walk_at "ms"
    have hvX : ∃ tx, [Value.str (S [45, 120, 83, 115]) tA, Value.str (S [45, 120, 84, 116]) tB][(pl == 0).toNat]? = some (.str (S (gX pl)) tx) := by
      by_cases hz : pl = 0
      · subst hz; exact ⟨_, rfl⟩
      · have e : (pl == 0) = false := by simp [hz]
        rw [e, gX, if_neg hz]; exact ⟨_, rfl⟩
    obtain ⟨tx, hvX⟩ := hvX
    (with_reducible refine' d_titemB (C.kg _ _ PM.set_self) hvX ?_ ?w); (case w => with_unfolding_all rfl)
    walk_at "ms"
    walk_at "mfmod"
    walk_at "ms"
    (with_reducible refine' d_mul ?a ?_); (case a => exact IntMulOk.of_left (by decide))
    intro t
    walk_at "ms"
    have hgX : (gX pl).length = 4 := by unfold gX; split <;> rfl
    (with_reducible refine' d_sitem' ?a ?b ?c ?_ ?d); (case a => omega); (case b => rw [hgX]; omega); (case c => rw [hgX]; decide); (case d => with_unfolding_all rfl)
    intro t
    walk_at "msadd"
    walk_at "ms"
    rename Cx _ _ _ _ _ _ _ => C
    exact hR1 _ _ ⟨_, _, _, _, hP', PM.le_set hn₂, C, rfl, hm, _, rfl⟩
  · intro g' own' m' h' le hI C
    obtain ⟨rfl, hm, ts, hsg⟩ := hI
    walk_at "ms"
    refine hR0 _ _ ⟨g', [], m', [], (PM.le_set hn).trans le, C, fun _ h => h, rfl, fun Cc => ?_⟩
    exact ret _ _ _ ((PM.le_set hn).trans le) Cc
end

section
open PySem PySem.W PySem.Calls PyProof.Rows
section
variable {prog : Program} {w : World} {A : Around} {W h : Heap} {p g : PM} {L : Addr} {rest : List (Addr × Obj)} {m mg mb : Str → Option Value} {Q : Value → Heap → Prop}
theorem c_ifmt {mode : Int} {t0 : Tok} (V : Wd w W mg mb) (hA : Ar 1 A) (C : Cx W p g L rest m h)
    (ret : ∀ t g' h', g.Le g' → Cx W p g' L rest m h' → Q (.int (Builtin.bitAnd mode 61440) t) h') : Do prog w A (call (.ref 103) [.int mode t0]) Q h := by
  refine call_top (X := []) (binds := [("mode", .int mode t0)]) V hA C rfl rfl rfl rfl (by decide) (locs rfl) (fun p' L' h₁ A' C hA => abs1 fun R0 hR0 => ?_)
  walk_at "ms"
  refine hR0 _ _ ⟨g, [], _, [], .refl, C, fun _ h => h, rfl, fun Cc => ?_⟩
  exact ret _ _ _ .refl Cc

noncomputable def fmT : List (List (Int × Nat)) := [[(40960, 108), (49152, 115), (32768, 45), (24576, 98), (16384, 100), (8192, 99), (4096, 112)], [(256, 114)], [(128, 119)], [(2112, 115), (2048, 83), (64, 120)],
  [(32, 114)], [(16, 119)], [(1032, 115), (1024, 83), (8, 120)], [(4, 114)], [(2, 119)], [(513, 116), (512, 84), (1, 120)]]
noncomputable def fmHit (mode : Int) (i : Nat) (bit : Int) : Bool := if i = 0 then Builtin.bitAnd mode 61440 == bit else Builtin.bitAnd mode bit == bit
noncomputable def fmChar (mode : Int) (i : Nat) : Nat := (((fmT.getD i []).find? fun bc => fmHit mode i bc.1).map (·.2)).getD (if i = 0 then 63 else 45)
noncomputable def fmI (mode : Int) : List Nat := (List.range 10).map (fmChar mode)

/-- a row of the table, as it lies -/
noncomputable def RowAt (K : Addr → Option Obj) (v : Value) (row : List (Int × Nat)) : Prop := ∃ a vs, v = .ref a ∧ K a = some (tupO vs 0) ∧ vs.length = row.length ∧
  ∀ (j : Nat) (bc : Int × Nat), row[j]? = some bc → ∃ pa t u, vs[j]? = some (.ref pa) ∧ K pa = some (tupO [.int bc.1 t, .str (S [bc.2]) u] 0)
theorem tab_at : ∃ vs, (KF w).lookup 136 = some (tupO vs 0) ∧ vs.length = 10 ∧ ∀ (i : Nat) (row : List (Int × Nat)), fmT[i]? = some row → ∃ v, vs[i]? = some v ∧ RowAt (fun a => (KF w).lookup a) v row := by
  refine ⟨_, rfl, rfl, fun i row hr => ?_⟩
  match i, hr with
  | 0, hr =>
    cases hr
    refine ⟨_, rfl, _, _, rfl, rfl, rfl, fun j bc hj => ?_⟩
    match j, hj with
    | 0, hj => cases hj; exact ⟨_, _, _, rfl, rfl⟩
    | 1, hj => cases hj; exact ⟨_, _, _, rfl, rfl⟩
    | 2, hj => cases hj; exact ⟨_, _, _, rfl, rfl⟩
    | 3, hj => cases hj; exact ⟨_, _, _, rfl, rfl⟩
    | 4, hj => cases hj; exact ⟨_, _, _, rfl, rfl⟩
    | 5, hj => cases hj; exact ⟨_, _, _, rfl, rfl⟩
    | 6, hj => cases hj; exact ⟨_, _, _, rfl, rfl⟩
  | 1, hr => cases hr; refine ⟨_, rfl, _, _, rfl, rfl, rfl, fun j bc hj => ?_⟩; match j, hj with | 0, hj => cases hj; exact ⟨_, _, _, rfl, rfl⟩
  | 2, hr => cases hr; refine ⟨_, rfl, _, _, rfl, rfl, rfl, fun j bc hj => ?_⟩; match j, hj with | 0, hj => cases hj; exact ⟨_, _, _, rfl, rfl⟩
  | 3, hr =>
    cases hr
    refine ⟨_, rfl, _, _, rfl, rfl, rfl, fun j bc hj => ?_⟩
    match j, hj with
    | 0, hj => cases hj; exact ⟨_, _, _, rfl, rfl⟩
    | 1, hj => cases hj; exact ⟨_, _, _, rfl, rfl⟩
    | 2, hj => cases hj; exact ⟨_, _, _, rfl, rfl⟩
  | 4, hr => cases hr; refine ⟨_, rfl, _, _, rfl, rfl, rfl, fun j bc hj => ?_⟩; match j, hj with | 0, hj => cases hj; exact ⟨_, _, _, rfl, rfl⟩
  | 5, hr => cases hr; refine ⟨_, rfl, _, _, rfl, rfl, rfl, fun j bc hj => ?_⟩; match j, hj with | 0, hj => cases hj; exact ⟨_, _, _, rfl, rfl⟩
  | 6, hr =>
    cases hr
    refine ⟨_, rfl, _, _, rfl, rfl, rfl, fun j bc hj => ?_⟩
    match j, hj with
    | 0, hj => cases hj; exact ⟨_, _, _, rfl, rfl⟩
    | 1, hj => cases hj; exact ⟨_, _, _, rfl, rfl⟩
    | 2, hj => cases hj; exact ⟨_, _, _, rfl, rfl⟩
  | 7, hr => cases hr; refine ⟨_, rfl, _, _, rfl, rfl, rfl, fun j bc hj => ?_⟩; match j, hj with | 0, hj => cases hj; exact ⟨_, _, _, rfl, rfl⟩
  | 8, hr => cases hr; refine ⟨_, rfl, _, _, rfl, rfl, rfl, fun j bc hj => ?_⟩; match j, hj with | 0, hj => cases hj; exact ⟨_, _, _, rfl, rfl⟩
  | 9, hr =>
    cases hr
    refine ⟨_, rfl, _, _, rfl, rfl, rfl, fun j bc hj => ?_⟩
    match j, hj with
    | 0, hj => cases hj; exact ⟨_, _, _, rfl, rfl⟩
    | 1, hj => cases hj; exact ⟨_, _, _, rfl, rfl⟩
    | 2, hj => cases hj; exact ⟨_, _, _, rfl, rfl⟩

theorem find_at {α : Type} {f : α → Bool} : ∀ {row : List α} {j : Nat} {x : α}, row[j]? = some x → f x = true → (∀ j' y, j' < j → row[j']? = some y → f y = false) → row.find? f = some x
  | [], j, x, h, _, _ => by simp at h
  | a :: r, 0, x, h, hf, _ => by simp at h; subst h; simp [hf]
  | a :: r, j + 1, x, h, hf, hn => by
    have h0 := hn 0 a (Nat.succ_pos _) rfl
    rw [List.find?_cons_of_neg (by simp [h0])]
    exact find_at (by simpa using h) hf fun j' y hj hy => hn (j' + 1) y (by omega) (by simpa using hy)
theorem find_no {α : Type} {f : α → Bool} {row : List α} (hn : ∀ j' y, j' < row.length → row[j']? = some y → f y = false) : row.find? f = none := by
  rw [List.find?_eq_none]
  intro x hx
  obtain ⟨j, hj, e⟩ := List.getElem_of_mem hx
  simp [hn j x hj (by simp [hj, e])]
theorem fmChar_hit {mode : Int} {i j : Nat} {row : List (Int × Nat)} {bc : Int × Nat} (hr : fmT[i]? = some row) (h : row[j]? = some bc) (hh : fmHit mode i bc.1 = true) (hn : ∀ j' bc, j' < j → row[j']? = some bc → fmHit mode i bc.1 = false) : fmChar mode i = bc.2 := by
  unfold fmChar
  rw [List.getD_eq_getElem?_getD, hr, Option.getD_some, find_at (f := fun bc => fmHit mode i bc.1) h hh hn]
  rfl
theorem fmChar_no {mode : Int} {i : Nat} {row : List (Int × Nat)} (hr : fmT[i]? = some row) (hn : ∀ j' bc, j' < row.length → row[j']? = some bc → fmHit mode i bc.1 = false) : fmChar mode i = if i = 0 then 63 else 45 := by
  unfold fmChar
  rw [List.getD_eq_getElem?_getD, hr, Option.getD_some, find_no (f := fun (bc : Int × Nat) => fmHit mode i bc.1) hn]
  rfl
theorem grow {mode : Int} {i c : Nat} {l : List (List Nat × Tok)} {t : Tok} (hl : l.map (·.1) = (List.range i).map fun j => [fmChar mode j]) (hc : fmChar mode i = c) : (l ++ [([c], t)]).map (·.1) = (List.range (i + 1)).map fun j => [fmChar mode j] := by
  rw [List.map_append, hl, List.range_succ, List.map_append, ← hc]; rfl
theorem c_filemode {mode : Int} {t0 : Tok} (V : Wd w W mg mb) (hA : Ar 2 A) (C : Cx W p g L rest m h)
    (ret : ∀ t g' h', g.Le g' → Cx W p g' L rest m h' → Q (.str (S (fmI mode)) t) h') : Do prog w A (call (.ref 143) [.int mode t0]) Q h := by
  refine call_top (X := []) (binds := [("mode", .int mode t0)]) V hA C rfl rfl rfl rfl (by decide) (locs rfl) (fun p' L' h₁ A' C hA => abs1 fun R0 hR0 => ?_)
  walk_at "ms"
  refine d_newListO C (fun P h' C' => ?_)
  walk_at "ms"
  walk_at "mtype"
  walk_at "ms"
  obtain ⟨tvs, hTab, htl, hrow⟩ := tab_at (w := w)
  have kw : ∀ a o, (KF w).lookup a = some o → W.get? a = some o := V.K
  rename Cx _ _ _ _ _ _ _ => C'
  refine d_enum C' (C'.kw _ _ (kw _ _ hTab)) fun I oI E oE h' hI hE C' => ?_
  refine d_iter_enum (C'.ow _ (.head _)).1 hE ?_
  intro s hs
  refine d_forEnum hA.hh (C'.un_w (kw _ _ hTab)) C' hE hI (fun i g' own m => m "mode" = some (.int mode t0) ∧ m "perm" = some (.ref P) ∧ ∃ n l, (l.map (·.1)) = (List.range i).map (fun j => [fmChar mode j]) ∧ own = [(P, lstO (sv l) n)]) ⟨rfl, rfl, 0, [], rfl, rfl⟩ ?_ ?_ s hs
  · intro i v tk X g' g'' oE oI own' m' h' hi hv hE hI le hInv le' hX C
    refine abs2 fun R1 hR1 => ?_
    obtain ⟨hm1, hm2, nP, l, hl, rfl⟩ := hInv
    have hi10 : i < 10 := by omega
    obtain ⟨row, hrw⟩ : ∃ row, fmT[i]? = some row := ⟨_, List.getElem?_eq_getElem (show i < fmT.length from hi10)⟩
    obtain ⟨v', hv', ra, rvs, rfl, hra, hrl, hpair⟩ := hrow i row hrw
    rw [hv] at hv'; cases hv'
    refine d_unpack2 hA.hh C (C.kg _ _ hX) fun h1 C => ?_
    walk_at "ms"
    rename Cx _ _ _ _ _ _ _ => C
    refine d_iter_tuple C (C.kw _ _ (kw _ _ hra)) (fun J oJ h' hJ C' => ?_)
    intro s hs
    have hrl' : rvs.length = row.length := hrl
    refine d_forLoop (Iter.tuple hA.hh (C'.un_w (kw _ _ hra))) C' hJ (fun j g1 own1 m1 => m1 "mode" = some (.int mode t0) ∧ m1 "perm" = some (.ref P) ∧ m1 "index" = some (.int i tk) ∧ own1 = [(E, oE), (I, oI), (P, lstO (sv l) nP)] ∧
      ∀ j' bc, j' < j → row[j']? = some bc → fmHit mode i bc.1 = false) ⟨hm1, hm2, rfl, rfl, fun j' bc hj => absurd hj (Nat.not_lt_zero _)⟩ ?_ ?_ (fun i o hP => ⟨_, hP.1, by decide⟩) s hs
    · intro j v g1 oJ own1 m1 h1 hj hv hJ le1 hI1 C
      refine abs2 fun R2 hR2 => ?_
      obtain ⟨h1m, h1p, h1i, rfl, hno⟩ := hI1
      obtain ⟨bc, hbc⟩ : ∃ bc, row[j]? = some bc := ⟨_, List.getElem?_eq_getElem (show j < row.length by omega)⟩
      obtain ⟨pa, t1, t2, hp1, hp2⟩ := hpair j bc hbc
      rw [hv] at hp1; cases hp1
      refine d_unpack2 hA.hh C (C.kw _ _ (kw _ _ hp2)) fun h2 C => ?_
      walk_at "ms"
      by_cases hi0 : i = 0
      · rw [show ((i : Int) == 0) = true by simp [hi0], if_pos rfl]
        walk_at "ms"
        walk_at "mcall"
        walk_at "ms"
        rename Cx _ _ _ _ _ _ _ => C
        refine ⟨C.kw, ?_⟩
        refine c_ifmt V (hA.le (by decide)) C fun t g2 h3 le2 C => ?_
        walk_at "ms"
        have hhit : fmHit mode i bc.1 = (Builtin.bitAnd mode 61440 == bc.1) := if_pos hi0
        rw [← hhit]
        by_cases hh : fmHit mode i bc.1 = true
        · rw [if_pos hh]
          walk_at "ms"
          refine d_lappend (Cx.own_at [_, _, _] [] C) ?_
          walk_at "mbuilt"
          walk_at "ms"
          refine d_appendAt [_, _, _] [] C (by rw [sv_len, ← List.length_map (f := (·.1)), hl, sizeLine_eq]; simp; omega) fun n3 h3 C => ?_
          walk_at "ms"
          refine hR2 _ _ ?_
          refine d_execs_nil ?_
          exact hR1 _ _ ⟨_, oE, oI, _, _, hE, hI, le1.trans le2, C.drop, h1m, h1p, n3, l ++ [([bc.2], t2)], grow hl (fmChar_hit hrw hbc hh hno), by rw [sv_append]; rfl⟩
        · rw [if_neg hh]
          walk_at "ms"
          refine hR2 _ _ ⟨_, _, _, _, hJ, le2, C, h1m, h1p, h1i, rfl, ?_⟩
          intro j' bc' hj' hb'
          by_cases hjj : j' = j
          · subst hjj; rw [hbc] at hb'; cases hb'; simpa using hh
          · exact hno j' bc' (by omega) hb'
      · rw [show ((i : Int) == 0) = false by simp [hi0], if_neg Bool.false_ne_true]
        walk_at "ms"
        rename Cx _ _ _ _ _ _ _ => C
        have hhit : fmHit mode i bc.1 = (Builtin.bitAnd mode bc.1 == bc.1) := if_neg hi0
        rw [← hhit]
        by_cases hh : fmHit mode i bc.1 = true
        · rw [if_pos hh]
          walk_at "ms"
          refine d_lappend (Cx.own_at [_, _, _] [] C) ?_
          walk_at "mbuilt"
          walk_at "ms"
          refine d_appendAt [_, _, _] [] C (by rw [sv_len, ← List.length_map (f := (·.1)), hl, sizeLine_eq]; simp; omega) fun n3 h3 C => ?_
          walk_at "ms"
          refine hR2 _ _ ?_
          refine d_execs_nil ?_
          exact hR1 _ _ ⟨_, oE, oI, _, _, hE, hI, le1, C.drop, h1m, h1p, n3, l ++ [([bc.2], t2)], grow hl (fmChar_hit hrw hbc hh hno), by rw [sv_append]; rfl⟩
        · rw [if_neg hh]
          walk_at "ms"
          refine hR2 _ _ ⟨_, _, _, _, hJ, .refl, C, h1m, h1p, h1i, rfl, ?_⟩
          intro j' bc' hj' hb'
          by_cases hjj : j' = j
          · subst hjj; rw [hbc] at hb'; cases hb'; simpa using hh
          · exact hno j' bc' (by omega) hb'
    · intro g1 own1 m1 h1 le1 hI1 C
      obtain ⟨h1m, h1p, h1i, rfl, hno⟩ := hI1
      walk_at "ms"
      have hchar := fmChar_no hrw (hrl ▸ hno)
      by_cases hi0 : i = 0
      · rw [show ((i : Int) == 0) = true by simp [hi0], if_pos rfl]
        rw [if_pos hi0] at hchar
        walk_at "ms"
        refine d_lappend (Cx.own_at [_, _] [] C) ?_
        walk_at "mbuilt"
        walk_at "ms"
        rename_i tq
        refine d_appendAt [_, _] [] C (by rw [sv_len, ← List.length_map (f := (·.1)), hl, sizeLine_eq]; simp; omega) fun n3 h3 C => ?_
        walk_at "ms"
        exact hR1 _ _ ⟨_, oE, oI, _, _, hE, hI, le1, C, h1m, h1p, n3, l ++ [([63], tq)], grow hl hchar, by rw [sv_append]; rfl⟩
      · rw [show ((i : Int) == 0) = false by simp [hi0], if_neg Bool.false_ne_true]
        rw [if_neg hi0] at hchar
        walk_at "ms"
        refine d_lappend (Cx.own_at [_, _] [] C) ?_
        walk_at "mbuilt"
        walk_at "ms"
        rename_i tq
        refine d_appendAt [_, _] [] C (by rw [sv_len, ← List.length_map (f := (·.1)), hl, sizeLine_eq]; simp; omega) fun n3 h3 C => ?_
        walk_at "ms"
        exact hR1 _ _ ⟨_, oE, oI, _, _, hE, hI, le1, C, h1m, h1p, n3, l ++ [([45], tq)], grow hl hchar, by rw [sv_append]; rfl⟩
  · intro g' own' m' h' le hInv C
    obtain ⟨hm1, hm2, nP, l, hl, rfl⟩ := hInv
    walk_at "ms"
    with_reducible refine d_smeth PySem.F.slot_str_join PySem.F.type_str_join ?_
    walk_at "mbuilt"
    walk_at "ms"
    have hll : (l.map (·.1)).map List.length = (List.range 10).map (fun _ => 1) := by rw [hl, htl]; rfl
    have hjo : joinL [] (l.map (·.1)) = fmI mode := by rw [joinL_nil, hl, htl]; rfl
    refine d_join (C.ow _ (.head _)).1 (by rw [hll]; simp; decide) fun t => ?_
    rw [hjo]
    refine hR0 _ _ ⟨g', _, _, [], le, C, (fun _ h => nomatch h), rfl, fun Cc => ret _ _ _ le Cc⟩
end
end

section
open PySem PySem.W PySem.Calls PyProof.Rows
section
variable {prog : Program} {w : World} {A : Around} {W h : Heap} {p g : PM} {L : Addr} {rest : List (Addr × Obj)} {m mg mb : Str → Option Value} {Q : Value → Heap → Prop}
theorem pat_junk (V : Wd w W mg mb) : Pat W 0 36 0 := ⟨_, _, _, _, _, _, _, V.K _ _ rfl, rfl, rfl, V.K _ _ rfl, by decide +kernel⟩
theorem pat_tok (V : Wd w W mg mb) : Pat W 1 48 1 := ⟨_, _, _, _, _, _, _, V.K _ _ rfl, rfl, rfl, V.K _ _ rfl, by decide +kernel⟩
theorem pat_quo (V : Wd w W mg mb) : Pat W 2 53 1 := ⟨_, _, _, _, _, _, _, V.K _ _ rfl, rfl, rfl, V.K _ _ rfl, by decide +kernel⟩
theorem pat_val (V : Wd w W mg mb) : Pat W 3 58 1 := ⟨_, _, _, _, _, _, _, V.K _ _ rfl, rfl, rfl, V.K _ _ rfl, by decide +kernel⟩
theorem pat_esc (V : Wd w W mg mb) : Pat W 4 63 1 := ⟨_, _, _, _, _, _, _, V.K _ _ rfl, rfl, rfl, V.K _ _ rfl, by decide +kernel⟩
theorem pat_jt (V : Wd w W mg mb) : Pat W 5 75 0 := ⟨_, _, _, _, _, _, _, V.K _ _ rfl, rfl, rfl, V.K _ _ rfl, by decide +kernel⟩
theorem pat_je (V : Wd w W mg mb) : Pat W 6 80 1 := ⟨_, _, _, _, _, _, _, V.K _ _ rfl, rfl, rfl, V.K _ _ rfl, by decide +kernel⟩

theorem c_unmatched {a : Addr} {l : List Nat} {sp : List Int} {b e : Nat} (V : Wd w W mg mb) (hA : Ar 1 A) (C : Cx W p g L rest m h) (M : Mo g a l sp) (h2 : 1 < sp.length) (hb : sp.toArray.getD 0 (-1) = (b : Int)) (he : sp.toArray.getD 1 (-1) = (e : Int)) (hbl : b ≤ l.length) (hel : e ≤ l.length) (hz : l.length ≤ 100000)
    (ret : ∀ t g' h', g.Le g' → Cx W p g' L rest m h' → Q (.str (S (l.take b ++ l.drop e)) t) h') : Do prog w A (call (.ref 43) [.ref a]) Q h := by
  refine call_top (X := []) (binds := [("match", .ref a)]) V hA C rfl rfl rfl rfl (by decide) (locs rfl) (fun p' L' h₁ A' C hA => abs1 fun R0 hR0 => ?_)
  walk_at "ms"
  refine d_moMethod M C sl_span ty_span ?_
  walk_at "mbuilt"
  walk_at "ms"
  refine d_span M C h2 hb he fun t1 t2 x g' h' le hx C => ?_
  refine d_unpack2 hA.hh C (C.kg _ _ hx) fun h' C => ?_
  walk_at "ms"
  rename Cx _ _ _ _ _ _ _ => C
  refine d_string (M.mono le) C fun t => ?_
  walk_at "ms"
  refine d_sslice (lo := none) (hi := some (_, _)) C rfl rfl (Nat.zero_le _) hbl (by rw [sizeLine_eq]; omega) (picked_to hbl) (fun t h' C => ?_)
  walk_at "ms"
  rename Cx _ _ _ _ _ _ _ => C
  refine d_string (M.mono le) C fun t => ?_
  walk_at "ms"
  refine d_sslice (lo := some (_, _)) (hi := none) C rfl rfl hel (Nat.le_refl _) (by rw [sizeLine_eq]; omega) picked_from (fun t h' C => ?_)
  rw [List.take_length, List.drop_zero]
  refine d_sadd (by rw [sizeLine_eq]; simp; omega) fun t => ?_
  exact hR0 _ _ ⟨g', [], _, [], le, C, fun _ h => h, rfl, fun Cc => ret _ _ _ le Cc⟩
end
end

section
open PySem PySem.W PySem.Calls PyProof.Rows
section
variable {prog : Program} {w : World} {A : Around} {W h : Heap} {p g : PM} {L : Addr} {rest : List (Addr × Obj)} {m mg mb : Str → Option Value} {Q : Value → Heap → Prop}

/-- a word and its value, as they lie -/
noncomputable def VAt (v : Value) (x : Option (List Nat)) : Prop := match x with | none => v = .none | some l => ∃ t, v = .str (S l) t
noncomputable def PairAt (g : PM) (v : Value) (x : List Nat × Option (List Nat)) : Prop := ∃ a n t u, v = .ref a ∧ g a = some (tupO [.str (S x.1) t, u] n) ∧ VAt u x.2
noncomputable def PairsAt (g : PM) (vs : List Value) (xs : List (List Nat × Option (List Nat))) : Prop := vs.length = xs.length ∧ ∀ (i : Nat) (v : Value) (x : List Nat × Option (List Nat)), vs[i]? = some v → xs[i]? = some x → PairAt g v x
theorem PairAt.mono {g g' : PM} {v : Value} {x : List Nat × Option (List Nat)} (h : PairAt g v x) (k : g.Le g') : PairAt g' v x := let ⟨a, n, t, u, e1, e2, e3⟩ := h; ⟨a, n, t, u, e1, k _ _ e2, e3⟩
theorem PairsAt.mono {g g' : PM} {vs : List Value} {xs : List (List Nat × Option (List Nat))} (h : PairsAt g vs xs) (k : g.Le g') : PairsAt g' vs xs := ⟨h.1, fun i v x a b => (h.2 i v x a b).mono k⟩

noncomputable def wordVal (v : List Nat) : List Nat := if v.all fTok then v else 34 :: esc v ++ [34]
noncomputable def wordOf (x : List Nat × Option (List Nat)) : List Nat := match x.2 with | none => x.1 | some v => x.1 ++ 61 :: wordVal v
noncomputable def joinW (xs : List (List Nat × Option (List Nat))) : List Nat := joinL [59, 32] (xs.map wordOf)

noncomputable def jPos : Pos := { line := 57, col := 50, endLine := 57, endCol := 87 }
noncomputable def jQual : Str := (Str.ofString "join_header_words" ++ Str.ofString ".<locals>.") ++ Str.ofString "<lambda>"
theorem grow_w {xs : List (List Nat × Option (List Nat))} {l : List (List Nat × Tok)} {j : Nat} {x : List Nat × Option (List Nat)} {y : List Nat} {t : Tok} (hl : l.map (·.1) = (xs.take j).map wordOf) (hx : xs[j]? = some x) (hy : wordOf x = y) :
    (l ++ [(y, t)]).map (·.1) = (xs.take (j + 1)).map wordOf := by
  obtain ⟨hj, e⟩ := List.getElem?_eq_some_iff.mp hx
  rw [List.map_append, hl, List.take_add_one, hx, List.map_append, ← hy]
  rfl
theorem first_no {l : List Nat} {f : Nat → Bool} (h : ¬ l.all f = true) : ∃ u r, l = u ++ r ∧ r ≠ [] ∧ u.all f = true ∧ r.head?.all (fun c => !f c) = true := by
  induction l with
  | nil => simp at h
  | cons x r ih =>
    by_cases hx : f x = true
    · have h2 : ¬ r.all f = true := fun e => h (by simp [hx] at e ⊢; exact e)
      obtain ⟨u, r', e1, e2, e3, e4⟩ := ih h2
      exact ⟨x :: u, r', by rw [e1]; rfl, e2, by simp [hx] at e3 ⊢; exact e3, e4⟩
    · exact ⟨[], x :: r, rfl, by simp, rfl, by simpa using hx⟩
theorem sum_le {α : Type} {f : α → Nat} {B : Nat} : ∀ {xs : List α}, (∀ x ∈ xs, f x ≤ B) → (xs.map f).sum ≤ xs.length * B
  | [], _ => by simp
  | x :: r, h => by
    rw [List.map_cons, List.sum_cons, List.length_cons, Nat.succ_mul]
    have := sum_le fun y hy => h y (.tail _ hy)
    have := h x (.head _)
    omega
theorem word_len {x : List Nat × Option (List Nat)} (hz : x.1.length ≤ 100 ∧ ∀ v, x.2 = some v → v ≠ [] ∧ v.length ≤ 4000) : (wordOf x).length ≤ 8200 := by
  obtain ⟨k, v⟩ := x
  cases v with
  | none => exact Nat.le_trans hz.1 (by decide)
  | some v =>
    obtain ⟨_, h2⟩ := hz.2 v rfl
    have h1 : k.length ≤ 100 := hz.1
    have := esc_len v
    show (k ++ 61 :: wordVal v).length ≤ _
    unfold wordVal
    split <;> simp <;> omega
theorem words_len {xs : List (List Nat × Option (List Nat))} (hz : ∀ x ∈ xs, x.1.length ≤ 100 ∧ ∀ v, x.2 = some v → v ≠ [] ∧ v.length ≤ 4000) (hzl : xs.length ≤ 100) : ((xs.map wordOf).map List.length).sum ≤ 820000 := by
  rw [List.map_map]
  have := sum_le (f := List.length ∘ wordOf) fun x hx => word_len (hz x hx)
  have h2 : xs.length * 8200 ≤ 100 * 8200 := Nat.mul_le_mul_right _ hzl
  omega
theorem joinW_len {xs : List (List Nat × Option (List Nat))} (hz : ∀ x ∈ xs, x.1.length ≤ 100 ∧ ∀ v, x.2 = some v → v ≠ [] ∧ v.length ≤ 4000) (hzl : xs.length ≤ 100) : (joinW xs).length ≤ 830000 := by
  have h1 := joinL_len [59, 32] (xs.map wordOf)
  have h2 := words_len hz hzl
  unfold joinW
  simp only [List.length_map, List.length_cons, List.length_nil] at h1
  omega
theorem d_subJ {F : Addr} {fo : Obj} {l : List Nat} {t : Tok} {nn : Nat} {own : List (Addr × Obj)} (V : Wd w W mg mb) (hA : Ar (nn + 1) A) (C : Cx W p g L own m h) (hF : g F = some fo) (hc : fo.cls = .type "function") (hz : l.length ≤ 10000)
    (hr : Rep prog w nn W p g L m F l (fun c => [92, c])) (q : ∀ t g' h', g.Le g' → Cx W p g' L own m h' → Q (.str (S (esc l)) t) h') : Do prog w A (call (.builtin "re.Pattern.sub") [.ref 80, .ref F, .str (S l) t]) Q h :=
  sub_head (fd := default) C ((pat_je V).keeps C.kw) hF hc fun P np h' C' => je_loop hA hz l.length [] l g [] np 0 h' Q (Nat.le_refl _) rfl C' ((pat_je V).keeps C'.kw) (fun h' g' _ C => (pat_je V).keeps C.kw) hr rfl (Nat.le_refl _) q
theorem c_join {la pa : Addr} {n k : Nat} {ps : Array Value} {vs : List Value} {xs : List (List Nat × Option (List Nat))} (V : Wd w W mg mb) (H : CodeHd W 86 82) (hA : Ar 4 A) (C : Cx W p g L ((82, tabObj ps) :: rest) m h) (tk : TabOk g ps jPos jQual)
    (hla : g la = some (lstO [.ref pa] n)) (hpa : g pa = some (lstO vs k)) (hx : PairsAt g vs xs) (hz : ∀ x ∈ xs, x.1.length ≤ 100 ∧ ∀ v, x.2 = some v → v ≠ [] ∧ v.length ≤ 4000) (hzl : xs.length ≤ 100) (hx0 : 0 < xs.length)
    (ret : ∀ t g' ps' h', g.Le g' → TabOk g' ps' jPos jQual → Cx W p g' L ((82, tabObj ps') :: rest) m h' → Q (.str (S (joinW xs)) t) h') : Do prog w A (call (.ref 87) [.ref la]) Q h := by
  refine call_top (X := [(82, tabObj ps)]) (binds := [("lists", .ref la)]) V hA C rfl rfl rfl rfl (by decide) (locs rfl) (fun p' L' h₁ A' C hA => abs1 fun R0 hR0 => ?_)
  walk_at "ms"
  refine d_newListO C (fun P h' C => ?_)
  walk_at "ms"
  rename Cx _ _ _ _ _ _ _ => C
  refine d_iter_list C (C.kg _ _ hla) (fun I o h' hI C => ?_)
  intro s hs
  refine d_forLoop (Iter.list hA.hh (un_g hla)) C hI (fun i g' own m => (i = 0 → own = [(P, lstO [] 0), (82, tabObj ps)]) ∧ (i = 1 → ∃ ps' n t, TabOk g' ps' jPos jQual ∧ own = [(P, lstO [.str (S (joinW xs)) t] n), (82, tabObj ps')]) ∧ m "headers" = some (.ref P)) ⟨fun _ => rfl, fun h => absurd h (by decide), rfl⟩ ?_ ?_ (fun i o hP => ⟨_, hP.1, by decide⟩) s hs
  · intro i v g1 oI own1 m1 h1 hi hv hI le1 hInv C
    refine abs2 fun R1 hR1 => ?_
    have hi0 : i = 0 := by simpa using hi
    subst hi0
    cases hv
    obtain ⟨rfl, -, hm⟩ := And.imp_left (fun f => f rfl) hInv
    walk_at "ms"
    rename Cx _ _ _ _ _ _ _ => C
    refine d_newListO C (fun P2 h' C => ?_)
    walk_at "ms"
    rename Cx _ _ _ _ _ _ _ => C
    refine d_iter_list C (C.kg _ _ (le1 _ _ hpa)) (fun J oJ h' hJ C => ?_)
    intro s hs
    refine d_forLoop (Iter.list hA.hh (un_g (le1 _ _ hpa))) C hJ (fun j g2 own2 m2 => m2 "headers" = some (.ref P) ∧ m2 "attr" = some (.ref P2) ∧ ∃ l n2 ps', TabOk g2 ps' jPos jQual ∧ l.map (·.1) = (xs.take j).map wordOf ∧ own2 = [(P2, lstO (sv l) n2), (I, oI), (P, lstO [] 0), (82, tabObj ps')]) ⟨hm, rfl, [], 0, ps, tk.mono le1, rfl, rfl⟩ ?_ ?_ (fun i o hP => ⟨_, hP.1, by decide⟩) s hs
    · intro j v g2 oJ own2 m2 h2 hj hv hJ le2 hInv2 C
      refine abs2 fun R2 hR2 => ?_
      obtain ⟨hm1, hm2, l, n2, ps', tk2, hl, rfl⟩ := hInv2
      obtain ⟨x, hxj⟩ : ∃ x, xs[j]? = some x := ⟨_, List.getElem?_eq_getElem (show j < xs.length by rw [← hx.1]; exact hj)⟩
      obtain ⟨ta, tn, tk, u, rfl, hta, hu⟩ := (hx.mono (le1.trans le2)).2 j v x hv hxj
      refine d_unpack2 hA.hh C (C.kg _ _ hta) fun h3 C => ?_
      walk_at "ms"
      rename Cx _ _ _ _ _ _ _ => C
      obtain ⟨xk, xv⟩ := x
      have hlz : (sv l).length ≤ sizeLine := by rw [sv_len, ← List.length_map (f := (·.1)), hl, sizeLine_eq]; simp; omega
      cases xv with
      | none =>
        cases hu
        rw [if_neg (by decide)]
        walk_at "ms"
        refine d_lappend (Cx.own_at [_] [_, _, _] C) ?_
        walk_at "mbuilt"
        walk_at "ms"
        refine d_appendAt [_] [_, _, _] C hlz fun n3 h3 C => ?_
        walk_at "ms"
        refine hR2 _ _ ⟨_, _, _, _, hJ, .refl, C, hm1, hm2, l ++ [(xk, tk)], n3, ps', tk2, grow_w hl hxj rfl, ?_⟩
        rw [sv_append]; rfl
      | some lv =>
        obtain ⟨tv, rfl⟩ := hu
        obtain ⟨hzk, hzv⟩ := hz _ (List.mem_of_getElem? hxj)
        obtain ⟨hzv1, hzv2⟩ := hzv lv rfl
        have hzk : xk.length ≤ 100 := hzk
        rw [if_pos (show (!Value.str (S lv) tv == Value.none) = true from rfl)]
        walk_at "ms"
        refine d_patMethod ((pat_jt V).keeps C.kw) sl_full ty_full ?_
        walk_at "mbuilt"
        walk_at "ms"
        by_cases hw : lv.all fTok = true
        · refine d_full C ((pat_jt V).keeps C.kw) (by omega) (show (8 : Nat) ≤ _ by decide) (jt_ok hzv1 hw (by omega)) fun x g3 h3 le3 M C => ?_
          refine d_moTrue M C ?_
          rw [if_neg (by decide)]
          walk_at "ms"
          refine d_Joined3 (d_fieldS ?_)
          walk_at "ms"
          refine ⟨_, _, rfl, by rw [sizeLine_eq]; omega, fun t => ⟨_, _, rfl, by rw [sizeLine_eq]; omega, ?_⟩⟩
          walk_at "ms"
          refine ⟨_, _, rfl, by rw [sizeLine_eq]; simp; omega, d_fieldS ?_⟩
          walk_at "ms"
          refine ⟨_, _, rfl, by rw [sizeLine_eq]; omega, fun t => ⟨_, _, rfl, by rw [sizeLine_eq]; simp; omega, fun t => ?_⟩⟩
          walk_at "ms"
          rename Cx _ _ _ _ _ _ _ => C
          refine d_lappend (Cx.own_at [_] [_, _, _] C) ?_
          walk_at "mbuilt"
          walk_at "ms"
          refine d_appendAt [_] [_, _, _] C hlz fun n3 h3 C => ?_
          walk_at "ms"
          refine hR2 _ _ ⟨_, _, _, _, hJ, le3, C, hm1, hm2, l ++ [(xk ++ [61] ++ lv, t)], n3, ps', tk2.mono le3, grow_w hl hxj (by simp [wordOf, wordVal, hw]), ?_⟩
          rw [sv_append]; rfl
        · obtain ⟨u, r, hur, hr0, hu1, hr1⟩ := first_no hw
          refine d_full_no ((pat_jt V).keeps C.kw) (by omega) (n := 2 * lv.length + 8) (by omega) (jt_no hur hr0 hu1 hr1 (by omega)) ?_
          walk_at "ms"
          rw [if_pos (by decide)]
          walk_at "ms"
          refine d_patMethod ((pat_je V).keeps C.kw) sl_sub ty_sub ?_
          walk_at "mbuilt"
          walk_at "ms"
          have C1 := C.perm (to_front [_, _, _, _] [] _)
          refine d_Lambda (pos := jPos) V H C1 tk2 rfl (fun fa g3 ps3 cd ctv h3 le3 hf tk3 C => ?_)
          have hr : ∀ L m, Rep prog w 1 W p' g3 L m fa lv (fun c => [92, c]) := by
            intro Lr mr A2 own2 g4 h4 a b e gb c Q2 hA2 le4 M hc C ret2
            refine call_lam (X := []) (rest := own2) (binds := [("_m", .ref a)]) V hA2 C (hf.mono le4) rfl rfl (show ∀ x ∈ [(Str.ofString "_m", NameKind.local)], x.2 ≠ .cell by decide) (locs rfl) (fun p5 L5 h5 A5 C hA5 => ?_)
            walk_at "ms"
            refine d_moMethod M C sl_group ty_group ?_
            walk_at "mbuilt"
            walk_at "ms"
            refine d_group (i := 1) M C (by simp) rfl rfl (by rw [sizeLine_eq]; omega) fun t => ?_
            rw [hc]
            refine d_struth (by rw [sizeLine_eq]; simp) ?_
            refine d_sadd (by rw [sizeLine_eq]; simp) fun t => ?_
            exact ⟨g4, [], _, [], .refl, C, fun _ h => h, rfl, fun Cc => ret2 _ _ _ .refl Cc⟩
          walk_at "ms"
          refine d_subJ V (hA.le (by decide)) C hf.1 rfl (by omega) (hr _ _) fun t g4 h4 le4 C => ?_
          have C := C.perm (to_front [_, _, _, _] [] _).symm
          walk_at "ms"
          refine d_quote (by have := esc_len lv; omega) fun t => ?_
          walk_at "ms"
          refine d_Joined3 (d_fieldS ?_)
          walk_at "ms"
          refine ⟨_, _, rfl, by rw [sizeLine_eq]; omega, fun t => ⟨_, _, rfl, by rw [sizeLine_eq]; omega, ?_⟩⟩
          walk_at "ms"
          refine ⟨_, _, rfl, by rw [sizeLine_eq]; simp; omega, d_fieldS ?_⟩
          walk_at "ms"
          refine ⟨_, _, rfl, by rw [sizeLine_eq]; simp; have := esc_len lv; omega, fun t => ⟨_, _, rfl, by rw [sizeLine_eq]; simp; have := esc_len lv; omega, fun t => ?_⟩⟩
          walk_at "ms"
          rename Cx _ _ _ _ _ _ _ => C
          refine d_lappend (Cx.own_at [_] [_, _, _] C) ?_
          walk_at "mbuilt"
          walk_at "ms"
          refine d_appendAt [_] [_, _, _] C hlz fun n3 h3 C => ?_
          walk_at "ms"
          refine hR2 _ _ ⟨_, _, _, _, hJ, le3.trans le4, C, hm1, hm2, l ++ [(xk ++ [61] ++ (34 :: esc lv ++ [34]), t)], n3, ps3, tk3.mono le4, grow_w hl hxj (by simp only [wordOf, wordVal]; rw [if_neg hw]; simp), ?_⟩
          rw [sv_append]; rfl
    · intro g2 own2 m2 h2 le2 hInv2 C
      obtain ⟨hm1, hm2, l, n2, ps', tk2, hl, rfl⟩ := hInv2
      rw [hx.1, List.take_length] at hl
      walk_at "ms"
      refine d_ltruth (C.ow _ (.head _)).1 (by rw [sv_len, ← List.length_map (f := (·.1)), hl, sizeLine_eq]; simp; omega) ?_
      have hlen : l.length = xs.length := by have := congrArg List.length hl; simpa using this
      have hne : (sv l).isEmpty = false := by
        cases l with
        | nil => simp at hlen; exact absurd hlen (by omega)
        | cons a b => rfl
      rw [hne, if_pos (show (!false) = true from rfl)]
      walk_at "ms"
      refine d_lappend (Cx.own_at [_, _] [_] C) ?_
      walk_at "mbuilt"
      walk_at "ms"
      with_reducible refine d_smeth PySem.F.slot_str_join PySem.F.type_str_join ?_
      walk_at "mbuilt"
      walk_at "ms"
      refine d_join (C.ow _ (.head _)).1 ?_ fun t => ?_
      · rw [hl, hlen, sizeLine_eq]
        have := words_len hz hzl
        simp only [List.length_cons, List.length_nil]
        omega
      · rw [hl]
        walk_at "ms"
        refine d_appendAt [_, _] [_] C (by decide) fun n3 h3 C => ?_
        walk_at "ms"
        exact hR1 _ _ ⟨_, _, _, _, hI, le2, C.drop, fun h => absurd h (by decide), fun _ => ⟨_, _, _, tk2, rfl⟩, hm1⟩
  · intro g1 own1 m1 h1 le1 hInv C
    obtain ⟨ps', n, t, tk1, rfl⟩ := hInv.2.1 rfl
    have hm := hInv.2.2
    walk_at "ms"
    with_reducible refine d_smeth PySem.F.slot_str_join PySem.F.type_str_join ?_
    walk_at "mbuilt"
    walk_at "ms"
    refine d_join (l := [(joinW xs, t)]) (C.ow _ (.head _)).1 (by have := joinW_len hz hzl; rw [sizeLine_eq]; simp; omega) fun t2 => ?_
    rw [show joinL [44, 32] (List.map (fun x => x.1) [(joinW xs, t)]) = joinW xs by simp [joinL]]
    exact hR0 _ _ ⟨g1, _, _, [(82, tabObj ps')], le1, C, (fun q hq => by simp at hq; simp [hq]), rfl, fun Cc => ret _ _ _ _ le1 tk1 Cc⟩
end
end

section
open PySem PySem.W PySem.Calls PyProof.Rows PySem.Builtin.Re
section
variable {prog : Program} {w : World} {A : Around} {W h : Heap} {p g : PM} {L : Addr} {own : List (Addr × Obj)} {m mg mb : Str → Option Value}
theorem take_two (a : List Nat) (x y : Nat) (r : List Nat) : ((a ++ x :: y :: r).take (a.length + 1 + 1)).drop (a.length + 1) = [y] := by
  rw [show a ++ x :: y :: r = (a ++ [x]) ++ y :: r from by simp, show a.length + 1 = (a ++ [x]).length from by simp]
  exact take_one _ _ _
theorem esc_no92 {l : List Nat} (h : ∀ y ∈ l, fEsc y = false) : ∀ y ∈ l, y ≠ 92 := fun y hy e => by
  have := h y hy
  rw [e] at this
  exact absurd this (by decide)
theorem esc_cons_of {x : Nat} {r : List Nat} (h : fEsc x = true) : esc (x :: r) = 92 :: x :: esc r := by
  show (if fEsc x then [92, x] else [x]) ++ esc r = _
  rw [h]; rfl
theorem es_loop {P nn : Nat} {F : Addr} {l : List Nat} {t : Tok} (V : Wd w W mg mb) (hA : Ar (nn + 1) A) (hz : l.length ≤ 20000) : ∀ (k : Nat) (pre rest acc : List Nat) (g : PM) (vs : List (List Nat × Tok)) (np n : Nat) (h : Heap) (Q : Value → Heap → Prop), rest.length ≤ k → l = pre ++ esc rest →
    Cx W p g L ((P, lstO (sv vs) np) :: own) m h → Rep prog w nn W p g L m F l (fun c => [c]) →
    (vs.map (·.1)).flatten = acc → acc.length ≤ pre.length → vs.length ≤ 2 * pre.length →
    (∀ t g' h', g.Le g' → Cx W p g' L own m h' → Q (.str (S (acc ++ rest)) t) h') → DoC prog w A (.builtin "re.Pattern.sub.loop" (subArgs 63 l t (.ref F) 1 n pre.length P false)) Q h := by
  intro k
  induction k with
  | zero =>
    intro pre rest acc g vs np n h Q hk hl C hr hv hal hvl q
    have : rest = [] := List.length_eq_zero_iff.mp (by omega)
    subst this
    have hlen : l.length = pre.length := by rw [hl]; simp [esc]
    refine sub_end (kk := 2 * l.length + 8) C ((pat_esc V).keeps C.kw) (by omega) (by omega) (by omega) (by rw [hv]; omega) (esc_none hl (by simp [esc])) fun t h' C' => ?_
    have := q t g h' .refl C'
    rw [hv, hl]
    simpa [hl, esc] using this
  | succ k ih =>
    intro pre rest acc g vs np n h Q hk hl C hr hv hal hvl q
    have hlen : l.length = pre.length + (esc rest).length := by rw [hl]; simp
    rcases first_esc rest with hno | ⟨b, x, r, hrest, hx, hb⟩
    · rw [esc_plain hno] at hl
      refine sub_end (kk := 2 * l.length + 8) C ((pat_esc V).keeps C.kw) (by omega) (by omega) (by omega) (by rw [hv]; omega) (esc_none hl (esc_no92 hno)) fun t h' C' => ?_
      have := q t g h' .refl C'
      rw [hv, hl, List.drop_left]
      exact this
    · have hl2 : l = pre ++ b ++ 92 :: x :: esc r := by rw [hl, hrest, esc_append, esc_plain hb, esc_cons_of hx]; simp
      have hlen2 : l.length = pre.length + b.length + 2 + (esc r).length := by rw [hl2]; simp; omega
      have hrl : rest.length = b.length + 1 + r.length := by rw [hrest]; simp; omega
      have hx10 : x ≠ 10 := fun e => by rw [e] at hx; exact absurd hx (by decide)
      refine sub_turn (c := x) (kk := 2 * l.length + 8) (gb := pre.length + b.length + 1) hA C ((pat_esc V).keeps C.kw) (by omega) (by omega) (by omega) hr ?_ (by omega) (esc_find hl2 hx10 (esc_no92 hb)) fun g' vs' np' h' le hv' hvl' C' => ?_
      · rw [hl2, show pre.length + b.length = (pre ++ b).length from by simp]
        exact take_two _ _ _ _
      · have e1 : (pre ++ b ++ [92, x]).length = pre.length + b.length + 2 := by simp; omega
        have hd : (l.take (pre.length + b.length)).drop pre.length = b := by
          rw [hl2, show pre.length + b.length = (pre ++ b).length from by simp, List.take_left, List.drop_left]
        have := ih (pre ++ b ++ [92, x]) r (acc ++ b ++ [x]) g' vs' np' (n + 1) h' Q (by omega) (by rw [hl2]; simp) C'
          (fun A own g'' h a b e gb c Q hA le' => hr A own g'' h a b e gb c Q hA (le.trans le'))
          (by rw [hv', hv, hd]) (by simp; omega) (by rw [e1]; omega) (fun t g'' h' le' C => by have := q t g'' h' (le.trans le') C; rw [hrest] at this; simpa using this)
        rw [e1] at this
        exact this
theorem d_subE {F : Addr} {fo : Obj} {l : List Nat} {t : Tok} {nn : Nat} {Q : Value → Heap → Prop} (V : Wd w W mg mb) (hA : Ar (nn + 1) A) (C : Cx W p g L own m h) (hF : g F = some fo) (hc : fo.cls = .type "function") (hz : l.length ≤ 10000)
    (hr : Rep prog w nn W p g L m F (esc l) (fun c => [c])) (q : ∀ t g' h', g.Le g' → Cx W p g' L own m h' → Q (.str (S l) t) h') : Do prog w A (call (.builtin "re.Pattern.sub") [.ref 63, .ref F, .str (S (esc l)) t]) Q h :=
  sub_head (fd := default) C ((pat_esc V).keeps C.kw) hF hc fun P np h' C' => es_loop V hA (by have := esc_len l; omega) l.length [] l [] g [] np 0 h' Q (Nat.le_refl _) rfl C' hr rfl (Nat.le_refl _) (Nat.le_refl _) q

/-! ### subn of the junk -/
theorem d_nextYes {k gr start kk : Nat} {l : List Nat} {must : Bool} {pat str : Value} {Q : Option Sre.M → Heap → Prop} (hkk : kk ≤ 100000000) {Pm : Sre.M → Prop} (R : Rn kk (Sre.forSearch (pcode k) l.toArray gr start l.length must) Pm) (hP : ∀ m', Pm m' → m'.outcome = some .matched ∧ Q (some m') h) :
    Do prog w A (reNextFound { pattern := pat, string := str, code := pcode k, text := l.toArray, kind := 0, groups := gr, pos := 0, lim := l.length } start must) Q h :=
  d_runToEnd (k := kk) (by omega) (R.mono fun m' hm => .inl (hP m' hm))
theorem d_nextNo {k gr start kk : Nat} {l : List Nat} {must : Bool} {pat str : Value} {Q : Option Sre.M → Heap → Prop} (hkk : kk ≤ 100000000) (R : Rn kk (Sre.forSearch (pcode k) l.toArray gr start l.length must) Failed) (q : Q none h) :
    Do prog w A (reNextFound { pattern := pat, string := str, code := pcode k, text := l.toArray, kind := 0, groups := gr, pos := 0, lim := l.length } start must) Q h :=
  d_runToEnd (k := kk) (by omega) (R.mono fun m' hm => .inr ⟨hm, q⟩)
theorem subn_turn {k a n P np kk done gr : Nat} {l : List Nat} {t te : Tok} {vs : List (List Nat × Tok)} {b e : Nat} {Q : Value → Heap → Prop} (C : Cx W p g L ((P, lstO (sv vs) np) :: own) m h) (Pt : Pat h k a gr) (hz : l.length ≤ 100000) (hkk : kk ≤ 100000000)
    (hvl : vs.length ≤ 100000) (hbe : e ≠ b) (R : Rn kk (Sre.forSearch (pcode k) l.toArray gr done l.length false) (Mt0 b e))
    (next : ∀ vs' np' h', (vs'.map (·.1)).flatten = (vs.map (·.1)).flatten ++ (l.take b).drop done → vs'.length ≤ vs.length + 2 → Cx W p g L ((P, lstO (sv vs') np') :: own) m h' →
      DoC prog w A (.builtin "re.Pattern.sub.loop" (subArgs a l t (.str (S []) te) 0 (n + 1) e P true)) Q h') :
    DoC prog w A (.builtin "re.Pattern.sub.loop" (subArgs a l t (.str (S []) te) 0 n done P true)) Q h := by
  refine d_codeB en_loop pl_loop ?_
  unfold Builtin.«re.Pattern.sub.loop»
  refine Do.bind (d_wholeTarget Pt ?_)
  have b0 : ((0 : Int) != 0 && decide ((n : Int) ≥ 0)) = false := rfl
  have b2 : ((0 : Int) == 0) = true := rfl
  have er : reLiteralCannotBeTurned (.str (S []) te) = pure () := rfl
  dsimp only
  simp only [b0, b2, er, pure_bind, Bool.false_eq_true, if_false, if_true, Int.toNat_natCast]
  refine Do.bind (m := reNextFound _ _ _) (d_runToEnd (k := kk) (by omega) (R.mono fun m' hm => .inl ⟨hm.1, ?_⟩))
  have hm1 := hm.2.1
  have hm2 := hm.2.2
  have hm3 : (m'.handed == m'.start) = false := by rw [hm1, hm2]; simpa using hbe
  dsimp only
  rw [hm3, hm1, hm2]
  refine d_slicePush C (by rw [sizeLine_eq]; omega) (by omega) fun vs1 np1 h1 hv1 hl1 C1 => ?_
  have b3 : (Value.str (S []) te != Value.none) = true := rfl
  rw [b3, if_pos rfl]
  refine Do.bind (d_push C1 (by rw [sv_len, sizeLine_eq]; omega) fun h3 C3 => ?_)
  refine Do.pure (.inr ⟨_, rfl, plainId_quiet pl_loop _, ?_⟩)
  refine next (vs1 ++ [([], te)]) _ h3 (by rw [List.map_append, List.flatten_append, hv1]; simp) (by simp; omega) (by rw [sv_append]; exact C3)
theorem subn_end {k a n P np kk done gr : Nat} {l : List Nat} {t te : Tok} {vs : List (List Nat × Tok)} {Q : Value → Heap → Prop} (C : Cx W p g L ((P, lstO (sv vs) np) :: own) m h) (Pt : Pat h k a gr) (hz : l.length ≤ 100000) (hkk : kk ≤ 100000000)
    (hvl : vs.length ≤ 1000000) (hvs : (vs.map (·.1)).flatten.length ≤ 1000000) (hv0 : l.drop done ≠ [])
    (R : Rn kk (Sre.forSearch (pcode k) l.toArray gr done l.length false) Failed)
    (q : ∀ x t t' g' h', g.Le g' → g' x = some (tupO [.str (S ((vs.map (·.1)).flatten ++ l.drop done)) t, .int n t'] 0) → Cx W p g' L own m h' → Q (.ref x) h') :
    DoC prog w A (.builtin "re.Pattern.sub.loop" (subArgs a l t (.str (S []) te) 0 n done P true)) Q h := by
  refine d_codeB en_loop pl_loop ?_
  unfold Builtin.«re.Pattern.sub.loop»
  refine Do.bind (d_wholeTarget Pt ?_)
  have b0 : ((0 : Int) != 0 && decide ((n : Int) ≥ 0)) = false := rfl
  have b2 : ((0 : Int) == 0) = true := rfl
  have er : reLiteralCannotBeTurned (.str (S []) te) = pure () := rfl
  dsimp only
  simp only [b0, b2, er, pure_bind, Bool.false_eq_true, if_false, if_true, Int.toNat_natCast]
  refine Do.bind (m := reNextFound _ _ _) (d_runToEnd (k := kk) (by omega) (R.mono fun m' hm => .inr ⟨hm, ?_⟩))
  dsimp only
  refine d_slicePush C (by rw [sizeLine_eq]; omega) (by omega) fun vs1 np1 h1 hv1 hl1 C1 => ?_
  rw [List.take_length] at hv1
  refine Do.bind (slice_S (by rw [sizeLine_eq]; omega) fun t => ?_)
  refine Do.bind (d_seqItems (C1.ow _ (.head _)).1 ?_)
  have he : vs1 ≠ [] := fun e => by
    subst e
    have h2 := congrArg List.length hv1
    simp at h2
    exact hv0 (List.drop_eq_nil_of_le (by omega))
  have : ((some (sv vs1).toArray).getD #[]).isEmpty = false := by
    cases vs1 with
    | nil => exact absurd rfl he
    | cons x r => simp [sv]
  rw [this, if_neg Bool.false_ne_true]
  have hlen := flat_len vs1
  rw [hv1, List.length_append] at hlen
  have hdl : (l.drop done).length ≤ l.length := by simp
  refine Do.bind (d_join (C1.ow _ (.head _)).1 (by simp only [List.take_zero, List.drop_nil, List.length_nil, Nat.mul_zero, Nat.add_zero]; rw [← hlen, sizeLine_eq]; omega) fun t => ?_)
  rw [List.take_zero, List.drop_nil, joinL_nil, hv1]
  refine Do.bind (Do.holding (Do.bind (Do.mkInt fun t' => ?_)))
  refine d_newTuple C1.drop (fun x h' hn C => Do.pure (.inl ⟨_, rfl, ?_⟩)) (by exact Nat.le_of_ble_eq_true rfl)
  exact q x _ _ _ _ (PM.le_set hn) PM.set_self C
theorem subn_head {k a gr : Nat} {l : List Nat} {t te : Tok} {Q : Value → Heap → Prop} (C : Cx W p g L own m h) (Pt : Pat h k a gr)
    (next : ∀ P np h', Cx W p g L ((P, lstO (sv []) np) :: own) m h' → DoC prog w A (.builtin "re.Pattern.sub.loop" (subArgs a l t (.str (S []) te) 0 (0 : Nat) (0 : Nat) P true)) Q h') :
    Do prog w A (call (.builtin "re.Pattern.subn") [.ref a, .str (S []) te, .str (S l) t]) Q h := by
  refine d_entryA sl_subn (pat_type Pt) en_subn (ar_subn _ _ _) ?_
  show Do prog w A.in1 (reSubstitute "re.Pattern.subn" "subn" true ⟨[.ref a, .str (S []) te, .str (S l) t], []⟩) _ h
  unfold reSubstitute
  dsimp only
  simp only [named2, pure_bind]
  refine Do.bind (m := specialOf (.str (S []) te) "__call__") (fun s hs => wpAny_specialOf (T := "str") (typeIs_str _ _ _) str_nocall ⟨Same.rfl, ?_⟩)
  subst hs
  have ea : asStr? (.str (S []) te) = pure (some (S [])) := rfl
  have ec : (!(S []).cps.contains 92) = true := by simp
  simp only [Option.isSome_none, Bool.false_eq_true, if_false, ea, pure_bind, ec, if_true]
  have b1 : ((0 : Int) == 1) = false := rfl
  refine Do.bind (Do.holding (d_wholeTarget Pt ?_))
  simp only [b1, Bool.false_eq_true, if_false]
  refine Do.bind (d_newListO C (fun P h' C => ?_) (by exact Nat.le_of_ble_eq_true rfl))
  exact Do.pure ⟨_, rfl, plainId_quiet pl_loop _, next P 0 h' C⟩
theorem d_subn {u v : List Nat} {l : List Nat} {t te : Tok} {Q : Value → Heap → Prop} (V : Wd w W mg mb) (C : Cx W p g L own m h) (hl : l = u ++ v) (hu : u ≠ []) (ha : u.all fJunk = true) (hv : v.head?.all (fun c => !fJunk c) = true) (hv0 : v ≠ []) (hz : l.length ≤ 100000)
    (q : ∀ x t t' g' h', g.Le g' → g' x = some (tupO [.str (S v) t, .int 1 t'] 0) → Cx W p g' L own m h' → Q (.ref x) h') :
    Do prog w A (call (.builtin "re.Pattern.subn") [.ref 36, .str (S []) te, .str (S l) t]) Q h := by
  have hlen : l.length = u.length + v.length := by rw [hl]; simp
  have hup : 0 < u.length := List.length_pos_iff.mpr hu
  have hdr : l.drop u.length = v := by rw [hl, List.drop_left]
  refine subn_head C ((pat_junk V).keeps C.kw) fun P np h' C => ?_
  refine subn_turn (kk := 8) C ((pat_junk V).keeps C.kw) hz (by omega) (by simp) (Nat.ne_of_gt hup) (junk_ok hl ha hv (by omega)) fun vs' np' h' hv' hvl' C => ?_
  have hv' : (vs'.map (·.1)).flatten = [] := by simpa using hv'
  refine subn_end (kk := 2 * l.length + 8) C ((pat_junk V).keeps C.kw) hz (by omega) (by simp at hvl'; omega) (by rw [hv']; simp) (by rw [hdr]; exact hv0) (junk_again (by omega) (by omega) (by omega)) fun x t t' g' h' le hx C => ?_
  rw [hv', hdr] at hx
  exact q x t t' g' h' le hx C
end
end

section
open PySem PySem.W PySem.Calls PyProof.Rows
section
variable {prog : Program} {w : World} {A : Around} {W h : Heap} {p g : PM} {L : Addr} {rest : List (Addr × Obj)} {m mg mb : Str → Option Value} {Q : Value → Heap → Prop}
noncomputable def OkW (x : List Nat × Option (List Nat)) : Prop := x.1 ≠ [] ∧ x.1.all fName = true ∧ x.1.length ≤ 100 ∧ ∀ v, x.2 = some v → v ≠ [] ∧ v.length ≤ 4000
noncomputable def restW (xs : List (List Nat × Option (List Nat))) : List Nat := (xs.map wordOf).flatMap fun y => [59, 32] ++ y
noncomputable def tailW : Option (List Nat) → List Nat
  | none => []
  | some v => 61 :: wordVal v
theorem wordOf_eq (x : List Nat × Option (List Nat)) : wordOf x = x.1 ++ tailW x.2 := by obtain ⟨k, _ | v⟩ := x <;> simp [wordOf, tailW]
theorem joinW_cons (x : List Nat × Option (List Nat)) (r : List (List Nat × Option (List Nat))) : joinW (x :: r) = x.1 ++ (tailW x.2 ++ restW r) := by
  show wordOf x ++ restW r = _
  rw [wordOf_eq, List.append_assoc]
theorem restW_cons (x : List Nat × Option (List Nat)) (r : List (List Nat × Option (List Nat))) : restW (x :: r) = 59 :: 32 :: joinW (x :: r) := by
  show ([59, 32] ++ wordOf x) ++ restW r = 59 :: 32 :: (wordOf x ++ restW r)
  simp
theorem joinW_suffix (a b : List (List Nat × Option (List Nat))) : (joinW b).length ≤ (joinW (a ++ b)).length := by
  cases a with
  | nil => exact Nat.le_refl _
  | cons x r =>
    rw [List.cons_append, joinW_cons]
    have e : restW (r ++ b) = restW r ++ restW b := by unfold restW; rw [List.map_append, List.flatMap_append]
    rw [e]
    cases b with
    | nil => exact Nat.zero_le _
    | cons y s =>
      rw [restW_cons y s]
      simp
      omega
theorem tok_facts {c : Nat} (h : fTok c = true) : fVal c = true ∧ c ≠ 34 ∧ fSp c = false := by
  have key : ∀ c < 256, fTok c = true → fVal c = true ∧ c ≠ 34 ∧ fSp c = false := by decide +kernel
  refine key c ?_ h
  unfold fTok at h
  simp at h
  exact h.1
theorem name_facts {c : Nat} (h : fName c = true) : fJunk c = false := by
  cases hj : fJunk c with
  | false => rfl
  | true =>
    unfold fJunk at hj
    simp at hj
    rcases hj with (rfl | h2) | rfl
    · exact absurd h (by decide +kernel)
    · unfold fName at h
      rw [h2] at h
      simp at h
    · exact absurd h (by decide +kernel)
theorem rest_head (r : List (List Nat × Option (List Nat))) {f : Nat → Bool} (hf : f 59 = true) : (restW r).head?.all f = true := by
  cases r with
  | nil => rfl
  | cons x r => rw [restW_cons]; simpa using hf
theorem tail_head (v : Option (List Nat)) (r : List (List Nat × Option (List Nat))) {f : Nat → Bool} (h1 : f 61 = true) (h2 : f 59 = true) : (tailW v ++ restW r).head?.all f = true := by
  cases v with
  | none => exact rest_head r h2
  | some v => simpa [tailW] using h1
theorem n61 : fName 61 = false := by decide +kernel
theorem n59 : fName 59 = false := by decide +kernel
theorem s59 : fSp 59 = false := by decide +kernel
theorem s61 : fSp 61 = false := by decide +kernel
theorem v59 : fVal 59 = false := by decide +kernel
/-- an escaped text, in blocks -/
theorem esc_blks : ∀ l : List Nat, ∃ u bs, esc l = u ++ blks bs ∧ u.all fQ = true ∧ ∀ b ∈ bs, b.1 ≠ 10 ∧ b.2.all fQ = true
  | [] => ⟨[], [], rfl, rfl, fun _ h => nomatch h⟩
  | x :: r => by
    obtain ⟨u, bs, e, hu, hb⟩ := esc_blks r
    by_cases hx : fEsc x = true
    · refine ⟨[], (x, u) :: bs, ?_, rfl, fun b hb' => ?_⟩
      · rw [esc_cons_of hx, e]; simp [blks]
      · rcases List.mem_cons.mp hb' with rfl | hb'
        · exact ⟨fun (q : x = 10) => by rw [q] at hx; exact absurd hx (by decide), hu⟩
        · exact hb b hb'
    · refine ⟨x :: u, bs, ?_, ?_, hb⟩
      · show (if fEsc x then [92, x] else [x]) ++ esc r = _
        rw [if_neg hx, e]; rfl
      · rw [List.all_cons, hu, Bool.and_true]
        unfold fQ
        unfold fEsc at hx
        simpa using hx

theorem PairsAt.snoc {g : PM} {vs : List Value} {xs : List (List Nat × Option (List Nat))} {v : Value} {x : List Nat × Option (List Nat)} (h : PairsAt g vs xs) (hv : PairAt g v x) : PairsAt g (vs ++ [v]) (xs ++ [x]) := by
  refine ⟨by simp [h.1], fun i u y hu hy => ?_⟩
  by_cases hi : i < vs.length
  · rw [List.getElem?_append_left hi] at hu
    rw [List.getElem?_append_left (by rw [← h.1]; exact hi)] at hy
    exact h.2 i u y hu hy
  · rw [List.getElem?_append_right (by omega)] at hu
    rw [List.getElem?_append_right (by rw [← h.1]; omega)] at hy
    have e : i - vs.length = 0 := by
      have := (List.getElem?_eq_some_iff.mp hu).1
      simp at this
      exact this
    have e2 : i - xs.length = 0 := by rw [← h.1]; exact e
    rw [e] at hu; rw [e2] at hy
    cases hu; cases hy
    exact hv
noncomputable def sPos : Pos := { line := 26, col := 49, endLine := 26, endCol := 84 }
noncomputable def sQual : Str := (Str.ofString "split_header_words" ++ Str.ofString ".<locals>.") ++ Str.ofString "<lambda>"
theorem c_split {la : Addr} {n : Nat} {ps : Array Value} {t0 : Tok} {xs : List (List Nat × Option (List Nat))} (V : Wd w W mg mb) (H : CodeHd W 69 65) (hA : Ar 4 A) (C : Cx W p g L ((65, tabObj ps) :: rest) m h) (tk : TabOk g ps sPos sQual)
    (hla : g la = some (lstO [.str (S (joinW xs)) t0] n)) (hok : ∀ x ∈ xs, OkW x) (hz : (joinW xs).length ≤ 5000) (hzl : xs.length ≤ 100) (hx0 : xs ≠ [])
    (ret : ∀ a pa n k vs g' ps' h', g.Le g' → TabOk g' ps' sPos sQual → g' a = some (lstO [.ref pa] n) → g' pa = some (lstO vs k) → PairsAt g' vs xs → Cx W p g' L ((65, tabObj ps') :: rest) m h' → Q (.ref a) h') : Do prog w A (call (.ref 70) [.ref la]) Q h := by
  refine call_top (X := [(65, tabObj ps)]) (binds := [("header_values", .ref la)]) V hA C rfl rfl rfl rfl (by decide) (locs rfl) (fun p' L' h₁ A' C hA => abs1 fun R0 hR0 => ?_)
  walk_at "ms"
  walk_at "mbuilt"
  walk_at "ms"
  refine d_isinst (C.kg _ _ hla) ?_
  walk_at "ms"
  refine ⟨rfl, ?_⟩
  walk_at "ms"
  refine d_newListO C (fun P h' C => ?_)
  walk_at "ms"
  rename Cx _ _ _ _ _ _ _ => C
  refine d_iter_list C (C.kg _ _ hla) (fun I o h' hI C => ?_)
  intro s hs
  refine d_forLoop (Iter.list hA.hh (un_g hla)) C hI (fun i g' own m => (i = 0 → own = [(P, lstO [] 0), (65, tabObj ps)]) ∧ (i = 1 → ∃ ps' n pa k vs, TabOk g' ps' sPos sQual ∧ g' pa = some (lstO vs k) ∧ PairsAt g' vs xs ∧ own = [(P, lstO [.ref pa] n), (65, tabObj ps')]) ∧ m "result" = some (.ref P)) ⟨fun _ => rfl, fun h => absurd h (by decide), rfl⟩ ?_ ?_ (fun i o hP => ⟨_, hP.1, by decide⟩) s hs
  · intro i v g1 oI own1 m1 h1 hi hv hI le1 hInv C
    refine abs2 fun R1 hR1 => ?_
    have hi0 : i = 0 := by simpa using hi
    subst hi0
    cases hv
    obtain ⟨rfl, -, hm⟩ := And.imp_left (fun f => f rfl) hInv
    walk_at "ms"
    rename Cx _ _ _ _ _ _ _ => C
    refine d_newListO C (fun P2 h' C => ?_)
    walk_at "ms"
    rename Cx _ _ _ _ _ _ _ => C
    refine d_While (fun n h' => ∃ g2 done todo vs2 nP ps' tx m2 t, xs = done ++ todo ∧ g1.Le g2 ∧ TabOk g2 ps' sPos sQual ∧ PairsAt g2 vs2 done ∧ Cx W p' g2 L' [(P2, lstO vs2 nP), (I, oI), (P, lstO [] 0), (65, tabObj ps')] m2 h' ∧
      m2 "text" = some (.str (S tx) t) ∧ m2 "pairs" = some (.ref P2) ∧ m2 "result" = some (.ref P) ∧ ((tx = joinW todo ∧ todo ≠ [] ∧ n = 2 * todo.length) ∨ (tx = restW todo ∧ n = 2 * todo.length + 1))) (2 * xs.length) ?_ ?_
    · exact ⟨g1, [], xs, [], 0, ps, _, _, _, rfl, .refl, tk.mono le1, ⟨rfl, fun i v x h => nomatch h⟩, C, rfl, rfl, hm, .inl ⟨rfl, hx0, rfl⟩⟩
    · intro n h' hI2
      refine abs3 fun R2 S2 hR2 hS2 => ?_
      obtain ⟨g2, done, todo, vs2, nP, ps', tx, m2, t, hxs, le2, tk2, hpv, C, hm1, hm2, hm3, hst⟩ := hI2
      have hjl : tx.length ≤ 5002 := by
        have e : (joinW (done ++ todo)).length ≤ 5000 := by rw [← hxs]; exact hz
        have e2 : (joinW todo).length ≤ (joinW (done ++ todo)).length := joinW_suffix done todo
        rcases hst with ⟨htx, -, -⟩ | ⟨htx, -⟩
        · rw [htx]; omega
        · cases todo with
          | nil => rw [htx]; exact Nat.zero_le _
          | cons x r => rw [htx, restW_cons]; simp; omega
      walk_at "ms"
      refine d_struth (by rw [sizeLine_eq]; omega) ?_
      rcases hst with ⟨htx, htodo, hn⟩ | ⟨htx, hn⟩
      · obtain ⟨⟨k, ov⟩, r, rfl⟩ : ∃ x r, todo = x :: r := by
          cases todo with
          | nil => exact absurd rfl htodo
          | cons x r => exact ⟨x, r, rfl⟩
        obtain ⟨hk0, hka, hkl, hov⟩ := hok (k, ov) (by rw [hxs]; simp)
        rw [joinW_cons] at htx
        have hk0 : k ≠ [] := hk0
        have hka : k.all fName = true := hka
        have htx : tx = k ++ (tailW ov ++ restW r) := htx
        have hemp : tx.isEmpty = false := by rw [htx]; cases k with | nil => exact absurd rfl hk0 | cons a b => rfl
        rw [hemp, if_pos (show (!false) = true from rfl)]
        walk_at "ms"
        refine d_patMethod ((pat_tok V).keeps C.kw) sl_search ty_search ?_
        walk_at "mbuilt"
        walk_at "ms"
        refine d_search (n := 10) C ((pat_tok V).keeps C.kw) (by omega) (by omega) (Nat.zero_le _) (tok_ok htx hk0 hka (tail_head ov r (by rw [n61]; rfl) (by rw [n59]; rfl)) (by omega)) fun x g3 h3 le3 M C => ?_
        walk_at "ms"
        rename Cx _ _ _ _ _ _ _ => C
        refine d_moTrue M C ?_
        rw [if_pos rfl]
        walk_at "ms"
        walk_at "mcall"
        walk_at "ms"
        refine ⟨C.kw, ?_⟩
        refine c_unmatched (b := 0) (e := k.length) V (hA.le (by decide)) C M (by simp) rfl rfl (Nat.zero_le _) (by rw [htx]; simp) (by omega) fun t3 g4 h4 le4 C => ?_
        rw [List.take_zero, List.nil_append, show tx.drop k.length = tailW ov ++ restW r by rw [htx, List.drop_left]]
        walk_at "ms"
        rename Cx _ _ _ _ _ _ _ => C
        refine d_moMethod (M.mono le4) C sl_group ty_group ?_
        walk_at "mbuilt"
        walk_at "ms"
        refine d_group (i := 1) (M.mono le4) C (by simp) rfl rfl (by rw [sizeLine_eq]; omega) fun t4 => ?_
        rw [show (tx.take k.length).drop 0 = k by rw [htx, List.take_left]; rfl]
        walk_at "ms"
        rename Cx _ _ _ _ _ _ _ => C
        refine d_patMethod ((pat_quo V).keeps C.kw) sl_search ty_search ?_
        walk_at "mbuilt"
        walk_at "ms"
        have hvz : vs2.length ≤ sizeLine := by
          have := congrArg List.length hxs
          rw [hpv.1, sizeLine_eq]
          simp at this
          omega
        have hrl : (tailW ov ++ restW r).length ≤ 5002 := by rw [htx] at hjl; simp at hjl ⊢; omega
        cases ov with
        | none =>
          refine d_search_no (n := 2 * (tailW none ++ restW r).length + 12) ((pat_quo V).keeps C.kw) (by omega) (by omega) (q_no (rest_head r (by rw [s59]; rfl)) (fun c v e => by
            have := rest_head (f := fun c => c == 59) r rfl
            rw [show restW r = 61 :: c :: v from e] at this
            simp at this) (by omega)) ?_
          walk_at "ms"
          rw [if_neg Bool.false_ne_true]
          walk_at "ms"
          rename Cx _ _ _ _ _ _ _ => C
          refine d_patMethod ((pat_val V).keeps C.kw) sl_search ty_search ?_
          walk_at "mbuilt"
          walk_at "ms"
          refine d_search_no (n := 2 * (tailW none ++ restW r).length + 8) ((pat_val V).keeps C.kw) (by omega) (by omega) (val_no (rest_head r (by rw [s59]; rfl)) (by omega)) ?_
          walk_at "ms"
          rw [if_neg Bool.false_ne_true]
          walk_at "ms"
          rename Cx _ _ _ _ _ _ _ => C
          refine d_lappend (C.ow _ (.head _)).1 ?_
          walk_at "mbuilt"
          walk_at "ms"
          refine' d_newTuple C ?_ ?z
          case z => exact Nat.le_of_ble_eq_true rfl
          intro T h7 hn7 C
          walk_at "ms"
          refine d_append C hvz fun n7 h7 C => ?_
          walk_at "ms"
          have leT : ∀ o, g2.Le (PM.set g4 T o) := fun o => (le3.trans le4).trans (PM.le_set hn7)
          exact hR2 _ _ ⟨_, by rw [hn]; simp only [List.length_cons]; omega, _, done ++ [(k, none)], r, _, _, ps', _, _, _, by rw [hxs]; simp, le2.trans (leT _), tk2.mono (leT _), (hpv.mono (leT _)).snoc ⟨T, 0, _, _, rfl, PM.set_self, rfl⟩, C, rfl, hm2, hm3, .inr ⟨rfl, rfl⟩⟩
        | some v =>
          obtain ⟨hv0, hvl⟩ := hov v rfl
          by_cases hw : v.all fTok = true
          · have htl : tailW (some v) ++ restW r = 61 :: v ++ restW r := by simp [tailW, wordVal, hw]
            refine d_search_no (n := 2 * (tailW (some v) ++ restW r).length + 12) ((pat_quo V).keeps C.kw) (by omega) (by omega) (q_no (show (!fSp 61) = true by rw [s61]; rfl) (fun c v' e => by
              rw [htl] at e
              cases v with
              | nil => exact absurd rfl hv0
              | cons a b =>
                simp at e
                have ha : fTok a = true := by simp at hw; exact hw.1
                rw [← e.1]
                exact (tok_facts ha).2) (by omega)) ?_
            walk_at "ms"
            rw [if_neg Bool.false_ne_true]
            walk_at "ms"
            rename Cx _ _ _ _ _ _ _ => C
            refine d_patMethod ((pat_val V).keeps C.kw) sl_search ty_search ?_
            walk_at "mbuilt"
            walk_at "ms"
            refine d_search (n := 14) C ((pat_val V).keeps C.kw) (by omega) (by omega) (by omega) (val_ok htl hv0 (by rw [List.all_eq_true] at hw ⊢; exact fun c hc => (tok_facts (hw c hc)).1) (rest_head r (by rw [v59]; rfl)) (by omega)) fun x g5 h5 le5 M5 C => ?_
            walk_at "ms"
            rename Cx _ _ _ _ _ _ _ => C
            refine d_moTrue M5 C ?_
            rw [if_pos rfl]
            walk_at "ms"
            walk_at "mcall"
            walk_at "ms"
            refine ⟨C.kw, ?_⟩
            refine c_unmatched (b := 0) (e := 1 + v.length) V (hA.le (by decide)) C M5 (by simp) rfl rfl (Nat.zero_le _) (by rw [htl]; simp; omega) (by omega) fun t5 g6 h6 le6 C => ?_
            rw [List.take_zero, List.nil_append, show (tailW (some v) ++ restW r).drop (1 + v.length) = restW r by rw [htl, show 1 + v.length = (61 :: v).length by simp; omega, List.drop_left]]
            walk_at "ms"
            rename Cx _ _ _ _ _ _ _ => C
            refine d_moMethod (M5.mono le6) C sl_group ty_group ?_
            walk_at "mbuilt"
            walk_at "ms"
            refine d_group (i := 1) (M5.mono le6) C (by simp) rfl rfl (by rw [sizeLine_eq]; omega) fun t6 => ?_
            rw [show ((tailW (some v) ++ restW r).take (1 + v.length)).drop 1 = v by rw [htl, show 1 + v.length = (61 :: v).length by simp; omega, List.take_left]; rfl]
            walk_at "ms"
            rename Cx _ _ _ _ _ _ _ => C
            with_reducible refine d_smeth PySem.F.slot_str_rstrip PySem.F.type_str_rstrip ?_
            walk_at "mbuilt0"
            refine d_rstrip ?_ ?_
            · cases hr : v.reverse with
              | nil => rfl
              | cons a b =>
                have ha : a ∈ v := by rw [← List.mem_reverse, hr]; exact .head _
                rw [List.all_eq_true] at hw
                have := (tok_facts (hw a ha)).2.2
                simpa [fSp] using this
            walk_at "ms"
            rename Cx _ _ _ _ _ _ _ => C
            refine d_lappend (C.ow _ (.head _)).1 ?_
            walk_at "mbuilt"
            walk_at "ms"
            refine' d_newTuple C ?_ ?z
            case z => exact Nat.le_of_ble_eq_true rfl
            intro T h7 hn7 C
            walk_at "ms"
            refine d_append C hvz fun n7 h7 C => ?_
            walk_at "ms"
            have leT : ∀ o, g2.Le (PM.set g6 T o) := fun o => (le3.trans (le4.trans (le5.trans le6))).trans (PM.le_set hn7)
            exact hR2 _ _ ⟨_, by rw [hn]; simp only [List.length_cons]; omega, _, done ++ [(k, some v)], r, _, _, ps', _, _, _, by rw [hxs]; simp, le2.trans (leT _), tk2.mono (leT _), (hpv.mono (leT _)).snoc ⟨T, 0, _, _, rfl, PM.set_self, ⟨_, rfl⟩⟩, C, rfl, hm2, hm3, .inr ⟨rfl, rfl⟩⟩
          · have htl : tailW (some v) ++ restW r = 61 :: 34 :: esc v ++ 34 :: restW r := by
              simp only [tailW, wordVal]; rw [if_neg hw]; simp
            obtain ⟨u, bs, he, hu, hb⟩ := esc_blks v
            have htl2 : tailW (some v) ++ restW r = 61 :: 34 :: u ++ blks bs ++ 34 :: restW r := by rw [htl, he]; simp
            have hlen2 : (tailW (some v) ++ restW r).length = 3 + (esc v).length + (restW r).length := by rw [htl]; simp; omega
            refine d_search (n := 8 * (tailW (some v) ++ restW r).length + 40) C ((pat_quo V).keeps C.kw) (by omega) (by omega) (by omega) (q_ok htl2 hu hb (by omega)) fun x g5 h5 le5 M5 C => ?_
            rw [← he] at M5
            walk_at "ms"
            rename Cx _ _ _ _ _ _ _ => C
            refine d_moTrue M5 C ?_
            rw [if_pos rfl]
            walk_at "ms"
            walk_at "mcall"
            walk_at "ms"
            refine ⟨C.kw, ?_⟩
            refine c_unmatched (b := 0) (e := 2 + (esc v).length + 1) V (hA.le (by decide)) C M5 (by simp) rfl rfl (Nat.zero_le _) (by omega) (by omega) fun t5 g6 h6 le6 C => ?_
            rw [List.take_zero, List.nil_append, show (tailW (some v) ++ restW r).drop (2 + (esc v).length + 1) = restW r by
              rw [htl, show 61 :: 34 :: esc v ++ 34 :: restW r = (61 :: 34 :: esc v ++ [34]) ++ restW r by simp, show 2 + (esc v).length + 1 = (61 :: 34 :: esc v ++ [34]).length by simp; omega, List.drop_left]]
            walk_at "ms"
            rename Cx _ _ _ _ _ _ _ => C
            refine d_moMethod (M5.mono le6) C sl_group ty_group ?_
            walk_at "mbuilt"
            walk_at "ms"
            refine d_group (i := 1) (M5.mono le6) C (by simp) rfl rfl (by rw [sizeLine_eq]; omega) fun t6 => ?_
            rw [show ((tailW (some v) ++ restW r).take (2 + (esc v).length)).drop 2 = esc v by
              rw [htl, show 61 :: 34 :: esc v ++ 34 :: restW r = (61 :: 34 :: esc v) ++ 34 :: restW r by simp, show 2 + (esc v).length = (61 :: 34 :: esc v).length by simp; omega, List.take_left]; rfl]
            walk_at "ms"
            rename Cx _ _ _ _ _ _ _ => C
            refine d_patMethod ((pat_esc V).keeps C.kw) sl_sub ty_sub ?_
            walk_at "mbuilt"
            walk_at "ms"
            have C1 := C.perm (to_front [_, _, _] [] _)
            refine d_Lambda (pos := sPos) V H C1 (tk2.mono (le3.trans (le4.trans (le5.trans le6)))) rfl (fun fa g8 ps8 cd ctv h8 le8 hf tk8 C => ?_)
            have hr : ∀ L m, Rep prog w 1 W p' g8 L m fa (esc v) (fun c => [c]) := by
              intro Lr mr A2 own2 g9 h9 a b e gb c Q2 hA2 le9 M hc C ret2
              refine call_lam (X := []) (rest := own2) (binds := [("_m", .ref a)]) V hA2 C (hf.mono le9) rfl rfl (show ∀ x ∈ [(Str.ofString "_m", NameKind.local)], x.2 ≠ .cell by decide) (locs rfl) (fun p5 L5 h5 A5 C hA5 => ?_)
              walk_at "ms"
              refine d_moMethod M C sl_group ty_group ?_
              walk_at "mbuilt"
              walk_at "ms"
              refine d_group (i := 1) M C (by simp) rfl rfl (by rw [sizeLine_eq]; have := esc_len v; omega) fun t => ?_
              rw [hc]
              refine d_struth (by rw [sizeLine_eq]; simp) ?_
              refine d_sadd (by rw [sizeLine_eq]; simp) fun t => ?_
              exact ⟨g9, [], _, [], .refl, C, fun _ h => h, rfl, fun Cc => ret2 _ _ _ .refl Cc⟩
            walk_at "ms"
            refine d_subE V (hA.le (by decide)) C hf.1 rfl (by omega) (hr _ _) fun t9 g9 h9 le9 C => ?_
            have C := C.perm (to_front [_, _, _] [] _).symm
            walk_at "ms"
            rename Cx _ _ _ _ _ _ _ => C
            refine d_lappend (C.ow _ (.head _)).1 ?_
            walk_at "mbuilt"
            walk_at "ms"
            refine' d_newTuple C ?_ ?z
            case z => exact Nat.le_of_ble_eq_true rfl
            intro T h7 hn7 C
            walk_at "ms"
            refine d_append C hvz fun n7 h7 C => ?_
            walk_at "ms"
            have leT : ∀ o, g2.Le (PM.set g9 T o) := fun o => (le3.trans (le4.trans (le5.trans (le6.trans (le8.trans le9))))).trans (PM.le_set hn7)
            exact hR2 _ _ ⟨_, by rw [hn]; simp only [List.length_cons]; omega, _, done ++ [(k, some v)], r, _, _, ps8, _, _, _, by rw [hxs]; simp, le2.trans (leT _), tk8.mono (le9.trans (PM.le_set hn7)), (hpv.mono (leT _)).snoc ⟨T, 0, _, _, rfl, PM.set_self, ⟨_, rfl⟩⟩, C, rfl, hm2, hm3, .inr ⟨rfl, rfl⟩⟩
      · cases todo with
        | nil =>
          rw [if_neg (show ¬ (!tx.isEmpty) = true by rw [htx]; decide)]
          walk_at "ms"
          refine hS2 _ _ ?_
          walk_at "ms"
          rw [List.append_nil] at hxs
          refine d_ltruth (C.ow _ (.head _)).1 (by rw [hpv.1, ← hxs, sizeLine_eq]; omega) ?_
          have hne : vs2.isEmpty = false := by
            cases vs2 with
            | nil =>
              have := hpv.1
              rw [← hxs] at this
              exact absurd (List.length_eq_zero_iff.mp this.symm) hx0
            | cons a b => rfl
          rw [hne, if_pos (show (!false) = true from rfl)]
          walk_at "ms"
          refine d_lappend (Cx.own_at [_, _] [_] C) ?_
          walk_at "mbuilt"
          walk_at "ms"
          refine d_appendAt [_, _] [_] C (by rw [sizeLine_eq]; simp) fun n7 h7 C => ?_
          walk_at "ms"
          have C2 := Cx.freeze (show Cx W p' g2 L' ((P2, lstO vs2 nP) :: [(I, oI), (P, lstO [.ref P2] n7), (65, tabObj ps')]) _ _ from C)
          have leF : g2.Le (g2.set P2 (lstO vs2 nP)) := C.freeze_le
          exact hR1 _ _ ⟨_, _, _, _, hI, le2.trans leF, C2, fun h => absurd h (by decide), fun _ => ⟨_, _, _, _, _, tk2.mono leF, PM.set_self, hxs ▸ hpv.mono leF, rfl⟩, hm3⟩
        | cons x r =>
          have htx2 : tx = 59 :: 32 :: joinW (x :: r) := by rw [htx, restW_cons]
          rw [if_pos (show (!tx.isEmpty) = true by rw [htx2]; rfl)]
          obtain ⟨hk0, hka, hkl, hov⟩ := hok x (by rw [hxs]; simp)
          walk_at "ms"
          refine d_patMethod ((pat_tok V).keeps C.kw) sl_search ty_search ?_
          walk_at "mbuilt"
          walk_at "ms"
          refine d_search_no (n := 2 * tx.length + 8) ((pat_tok V).keeps C.kw) (by omega) (by omega) (tok_no (by rw [htx2]; show (!fName 59 && !fSp 59) = true; rw [n59, s59]; rfl) (by omega)) ?_
          walk_at "ms"
          rw [if_neg Bool.false_ne_true]
          walk_at "ms"
          rename Cx _ _ _ _ _ _ _ => C
          with_reducible refine d_smeth PySem.F.slot_str_lstrip PySem.F.type_str_lstrip ?_
          walk_at "mbuilt0"
          have hsp : (tx.head?.all fun c => !Unicode.isSpace c) = true := by rw [htx2]; show (!fSp 59) = true; rw [s59]; rfl
          refine d_lstrip hsp ?_
          with_reducible refine d_smeth PySem.F.slot_str_startswith PySem.F.type_str_startswith ?_
          walk_at "mbuilt"
          walk_at "ms"
          refine d_startsComma (by rw [htx2]; rfl) ?_
          walk_at "ms"
          rw [if_neg Bool.false_ne_true]
          walk_at "ms"
          refine d_patMethod ((pat_junk V).keeps C.kw) sl_subn ty_subn ?_
          walk_at "mbuilt"
          walk_at "ms"
          have hjw : joinW (x :: r) ≠ [] ∧ (joinW (x :: r)).head?.all (fun c => !fJunk c) = true := by
            rw [joinW_cons]
            obtain ⟨k, ov⟩ := x
            have hk0 : k ≠ [] := hk0
            have hka : k.all fName = true := hka
            cases k with
            | nil => exact absurd rfl hk0
            | cons a b =>
              simp at hka
              exact ⟨by simp, by simp [name_facts hka.1]⟩
          refine d_subn (u := [59, 32]) (v := joinW (x :: r)) V C htx2 (by simp) (by decide +kernel) hjw.2 hjw.1 (by omega) fun X t7 t8 g7 h7 le7 hX C => ?_
          refine d_unpack2 hA.hh C (C.kg _ _ hX) fun h8 C => ?_
          walk_at "ms"
          refine ⟨rfl, ?_⟩
          walk_at "ms"
          rename Cx _ _ _ _ _ _ _ => C
          exact hR2 _ _ ⟨_, by rw [hn]; exact Nat.lt_succ_self _, _, done, x :: r, _, _, ps', _, _, _, hxs, le2.trans le7, tk2.mono le7, hpv.mono le7, C, rfl, hm2, hm3, .inl ⟨rfl, by simp, rfl⟩⟩
  · intro g1 own1 m1 h1 le1 hInv C
    obtain ⟨ps', n, pa, k, vs, tk1, hpa, hx, rfl⟩ := hInv.2.1 rfl
    have hm := hInv.2.2
    walk_at "ms"
    have C' := C.freeze
    exact hR0 _ _ ⟨_, _, _, [(65, tabObj ps')], le1.trans C.freeze_le, C', (fun q hq => hq), rfl, fun Cc => ret _ _ _ _ _ _ _ _ (le1.trans C.freeze_le) (tk1.mono C.freeze_le) PM.set_self (C.freeze_le _ _ hpa) (hx.mono C.freeze_le) Cc⟩
end
end

section
open PySem PySem.W PySem.Calls PyProof.Rows
section
variable {prog : Program} {w : World} {A : Around} {W h : Heap} {p g : PM} {L : Addr} {rest : List (Addr × Obj)} {m mg mb : Str → Option Value} {Q : Value → Heap → Prop}
theorem d_isObj {a b : Addr} {oa ob : Obj} (hab : a ≠ b) (ha : h.get? a = some oa) (hb : h.get? b = some ob) (hc : ob.cls = .type "object") (q : Q (.bool false) h) : Do prog w A (compareOp .Is (.ref a) (.ref b)) Q h := by
  show Do prog w A (do return .bool (← isSame (.ref a) (.ref b))) Q h
  refine Do.bind ?_
  unfold isSame
  dsimp only
  rw [if_neg (show ¬ (a == b) = true by simpa using hab)]
  refine Do.bind (Do.load ha (Do.bind (Do.load hb ?_)))
  obtain ⟨c, d, dt, sl⟩ := ob
  cases hc
  dsimp only
  split
  · rename_i h1 h2 h3 h4
    exact absurd (Value.type.inj (by assumption : Value.type "object" = Value.type "tuple")) (by decide)
  · exact Do.pure (Do.pure q)

theorem call_topD {f : Addr} {n : Nat} {oc : Value} {od : Option Addr} {osl : Array (Option Value)} {fd : FuncData} {body : List Stmt} {args : List Value} {binds : List (Str × Value)} {X : List (Addr × Obj)}
    (V : Wd w W mg mb) (hA : Ar (n + 1) A) (C : Cx W p g L (X ++ rest) m h) (ho : (KF w).lookup f = some ⟨oc, od, .func fd, osl⟩) (hcd : codeIn (KF w) fd.code fd.qualname = true)
    (hbody : fd.body = .stmts body) (hbind : ∀ s : Shared, (∀ a o, W.get? a = some o → s.heap.get? a = some o) → BindsTo s fd ⟨args, []⟩ binds)
    (hcell : ∀ x ∈ fd.scope.names, x.2 ≠ .cell) (hloc : ∀ x ∈ binds, fd.scope.names.lookup x.1 = some .local)
    (H : ∀ p' L' h₁ A', Cx W p' g L' X (fun x => binds.reverse.lookup x) h₁ → Ar n A' →
      Do prog w A' (execs body (callEnv fd L' f)) (Ret W p' g L' (X.map (·.1)) fun v g' X' h' => Cx W p g' L (X' ++ rest) m h' → Q v h') h₁)
    (hco : fd.scope.isCoroutine = false := by rfl) (hgen : fd.scope.isGenerator = false := by rfl) (hk : fd.scope.kind = .function := by rfl) :
    Do prog w A (call (.ref f) args) Q h :=
  call_Cx C hA.room V.lim (C.kw _ _ (V.K _ _ ho)) rfl (codeRec_of (V.K.keeps C.kw) hcd) hbody (fun s hs => hbind s (hs ▸ C.kw)) hcell hloc (fun p' L' h₁ C₁ => H p' L' h₁ _ C₁ (hA.deeper _)) hco hgen hk
/-- how an iterator of a value is had -/
structure Walk (prog : Program) (w : World) (W : Heap) (g : PM) (seq : Value) (n : Nat) (P : Nat → Obj → Prop) (val : Nat → Value → Prop) : Prop where
  make : ∀ {A : Around} {p g' : PM} {L : Addr} {own : List (Addr × Obj)} {m : Str → Option Value} {h : Heap} {Q : Value → Heap → Prop}, g.Le g' → Cx W p g' L own m h → (∀ I o h', P 0 o → Cx W p g' L ((I, o) :: own) m h' → Q (.ref I) h') → Do prog w A (pyIter seq) Q h
  self : ∀ {A : Around} {I : Addr} {o : Obj} {i : Nat} {h : Heap} {Q : Value → Heap → Prop}, h.get? I = some o → P i o → Q (.ref I) h → Do prog w A (pyIter (.ref I)) Q h
  iter : ∀ {A : Around} {p : PM} {I : Addr} {g' : PM}, g.Le g' → A.handled = none → Iter prog w A (un g' p) I n P val
  ty : ∀ i o, P i o → ∃ T, o.cls = .type T ∧ ownTup.contains T = false
theorem Walk.list {la : Addr} {vs : List Value} {n : Nat} (hl : g la = some (lstO vs n)) : Walk prog w W g (.ref la) vs.length (IterList la) (fun i v => vs[i]? = some v) where
  make := fun le C q => d_iter_list C (C.kg _ _ (le _ _ hl)) q
  self := fun ho hP q => d_iter_self_list ho hP q
  iter := fun le hh => Iter.list hh (un_g (le _ _ hl))
  ty := fun i o hP => ⟨_, hP.1, by decide⟩
theorem Walk.str {l : List Nat} {t : Tok} (ha : l.all (· < 128) = true) : Walk prog w W g (.str (S l) t) l.length (IterStr l t) (fun i v => ∃ c t, l[i]? = some c ∧ v = .str (S [c]) t) where
  make := fun le C q => d_iter_str C ha q
  self := fun ho hP q => d_iter_self_str ho hP q
  iter := fun le hh => Iter.str hh
  ty := fun i o hP => ⟨_, hP.1, by decide⟩

theorem c_reduce {k n : Nat} {F ia : Addr} {fd : FuncData} {io : Obj} {seq : Value} {P : Nat → Obj → Prop} {val : Nat → Value → Prop} {X : List (Addr × Obj)} (V : Wd w W mg mb) (hA : Ar (k + 2) A) (C : Cx W p g L (X ++ rest) m h)
    (hF : g F = some { cls := .type "function", data := .func fd }) (hi : g ia = some io) (wk : Walk prog w W g seq n P val)
    (Inv : Nat → PM → Value → List (Addr × Obj) → Prop) (h0 : Inv 0 g (.ref ia) X)
    (step : ∀ {A : Around} {p g' : PM} {L : Addr} {X' own : List (Addr × Obj)} {m : Str → Option Value} {h : Heap} {i : Nat} {v e : Value} {Q : Value → Heap → Prop}, Ar k.succ A → i < n → val i e → g.Le g' → Inv i g' v X' → Cx W p g' L (X' ++ own) m h →
      (∀ v' g'' X'' h', g'.Le g'' → Inv (i + 1) g'' v' X'' → X''.map (·.1) = X'.map (·.1) → Cx W p g'' L (X'' ++ own) m h' → Q v' h') → Do prog w A (call (.ref F) [v, e]) Q h)
    (ret : ∀ v g' X' h', g.Le g' → Inv n g' v X' → X'.map (·.1) = X.map (·.1) → Cx W p g' L (X' ++ rest) m h' → Q v h') : Do prog w A (call (.ref 96) [.ref F, seq, .ref ia]) Q h := by
  refine call_topD (X := X) (binds := [("function", .ref F), ("sequence", seq), ("initial", .ref ia)]) V hA C rfl rfl rfl (fun s k => BindsTo.of_defaults rfl (k _ _ (V.K _ _ rfl)) rfl rfl rfl) (by decide) (locs rfl) (fun p' L' h₁ A' C hA => abs1 fun R0 hR0 => ?_)
  walk_at "ms"
  walk_at "mbuilt"
  walk_at "ms"
  refine d_iterCall (wk.make .refl C fun I o h' hP C => ?_)
  walk_at "ms"
  rename Cx _ _ _ _ _ _ _ => C
  obtain ⟨ob, hob, hobc⟩ : ∃ o, (KF w).lookup 88 = some o ∧ o.cls = .type "object" := ⟨_, rfl, rfl⟩
  have h88 : ia ≠ 88 := fun e => by
    have := C.pg _ _ hi
    rw [e, C.wp _ _ (V.K _ _ hob)] at this
    cases this
  refine d_isObj h88 (C.kg _ _ hi) (C.kw _ _ (V.K _ _ hob)) hobc ?_
  walk_at "ms"
  rw [if_neg Bool.false_ne_true]
  walk_at "ms"
  rename Cx _ _ _ _ _ _ _ => C
  refine wk.self (C.ow _ (.head _)).1 hP ?_
  intro s hs
  refine d_forLoop (wk.iter .refl hA.hh) C hP (fun i g' own m => m "function" = some (.ref F) ∧ ∃ v, m "value" = some v ∧ Inv i g' v own ∧ own.map (·.1) = X.map (·.1)) ⟨rfl, _, rfl, h0, rfl⟩ ?_ ?_ wk.ty s hs
  · intro i e g1 oI own1 m1 h1 hi1 hv hI le1 hInv C
    refine abs2 fun R1 hR1 => ?_
    obtain ⟨hm1, v, hm2, hInv, hmap⟩ := hInv
    walk_at "ms"
    rename Cx _ _ _ _ _ _ _ => C
    refine d_callWith_def (o := { cls := .type "function", data := .func fd }) (fd := fd) rfl ?_
    walk_at "ms"
    refine ⟨C.kg _ _ (le1 _ _ hF), ?_⟩
    have C1 := C.perm (own' := own1 ++ [(I, oI)]) (by simpa using (List.perm_append_comm (l₁ := own1) (l₂ := [(I, oI)])))
    refine step hA hi1 hv le1 hInv C1 fun v' g2 X2 h2 le2 hI2 hm3 C => ?_
    have C2 := C.perm (own' := (I, oI) :: X2) (by simpa using (List.perm_append_comm (l₁ := [(I, oI)]) (l₂ := X2)))
    walk_at "ms"
    rename Cx _ _ _ _ _ _ _ => C
    exact hR1 _ _ ⟨_, _, _, _, hI, le2, C, hm1, v', rfl, hI2, hm3.trans hmap⟩
  · intro g1 own1 m1 h1 le1 hInv C
    obtain ⟨hm1, v, hm2, hInv, hmap⟩ := hInv
    walk_at "ms"
    exact hR0 _ _ ⟨g1, own1, _, own1, le1, C, fun _ h => h, hmap, fun Cc => ret _ _ _ _ le1 hInv hmap Cc⟩
end
end

section
open PySem PySem.W PySem.Calls PyProof.Rows PySem.SeqAt
section
variable {prog : Program} {w : World} {A : Around} {W h : Heap} {p g : PM} {L : Addr} {own : List (Addr × Obj)} {m : Str → Option Value} {Q : Value → Heap → Prop}
theorem d_neg {a : Int} {t : Tok} (q : ∀ t, Q (.int (-a) t) h) : Do prog w A (unaryOp .USub (.int a t)) Q h := fun s hs => by subst hs; exact PySem.P.neg_int ⟨Same.of, q _⟩
theorem d_newListE {vs : List Value} (C : Cx W p g L own m h) (q : ∀ a g' h', g.Le g' → g' a = some (lstO vs 0) → Cx W p g' L own m h' → Q (.ref a) h') (hsz : vs.length ≤ sizeLine) : Do prog w A (newList vs) Q h :=
  d_newListG C (fun a h' hn C => q a _ h' (PM.le_set hn) PM.set_self C) hsz
theorem d_newTupleE {vs : List Value} (C : Cx W p g L own m h) (q : ∀ a g' h', g.Le g' → g' a = some (tupO vs 0) → Cx W p g' L own m h' → Q (.ref a) h') (hsz : vs.length ≤ sizeLine) : Do prog w A (newTuple vs) Q h :=
  d_newTuple C (fun a h' hn C => q a _ h' (PM.le_set hn) PM.set_self C) hsz
theorem d_laddE {a b : Addr} {vs ws : List Value} {n k : Nat} (C : Cx W p g L own m h) (ha : h.get? a = some (lstO vs n)) (hb : h.get? b = some (lstO ws k)) (hz : vs.length + ws.length ≤ sizeLine)
    (q : ∀ x g' h', g.Le g' → g' x = some (lstO (vs ++ ws) 0) → Cx W p g' L own m h' → Q (.ref x) h') : Do prog w A (binaryOp .Add (.ref a) (.ref b)) Q h :=
  d_ladd C ha hb hz fun x h' hn C => q x _ h' (PM.le_set hn) PM.set_self C
theorem d_lsliceE {a : Addr} {vs : List Value} {n : Nat} {value slice : Expr} {vl vu vk : Value} {lo hi st : Option Int} {ops : List Value} {rs : List Value} (C : Cx W p g L own m h) (ha : h.get? a = some (lstO vs n)) (pl : IsPart vl lo) (pu : IsPart vu hi) (pk : IsPart vk st) (h0 : st ≠ some 0)
    (hr : slicePick vs.toArray lo hi st = rs.toArray) (hz : vs.length ≤ sizeLine)
    (q : ∀ x g' h', g.Le g' → g' x = some (lstO rs 0) → Cx W p g' L own m h' → Q (.ref x) h')
    (hs' : subscripted slice false (.ref a) (.ref h.objs.size) = operate ops (getItem (.ref a) (.ref h.objs.size)) := by with_unfolding_all rfl) :
    Do prog w A (subscriptTail value slice (.ref a) (.ref h.objs.size)) Q (h.push { cls := .type "slice", data := .fields #[vl, vu, vk] }) :=
  d_lslice C ha pl pu pk h0 hr hz (fun x h' hn C => q x _ h' (PM.le_set hn) PM.set_self C) hs'
theorem d_lneNil {a b : Addr} {vs : List Value} {n k : Nat} (hu : A.units < cLine) (ha : h.get? a = some (lstO vs n)) (hb : h.get? b = some (lstO [] k)) (q : Q (.bool (!vs.isEmpty)) h) : Do prog w A (compareOp .NotEq (.ref a) (.ref b)) Q h := fun s hs => by
  subst hs
  cases vs with
  | nil => exact RcNeAt.lists (e := fun _ => true) (lst_is ha) (lst_is hb) rfl hu (fun j h1 h2 => absurd h1 (Nat.not_lt_zero _)) prog w _ _ ⟨Same.rfl, q⟩
  | cons x r => exact RcNeAt.lists_lengths (lst_is ha) (lst_is hb) (by simp) hu prog w _ _ ⟨Same.rfl, q⟩

/-- a depth and its signs, as they lie -/
noncomputable def DAt (g : PM) (v : Value) (x : Int × List Nat) : Prop := ∃ a n t u, v = .ref a ∧ g a = some (tupO [.int x.1 t, .str (S x.2) u] n)
noncomputable def DuesAt (g : PM) (vs : List Value) (xs : List (Int × List Nat)) : Prop := vs.length = xs.length ∧ ∀ (i : Nat) (v : Value) (x : Int × List Nat), vs[i]? = some v → xs[i]? = some x → DAt g v x
theorem DAt.mono {g g' : PM} {v : Value} {x : Int × List Nat} (h : DAt g v x) (k : g.Le g') : DAt g' v x := let ⟨a, n, t, u, e1, e2⟩ := h; ⟨a, n, t, u, e1, k _ _ e2⟩
theorem DuesAt.mono {g g' : PM} {vs : List Value} {xs : List (Int × List Nat)} (h : DuesAt g vs xs) (k : g.Le g') : DuesAt g' vs xs := ⟨h.1, fun i v x a b => (h.2 i v x a b).mono k⟩
theorem at_snoc {α : Type} {R : Value → α → Prop} {vs : List Value} {xs : List α} {v : Value} {x : α} (h : vs.length = xs.length ∧ ∀ (i : Nat) (v : Value) (x : α), vs[i]? = some v → xs[i]? = some x → R v x) (hv : R v x) :
    (vs ++ [v]).length = (xs ++ [x]).length ∧ ∀ (i : Nat) (u : Value) (y : α), (vs ++ [v])[i]? = some u → (xs ++ [x])[i]? = some y → R u y := by
  refine ⟨by simp [h.1], fun i u y hu hy => ?_⟩
  by_cases hi : i < vs.length
  · rw [List.getElem?_append_left hi] at hu
    rw [List.getElem?_append_left (by rw [← h.1]; exact hi)] at hy
    exact h.2 i u y hu hy
  · rw [List.getElem?_append_right (by omega)] at hu
    rw [List.getElem?_append_right (by rw [← h.1]; omega)] at hy
    have e : i - vs.length = 0 := by
      have := (List.getElem?_eq_some_iff.mp hu).1
      simp at this
      exact this
    have e2 : i - xs.length = 0 := by rw [← h.1]; exact e
    rw [e] at hu; rw [e2] at hy
    cases hu; cases hy
    exact hv
theorem at_app {α : Type} {R : Value → α → Prop} {vs ws : List Value} {xs ys : List α} (h : vs.length = xs.length ∧ ∀ (i : Nat) (v : Value) (x : α), vs[i]? = some v → xs[i]? = some x → R v x)
    (h' : ws.length = ys.length ∧ ∀ (i : Nat) (v : Value) (x : α), ws[i]? = some v → ys[i]? = some x → R v x) :
    (vs ++ ws).length = (xs ++ ys).length ∧ ∀ (i : Nat) (u : Value) (y : α), (vs ++ ws)[i]? = some u → (xs ++ ys)[i]? = some y → R u y := by
  refine ⟨by simp [h.1, h'.1], fun i u y hu hy => ?_⟩
  by_cases hi : i < vs.length
  · rw [List.getElem?_append_left hi] at hu
    rw [List.getElem?_append_left (by rw [← h.1]; exact hi)] at hy
    exact h.2 i u y hu hy
  · rw [List.getElem?_append_right (by omega)] at hu
    rw [List.getElem?_append_right (by rw [← h.1]; omega), ← h.1] at hy
    exact h'.2 _ u y hu hy
theorem all_t (n : Nat) : ((List.range n).all fun _ => true) = true := by rw [List.all_eq_true]; exact fun _ _ => rfl
theorem DAt.eqAt {s : Shared} {v u : Value} {x : Int × List Nat} (k : ∀ a o, g a = some o → s.heap.get? a = some o) (hu : A.units < cLine) (h1 : DAt g v x) (h2 : DAt g u x) : EqAt A s v u true := by
  obtain ⟨a, n, t, t', rfl, e1⟩ := h1
  obtain ⟨b, n2, t2, t2', rfl, e2⟩ := h2
  by_cases hab : a = b
  · subst hab; exact EqAt.same _
  · have := RcAt.tuples (A := A) (s := s) (e := fun _ => true) (l := a) (b := b) ⟨_, k _ _ e1, rfl, n, rfl⟩ ⟨_, k _ _ e2, rfl, n2, rfl⟩ hu (fun j h1 h2 => by
      match j, h1, h2 with
      | 0, _, _ => simpa using EqAt.int_int (A := A.in1) (s := s) x.1 t x.1 t2
      | 1, _, _ => simpa using EqAt.str_str (A := A.in1) (s := s) (S x.2) t' (S x.2) t2')
    exact EqAt.of_refs hab this
theorem dues_rc {s : Shared} {a b : Addr} {vs ws : List Value} {n k : Nat} {xs : List (Int × List Nat)} (K : ∀ a o, g a = some o → s.heap.get? a = some o) (hu : A.units + 1 < cLine) (ha : s.heap.get? a = some (lstO vs n)) (hb : s.heap.get? b = some (lstO ws k)) (h1 : DuesAt g vs xs) (h2 : DuesAt g ws xs) : RcAt A s (.ref a) (.ref b) true := by
  have := RcAt.lists (A := A) (s := s) (e := fun _ => true) (lst_is ha) (lst_is hb) (by simp [h1.1, h2.1]) (by omega) (fun j hj1 hj2 => by
    have e1 : vs[j]? = some (vs.toArray[j]) := by simp at hj1; simp
    have e2 : ws[j]? = some (ws.toArray[j]) := by simp at hj2; simp
    have hj : j < xs.length := by rw [← h1.1]; simpa using hj1
    exact DAt.eqAt K (show A.units + 1 < cLine from hu) (h1.2 j _ _ e1 (List.getElem?_eq_getElem hj)) (h2.2 j _ _ e2 (List.getElem?_eq_getElem hj)))
  rw [all_t] at this
  exact this
theorem d_dueEq {a b : Addr} {vs ws : List Value} {n k : Nat} {xs : List (Int × List Nat)} (C : Cx W p g L own m h) (hu : A.units + 1 < cLine) (ha : h.get? a = some (lstO vs n)) (hb : h.get? b = some (lstO ws k)) (h1 : DuesAt g vs xs) (h2 : DuesAt g ws xs) (q : Q (.bool true) h) :
    Do prog w A (compareOp .Eq (.ref a) (.ref b)) Q h := fun s hs => by
  subst hs
  exact dues_rc C.kg hu ha hb h1 h2 prog w _ _ ⟨Same.rfl, q⟩
/-- the five of the scan's state -/
theorem d_stateEq {a b c d : Addr} {vs ws : List Value} {n k n2 k2 : Nat} {t1 t2 t3 t4 u1 u2 u3 u4 : Tok} {xs : List (Int × List Nat)} (C : Cx W p g L own m h) (hu : A.units + 2 < cLine) (ha : h.get? a = some (lstO vs n)) (hb : h.get? b = some (lstO ws k)) (h1 : DuesAt g vs xs) (h2 : DuesAt g ws xs)
    (hc : h.get? c = some (tupO [.int 0 t1, .int 0 t2, .int 0 t3, .str (S []) t4, .ref a] n2)) (hd : h.get? d = some (tupO [.int 0 u1, .int 0 u2, .int 0 u3, .str (S []) u4, .ref b] k2)) (q : Q (.bool true) h) :
    Do prog w A (compareOp .Eq (.ref c) (.ref d)) Q h := fun s hs => by
  subst hs
  have := RcAt.tuples (A := A) (s := s) (e := fun _ => true) (l := c) (b := d) ⟨_, hc, rfl, n2, rfl⟩ ⟨_, hd, rfl, k2, rfl⟩ (by omega) (fun j h1' h2' => by
    match j, h1', h2' with
    | 0, _, _ => exact EqAt.int_int (A := A.in1) (s := s) 0 t1 0 u1
    | 1, _, _ => exact EqAt.int_int (A := A.in1) (s := s) 0 t2 0 u2
    | 2, _, _ => exact EqAt.int_int (A := A.in1) (s := s) 0 t3 0 u3
    | 3, _, _ => exact EqAt.str_str (A := A.in1) (s := s) (S []) t4 (S []) u4
    | 4, _, _ =>
      by_cases hab : a = b
      · subst hab; exact EqAt.same _
      · exact EqAt.of_refs hab (dues_rc C.kg (show A.units + 1 + 1 < cLine by omega) ha hb h1 h2))
  refine (show RcAt A s (.ref c) (.ref d) true from this) prog w _ _ ⟨Same.rfl, q⟩
end
end

section
open PySem

/-! ## what the writer's fold does to lists of pairs -/
abbrev Pair := List Nat × Option (List Nat)
noncomputable def valW (xs : List Pair) : Option (List Nat) := if xs = [] then none else some (joinW xs)
noncomputable def stepW (ws : List (List Pair)) (d : Nat) (sg : List Nat) : List (List Pair) :=
  ws.take d ++ [(sg, valW (ws.getD (d + 1) [])) :: ws.getD d [], []] ++ ws.drop (d + 2)

inductive Fo where
  | nil : Fo
  | node (s : List Nat) (k r : Fo) : Fo
namespace Fo
noncomputable def pairs : Fo → List Pair
  | nil => []
  | node s k r => (s, valW (pairs k)) :: pairs r
noncomputable def rows : Nat → Fo → List (Nat × List Nat)
  | _, nil => []
  | d, node s k r => (d, s) :: (rows (d + 1) k ++ rows d r)
noncomputable def size : Fo → Nat
  | nil => 0
  | node s k r => 1 + size k + size r
noncomputable def bare : Fo → Bool
  | node s nil nil => s.head? != some 63
  | _ => false
theorem rows_len : ∀ (F : Fo) (d : Nat), (F.rows d).length = F.size
  | nil, _ => rfl
  | node s k r, d => by simp [rows, size, rows_len k, rows_len r]; omega
theorem pairs_nil {F : Fo} : F.pairs = [] ↔ F = nil := by cases F <;> simp [pairs]
end Fo

/-! ### a row's signs -/
noncomputable def plainC (c : Nat) : Bool := c != 92 && c != 34 && c != 61 && c != 59 && c != 32 && fName c && (c == 63 || fTok c) && c < 128
noncomputable def SgOk (s : List Nat) : Prop := s.length = 10 ∧ (∀ c ∈ s, plainC c = true) ∧ ∀ c ∈ s.tail, c ≠ 63
theorem plain_facts {c : Nat} (h : plainC c = true) : c ≠ 92 ∧ c ≠ 34 ∧ c ≠ 61 ∧ c ≠ 59 ∧ c ≠ 32 ∧ fName c = true ∧ (c = 63 ∨ fTok c = true) ∧ c < 128 := by
  unfold plainC at h
  simp only [Bool.and_eq_true, Bool.or_eq_true, bne_iff_ne, beq_iff_eq, decide_eq_true_eq] at h
  obtain ⟨⟨⟨⟨⟨⟨⟨a, b⟩, c⟩, d⟩, e⟩, f⟩, g⟩, i⟩ := h
  exact ⟨a, b, c, d, e, f, g, i⟩
theorem fmChar_mem (mode : Int) (i : Nat) : fmChar mode i ∈ (if i = 0 then 63 else 45) :: (fmT.getD i []).map (·.2) := by
  unfold fmChar
  cases h : (fmT.getD i []).find? fun bc => fmHit mode i bc.1 with
  | none => exact .head _
  | some x => exact List.mem_cons_of_mem _ (List.mem_map_of_mem (f := fun x : Int × Nat => x.2) (List.mem_of_find?_eq_some h))
theorem fm_ok (mode : Int) : SgOk (fmI mode) := by
  have h1 : ∀ i < 10, ∀ c ∈ (if i = 0 then 63 else 45) :: (fmT.getD i []).map (·.2), plainC c = true ∧ (i ≠ 0 → c ≠ 63) := by decide +kernel
  refine ⟨by simp [fmI], fun c hc => ?_, fun c hc => ?_⟩
  · unfold fmI at hc
    obtain ⟨i, hi, rfl⟩ := List.mem_map.mp hc
    exact (h1 i (List.mem_range.mp hi) _ (fmChar_mem mode i)).1
  · have : (fmI mode).tail = ([1, 2, 3, 4, 5, 6, 7, 8, 9] : List Nat).map (fmChar mode) := rfl
    rw [this] at hc
    obtain ⟨i, hi, rfl⟩ := List.mem_map.mp hc
    have hi2 : i < 10 ∧ i ≠ 0 := by
      have : ∀ i ∈ ([1, 2, 3, 4, 5, 6, 7, 8, 9] : List Nat), i < 10 ∧ i ≠ 0 := by decide
      exact this i hi
    exact (h1 i hi2.1 _ (fmChar_mem mode i)).2 hi2.2
noncomputable def Fo.Ok : Fo → Prop
  | .nil => True
  | .node s k r => SgOk s ∧ k.Ok ∧ r.Ok
theorem sg_ne {s : List Nat} (h : SgOk s) : s ≠ [] := fun e => by rw [e] at h; exact absurd h.1 (by decide)

/-! ### the text of a forest at a level of strokes -/
noncomputable def mark (e : Nat) : List Nat := List.replicate (2 ^ e - 1) 92 ++ [34]
noncomputable def valL (e : Nat) (k : Fo) (t : List Nat) : List Nat := match k with
  | .nil => []
  | k => 61 :: (if k.bare then t else mark e ++ t ++ mark e)
noncomputable def restL (r : Fo) (t : List Nat) : List Nat := match r with
  | .nil => []
  | _ => 59 :: 32 :: t
noncomputable def bodyE : Nat → Fo → List Nat
  | _, .nil => []
  | e, .node s k r => s ++ (valL e k (bodyE (e + 1) k) ++ restL r (bodyE e r))
noncomputable def valE (e : Nat) (k : Fo) : List Nat := valL e k (bodyE (e + 1) k)
noncomputable def restE (e : Nat) (r : Fo) : List Nat := restL r (bodyE e r)
theorem body_node (e : Nat) (s : List Nat) (k r : Fo) : bodyE e (.node s k r) = s ++ (valE e k ++ restE e r) := rfl

theorem esc_one {c : Nat} (h : fEsc c = false) : esc [c] = [c] := by simp [esc, h]
theorem esc_cons (c : Nat) (l : List Nat) : esc (c :: l) = esc [c] ++ esc l := esc_append [c] l
theorem esc_sg {s : List Nat} (h : SgOk s) : esc s = s := esc_plain fun y hy => by
  have := plain_facts (h.2.1 y hy)
  unfold fEsc
  simp [this.1, this.2.1]
theorem esc_rep (n : Nat) : esc (List.replicate n 92) = List.replicate (2 * n) 92 := by
  induction n with
  | zero => rfl
  | succ n ih =>
    rw [List.replicate_succ, esc_cons, ih, show 2 * (n + 1) = (2 * n) + 1 + 1 by omega, List.replicate_succ, List.replicate_succ]
    rfl
theorem esc_mark (e : Nat) : esc (mark e) = mark (e + 1) := by
  unfold mark
  rw [esc_append, esc_rep]
  have hp : 0 < 2 ^ e := Nat.two_pow_pos e
  have : 2 ^ (e + 1) - 1 = 2 * (2 ^ e - 1) + 1 := by rw [Nat.pow_succ]; omega
  rw [this, List.replicate_succ', List.append_assoc]
  rfl
theorem valL_esc (e : Nat) (k : Fo) (t : List Nat) : esc (valL e k t) = valL (e + 1) k (esc t) := by
  cases k with
  | nil => rfl
  | node s k r =>
    show esc (61 :: _) = 61 :: _
    rw [esc_cons, esc_one (by decide)]
    split
    · rfl
    · rw [esc_append, esc_append, esc_mark]; rfl
theorem restL_esc (r : Fo) (t : List Nat) : esc (restL r t) = restL r (esc t) := by
  cases r with
  | nil => rfl
  | node s k r =>
    show esc (59 :: 32 :: t) = 59 :: 32 :: esc t
    rw [esc_cons, esc_cons 32, esc_one (by decide), esc_one (by decide)]
    rfl
theorem esc_body : ∀ (F : Fo), F.Ok → ∀ e, esc (bodyE e F) = bodyE (e + 1) F
  | .nil, _, e => rfl
  | .node s k r, h, e => by
    show esc (s ++ (valL e k (bodyE (e + 1) k) ++ restL r (bodyE e r))) = s ++ (valL (e + 1) k (bodyE (e + 2) k) ++ restL r (bodyE (e + 1) r))
    rw [esc_append, esc_append, esc_sg h.1, valL_esc, restL_esc, esc_body k h.2.1, esc_body r h.2.2]
theorem tok61 : fTok 61 = false := by decide +kernel
theorem tok59 : fTok 59 = false := by decide +kernel
theorem tok63 : fTok 63 = false := by decide +kernel
theorem sg_tok {s : List Nat} (h : SgOk s) : s.all fTok = (s.head? != some 63) := by
  obtain ⟨h1, h2, h3⟩ := h
  cases s with
  | nil => exact absurd h1 (by decide)
  | cons a b =>
    have hb : b.all fTok = true := by
      rw [List.all_eq_true]
      intro c hc
      exact (plain_facts (h2 c (.tail _ hc))).2.2.2.2.2.2.1.resolve_left (h3 c hc)
    rw [List.all_cons, hb, Bool.and_true]
    by_cases ha : a = 63
    · subst ha; rw [tok63]; rfl
    · rw [(plain_facts (h2 a (.head _))).2.2.2.2.2.2.1.resolve_left ha]
      simp [ha]
theorem body_tok {F : Fo} (h : F.Ok) (hF : F ≠ .nil) (e : Nat) : (bodyE e F).all fTok = F.bare := by
  match F, h, hF with
  | .node s .nil .nil, h, _ =>
    show (s ++ ([] ++ [])).all fTok = (s.head? != some 63)
    rw [List.append_nil, List.append_nil]
    exact sg_tok h.1
  | .node s (.node a b c) r, h, _ =>
    rw [body_node, List.all_append, List.all_append]
    show (_ && ((fTok 61 && _) && _)) = false
    rw [tok61]; simp
  | .node s .nil (.node a b c), h, _ =>
    rw [body_node, List.all_append, List.all_append]
    show (_ && (_ && (fTok 59 && _))) = false
    rw [tok59]; simp
theorem body_bare {F : Fo} (h : F.bare = true) (e e' : Nat) : bodyE e F = bodyE e' F := by
  match F, h with
  | .node s .nil .nil, _ => rfl
theorem mark0 : mark 0 = [34] := rfl
theorem join_body : ∀ (F : Fo), F.Ok → joinW F.pairs = bodyE 0 F
  | .nil, _ => rfl
  | .node s k r, h => by
    show joinW ((s, valW k.pairs) :: r.pairs) = s ++ (valE 0 k ++ restE 0 r)
    rw [joinW_cons]
    congr 1
    congr 1
    · cases k with
      | nil => rfl
      | node a b c =>
        have ih := join_body (.node a b c) h.2.1
        have ht := body_tok h.2.1 (fun e => by cases e) 0
        generalize hk : Fo.node a b c = k at *
        have hv : valW k.pairs = some (bodyE 0 k) := by
          unfold valW
          rw [if_neg (by rw [Fo.pairs_nil, ← hk]; exact fun e => by cases e), ih]
        show tailW (valW k.pairs) = _
        rw [hv]
        show 61 :: wordVal (bodyE 0 k) = valE 0 k
        unfold wordVal
        rw [ht]
        subst hk
        show _ = 61 :: _
        congr 1
        split
        · rename_i hb; exact body_bare hb 0 1
        · rw [esc_body _ h.2.1, mark0]; simp
    · cases r with
      | nil => rfl
      | node a b c =>
        have ih := join_body (.node a b c) h.2.2
        show restW ((a, valW b.pairs) :: c.pairs) = 59 :: 32 :: bodyE 0 _
        rw [restW_cons, ← ih]
        rfl

/-! ### the law's own header -/
noncomputable def hdrGo : List (Nat × List Nat) → List (List Nat) → Bool → List Nat
  | [], M, _ => M.reverse.flatten
  | (d, s) :: t, M, first =>
    if M.length < d then
      (61 :: (if (t.head?.all fun x => x.1 < d) && s.head? != some 63 then [] else mark (d - 1))) ++ (s ++ hdrGo t (M ++ [if (t.head?.all fun x => x.1 < d) && s.head? != some 63 then [] else mark (d - 1)]) false)
    else if first then s ++ hdrGo t M false
    else (M.drop d).reverse.flatten ++ ([59, 32] ++ (s ++ hdrGo t (M.take d) false))
theorem hdr_cons (d : Nat) (s : List Nat) (t : List (Nat × List Nat)) (M : List (List Nat)) (first : Bool) : hdrGo ((d, s) :: t) M first =
    if M.length < d then
      (61 :: (if (t.head?.all fun x => x.1 < d) && s.head? != some 63 then [] else mark (d - 1))) ++ (s ++ hdrGo t (M ++ [if (t.head?.all fun x => x.1 < d) && s.head? != some 63 then [] else mark (d - 1)]) false)
    else if first then s ++ hdrGo t M false
    else (M.drop d).reverse.flatten ++ ([59, 32] ++ (s ++ hdrGo t (M.take d) false)) := rfl
noncomputable def Below (d : Nat) (T : List (Nat × List Nat)) : Prop := T.head?.all (fun x => x.1 < d) = true
theorem go_close {T : List (Nat × List Nat)} {M X : List (List Nat)} (hT : Below (M.length + 1) T) : hdrGo T (M ++ X) false = X.reverse.flatten ++ hdrGo T M false := by
  cases T with
  | nil => simp [hdrGo]
  | cons x t =>
    obtain ⟨d, s⟩ := x
    have hd : d ≤ M.length := by unfold Below at hT; simp at hT; omega
    have h1 : ¬ (M ++ X).length < d := by rw [List.length_append]; omega
    have h2 : ¬ M.length < d := by omega
    rw [hdr_cons, hdr_cons, if_neg h1, if_neg h2]
    simp only [Bool.false_eq_true, if_false]
    rw [List.drop_append_of_le_length hd, List.take_append_of_le_length hd, List.reverse_append, List.flatten_append]
    simp
theorem rows_head {F : Fo} {d : Nat} {T : List (Nat × List Nat)} : (F.rows d ++ T).head? = match F with | .nil => T.head? | .node s _ _ => some (d, s) := by cases F <;> rfl
theorem below_rows {F : Fo} {d : Nat} {T : List (Nat × List Nat)} (hT : Below (d + 1) T) : Below (d + 1) (F.rows d ++ T) := by
  unfold Below at *
  rw [rows_head]
  cases F with
  | nil => exact hT
  | node s k r => simp
theorem go_body : ∀ (F : Fo), F.Ok → (∀ (d : Nat) (M : List (List Nat)) (T : List (Nat × List Nat)), M.length = d → Below (d + 1) T → hdrGo (F.rows (d + 1) ++ T) M false = valE d F ++ hdrGo T M false) ∧
    (∀ (d : Nat) (M : List (List Nat)) (T : List (Nat × List Nat)), M.length = d → Below (d + 1) T → hdrGo (F.rows d ++ T) M false = restE d F ++ hdrGo T M false)
  | .nil, _ => ⟨fun d M T _ _ => rfl, fun d M T _ _ => rfl⟩
  | .node s k r, h => by
    obtain ⟨k1, k2⟩ := go_body k h.2.1
    obtain ⟨r1, r2⟩ := go_body r h.2.2
    refine ⟨fun d M T hM hT => ?_, fun d M T hM hT => ?_⟩
    · have hal : (((k.rows (d + 2) ++ (r.rows (d + 1) ++ T)).head?.all fun x => decide (x.1 < d + 1)) && s.head? != some 63) = (Fo.node s k r).bare := by
        rw [rows_head]
        cases k with
        | node a b c => simp [Fo.bare]
        | nil =>
          dsimp only
          rw [rows_head]
          cases r with
          | node a b c => simp [Fo.bare]
          | nil =>
            dsimp only
            unfold Below at hT
            rw [hT]
            simp [Fo.bare]
      show hdrGo ((d + 1, s) :: ((k.rows (d + 2) ++ r.rows (d + 1)) ++ T)) M false = _
      rw [List.append_assoc]
      rw [hdr_cons, if_pos (by omega), hal, Nat.add_sub_cancel]
      generalize hm : (if (Fo.node s k r).bare = true then ([] : List Nat) else mark d) = mk
      have hT2 : Below (d + 2) T := by
        unfold Below at *
        cases T with
        | nil => rfl
        | cons x t => simp at hT ⊢; omega
      rw [k1 (d + 1) (M ++ [mk]) _ (by simp [hM]) (below_rows hT2), r2 (d + 1) (M ++ [mk]) _ (by simp [hM]) hT2, go_close (by rw [hM]; exact hT)]
      show _ = (61 :: (if (Fo.node s k r).bare then bodyE (d + 1) (.node s k r) else mark d ++ bodyE (d + 1) (.node s k r) ++ mark d)) ++ _
      rw [body_node]
      by_cases hb : (Fo.node s k r).bare = true
      · rw [if_pos hb] at hm ⊢
        subst hm
        simp
      · rw [if_neg hb] at hm ⊢
        subst hm
        simp
    · show hdrGo ((d, s) :: ((k.rows (d + 1) ++ r.rows d) ++ T)) M false = _
      rw [List.append_assoc]
      rw [hdr_cons, if_neg (by omega)]
      simp only [Bool.false_eq_true, if_false]
      rw [List.drop_of_length_le (by omega), List.take_of_length_le (by omega), k1 d M _ hM (below_rows hT), r2 d M _ hM hT]
      show _ = (59 :: 32 :: bodyE d (.node s k r)) ++ _
      rw [body_node]
      simp
noncomputable def hdrW (due : List (Nat × List Nat)) : List Nat := hdrGo due [] true
theorem hdr_body {F : Fo} (h : F.Ok) : hdrW (F.rows 0) = bodyE 0 F := by
  cases F with
  | nil => rfl
  | node s k r =>
    show hdrGo ((0, s) :: (k.rows 1 ++ r.rows 0)) [] true = _
    rw [hdr_cons, if_neg (by simp), if_pos rfl]
    have hB : Below 1 ([] : List (Nat × List Nat)) := rfl
    have := (go_body k h.2.1).1 0 [] (r.rows 0 ++ []) rfl (below_rows hB)
    rw [List.append_nil] at this
    rw [this]
    have := (go_body r h.2.2).2 0 [] [] rfl hB
    rw [List.append_nil] at this
    rw [this, body_node]
    simp [hdrGo]

/-! ### the scan -/
abbrev St := Nat × Nat × Nat × List Nat × List (Nat × List Nat)
noncomputable def scStep (st : St) (c : Nat) : Option St := match st with
  | (o, k, b, w, T) =>
    if c = 92 then some (o, k + 1, b, w, T)
    else if c = 34 ∧ k + 1 = 2 ^ o then some (o + 1, 0, 0, [], T)
    else if c = 34 then if o = 0 then none else some (o - 1, 0, 0, [], T)
    else if c = 61 then some (o, 0, 1, [], T)
    else if c = 59 ∨ c = 32 then some (o, 0, 0, [], T)
    else if w.length < 9 then some (o, 0, b, w ++ [c], T)
    else some (o, 0, 0, [], T ++ [(o + b, w ++ [c])])
noncomputable def scan (l : List Nat) (st : St) : Option St := l.foldlM scStep st
theorem scan_app (a b : List Nat) (st : St) : scan (a ++ b) st = (scan a st).bind (scan b) := by unfold scan; rw [List.foldlM_append]; rfl
theorem scan_cons (c : Nat) (l : List Nat) (st : St) : scan (c :: l) st = (scStep st c).bind (scan l) := by unfold scan; rw [List.foldlM_cons]; rfl
theorem sc_word {o b c : Nat} {w : List Nat} {T : List (Nat × List Nat)} (h : plainC c = true) :
    scStep (o, 0, b, w, T) c = if w.length < 9 then some (o, 0, b, w ++ [c], T) else some (o, 0, 0, [], T ++ [(o + b, w ++ [c])]) := by
  have := plain_facts h
  unfold scStep
  dsimp only
  rw [if_neg this.1, if_neg (fun e => this.2.1 e.1), if_neg this.2.1, if_neg this.2.2.1, if_neg (fun e => e.elim this.2.2.2.1 this.2.2.2.2.1)]
theorem sc_signs {o b : Nat} {T : List (Nat × List Nat)} : ∀ (s w : List Nat), (∀ c ∈ s, plainC c = true) → s ≠ [] → w.length + s.length = 10 → scan s (o, 0, b, w, T) = some (o, 0, 0, [], T ++ [(o + b, w ++ s)])
  | [], _, _, h, _ => absurd rfl h
  | [c], w, hp, _, hl => by
    rw [scan_cons, sc_word (hp c (.head _)), if_neg (by simp at hl; omega)]
    rfl
  | c :: c' :: s, w, hp, _, hl => by
    rw [scan_cons, sc_word (hp c (.head _)), if_pos (by simp at hl; omega)]
    have := sc_signs (o := o) (b := b) (T := T) (c' :: s) (w ++ [c]) (fun x hx => hp x (.tail _ hx)) (by simp) (by simp at hl ⊢; omega)
    rw [Option.bind_some, this]
    simp
theorem sc_rep {o b : Nat} {w : List Nat} {T : List (Nat × List Nat)} (n : Nat) : ∀ k, scan (List.replicate n 92) (o, k, b, w, T) = some (o, k + n, b, w, T) := by
  induction n with
  | zero => intro k; rfl
  | succ n ih =>
    intro k
    rw [List.replicate_succ, scan_cons]
    show (some (o, k + 1, b, w, T)).bind _ = _
    rw [Option.bind_some, ih]
    congr 3
    omega
theorem sc_open {o b : Nat} {w : List Nat} {T : List (Nat × List Nat)} : scan (mark o) (o, 0, b, w, T) = some (o + 1, 0, 0, [], T) := by
  unfold mark
  rw [scan_app, sc_rep, Option.bind_some, scan_cons]
  have hp : 0 < 2 ^ o := Nat.two_pow_pos o
  unfold scStep
  dsimp only
  rw [if_neg (by decide), if_pos ⟨rfl, by omega⟩]
  rfl
theorem sc_close {o b : Nat} {w : List Nat} {T : List (Nat × List Nat)} : scan (mark o) (o + 1, 0, b, w, T) = some (o, 0, 0, [], T) := by
  unfold mark
  rw [scan_app, sc_rep, Option.bind_some, scan_cons]
  have hp : 0 < 2 ^ o := Nat.two_pow_pos o
  unfold scStep
  dsimp only
  rw [if_neg (by decide), if_neg (fun e => by have := e.2; rw [Nat.pow_succ] at this; omega), if_pos rfl, if_neg (by omega)]
  rfl
theorem sc_body : ∀ (F : Fo), F.Ok → (∀ d T, F ≠ .nil → scan (bodyE d F) (d, 0, 0, [], T) = some (d, 0, 0, [], T ++ F.rows d)) ∧ (∀ d T, scan (valE d F) (d, 0, 0, [], T) = some (d, 0, 0, [], T ++ F.rows (d + 1))) ∧
    (∀ d T, scan (restE d F) (d, 0, 0, [], T) = some (d, 0, 0, [], T ++ F.rows d))
  | .nil, _ => ⟨fun d T h => absurd rfl h, fun d T => by show some _ = _; simp [Fo.rows], fun d T => by show some _ = _; simp [Fo.rows]⟩
  | .node s k r, h => by
    obtain ⟨k1, k2, k3⟩ := sc_body k h.2.1
    obtain ⟨r1, r2, r3⟩ := sc_body r h.2.2
    have b : ∀ d T, scan (bodyE d (.node s k r)) (d, 0, 0, [], T) = some (d, 0, 0, [], T ++ (Fo.node s k r).rows d) := fun d T => by
      rw [body_node, scan_app, sc_signs s [] h.1.2.1 (sg_ne h.1) (by simp [h.1.1]), Option.bind_some, scan_app, k2, Option.bind_some, r3]
      simp [Fo.rows]
    refine ⟨fun d T _ => b d T, fun d T => ?_, fun d T => ?_⟩
    · show scan (61 :: (if (Fo.node s k r).bare then bodyE (d + 1) (.node s k r) else mark d ++ bodyE (d + 1) (.node s k r) ++ mark d)) _ = _
      rw [scan_cons]
      show (some (d, 0, 1, [], T)).bind _ = _
      rw [Option.bind_some]
      by_cases hb : (Fo.node s k r).bare = true
      · rw [if_pos hb]
        match k, r, hb with
        | .nil, .nil, hb =>
          show scan (s ++ ([] ++ [])) _ = _
          rw [List.append_nil, List.append_nil, sc_signs s [] h.1.2.1 (sg_ne h.1) (by simp [h.1.1])]
          simp [Fo.rows]
      · rw [if_neg hb, scan_app, scan_app, sc_open, Option.bind_some, b, Option.bind_some, sc_close]
    · show scan (59 :: 32 :: bodyE d (.node s k r)) _ = _
      rw [scan_cons]
      show scan (32 :: bodyE d (.node s k r)) (d, 0, 0, [], T) = _
      rw [scan_cons]
      show scan (bodyE d (.node s k r)) (d, 0, 0, [], T) = _
      rw [b]

/-! ### sizes -/
theorem body_len {F : Fo} (h : F.Ok) : ∀ (H : F.Ok), (bodyE 0 F).length + 15 ≤ 15 * 2 ^ F.size := by
  induction F with
  | nil => intro _; simp [bodyE, Fo.size]
  | node s k r ihk ihr =>
    intro _
    have a := ihk h.2.1 h.2.1
    have b := ihr h.2.2 h.2.2
    have e : (bodyE 1 k).length ≤ 2 * (bodyE 0 k).length := by rw [← esc_body k h.2.1 0]; exact esc_len _
    have v : (valE 0 k).length ≤ 3 + 2 * (bodyE 0 k).length := by
      cases k with
      | nil => exact Nat.zero_le _
      | node x y z =>
        show (61 :: (if Fo.bare (.node x y z) then bodyE 1 (.node x y z) else mark 0 ++ bodyE 1 (.node x y z) ++ mark 0)).length ≤ _
        split
        · simp only [List.length_cons]; omega
        · rw [mark0]; simp only [List.length_cons, List.length_append, List.length_nil]; omega
    have u : (restE 0 r).length ≤ 2 + (bodyE 0 r).length := by
      cases r with
      | nil => exact Nat.zero_le _
      | node x y z => show (59 :: 32 :: _).length ≤ _; simp only [List.length_cons]; omega
    rw [body_node, List.length_append, List.length_append, h.1.1]
    show _ ≤ 15 * 2 ^ (1 + k.size + r.size)
    rw [Nat.pow_add, Nat.pow_add]
    generalize 2 ^ k.size = x at *
    generalize 2 ^ r.size = y at *
    have hx : 1 ≤ x := by omega
    have hy : 1 ≤ y := by omega
    obtain ⟨x', rfl⟩ : ∃ x', x = x' + 1 := ⟨x - 1, by omega⟩
    obtain ⟨y', rfl⟩ : ∃ y', y = y' + 1 := ⟨y - 1, by omega⟩
    have : 2 ^ 1 * (x' + 1) * (y' + 1) = 2 * (x' * y') + 2 * x' + 2 * y' + 2 := by
      rw [Nat.pow_one, Nat.mul_assoc, Nat.add_mul, Nat.mul_add, Nat.mul_add]; omega
    rw [this]
    have : 0 ≤ x' * y' := Nat.zero_le _
    omega
theorem pairs_len (F : Fo) : F.pairs.length ≤ F.size := by
  induction F with
  | nil => exact Nat.le_refl _
  | node s k r ihk ihr => simp [Fo.pairs, Fo.size]; omega
theorem pow_mono {a b : Nat} (h : a ≤ b) : 2 ^ a ≤ 2 ^ b := Nat.pow_le_pow_right (by decide) h
theorem body_len7 {F : Fo} (h : F.Ok) (hs : F.size ≤ 7) : (bodyE 0 F).length ≤ 2000 := by
  have := body_len h h
  have := pow_mono hs
  omega
theorem body_ne {F : Fo} (h : F.Ok) (hF : F ≠ .nil) (e : Nat) : bodyE e F ≠ [] := by
  cases F with
  | nil => exact absurd rfl hF
  | node s k r =>
    rw [body_node]
    intro e
    exact sg_ne h.1 (List.append_eq_nil_iff.mp e).1
theorem pairs_ok {F : Fo} (h : F.Ok) (hs : F.size ≤ 7) : ∀ x ∈ F.pairs, OkW x := by
  induction F with
  | nil => intro x hx; exact nomatch hx
  | node s k r ihk ihr =>
    intro x hx
    have hsz : 1 + k.size + r.size ≤ 7 := hs
    rcases List.mem_cons.mp hx with rfl | hx
    · refine ⟨sg_ne h.1, ?_, by show s.length ≤ 100; rw [h.1.1]; decide, fun v hv => ?_⟩
      · rw [List.all_eq_true]; exact fun c hc => (plain_facts (h.1.2.1 c hc)).2.2.2.2.2.1
      · have hv : valW k.pairs = some v := hv
        unfold valW at hv
        split at hv
        · cases hv
        · rename_i hne
          cases hv
          rw [join_body k h.2.1]
          exact ⟨body_ne h.2.1 (fun e => hne (by rw [e]; rfl)) 0, Nat.le_trans (body_len7 h.2.1 (by omega)) (by decide)⟩
    · exact ihr h.2.2 (by omega) x hx

/-! ### the fold tells a forest -/
noncomputable def Chain : List (Nat × List Nat) → Prop
  | [] => True
  | x :: t => x.1 ≤ 3 ∧ SgOk x.2 ∧ Below (x.1 + 2) t ∧ Chain t
theorem chain_drop : ∀ (l : List (Nat × List Nat)) (n : Nat), Chain l → Chain (l.drop n)
  | l, 0, h => h
  | [], n + 1, h => h
  | x :: t, n + 1, h => chain_drop t n h.2.2.2
noncomputable def Told (l : List (Nat × List Nat)) (ws : List (List Pair)) : Prop := ∃ F0 F1 F2 F3 F4 : Fo, ws = [F0.pairs, F1.pairs, F2.pairs, F3.pairs, F4.pairs] ∧ l = F4.rows 4 ++ (F3.rows 3 ++ (F2.rows 2 ++ (F1.rows 1 ++ F0.rows 0))) ∧
  F0.Ok ∧ F1.Ok ∧ F2.Ok ∧ F3.Ok ∧ F4.Ok ∧ (Below 4 l → F4 = .nil) ∧ (Below 3 l → F3 = .nil) ∧ (Below 2 l → F2 = .nil) ∧ (Below 1 l → F1 = .nil)
theorem told_fold : ∀ l : List (Nat × List Nat), Chain l → Told l (l.foldr (fun r ws => stepW ws r.1 r.2) [[], [], [], [], []])
  | [], _ => ⟨.nil, .nil, .nil, .nil, .nil, rfl, rfl, trivial, trivial, trivial, trivial, trivial, fun _ => rfl, fun _ => rfl, fun _ => rfl, fun _ => rfl⟩
  | (d, s) :: t, h => by
    obtain ⟨F0, F1, F2, F3, F4, hw, hl, o0, o1, o2, o3, o4, n4, n3, n2, n1⟩ := told_fold t h.2.2.2
    have hd : d ≤ 3 := h.1
    have hB : Below (d + 2) t := h.2.2.1
    have up : ∀ {a b : Nat}, a ≤ b → Below a t → Below b t := fun {a b} hab hb => by
      unfold Below at *
      cases t with
      | nil => rfl
      | cons x r => simp at hb ⊢; omega
    rw [List.foldr_cons, hw]
    have no : ∀ {a b : Nat} {l : List (Nat × List Nat)} , Below a ((b, s) :: l) → b < a := fun {a b l} h => by unfold Below at h; simpa using h
    match d, hd, h, hB with
    | 0, _, h, hB =>
      obtain rfl := n4 (up (by decide) hB); obtain rfl := n3 (up (by decide) hB); obtain rfl := n2 (up (by decide) hB)
      exact ⟨.node s F1 F0, .nil, .nil, .nil, .nil, rfl, by rw [hl]; rfl, ⟨h.2.1, o1, o0⟩, trivial, trivial, trivial, trivial, fun _ => rfl, fun _ => rfl, fun _ => rfl, fun _ => rfl⟩
    | 1, _, h, hB =>
      obtain rfl := n4 (up (by decide) hB); obtain rfl := n3 (up (by decide) hB)
      exact ⟨F0, .node s F2 F1, .nil, .nil, .nil, rfl, by rw [hl]; simp [Fo.rows], o0, ⟨h.2.1, o2, o1⟩, trivial, trivial, trivial, fun _ => rfl, fun _ => rfl, fun _ => rfl, fun h => absurd (no h) (by decide)⟩
    | 2, _, h, hB =>
      obtain rfl := n4 (up (by decide) hB)
      exact ⟨F0, F1, .node s F3 F2, .nil, .nil, rfl, by rw [hl]; simp [Fo.rows], o0, o1, ⟨h.2.1, o3, o2⟩, trivial, trivial, fun _ => rfl, fun _ => rfl, fun h => absurd (no h) (by decide), fun h => absurd (no h) (by decide)⟩
    | 3, _, h, hB =>
      exact ⟨F0, F1, F2, .node s F4 F3, .nil, rfl, by rw [hl]; simp [Fo.rows], o0, o1, o2, ⟨h.2.1, o4, o3⟩, trivial, fun _ => rfl, fun h => absurd (no h) (by decide), fun h => absurd (no h) (by decide), fun h => absurd (no h) (by decide)⟩
theorem told_ok {l : List (Nat × List Nat)} {ws : List (List Pair)} (h : Told l ws) (hl : l.length ≤ 7) : ∀ xs ∈ ws, (∀ x ∈ xs, OkW x) ∧ xs.length ≤ 100 := by
  obtain ⟨F0, F1, F2, F3, F4, rfl, rfl, o0, o1, o2, o3, o4, -⟩ := h
  simp only [List.length_append, Fo.rows_len] at hl
  intro xs hx
  have k : ∀ F : Fo, F.Ok → F.size ≤ 7 → (∀ x ∈ F.pairs, OkW x) ∧ F.pairs.length ≤ 100 := fun F o s => ⟨pairs_ok o s, Nat.le_trans (pairs_len F) (by omega)⟩
  simp only [List.mem_cons, List.not_mem_nil, or_false] at hx
  rcases hx with rfl | rfl | rfl | rfl | rfl
  · exact k _ o0 (by omega)
  · exact k _ o1 (by omega)
  · exact k _ o2 (by omega)
  · exact k _ o3 (by omega)
  · exact k _ o4 (by omega)
/-- all that the law asks of the written header -/
theorem told_law {l : List (Nat × List Nat)} (hc : Chain l) (hl : l.length ≤ 7) (h0 : Below 1 l) (hne : l ≠ []) :
    ∃ F : Fo, F.Ok ∧ F ≠ .nil ∧ F.size ≤ 7 ∧ l = F.rows 0 ∧ (l.foldr (fun r ws => stepW ws r.1 r.2) [[], [], [], [], []]).getD 0 [] = F.pairs := by
  obtain ⟨F0, F1, F2, F3, F4, hw, hr, o0, o1, o2, o3, o4, n4, n3, n2, n1⟩ := told_fold l hc
  have up : ∀ {a b : Nat}, a ≤ b → Below a l → Below b l := fun {a b} hab hb => by
    unfold Below at *
    cases l with
    | nil => rfl
    | cons x r => simp at hb ⊢; omega
  obtain rfl := n4 (up (by decide) h0); obtain rfl := n3 (up (by decide) h0); obtain rfl := n2 (up (by decide) h0); obtain rfl := n1 h0
  have hr : l = F0.rows 0 := hr
  refine ⟨F0, o0, fun e => hne (by rw [hr, e]; rfl), by rw [← Fo.rows_len F0 0, ← hr]; exact hl, hr, by rw [hw]; rfl⟩
end

section
open PySem PySem.W PySem.Calls PyProof.Rows
section
variable {prog : Program} {w : World} {A : Around} {W h : Heap} {p g : PM} {L : Addr} {rest : List (Addr × Obj)} {m mg mb : Str → Option Value} {Q : Value → Heap → Prop}
noncomputable def PListAt (g : PM) (v : Value) (xs : List Pair) : Prop := ∃ a n vs, v = .ref a ∧ g a = some (lstO vs n) ∧ PairsAt g vs xs
noncomputable def WaitsAt (g : PM) (vs : List Value) (ws : List (List Pair)) : Prop := vs.length = ws.length ∧ ∀ (i : Nat) (v : Value) (x : List Pair), vs[i]? = some v → ws[i]? = some x → PListAt g v x
theorem PListAt.mono {g g' : PM} {v : Value} {xs : List Pair} (h : PListAt g v xs) (k : g.Le g') : PListAt g' v xs := let ⟨a, n, vs, e1, e2, e3⟩ := h; ⟨a, n, vs, e1, k _ _ e2, e3.mono k⟩
theorem WaitsAt.mono {g g' : PM} {vs : List Value} {ws : List (List Pair)} (h : WaitsAt g vs ws) (k : g.Le g') : WaitsAt g' vs ws := ⟨h.1, fun i v x a b => (h.2 i v x a b).mono k⟩
noncomputable def RAt (g : PM) (v : Value) (x : Nat × Int) : Prop := ∃ a n t u, v = .ref a ∧ g a = some (tupO [.int (x.1 : Int) t, .int x.2 u] n)
noncomputable def RowsAt (g : PM) (vs : List Value) (xs : List (Nat × Int)) : Prop := vs.length = xs.length ∧ ∀ (i : Nat) (v : Value) (x : Nat × Int), vs[i]? = some v → xs[i]? = some x → RAt g v x
theorem RAt.mono {g g' : PM} {v : Value} {x : Nat × Int} (h : RAt g v x) (k : g.Le g') : RAt g' v x := let ⟨a, n, t, u, e1, e2⟩ := h; ⟨a, n, t, u, e1, k _ _ e2⟩
theorem RowsAt.mono {g g' : PM} {vs : List Value} {xs : List (Nat × Int)} (h : RowsAt g vs xs) (k : g.Le g') : RowsAt g' vs xs := ⟨h.1, fun i v x a b => (h.2 i v x a b).mono k⟩
noncomputable def ws0 : List (List Pair) := [[], [], [], [], []]
noncomputable def dueOf (rows : List (Nat × Int)) : List (Nat × List Nat) := rows.map fun r => (r.1, fmI r.2)
noncomputable def foldTo (rows : List (Nat × Int)) (i : Nat) : List (List Pair) := (rows.reverse.take i).foldl (fun ws r => stepW ws r.1 (fmI r.2)) ws0
noncomputable def foldW (due : List (Nat × List Nat)) : List (List Pair) := due.foldr (fun r ws => stepW ws r.1 r.2) ws0
theorem stepW_len {ws : List (List Pair)} {d : Nat} {sg : List Nat} (h : ws.length = 5) (hd : d ≤ 3) : (stepW ws d sg).length = 5 := by simp [stepW, h]; omega
theorem foldTo_succ {rows : List (Nat × Int)} {i : Nat} {r : Nat × Int} (h : rows.reverse[i]? = some r) : foldTo rows (i + 1) = stepW (foldTo rows i) r.1 (fmI r.2) := by
  unfold foldTo
  rw [List.take_add_one, h, List.foldl_append]
  rfl
theorem foldTo_len {rows : List (Nat × Int)} (hd : ∀ r ∈ rows, r.1 ≤ 3) : ∀ i, (foldTo rows i).length = 5
  | 0 => rfl
  | i + 1 => by
    cases hr : rows.reverse[i]? with
    | none =>
      have : rows.reverse.take (i + 1) = rows.reverse.take i := by rw [List.take_add_one, hr]; simp
      unfold foldTo
      rw [this]
      exact foldTo_len hd i
    | some r =>
      rw [foldTo_succ hr]
      exact stepW_len (foldTo_len hd i) (hd r (List.mem_reverse.mp (List.mem_of_getElem? hr)))
theorem foldTo_eq (rows : List (Nat × Int)) (i : Nat) : foldTo rows i = foldW ((dueOf rows).drop (rows.length - i)) := by
  unfold foldTo foldW dueOf
  rw [List.take_reverse, List.foldl_reverse, ← List.map_drop, List.foldr_map]
theorem foldTo_all (rows : List (Nat × Int)) : foldTo rows rows.length = foldW (dueOf rows) := by rw [foldTo_eq, Nat.sub_self, List.drop_zero]
theorem foldTo_ok {rows : List (Nat × Int)} (hc : Chain (dueOf rows)) (hz : rows.length ≤ 7) (i : Nat) : ∀ xs ∈ foldTo rows i, (∀ x ∈ xs, OkW x) ∧ xs.length ≤ 100 := by
  rw [foldTo_eq]
  exact told_ok (told_fold _ (chain_drop _ _ hc)) (by rw [List.length_drop]; unfold dueOf; rw [List.length_map]; omega)
theorem chain_le : ∀ {l : List (Nat × List Nat)}, Chain l → ∀ x ∈ l, x.1 ≤ 3
  | x :: t, h, y, hy => by
    rcases List.mem_cons.mp hy with rfl | hy
    · exact h.1
    · exact chain_le h.2.2.2 y hy
theorem dueOf_le {rows : List (Nat × Int)} (hc : Chain (dueOf rows)) : ∀ r ∈ rows, r.1 ≤ 3 := fun r hr => chain_le hc (r.1, fmI r.2) (List.mem_map_of_mem (f := fun r => (r.1, fmI r.2)) hr)
theorem at_take {α : Type} {R : Value → α → Prop} {vs : List Value} {xs : List α} (d : Nat) (h : vs.length = xs.length ∧ ∀ (i : Nat) (v : Value) (x : α), vs[i]? = some v → xs[i]? = some x → R v x) :
    (vs.take d).length = (xs.take d).length ∧ ∀ (i : Nat) (v : Value) (x : α), (vs.take d)[i]? = some v → (xs.take d)[i]? = some x → R v x := by
  refine ⟨by simp [h.1], fun i v x hv hx => ?_⟩
  rw [List.getElem?_take] at hv hx
  split at hv
  · rename_i hi
    rw [if_pos hi] at hx
    exact h.2 i v x hv hx
  · cases hv
theorem at_drop {α : Type} {R : Value → α → Prop} {vs : List Value} {xs : List α} (d : Nat) (h : vs.length = xs.length ∧ ∀ (i : Nat) (v : Value) (x : α), vs[i]? = some v → xs[i]? = some x → R v x) :
    (vs.drop d).length = (xs.drop d).length ∧ ∀ (i : Nat) (v : Value) (x : α), (vs.drop d)[i]? = some v → (xs.drop d)[i]? = some x → R v x := by
  refine ⟨by simp [h.1], fun i v x hv hx => ?_⟩
  rw [List.getElem?_drop] at hv hx
  exact h.2 _ v x hv hx
theorem at_cons {α : Type} {R : Value → α → Prop} {vs : List Value} {xs : List α} {v : Value} {x : α} (hv : R v x) (h : vs.length = xs.length ∧ ∀ (i : Nat) (v : Value) (x : α), vs[i]? = some v → xs[i]? = some x → R v x) :
    (v :: vs).length = (x :: xs).length ∧ ∀ (i : Nat) (u : Value) (y : α), (v :: vs)[i]? = some u → (x :: xs)[i]? = some y → R u y := by
  refine ⟨by simp [h.1], fun i u y hu hy => ?_⟩
  match i, hu, hy with
  | 0, hu, hy => cases hu; cases hy; exact hv
  | i + 1, hu, hy => exact h.2 i u y hu hy
theorem at_nil {α : Type} {R : Value → α → Prop} : ([] : List Value).length = ([] : List α).length ∧ ∀ (i : Nat) (v : Value) (x : α), ([] : List Value)[i]? = some v → ([] : List α)[i]? = some x → R v x := ⟨rfl, fun i v x h => nomatch h⟩
theorem cells {l : List (Str × NameKind)} (h : l.all (fun x => x.2 != .cell) = true) : ∀ x ∈ l, x.2 ≠ .cell := fun x hx e => by
  have := List.all_eq_true.mp h x hx
  rw [e] at this
  exact absurd this (by decide)
theorem d_IfI {env : Env} {test : Expr} {body orelse : List Stmt} {pos : Pos} {Q : Flow → Heap → Prop} (I : Heap → Prop)
    (H : ∀ R : Flow → Heap → Prop, (∀ h', I h' → R .next h') → Do prog w A (isTrue test env (eval test env)) (fun b h₁ => if b then Do prog w A (execs body env) R h₁ else Do prog w A (execs orelse env) R h₁) h)
    (tail : ∀ h', I h' → Q .next h') : Do prog w A (exec (.If test body orelse pos) env) Q h :=
  d_If ((H (fun f h' => f = .next ∧ I h') fun _ x => ⟨rfl, x⟩).mono fun b h₁ x => by
    cases b
    · rw [if_neg Bool.false_ne_true] at x ⊢
      exact x.mono fun f h' y => y.1 ▸ tail h' y.2
    · rw [if_pos rfl] at x ⊢
      exact x.mono fun f h' y => y.1 ▸ tail h' y.2)

theorem c_written {la : Addr} {n : Nat} {ps : Array Value} {vs : List Value} {rows : List (Nat × Int)} (V : Wd w W mg mb) (H : CodeHd W 156 152) (H2 : CodeHd W 86 82) (hA : Ar 8 A) (C : Cx W p g L ([(152, tabObj #[]), (82, tabObj ps)] ++ rest) m h) (tk : TabOk g ps jPos jQual)
    (hla : g la = some (lstO vs n)) (hr : RowsAt g vs rows) (hc : Chain (dueOf rows)) (hz : rows.length ≤ 7) (hne : (foldW (dueOf rows)).getD 0 [] ≠ [])
    (ret : ∀ t g' ps1 ps' h', g.Le g' → TabOk g' ps' jPos jQual → Cx W p g' L ([(152, tabObj ps1), (82, tabObj ps')] ++ rest) m h' → Q (.str (S (joinW ((foldW (dueOf rows)).getD 0 []))) t) h') : Do prog w A (call (.ref 157) [.ref la]) Q h := by
  refine call_top (X := [(152, tabObj #[]), (82, tabObj ps)]) (binds := [("rows", .ref la)]) V hA C rfl rfl rfl rfl (by decide) (locs rfl) (fun p' L' h₁ A' C hA => abs1 fun R0 hR0 => ?_)
  have hd := dueOf_le hc
  refine d_execs_cons ?_
  refine d_Def V H C rfl (fun fa g1 ps1 cd ctv doc h1 le1 hf C => ?_)
  walk_at "ms"
  walk_at "mcall"
  walk_at "ms"
  walk_at "mcall"
  walk_at "ms"
  refine d_UnaryOp ?_
  walk_at "ms"
  refine d_neg fun t => ?_
  refine d_lsliceE (rs := vs.reverse) C (C.kg _ _ (le1 _ _ hla)) .none .none (.int (-1) t) (by decide) (krv_pick _) (by rw [hr.1, sizeLine_eq]; omega) (fun x g2 h2 le2 hx C => ?_)
  walk_at "ms"
  refine d_newListE C (fun a1 g3 h3 le3 e1 C => ?_) (Nat.zero_le _)
  walk_at "ms"
  refine d_newListE C (fun a2 g4 h4 le4 e2 C => ?_) (Nat.zero_le _)
  walk_at "ms"
  refine d_newListE C (fun a3 g5 h5 le5 e3 C => ?_) (Nat.zero_le _)
  walk_at "ms"
  refine d_newListE C (fun a4 g6 h6 le6 e4 C => ?_) (Nat.zero_le _)
  walk_at "ms"
  refine d_newListE C (fun a5 g7 h7 le7 e5 C => ?_) (Nat.zero_le _)
  walk_at "ms"
  refine' d_newListE C ?_ ?z
  case z => exact Nat.le_of_ble_eq_true rfl
  intro a6 g8 h8 le8 e6 C
  walk_at "ms"
  refine ⟨C.kw, ?_⟩
  have leA : g2.Le g8 := le3.trans (le4.trans (le5.trans (le6.trans (le7.trans le8))))
  have le28 : g1.Le g8 := le2.trans leA
  have C2 := C.swap
  refine c_reduce (k := 4) (X := [(82, tabObj ps)]) (rest := [(152, tabObj ps1)]) V (hA.le (by decide)) C2 (le28 _ _ hf.1) e6 (Walk.list (leA _ _ hx))
    (fun i g' v X => ∃ ps' wa nw wvs, X = [(82, tabObj ps')] ∧ TabOk g' ps' jPos jQual ∧ v = .ref wa ∧ g' wa = some (lstO wvs nw) ∧ WaitsAt g' wvs (foldTo rows i)) ?_ ?_ ?_
  · refine ⟨ps, a6, 0, _, rfl, tk.mono (le1.trans le28), rfl, e6, rfl, fun i v x hv hx => ?_⟩
    have nil : ∀ {g : PM} {a : Addr}, g a = some (lstO [] 0) → PListAt g (.ref a) [] := fun e => ⟨_, _, _, rfl, e, rfl, fun i v x h => nomatch h⟩
    match i, hv, hx with
    | 0, hv, hx => cases hv; cases hx; exact (nil e1).mono (le4.trans (le5.trans (le6.trans (le7.trans le8))))
    | 1, hv, hx => cases hv; cases hx; exact (nil e2).mono (le5.trans (le6.trans (le7.trans le8)))
    | 2, hv, hx => cases hv; cases hx; exact (nil e3).mono (le6.trans (le7.trans le8))
    | 3, hv, hx => cases hv; cases hx; exact (nil e4).mono (le7.trans le8)
    | 4, hv, hx => cases hv; cases hx; exact (nil e5).mono le8
  · intro A3 p3 g3 L3 X3 own3 m3 h3 i v e Q3 hA3 hi hv le hI C ret3
    obtain ⟨ps3, wa, nw, wvs, rfl, tk3, rfl, hwa, hw⟩ := hI
    obtain ⟨⟨d, mode⟩, hri⟩ : ∃ r, rows.reverse[i]? = some r := ⟨_, List.getElem?_eq_getElem (show i < rows.reverse.length by rw [List.length_reverse, ← hr.1]; simpa using hi)⟩
    refine call_made (X := [(82, tabObj ps3)]) (rest := own3) (binds := [("waiting", .ref wa), ("row", e)]) V hA3 C (hf.mono (le28.trans le)) rfl rfl (cells rfl) (locs rfl) (fun p5 L5 h5 A5 C hA5 => abs1 fun R5 hR5 => ?_)
    have hri2 : rows[rows.length - 1 - i]? = some (d, mode) := by
      rw [List.getElem?_reverse (by have := (List.getElem?_eq_some_iff.mp hri).1; simpa using this)] at hri
      exact hri
    have hvi : vs[rows.length - 1 - i]? = some e := by
      have hv : vs.reverse[i]? = some e := hv
      rw [List.getElem?_reverse (by have := (List.getElem?_eq_some_iff.mp hv).1; simpa using this), hr.1] at hv
      exact hv
    walk_at "ms"
    obtain ⟨ta, tn, tt, tu, rfl, hta⟩ : RAt g3 e (d, mode) := ((hr.2 _ _ _ hvi hri2).mono (le1.trans le28)).mono le
    refine d_unpack2 hA5.hh C (C.kg _ _ hta) fun h6 C => ?_
    have hd3 : d ≤ 3 := hd (d, mode) (List.mem_reverse.mp (List.mem_of_getElem? hri))
    have hl5 := foldTo_len hd i
    obtain ⟨v1, hv1⟩ : ∃ v, wvs[d + 1]? = some v := ⟨_, List.getElem?_eq_getElem (show d + 1 < wvs.length by rw [hw.1, hl5]; omega)⟩
    obtain ⟨x1, hx1⟩ : ∃ v, (foldTo rows i)[d + 1]? = some v := ⟨_, List.getElem?_eq_getElem (show d + 1 < (foldTo rows i).length by rw [hl5]; omega)⟩
    obtain ⟨v0, hv0⟩ : ∃ v, wvs[d]? = some v := ⟨_, List.getElem?_eq_getElem (show d < wvs.length by rw [hw.1, hl5]; omega)⟩
    obtain ⟨x0, hx0⟩ : ∃ v, (foldTo rows i)[d]? = some v := ⟨_, List.getElem?_eq_getElem (show d < (foldTo rows i).length by rw [hl5]; omega)⟩
    obtain ⟨p1, np1, pv1, rfl, hp1, hpx1⟩ := hw.2 _ v1 x1 hv1 hx1
    obtain ⟨p0, np0, pv0, rfl, hp0, hpx0⟩ := hw.2 _ v0 x0 hv0 hx0
    have hok1 := foldTo_ok hc hz i x1 (List.mem_of_getElem? hx1)
    have hok0 := foldTo_ok hc hz i x0 (List.mem_of_getElem? hx0)
    have hwl : wvs.length = 5 := by rw [hw.1, hl5]
    iterate 7 walk_at "m"
    rename Cx _ _ _ _ _ _ _ => C
    refine d_IfI (fun h' => ∃ g4 ps4 vv m4, g3.Le g4 ∧ TabOk g4 ps4 jPos jQual ∧ VAt vv (valW x1) ∧ m4 "waiting" = some (.ref wa) ∧ m4 "depth" = some (.int d tt) ∧ m4 "mode" = some (.int mode tu) ∧ m4 "value" = some vv ∧ Cx W p5 g4 L5 [(82, tabObj ps4)] m4 h') ?_ ?_
    · intro R6 hR6
      walk_at "ms"
      refine d_litem (C.kg _ _ hwa) (by omega) (by omega) (show wvs[((d : Int) + 1).toNat]? = _ from by rw [show ((d : Int) + 1).toNat = d + 1 by omega]; exact hv1) ?_
      walk_at "ms"
      refine d_newListE C (fun n1 g4 h7 le4 en1 C => ?_) (Nat.zero_le _)
      refine d_lneNil hA5.units (C.kg _ _ (le4 _ _ hp1)) (C.kg _ _ en1) ?_
      walk_at "ms"
      by_cases hx1e : x1 = []
      · have : pv1 = [] := List.length_eq_zero_iff.mp (by rw [hpx1.1, hx1e]; rfl)
        subst this
        rw [if_neg (by decide)]
        walk_at "ms"
        exact hR6 _ ⟨g4, ps3, _, _, le4, tk3.mono le4, by rw [hx1e]; rfl, rfl, rfl, rfl, rfl, C⟩
      · have : pv1.isEmpty = false := by
          cases pv1 with
          | nil => exact absurd (List.length_eq_zero_iff.mp hpx1.1.symm) hx1e
          | cons a b => rfl
        rw [this, if_pos (show (!false) = true from rfl)]
        walk_at "ms"
        walk_at "mcall"
        walk_at "ms"
        refine d_litem (C.kg _ _ (le4 _ _ hwa)) (by omega) (by omega) (show wvs[((d : Int) + 1).toNat]? = _ from by rw [show ((d : Int) + 1).toNat = d + 1 by omega]; exact hv1) ?_
        walk_at "ms"
        refine' d_newListE C ?_ ?z
        case z => exact Nat.le_of_ble_eq_true rfl
        intro a7 g7 h7 le7 e7 C
        walk_at "ms"
        refine ⟨C.kw, ?_⟩
        refine c_join V H2 hA5 C (tk3.mono (le4.trans le7)) e7 (le7 _ _ (le4 _ _ hp1)) (hpx1.mono (le4.trans le7)) (fun x hx => (hok1.1 x hx).2.2) hok1.2 (List.length_pos_iff.mpr hx1e) fun t9 g10 ps10 h10 le10 tk10 C => ?_
        walk_at "ms"
        rename Cx _ _ _ _ _ _ _ => C
        exact hR6 _ ⟨g10, ps10, _, _, le4.trans (le7.trans le10), tk10, by unfold valW; rw [if_neg hx1e]; exact ⟨_, rfl⟩, rfl, rfl, rfl, rfl, C⟩
    · rintro h6 ⟨g4, ps4, vv, m4, le4, tk4, hvv, hm1, hm2, hm3, hm4, C⟩
      dsimp only
      walk_at "ms"
      walk_at "mcall"
      walk_at "ms"
      rename Cx _ _ _ _ _ _ _ => C
      refine ⟨C.kw, ?_⟩
      refine c_filemode V (hA5.le (by decide)) C fun t7 g7 h7 le7 C => ?_
      walk_at "ms"
      refine' d_newTupleE C ?_ ?z
      case z => exact Nat.le_of_ble_eq_true rfl
      intro a8 g8' h8 le8' e8 C
      walk_at "ms"
      refine' d_newListE C ?_ ?z
      case z => exact Nat.le_of_ble_eq_true rfl
      intro a9 g9 h9 le9 e9 C
      walk_at "ms"
      have leB : g3.Le g9 := le4.trans (le7.trans (le8'.trans le9))
      refine d_litem (C.kg _ _ (leB _ _ hwa)) (by omega) (by omega) (show wvs[((d : Int)).toNat]? = _ from by rw [show ((d : Int)).toNat = d by omega]; exact hv0) ?_
      walk_at "ms"
      refine d_laddE C (C.kg _ _ e9) (C.kg _ _ (leB _ _ hp0)) (by rw [hpx0.1, sizeLine_eq]; have := hok0.2; simp; omega) fun a10 g10 h10 le10 e10 C => ?_
      walk_at "ms"
      rename Cx _ _ _ _ _ _ _ => C
      have hsz : ∀ l : List Value, l.length ≤ 10 → l.length ≤ sizeLine := fun l h => by rw [sizeLine_eq]; omega
      have hsz2 : ∀ l l' : List Value, l.length + l'.length ≤ 20 → l.length + l'.length ≤ sizeLine := fun l l' h => by rw [sizeLine_eq]; omega
      refine d_lsliceE (rs := wvs.take d) C (C.kg _ _ (le10 _ _ (leB _ _ hwa))) .none (.int d _) .none (by decide) (slicePick_upto' _ d) (hsz _ (by omega)) (fun a11 g11 h11 le11 e11 C => ?_)
      walk_at "ms"
      refine d_newListE C (fun a12 g12 h12 le12 e12 C => ?_) (Nat.zero_le _)
      walk_at "ms"
      refine' d_newListE C ?_ ?z
      case z => exact Nat.le_of_ble_eq_true rfl
      intro a13 g13 h13 le13 e13 C
      refine d_laddE C (C.kg _ _ (le13 _ _ (le12 _ _ e11))) (C.kg _ _ e13) (by rw [List.length_take, sizeLine_eq]; simp; omega) fun a14 g14 h14 le14 e14 C => ?_
      walk_at "ms"
      rename Cx _ _ _ _ _ _ _ => C
      refine d_lsliceE (lo := some ((d : Int) + 2)) (rs := wvs.drop (d + 2)) C (C.kg _ _ (le14 _ _ (le13 _ _ (le12 _ _ (le11 _ _ (le10 _ _ (leB _ _ hwa))))))) (.int _ _) .none .none (by decide)
        (by rw [show ((d : Int) + 2) = ((d + 2 : Nat) : Int) by omega]; exact slicePick_from' _ _) (hsz _ (by omega)) (fun a15 g15 h15 le15 e15 C => ?_)
      refine d_laddE C (C.kg _ _ (le15 _ _ e14)) (C.kg _ _ e15) (hsz2 _ _ (by simp; omega)) fun a16 g16 h16 le16 e16 C => ?_
      have leC : g3.Le g16 := leB.trans (le10.trans (le11.trans (le12.trans (le13.trans (le14.trans (le15.trans le16))))))
      have hnew : PListAt g16 (.ref a10) ((fmI mode, valW x1) :: x0) := ⟨a10, 0, _, rfl, (le11.trans (le12.trans (le13.trans (le14.trans (le15.trans le16))))) _ _ e10, at_cons ⟨a8, 0, t7, vv, rfl, (le9.trans (le10.trans (le11.trans (le12.trans (le13.trans (le14.trans (le15.trans le16))))))) _ _ e8, hvv⟩ (hpx0.mono leC)⟩
      have hnil : PListAt g16 (.ref a12) [] := ⟨a12, 0, [], rfl, (le13.trans (le14.trans (le15.trans le16))) _ _ e12, at_nil⟩
      have hwait : WaitsAt g16 (wvs.take d ++ [.ref a10, .ref a12] ++ wvs.drop (d + 2)) (foldTo rows (i + 1)) := by
        rw [foldTo_succ hri]
        unfold stepW
        rw [List.getD_eq_getElem?_getD, hx1, List.getD_eq_getElem?_getD, hx0]
        exact at_app (at_app (at_take d (hw.mono leC)) (at_cons hnew (at_cons hnil at_nil))) (at_drop (d + 2) (hw.mono leC))
      refine hR5 _ _ ⟨g16, _, _, [(82, tabObj ps4)], leC, C, fun _ h => h, rfl, fun Cc => ?_⟩
      exact ret3 _ _ _ _ leC ⟨ps4, a16, 0, _, rfl, tk4.mono (le7.trans (le8'.trans (le9.trans (le10.trans (le11.trans (le12.trans (le13.trans (le14.trans (le15.trans le16))))))))), rfl, e16, hwait⟩ rfl Cc
  · intro v g3 X3 h3 le hI hX C
    obtain ⟨ps3, wa, nw, wvs, rfl, tk3, rfl, hwa, hw⟩ := hI
    rw [List.length_reverse, hr.1] at hw
    have hl5 := foldTo_len hd rows.length
    walk_at "ms"
    obtain ⟨w0, hw0⟩ : ∃ v, wvs[0]? = some v := ⟨_, List.getElem?_eq_getElem (show 0 < wvs.length by rw [hw.1, hl5]; decide)⟩
    obtain ⟨x0, hx0⟩ : ∃ v, (foldTo rows rows.length)[0]? = some v := ⟨_, List.getElem?_eq_getElem (show 0 < (foldTo rows rows.length).length by rw [hl5]; decide)⟩
    have hg0 : (foldTo rows rows.length).getD 0 [] = x0 := by rw [List.getD_eq_getElem?_getD, hx0]; rfl
    obtain ⟨pa, npa, pvs, rfl, hpa, hpx⟩ := hw.2 0 w0 x0 hw0 hx0
    refine d_litem (C.kg _ _ hwa) (by decide) (by decide) hw0 ?_
    walk_at "ms"
    refine' d_newListE C ?_ ?z
    case z => exact Nat.le_of_ble_eq_true rfl
    intro a9 g9 h9 le9 e9 C
    walk_at "ms"
    refine ⟨C.kw, ?_⟩
    obtain ⟨ok1', ok2⟩ := foldTo_ok hc hz rows.length x0 (List.mem_of_getElem? hx0)
    have ok1 := fun x hx => (ok1' x hx).2.2
    rw [← foldTo_all, hg0] at hne ret
    refine c_join V H2 (hA.le (by decide)) C (tk3.mono le9) e9 (le9 _ _ hpa) (hpx.mono le9) ok1 ok2 (List.length_pos_iff.mpr hne) fun t9 g10 ps10 h10 le10 tk10 C => ?_
    have lez : g.Le g10 := le1.trans (le28.trans (le.trans (le9.trans le10)))
    refine hR0 _ _ ⟨g10, _, _, [(152, tabObj ps1), (82, tabObj ps10)], lez, C.swap, fun _ h => h, rfl, fun Cc => ?_⟩
    exact ret t9 g10 ps1 ps10 _ lez tk10 Cc
end
end

section
open PySem PySem.W PySem.Calls PyProof.Rows
noncomputable def castD (T : List (Nat × List Nat)) : List (Int × List Nat) := T.map fun x => ((x.1 : Int), x.2)
noncomputable def StAt (g : PM) (v : Value) (st : St) : Prop := ∃ a n t1 t2 t3 t4 la vs nl, v = .ref a ∧ g a = some (tupO [.int (st.1 : Int) t1, .int (st.2.1 : Int) t2, .int (st.2.2.1 : Int) t3, .str (S st.2.2.2.1) t4, .ref la] n) ∧ g la = some (lstO vs nl) ∧ DuesAt g vs (castD st.2.2.2.2)
noncomputable def StB (i : Nat) (st : St) : Prop := st.1 ≤ i ∧ st.2.1 ≤ i ∧ st.2.2.1 ≤ 1 ∧ st.2.2.2.1.length ≤ 9 ∧ st.2.2.2.2.length ≤ i
theorem scan_take {l : List Nat} {st0 r : St} (h : scan l st0 = some r) (i : Nat) : ∃ st, scan (l.take i) st0 = some st := by
  rw [← List.take_append_drop i l, scan_app] at h
  cases e : scan (l.take i) st0 with
  | some st => exact ⟨st, rfl⟩
  | none => rw [e] at h; cases h
theorem scan_succ {l : List Nat} {st0 st : St} {i c : Nat} (h : scan (l.take i) st0 = some st) (hc : l[i]? = some c) : scan (l.take (i + 1)) st0 = scStep st c := by
  rw [List.take_add_one, hc, scan_app, h, Option.bind_some, Option.toList_some, scan_cons]
  cases scStep st c <;> rfl
theorem sc_bound {st st' : St} {i c : Nat} (h : scStep st c = some st') (hb : StB i st) : StB (i + 1) st' := by
  obtain ⟨o, k, b, w, T⟩ := st
  unfold scStep at h
  dsimp only at h
  obtain ⟨b1, b2, b3, b4, b5⟩ := hb
  dsimp only at b1 b2 b3 b4 b5
  unfold StB
  split at h
  · cases h; refine ⟨?_, ?_, ?_, ?_, ?_⟩ <;> dsimp only <;> omega
  split at h
  · cases h; refine ⟨?_, ?_, ?_, ?_, ?_⟩ <;> simp <;> omega
  split at h
  · split at h
    · cases h
    · cases h; refine ⟨?_, ?_, ?_, ?_, ?_⟩ <;> simp <;> omega
  split at h
  · cases h; refine ⟨?_, ?_, ?_, ?_, ?_⟩ <;> simp <;> omega
  split at h
  · cases h; refine ⟨?_, ?_, ?_, ?_, ?_⟩ <;> simp <;> omega
  split at h
  · cases h; refine ⟨?_, ?_, ?_, ?_, ?_⟩ <;> simp <;> omega
  · cases h; refine ⟨?_, ?_, ?_, ?_, ?_⟩ <;> simp <;> omega
section
variable {prog : Program} {w : World} {A : Around} {W h : Heap} {p g : PM} {L : Addr} {rest : List (Addr × Obj)} {m mg mb : Str → Option Value} {Q : Value → Heap → Prop}
theorem c_scanned {l : List Nat} {t0 : Tok} {st : St} (V : Wd w W mg mb) (H : CodeHd W 184 180) (hA : Ar 4 A) (C : Cx W p g L ([(180, tabObj #[])] ++ rest) m h)
    (ha : l.all (· < 128) = true) (hz : l.length ≤ 5000) (hs : scan l (0, 0, 0, [], []) = some st)
    (ret : ∀ v g' ps1 h', g.Le g' → StAt g' v st → Cx W p g' L ([(180, tabObj ps1)] ++ rest) m h' → Q v h') : Do prog w A (call (.ref 185) [.str (S l) t0]) Q h := by
  refine call_top (X := [(180, tabObj #[])]) (binds := [("header", .str (S l) t0)]) V hA C rfl rfl rfl rfl (by decide) (locs rfl) (fun p' L' h₁ A' C hA => abs1 fun R0 hR0 => ?_)
  refine d_execs_cons ?_
  refine d_Def V H C rfl (fun fa g1 ps1 cd ctv doc h1 le1 hf C => ?_)
  walk_at "ms"
  walk_at "mcall"
  walk_at "ms"
  refine d_newListE C (fun a1 g2 h2 le2 e1 C => ?_) (Nat.zero_le _)
  walk_at "ms"
  refine' d_newTupleE C ?_ ?z
  case z => exact Nat.le_of_ble_eq_true rfl
  intro a2 g3 h3 le3 e2 C
  walk_at "ms"
  refine ⟨C.kw, ?_⟩
  refine c_reduce (k := 0) (X := []) (rest := [(180, tabObj ps1)]) V (hA.le (by decide)) C (le3 _ _ (le2 _ _ hf.1)) e2 (Walk.str ha)
    (fun i g' v X => X = [] ∧ ∃ st', scan (l.take i) (0, 0, 0, [], []) = some st' ∧ StB i st' ∧ StAt g' v st') ?_ ?_ ?_
  · exact ⟨rfl, _, rfl, ⟨Nat.le_refl _, Nat.le_refl _, Nat.zero_le _, Nat.zero_le _, Nat.le_refl _⟩, a2, _, _, _, _, _, _, _, _, rfl, e2, le3 _ _ e1, at_nil⟩
  · intro A3 p3 g3' L3 X3 own3 m3 h3' i v e Q3 hA3 hi hv le hI C ret3
    obtain ⟨rfl, ⟨o, k, b, wd, T⟩, hst, ⟨b1, b2, b3, b4, b5⟩, ta, tn, t1, t2, t3, t4, la, vs, nl, rfl, hta, hla, hdu⟩ := hI
    obtain ⟨c, tc, hc, rfl⟩ := hv
    dsimp only at b1 b2 b3 b4 b5 hta hdu
    obtain ⟨st2, hst2⟩ := scan_take hs (i + 1)
    rw [scan_succ hst hc] at hst2
    have hB2 := sc_bound hst2 (i := i) ⟨b1, b2, b3, b4, b5⟩
    have hsum : scan (l.take (i + 1)) (0, 0, 0, [], []) = some st2 := by rw [scan_succ hst hc, hst2]
    have fin : ∀ v' g'' h', g3'.Le g'' → StAt g'' v' st2 → Cx W p3 g'' L3 ([] ++ own3) m3 h' → Q3 v' h' := fun v' g'' h' le hat C => ret3 v' g'' [] h' le ⟨rfl, st2, hsum, hB2, hat⟩ rfl C
    refine call_made (X := []) (rest := own3) (binds := [("state", .ref ta), ("sign", .str (S [c]) tc)]) V hA3 C (hf.mono (le2.trans (le3.trans le))) rfl rfl (cells rfl) (locs rfl) (fun p5 L5 h5 A5 C hA5 => abs1 fun R5 hR5 => ?_)
    walk_at "ms"
    refine d_unpack5 hA5.hh C (C.kg _ _ hta) fun h6 C => ?_
    walk_at "ms"
    have bq : ∀ x : Nat, ([c] == [x]) = true ↔ c = x := fun x => by simp
    have hend : ∀ (x y z : Int) (u1 u2 u3 u4 : Tok) (wd' : List Nat) (T' : List (Nat × List Nat)) (la' : Addr) (vs' : List Value) (nl' : Nat) (m5 : Str → Option Value) (g5 : PM) (h7 : Heap) (o' k' b' : Nat), g3'.Le g5 → Cx W p5 g5 L5 [] m5 h7 → x = o' → y = k' → z = b' →
        scStep (o, k, b, wd, T) c = some (o', k', b', wd', T') → g5 la' = some (lstO vs' nl') → DuesAt g5 vs' (castD T') →
        Do prog w A5 (newTuple [.int x u1, .int y u2, .int z u3, .str (S wd') u4, .ref la']) (fun v h' => R5 (.ret v) h') h7 := by
      intro x y z u1 u2 u3 u4 wd' T' la' vs' nl' m5 g5 h7 o' k' b' le5 C hx hy hz' hsc hl' hd'
      subst hx hy hz'
      refine d_newTupleE C (fun a8 g8 h8 le8 e8 C => ?_) (Nat.le_of_ble_eq_true rfl)
      rw [hst2] at hsc
      cases hsc
      exact hR5 _ _ ⟨g8, [], _, [], le5.trans le8, C, fun _ h => h, rfl, fun Cc => fin _ _ _ (le5.trans le8) ⟨a8, 0, _, _, _, _, la', vs', nl', rfl, e8, le8 _ _ hl', hd'.mono le8⟩ Cc⟩
    by_cases c1 : c = 92
    · rw [if_pos ((bq 92).mpr c1)]
      walk_at "ms"
      rename Cx _ _ _ _ _ _ _ => C
      exact hend _ _ _ _ _ _ _ wd T la vs nl _ g3' _ o (k + 1) b .refl C rfl (by simp) rfl (by unfold scStep; dsimp only; rw [if_pos c1]) hla hdu
    rw [if_neg (fun e => c1 ((bq 92).mp e))]
    walk_at "ms"
    by_cases c2 : c = 34
    · rw [if_pos ((bq 34).mpr c2)]
      walk_at "ms"
      have hb2 : Builtin.Int.intBits 2 = 2 := by decide
      (with_reducible refine' d_pow ?a1 ?a2 ?_)
      case a1 => exact Int.natCast_nonneg _
      case a2 => rw [hb2]; omega
      intro tp
      walk_at "ms"
      have hpe : (((k : Int) + 1 == 2 ^ (o : Int).toNat) = true) ↔ k + 1 = 2 ^ o := by
        rw [beq_iff_eq, Int.toNat_natCast]
        constructor
        · intro h; exact_mod_cast h
        · intro h; exact_mod_cast h
      by_cases hp : k + 1 = 2 ^ o
      · rw [if_pos (hpe.mpr hp)]
        walk_at "ms"
        rename Cx _ _ _ _ _ _ _ => C
        exact hend _ _ _ _ _ _ _ [] T la vs nl _ g3' _ (o + 1) 0 0 .refl C (by simp) rfl rfl (by unfold scStep; dsimp only; rw [if_neg c1, if_pos ⟨c2, hp⟩]) hla hdu
      · rw [if_neg (fun e => hp (hpe.mp e))]
        walk_at "ms"
        rw [if_pos ((bq 34).mpr c2)]
        walk_at "ms"
        rename Cx _ _ _ _ _ _ _ => C
        have ho : o ≠ 0 := fun e => by
          unfold scStep at hst2
          dsimp only at hst2
          rw [if_neg c1, if_neg (fun e => hp e.2), if_pos c2, if_pos e] at hst2
          cases hst2
        exact hend _ _ _ _ _ _ _ [] T la vs nl _ g3' _ (o - 1) 0 0 .refl C (by omega) rfl rfl (by unfold scStep; dsimp only; rw [if_neg c1, if_neg (fun e => hp e.2), if_pos c2, if_neg ho]) hla hdu
    rw [if_neg (fun e => c2 ((bq 34).mp e))]
    walk_at "ms"
    rw [if_neg Bool.false_ne_true]
    walk_at "ms"
    rw [if_neg (fun e => c2 ((bq 34).mp e))]
    walk_at "ms"
    by_cases c3 : c = 61
    · rw [if_pos ((bq 61).mpr c3)]
      walk_at "ms"
      rename Cx _ _ _ _ _ _ _ => C
      exact hend _ _ _ _ _ _ _ [] T la vs nl _ g3' _ o 0 1 .refl C rfl rfl rfl (by unfold scStep; dsimp only; rw [if_neg c1, if_neg (fun e => c2 e.1), if_neg c2, if_pos c3]) hla hdu
    rw [if_neg (fun e => c3 ((bq 61).mp e))]
    walk_at "ms"
    refine d_inSemi ?_
    walk_at "ms"
    by_cases c4 : c = 59 ∨ c = 32
    · rw [if_pos (show (c == 59 || c == 32) = true by simpa using c4)]
      walk_at "ms"
      rename Cx _ _ _ _ _ _ _ => C
      exact hend _ _ _ _ _ _ _ [] T la vs nl _ g3' _ o 0 0 .refl C rfl rfl rfl (by unfold scStep; dsimp only; rw [if_neg c1, if_neg (fun e => c2 e.1), if_neg c2, if_neg c3, if_pos c4]) hla hdu
    rw [if_neg (show ¬ (c == 59 || c == 32) = true by simpa using c4)]
    walk_at "ms"
    walk_at "mbuilt"
    walk_at "ms"
    refine d_slen (by rw [sizeLine_eq]; omega) (fun tl => ?_)
    walk_at "ms"
    by_cases c5 : wd.length < 9
    · rw [if_pos (show decide ((wd.length : Int) < 9) = true by simp; omega)]
      walk_at "ms"
      refine d_sadd (by rw [sizeLine_eq]; simp; omega) fun t9 => ?_
      walk_at "ms"
      rename Cx _ _ _ _ _ _ _ => C
      exact hend _ _ _ _ _ _ _ (wd ++ [c]) T la vs nl _ g3' _ o 0 b .refl C rfl rfl rfl (by unfold scStep; dsimp only; rw [if_neg c1, if_neg (fun e => c2 e.1), if_neg c2, if_neg c3, if_neg c4, if_pos c5]) hla hdu
    rw [if_neg (show ¬ decide ((wd.length : Int) < 9) = true by simp; omega)]
    walk_at "ms"
    refine d_sadd (by rw [sizeLine_eq]; simp; omega) fun t9 => ?_
    walk_at "ms"
    rename Cx _ _ _ _ _ _ _ => C
    refine' d_newTupleE C ?_ ?z
    case z => exact Nat.le_of_ble_eq_true rfl
    intro a8 g8 h8 le8 e8 C
    walk_at "ms"
    refine' d_newListE C ?_ ?z
    case z => exact Nat.le_of_ble_eq_true rfl
    intro a9 g9 h9 le9 e9 C
    have hvl : vs.length = T.length := by rw [hdu.1]; unfold castD; simp
    refine d_laddE C (C.kg _ _ (le9 _ _ (le8 _ _ hla))) (C.kg _ _ e9) (by rw [hvl, sizeLine_eq]; simp; omega) fun a10 g10 h10 le10 e10 C => ?_
    walk_at "ms"
    refine hend _ _ _ _ _ _ _ [] (T ++ [(o + b, wd ++ [c])]) a10 _ 0 _ g10 _ o 0 0 (le8.trans (le9.trans le10)) C rfl rfl rfl (by unfold scStep; dsimp only; rw [if_neg c1, if_neg (fun e => c2 e.1), if_neg c2, if_neg c3, if_neg c4, if_neg c5]) e10 ?_
    have : castD (T ++ [(o + b, wd ++ [c])]) = castD T ++ [((o : Int) + b, wd ++ [c])] := by unfold castD; simp
    rw [this]
    exact at_snoc (hdu.mono (le8.trans (le9.trans le10))) ⟨a8, 0, _, _, rfl, (le9.trans le10) _ _ e8⟩
  · intro v g' X' h' le hI hX C
    obtain ⟨rfl, st', hst, -, hat⟩ := hI
    rw [List.take_length, hs] at hst
    cases hst
    walk_at "ms"
    exact hR0 _ _ ⟨g', _, _, [(180, tabObj ps1)], le1.trans (le2.trans (le3.trans le)), C, fun _ h => h, rfl, fun Cc => ret _ _ _ _ (le1.trans (le2.trans (le3.trans le))) hat Cc⟩
end
end

section
open PySem PySem.W PySem.Calls PyProof.Rows
noncomputable def Fo.kids : Fo → List (List Nat × Fo)
  | .nil => []
  | .node s k r => (s, k) :: r.kids
noncomputable def kidRows (d : Nat) (x : List Nat × Fo) : List (Nat × List Nat) := (d, x.1) :: x.2.rows (d + 1)
theorem pairs_kids : ∀ F : Fo, F.pairs = F.kids.map fun x => (x.1, valW x.2.pairs)
  | .nil => rfl
  | .node s k r => by simp [Fo.pairs, Fo.kids, pairs_kids r]
theorem rows_kids (d : Nat) : ∀ F : Fo, F.rows d = F.kids.flatMap (kidRows d)
  | .nil => rfl
  | .node s k r => by simp [Fo.rows, Fo.kids, rows_kids d r, kidRows]
theorem kid_ok : ∀ F : Fo, F.Ok → ∀ x ∈ F.kids, x.2.Ok ∧ x.2.size < F.size ∧ SgOk x.1
  | .node s k r, h, x, hx => by
    rcases List.mem_cons.mp hx with rfl | hx
    · exact ⟨h.2.1, by show k.size < 1 + k.size + r.size; omega, h.1⟩
    · obtain ⟨a, b, c⟩ := kid_ok r h.2.2 x hx
      exact ⟨a, by show _ < 1 + k.size + r.size; omega, c⟩
theorem kid_rows_len {F : Fo} {d : Nat} (j : Nat) : ((F.kids.take j).flatMap (kidRows d)).length ≤ F.size := by
  rw [← Fo.rows_len F d, rows_kids]
  conv => rhs; rw [← List.take_append_drop j F.kids]
  rw [List.flatMap_append, List.length_append]
  omega
theorem castD_app (a b : List (Nat × List Nat)) : castD (a ++ b) = castD a ++ castD b := by unfold castD; simp
theorem castD_len (a : List (Nat × List Nat)) : (castD a).length = a.length := by unfold castD; simp
section
variable {prog : Program} {w : World} {W : Heap} {mg mb : Str → Option Value}
theorem c_lsplit (V : Wd w W mg mb) (H : CodeHd W 69 65) : ∀ (N : Nat) {A : Around} {h : Heap} {p g : PM} {L : Addr} {rest : List (Addr × Obj)} {m : Str → Option Value} {Q : Value → Heap → Prop} {ps : Array Value} {t0 t1 : Tok} {F : Fo} {d : Nat}, F.size ≤ N → Ar (N + 5) A → Cx W p g L ((65, tabObj ps) :: rest) m h → TabOk g ps sPos sQual →
    F.Ok → F ≠ .nil → F.size ≤ 7 →
    (∀ a vs n g' ps' h', g.Le g' → TabOk g' ps' sPos sQual → g' a = some (lstO vs n) → DuesAt g' vs (castD (F.rows d)) → Cx W p g' L ((65, tabObj ps') :: rest) m h' → Q (.ref a) h') → Do prog w A (call (.ref 178) [.str (S (bodyE 0 F)) t0, .int (d : Int) t1]) Q h := by
  intro N
  induction N with
  | zero =>
    intro A h p g L rest m Q ps t0 t1 F d hF
    intros
    rename_i h0 _ _
    cases F with
    | nil => exact absurd rfl h0
    | node s k r => exact absurd hF (by show ¬ 1 + k.size + r.size ≤ 0; omega)
  | succ N ih =>
    intro A h p g L rest m Q ps t0 t1 F d hF hA C tk hok hne h7 ret
    have hA5 : Ar 5 A := hA.le (by omega)
    refine call_top (n := N + 5) (X := [(65, tabObj ps)]) (binds := [("header", .str (S (bodyE 0 F)) t0), ("depth", .int (d : Int) t1)]) V hA C rfl rfl rfl rfl (by decide) (locs rfl) (fun p' L' h₁ A' C hA => abs1 fun R0 hR0 => ?_)
    have hA4 : Ar 4 A' := hA.le (by omega)
    walk_at "ms"
    refine d_newListO C (fun P h' C => ?_)
    walk_at "ms"
    walk_at "mcall"
    walk_at "ms"
    rename Cx _ _ _ _ _ _ _ => C
    refine d_newListE C (fun a1 g1 h1 le1 e1 C => ?_) (Nat.le_of_ble_eq_true rfl)
    walk_at "ms"
    refine ⟨C.kw, ?_⟩
    have C2 := C.swap
    have hpk : F.pairs ≠ [] := by rw [ne_eq, Fo.pairs_nil]; exact hne
    have hj := join_body F hok
    rw [← hj] at e1
    refine c_split V H hA4 C2 (tk.mono le1) e1 (pairs_ok hok h7) (by rw [hj]; exact Nat.le_trans (body_len7 hok h7) (by decide)) (Nat.le_trans (pairs_len F) (by omega)) hpk fun ra pa rn rk pvs g2 ps2 h2 le2 tk2 hra hpa hpv C => ?_
    have C := C.swap
    have le2' := le1.trans le2
    refine d_iter_list C (C.kg _ _ hra) (fun I o h' hI C => ?_)
    intro s hs
    refine d_forLoop (Iter.list hA.hh (un_g hra)) C hI (fun i g' own m => (i = 0 → own = [(P, lstO [] 0), (65, tabObj ps2)]) ∧ (i = 1 → ∃ ps' n vs, TabOk g' ps' sPos sQual ∧ DuesAt g' vs (castD (F.rows d)) ∧ own = [(P, lstO vs n), (65, tabObj ps')]) ∧ m "told" = some (.ref P) ∧ m "depth" = some (.int (d : Int) t1))
      ⟨fun _ => rfl, fun h => absurd h (by decide), rfl, rfl⟩ ?_ ?_ (fun i o hP => ⟨_, hP.1, by decide⟩) s hs
    · intro i v g3 oI own3 m3 h3 hi hv hI le3 hInv C
      refine abs2 fun R1 hR1 => ?_
      have hi0 : i = 0 := by simpa using hi
      subst hi0
      cases hv
      obtain ⟨rfl, -, hm1, hm2⟩ := And.imp_left (fun f => f rfl) hInv
      walk_at "ms"
      rename Cx _ _ _ _ _ _ _ => C
      have hpk' : F.pairs.length = F.kids.length := by rw [pairs_kids, List.length_map]
      refine d_iter_list C (C.kg _ _ (le3 _ _ hpa)) (fun J oJ h' hJ C => ?_)
      intro s hs
      refine d_forLoop (Iter.list hA.hh (un_g (le3 _ _ hpa))) C hJ (fun j g4 own4 m4 => m4 "told" = some (.ref P) ∧ m4 "depth" = some (.int (d : Int) t1) ∧ ∃ vs n ps', TabOk g4 ps' sPos sQual ∧ DuesAt g4 vs (castD ((F.kids.take j).flatMap (kidRows d))) ∧ own4 = [(I, oI), (P, lstO vs n), (65, tabObj ps')])
        ⟨hm1, hm2, [], 0, ps2, tk2.mono le3, at_nil, rfl⟩ ?_ ?_ (fun i o hP => ⟨_, hP.1, by decide⟩) s hs
      · intro j v g4 oJ own4 m4 h4 hj hv hJ le4 hInv4 C
        refine abs2 fun R2 hR2 => ?_
        obtain ⟨hm41, hm42, vs, n, ps4, tk4, hdu, rfl⟩ := hInv4
        have hjl : j < F.kids.length := by rw [← hpk', ← hpv.1]; exact hj
        obtain ⟨⟨sg, K⟩, hkj⟩ : ∃ x, F.kids[j]? = some x := ⟨_, List.getElem?_eq_getElem hjl⟩
        have hpj : F.pairs[j]? = some (sg, valW K.pairs) := by rw [pairs_kids, List.getElem?_map, hkj]; rfl
        obtain ⟨hKok, hKs, hsg⟩ := kid_ok F hok _ (List.mem_of_getElem? hkj)
        have hKok : K.Ok := hKok
        have hKs : K.size < F.size := hKs
        obtain ⟨ta, tn, tk5, u, rfl, hta, hu⟩ := (hpv.mono (le3.trans le4)).2 j v _ hv hpj
        have hlen : vs.length ≤ 7 := by rw [hdu.1, castD_len]; exact Nat.le_trans (kid_rows_len j) h7
        refine d_unpack2 hA.hh C (C.kg _ _ hta) fun h5 C => ?_
        walk_at "ms"
        rename Cx _ _ _ _ _ _ _ => C
        refine d_lappend (Cx.own_at [_, _] [_] C) ?_
        walk_at "mbuilt"
        walk_at "ms"
        refine' d_newTupleE C ?_ ?z
        case z => exact Nat.le_of_ble_eq_true rfl
        intro a6 g6 h6 le6 e6 C
        walk_at "ms"
        refine d_appendAt [_, _] [_] C (by rw [sizeLine_eq]; omega) fun n7 h7' C => ?_
        walk_at "ms"
        have hdu6 : DuesAt g6 (vs ++ [.ref a6]) (castD ((F.kids.take j).flatMap (kidRows d) ++ [(d, sg)])) := by
          rw [castD_app]
          exact at_snoc (hdu.mono le6) ⟨a6, 0, _, _, rfl, e6⟩
        have hstep : (F.kids.take (j + 1)).flatMap (kidRows d) = ((F.kids.take j).flatMap (kidRows d) ++ [(d, sg)]) ++ K.rows (d + 1) := by
          rw [List.take_add_one, hkj, List.flatMap_append]
          simp [kidRows]
        cases K with
        | nil =>
          cases (show u = Value.none from hu)
          rw [if_neg (by decide)]
          walk_at "ms"
          refine hR2 _ _ ⟨_, _, _, _, hJ, le6, C, hm41, hm42, _, n7, ps4, tk4.mono le6, ?_, rfl⟩
          rw [hstep]
          show DuesAt _ _ (castD (_ ++ []))
          rw [List.append_nil]
          exact hdu6
        | node s1 k1 r1 =>
          generalize hKe : Fo.node s1 k1 r1 = K at *
          have hKn : K ≠ .nil := by rw [← hKe]; exact fun e => by cases e
          have hvw : valW K.pairs = some (bodyE 0 K) := by
            unfold valW
            rw [if_neg (by rw [Fo.pairs_nil]; exact hKn), join_body K hKok]
          obtain ⟨tv, rfl⟩ : ∃ t, u = .str (S (bodyE 0 K)) t := by
            have hu2 : VAt u (valW K.pairs) := hu
            rw [hvw] at hu2
            exact hu2
          rw [if_pos (show (!Value.str (S (bodyE 0 K)) tv == Value.none) = true from rfl)]
          walk_at "ms"
          rename Cx _ _ _ _ _ _ _ => C
          refine d_lextend (Cx.own_at [_, _] [_] C) ?_
          walk_at "mbuilt"
          walk_at "ms"
          walk_at "mcall"
          walk_at "ms"
          rename Cx _ _ _ _ _ _ _ => C
          refine ⟨C.kw, ?_⟩
          have C3 := C.perm (to_front [_, _, _] [] _)
          refine ih (F := K) (d := d + 1) (by omega) hA C3 (tk4.mono le6) hKok hKn (by omega) fun a8 vs8 n8 g8 ps8 h8 le8 tk8 e8 hdu8 C => ?_
          have C := C.perm (to_front [_, _, _] [] _).symm
          walk_at "ms"
          have hl8 : vs8.length ≤ 7 := by rw [hdu8.1, castD_len, Fo.rows_len]; omega
          refine d_extendAt [_, _] [_] C (C.kg _ _ e8) (by simp; omega) fun n9 h9 C => ?_
          walk_at "ms"
          refine hR2 _ _ ⟨_, _, _, _, hJ, le6.trans le8, C, hm41, hm42, _, n9, ps8, tk8, ?_, rfl⟩
          rw [hstep, castD_app]
          exact at_app (hdu6.mono le8) hdu8
      · intro g4 own4 m4 h4 le4 hInv4 C
        obtain ⟨hm41, hm42, vs, n, ps4, tk4, hdu, rfl⟩ := hInv4
        rw [hpv.1, hpk', List.take_length, ← rows_kids] at hdu
        walk_at "ms"
        exact hR1 _ _ ⟨_, _, _, _, hI, le4, C, fun h => absurd h (by decide), fun _ => ⟨ps4, n, vs, tk4, hdu, rfl⟩, hm41, hm42⟩
    · intro g3 own3 m3 h3 le3 hInv C
      obtain ⟨ps3, n, vs, tk3, hdu, rfl⟩ := hInv.2.1 rfl
      have hm1 := hInv.2.2.1
      walk_at "ms"
      have C' := C.freeze
      have leF := C.freeze_le
      exact hR0 _ _ ⟨_, _, _, [(65, tabObj ps3)], le2'.trans (le3.trans leF), C', (fun q hq => hq), rfl, fun Cc => ret _ _ _ _ _ _ (le2'.trans (le3.trans leF)) (tk3.mono leF) PM.set_self (hdu.mono leF) Cc⟩
end
end

section
open PySem PySem.W PySem.Calls PyProof.Rows
/-! ## the rows that a script tells -/
noncomputable def nextRow (prev : Nat) (x : Int) : Nat × Int := (min (x % 262144 % 4).toNat (prev + 1), x % 262144 / 4 * 4099 % 65536)
noncomputable def addRow (rows : List (Nat × Int)) (x : Int) : List (Nat × Int) := rows ++ [nextRow (rows.getLastD (0, 0)).1 x]
noncomputable def rowsTo (ns : List Int) : List (Nat × Int) := ns.foldl addRow [(0, 16877), (1, 33188)]
theorem rowsTo_snoc (ns : List Int) (x : Int) : rowsTo (ns ++ [x]) = addRow (rowsTo ns) x := by unfold rowsTo; rw [List.foldl_append]; rfl
theorem snoc_ind {α : Type} {P : List α → Prop} (h0 : P []) (h1 : ∀ l x, P l → P (l ++ [x])) (l : List α) : P l := by
  have : ∀ l : List α, P l.reverse := fun l => by
    induction l with
    | nil => exact h0
    | cons x r ih => rw [List.reverse_cons]; exact h1 _ _ ih
  have := this l.reverse
  rwa [List.reverse_reverse] at this
theorem rowsTo_len (ns : List Int) : (rowsTo ns).length = 2 + ns.length := by
  induction ns using snoc_ind with
  | h0 => rfl
  | h1 l x ih => rw [rowsTo_snoc]; unfold addRow; simp [ih]; omega
theorem chain_snoc : ∀ (l : List (Nat × List Nat)) (x : Nat × List Nat), Chain l → x.1 ≤ 3 → SgOk x.2 → (∀ y, l.getLast? = some y → x.1 ≤ y.1 + 1) → Chain (l ++ [x])
  | [], x, _, h1, h2, _ => ⟨h1, h2, rfl, trivial⟩
  | [a], x, h, h1, h2, h3 => ⟨h.1, h.2.1, by show decide (x.1 < a.1 + 2) = true; have := h3 a rfl; simpa using (show x.1 < a.1 + 2 by omega), h1, h2, rfl, trivial⟩
  | a :: b :: l, x, h, h1, h2, h3 => ⟨h.1, h.2.1, h.2.2.1, chain_snoc (b :: l) x h.2.2.2 h1 h2 (fun y hy => h3 y (by rw [List.getLast?_cons_cons]; exact hy))⟩
noncomputable def RowsOk (rows : List (Nat × Int)) : Prop := Chain (dueOf rows) ∧ (∀ r ∈ rows, 0 ≤ r.2 ∧ r.2 < 65536) ∧ ∃ t, rows = (0, 16877) :: t
theorem rowsTo_ok (ns : List Int) : RowsOk (rowsTo ns) := by
  induction ns using snoc_ind with
  | h0 => exact ⟨⟨by decide, fm_ok _, rfl, by decide, fm_ok _, rfl, trivial⟩, by decide, _, rfl⟩
  | h1 l x ih =>
    obtain ⟨i1, i2, t, i3⟩ := ih
    rw [rowsTo_snoc]
    refine ⟨?_, fun r hr => ?_, ?_⟩
    · unfold addRow dueOf
      rw [List.map_append]
      refine chain_snoc _ _ i1 ?_ (fm_ok _) (fun y hy => ?_)
      · have : x % 262144 % 4 < 4 := Int.emod_lt_of_pos _ (by decide)
        show min (x % 262144 % 4).toNat _ ≤ 3
        omega
      · rw [List.getLast?_map] at hy
        cases hl : (rowsTo l).getLast? with
        | none => rw [hl] at hy; cases hy
        | some z =>
          rw [hl] at hy
          cases hy
          show min (x % 262144 % 4).toNat _ ≤ _
          rw [List.getLastD_eq_getLast?, hl]
          exact Nat.min_le_right _ _
    · rcases List.mem_append.mp hr with hr | hr
      · exact i2 r hr
      · rw [List.mem_singleton] at hr
        subst hr
        exact ⟨Int.emod_nonneg _ (by decide), Int.emod_lt_of_pos _ (by decide)⟩
    · exact ⟨t ++ _, by unfold addRow; rw [i3]; rfl⟩
section
variable {prog : Program} {w : World} {A : Around} {W h : Heap} {p g : PM} {L : Addr} {rest : List (Addr × Obj)} {m mg mb : Str → Option Value} {Q : Value → Heap → Prop}
noncomputable def IntsV (vs : List Value) (ns : List Int) : Prop := vs.length = ns.length ∧ ∀ (i : Nat) (v : Value) (x : Int), vs[i]? = some v → ns[i]? = some x → ∃ t, v = .int x t
theorem d_lsliceI {a : Addr} {vs : List Value} {own : List (Addr × Obj)} {value slice : Expr} {vl vu vk : Value} {lo hi st : Option Int} {ops : List Value} {rs : List Value} (C : Cx W p g L own m h) (ha : h.IsList a vs.toArray) (pl : IsPart vl lo) (pu : IsPart vu hi) (pk : IsPart vk st) (h0 : st ≠ some 0)
    (hr : slicePick vs.toArray lo hi st = rs.toArray) (hz : vs.length ≤ sizeLine)
    (q : ∀ x g' h', g.Le g' → g' x = some (lstO rs 0) → Cx W p g' L own m h' → Q (.ref x) h')
    (hs' : subscripted slice false (.ref a) (.ref h.objs.size) = operate ops (getItem (.ref a) (.ref h.objs.size)) := by with_unfolding_all rfl) :
    Do prog w A (subscriptTail value slice (.ref a) (.ref h.objs.size)) Q (h.push { cls := .type "slice", data := .fields #[vl, vu, vk] }) := fun s hs => by
  have C1 := C.push { cls := .type "slice", data := .fields #[vl, vu, vk] }
  have hl : s.heap.IsList a vs.toArray := by rw [hs]; exact ha.push _
  refine tail_any (Heap.IsList.typeIs hl) list_getitem_lookup (wpAny_getItem_list_slice hl (by rw [hs]; exact Heap.IsSliceOf.new ..) pl pu pk h0 ⟨Same.of, ?_⟩ (by simpa using hz)) hs'
  rw [hr, hs]
  exact q _ _ _ (PM.le_set (none_of_size C1.kg)) PM.set_self (C1.newG _)
theorem c_rows {la : Addr} {vs : List Value} {ns : List Int} (V : Wd w W mg mb) (hA : Ar 2 A) (C : Cx W p g L rest m h)
    (hla : W.IsList la vs.toArray) (hv : IntsV vs ns) (hz : ns.length ≤ 100)
    (ret : ∀ a n rvs g' h', g.Le g' → g' a = some (lstO rvs n) → RowsAt g' rvs (rowsTo (ns.take 5)) → Cx W p g' L rest m h' → Q (.ref a) h') : Do prog w A (call (.ref 150) [.ref la]) Q h := by
  refine call_top (X := []) (binds := [("script", .ref la)]) V hA C rfl rfl rfl rfl (by decide) (locs rfl) (fun p' L' h₁ A' C hA => abs1 fun R0 hR0 => ?_)
  walk_at "ms"
  refine' d_newTupleE C ?_ ?z
  case z => exact Nat.le_of_ble_eq_true rfl
  intro a1 g1 h1 le1 e1 C
  walk_at "ms"
  refine' d_newTupleE C ?_ ?z
  case z => exact Nat.le_of_ble_eq_true rfl
  intro a2 g2 h2 le2 e2 C
  walk_at "ms"
  refine' d_newListO C ?_ ?z
  case z => exact Nat.le_of_ble_eq_true rfl
  intro P h3 C
  walk_at "ms"
  rename Cx _ _ _ _ _ _ _ => C
  have hkeep : ∀ {h : Heap}, (∀ a o, W.get? a = some o → h.get? a = some o) → h.IsList la vs.toArray := fun k => let ⟨o, e, r⟩ := hla; ⟨o, k _ _ e, r⟩
  refine d_lsliceI (rs := vs.take 5) C (hkeep C.kw) .none (.int _ _) .none (by decide) (slicePick_upto' _ 5) (by rw [hv.1, sizeLine_eq]; omega) (fun sl g4 h4 le4 e4 C => ?_)
  have hvt : IntsV (vs.take 5) (ns.take 5) := at_take 5 hv
  have hlt : (ns.take 5).length ≤ 5 := by simp; omega
  generalize vs.take 5 = vt at *
  generalize ns.take 5 = nt at *
  refine d_iter_list C (C.kg _ _ e4) (fun I o h' hI C => ?_)
  intro s hs
  refine d_forLoop (Iter.list hA.hh (un_g e4)) C hI (fun i g' own m => m "rows" = some (.ref P) ∧ ∃ rvs n, own = [(P, lstO rvs n)] ∧ RowsAt g' rvs (rowsTo (nt.take i)))
    ⟨rfl, _, 0, rfl, at_cons ⟨a1, 0, _, _, rfl, (le2.trans le4) _ _ e1⟩ (at_cons ⟨a2, 0, _, _, rfl, le4 _ _ e2⟩ at_nil)⟩ ?_ ?_ (fun i o hP => ⟨_, hP.1, by decide⟩) s hs
  · intro i v g5 oI own5 m5 h5 hi hvi hI le5 hInv C
    refine abs2 fun R1 hR1 => ?_
    obtain ⟨hm, rvs, n, rfl, hr⟩ := hInv
    obtain ⟨x, hxi⟩ : ∃ x, nt[i]? = some x := ⟨_, List.getElem?_eq_getElem (show i < nt.length by rw [← hvt.1]; exact hi)⟩
    obtain ⟨tx, rfl⟩ := hvt.2 i v x hvi hxi
    have hrl : rvs.length ≤ 7 := by rw [hr.1, rowsTo_len, List.length_take]; omega
    have hrl0 : 2 ≤ rvs.length := by rw [hr.1, rowsTo_len]; omega
    obtain ⟨lv, hlv⟩ : ∃ v, rvs[rvs.length - 1]? = some v := ⟨_, List.getElem?_eq_getElem (by omega)⟩
    obtain ⟨lx, hlx⟩ : ∃ v, (rowsTo (nt.take i))[rvs.length - 1]? = some v := ⟨_, List.getElem?_eq_getElem (by rw [← hr.1]; omega)⟩
    obtain ⟨ra, rn, rt, ru, rfl, hra⟩ := hr.2 _ _ _ hlv hlx
    have hlast : (rowsTo (nt.take i)).getLastD (0, 0) = lx := by
      rw [List.getLastD_eq_getLast?, List.getLast?_eq_getElem?, ← hr.1, hlx]; rfl
    walk_at "ms"
    walk_at "mfmod"
    walk_at "ms"
    refine d_lappend (Cx.own_at [_] [] (by rename Cx _ _ _ _ _ _ _ => C; exact C)) ?_
    walk_at "mbuilt"
    walk_at "ms"
    walk_at "mbuilt"
    walk_at "ms"
    walk_at "mfmod"
    walk_at "ms"
    refine d_UnaryOp ?_
    walk_at "ms"
    refine d_neg fun tn => ?_
    rename Cx _ _ _ _ _ _ _ => C
    refine d_litemNeg (Cx.own_at [_] [] C) (by decide) (by omega) (by decide) (show rvs[((-1 : Int) + rvs.length).toNat]? = _ from by rw [show ((-1 : Int) + rvs.length).toNat = rvs.length - 1 by omega]; exact hlv) ?_
    walk_at "ms"
    refine d_titem (C.kg _ _ hra) (by decide) (by decide) rfl ?_
    walk_at "ms"
    refine d_min hA.hh C fun tm h6 C => ?_
    walk_at "ms"
    walk_at "mfdiv"
    walk_at "ms"
    refine d_mul (IntMulOk.of_right (by decide)) fun tu => ?_
    walk_at "ms"
    walk_at "mfmod"
    walk_at "ms"
    refine' d_newTupleE C ?_ ?z
    case z => exact Nat.le_of_ble_eq_true rfl
    intro a6 g6 h7 le6 e6 C
    walk_at "ms"
    refine d_appendAt [_] [] C (by rw [sizeLine_eq]; omega) fun n7 h8 C => ?_
    walk_at "ms"
    refine hR1 _ _ ⟨_, _, _, _, hI, le6, C, hm, _, n7, rfl, ?_⟩
    rw [List.take_add_one, hxi, Option.toList_some, rowsTo_snoc]
    unfold addRow
    rw [hlast]
    have h4 : 0 ≤ x % 262144 % 4 := Int.emod_nonneg _ (by decide)
    have hmin : (if ((lx.1 : Int) + 1) < x % 262144 % 4 then ((lx.1 : Int) + 1) else x % 262144 % 4) = (((nextRow lx.1 x).1 : Nat) : Int) := by
      show _ = ((min (x % 262144 % 4).toNat (lx.1 + 1) : Nat) : Int)
      split <;> omega
    rw [hmin] at e6
    exact at_snoc (R := RAt g6) ⟨hr.1, fun i v x a b => (hr.2 i v x a b).mono le6⟩ ⟨a6, 0, _, _, rfl, e6⟩
  · intro g5 own5 m5 h5 le5 hInv C
    obtain ⟨hm, rvs, n, rfl, hr⟩ := hInv
    rw [hvt.1, List.take_length] at hr
    walk_at "ms"
    have C' := C.freeze
    have leF := C.freeze_le
    have leZ := le1.trans (le2.trans (le4.trans (le5.trans leF)))
    exact hR0 _ _ ⟨_, _, _, [], leZ, C', fun _ h => h, rfl, fun Cc => ret _ _ _ _ _ leZ PM.set_self ⟨hr.1, fun i v x a b => (hr.2 i v x a b).mono leF⟩ Cc⟩
end
end

section
open PySem PySem.W PySem.Calls PyProof.Rows
theorem rep_fold (n : Nat) (a : Array Nat) : (List.replicate n #[92]).foldl (· ++ ·) a = a ++ (List.replicate n 92).toArray := by
  induction n generalizing a with
  | zero => simp
  | succ n ih =>
    rw [List.replicate_succ, List.foldl_cons, ih, List.replicate_succ]
    apply Array.ext'
    simp
section
variable {prog : Program} {w : World} {A : Around} {W h : Heap} {p g : PM} {L : Addr} {rest : List (Addr × Obj)} {m mg mb : Str → Option Value} {Q : Value → Heap → Prop}
theorem d_smul {n : Nat} {t u : Tok} (hn : n ≤ 1000) (q : ∀ t, Q (.str (S (List.replicate n 92)) t) h) : Do prog w A (binaryOp .Mult (.str (S [92]) t) (.int (n : Int) u)) Q h := fun s hs => by
  subst hs
  have hlen : (S [92]).length = 1 := rfl
  refine P.mul_str ?_ ?_ ?_ ?_
  · simp; omega
  · intro _ _
    rw [hlen]
    have : (1 : Int) ≤ (2 ^ 63 - 1) / (n : Int) ∨ n = 0 := by
      by_cases h0 : n = 0
      · exact .inr h0
      · left
        rw [Int.le_ediv_iff_mul_le (by omega)]
        omega
    rcases this with h | h
    · omega
    · subst h; rename_i h1 h2; exact absurd (show ((0 : Nat) : Int) < 1 by decide) h1
  · intro _ _
    rw [hlen]
    unfold Builtin.Str.tooLong
    rw [sizeLine_eq]
    simp
    omega
  · by_cases h0 : (n : Int) < 1
    · rw [if_pos h0]
      have : n = 0 := by omega
      subst this
      exact ⟨by rw [sizeLine_eq]; exact Nat.zero_le _, Same.of, q _⟩
    · rw [if_neg h0]
      by_cases h1 : ((n : Int) == 1 || (S [92]).length == 0) = true
      · rw [if_pos h1]
        have : n = 1 := by rw [hlen] at h1; simp at h1; omega
        subst this
        exact ⟨Same.rfl, q _⟩
      · rw [if_neg h1]
        have e : (⟨(List.replicate (n : Int).toNat (S [92]).cps).foldl (· ++ ·) #[]⟩ : Str) = S (List.replicate n 92) := by
          rw [Int.toNat_natCast]
          show (⟨(List.replicate n #[92]).foldl (· ++ ·) #[]⟩ : Str) = _
          rw [rep_fold]
          simp
        rw [e]
        exact ⟨by rw [S_len, List.length_replicate, sizeLine_eq]; omega, Same.of, q _⟩
theorem d_lsliceO {own : List (Addr × Obj)} {a : Addr} {vs : List Value} {n : Nat} {value slice : Expr} {vl vu vk : Value} {lo hi st : Option Int} {ops : List Value} {rs : List Value} (C : Cx W p g L own m h) (ha : h.get? a = some (lstO vs n)) (pl : IsPart vl lo) (pu : IsPart vu hi) (pk : IsPart vk st) (h0 : st ≠ some 0)
    (hr : slicePick vs.toArray lo hi st = rs.toArray) (hz : vs.length ≤ sizeLine)
    (q : ∀ x h', Cx W p g L ((x, lstO rs 0) :: own) m h' → Q (.ref x) h')
    (hs' : subscripted slice false (.ref a) (.ref h.objs.size) = operate ops (getItem (.ref a) (.ref h.objs.size)) := by with_unfolding_all rfl) :
    Do prog w A (subscriptTail value slice (.ref a) (.ref h.objs.size)) Q (h.push { cls := .type "slice", data := .fields #[vl, vu, vk] }) := fun s hs => by
  have C1 := C.push { cls := .type "slice", data := .fields #[vl, vu, vk] }
  have hl : s.heap.IsList a vs.toArray := by rw [hs]; exact (lst_is ha).push _
  refine tail_any (Heap.IsList.typeIs hl) list_getitem_lookup (wpAny_getItem_list_slice hl (by rw [hs]; exact Heap.IsSliceOf.new ..) pl pu pk h0 ⟨Same.of, ?_⟩ (by simpa using hz)) hs'
  rw [hr, hs]
  exact q _ _ (C1.newOwn _)
theorem Cx.swapDrop {x y z : Addr × Obj} {own : List (Addr × Obj)} (C : Cx W p g L (x :: y :: z :: own) m h) : Cx W p g L (y :: x :: own) m h :=
  (C.perm (own' := z :: y :: x :: own) (by simpa using (List.reverse_perm [x, y, z]).append_right own)).drop
theorem c_header {la : Addr} {n : Nat} {vs : List Value} {due : List (Nat × List Nat)} (V : Wd w W mg mb) (hA : Ar 2 A) (C : Cx W p g L rest m h)
    (hla : g la = some (lstO vs n)) (hd : DuesAt g vs (castD due)) (hz : due.length ≤ 7) (h3 : ∀ x ∈ due, x.1 ≤ 3 ∧ SgOk x.2) (hR : (hdrW due).length ≤ 2000)
    (ret : ∀ t g' h', g.Le g' → Cx W p g' L rest m h' → Q (.str (S (hdrW due)) t) h') : Do prog w A (call (.ref 171) [.ref la]) Q h := by
  refine call_top (X := []) (binds := [("due", .ref la)]) V hA C rfl rfl rfl rfl (by decide) (locs rfl) (fun p' L' h₁ A' C hA => abs1 fun R0 hR0 => ?_)
  have hvl : vs.length = due.length := by rw [hd.1, castD_len]
  walk_at "ms"
  rename Cx _ _ _ _ _ _ _ => C
  refine d_newListO C (fun P h' C => ?_)
  walk_at "ms"
  walk_at "mtype"
  walk_at "ms"
  walk_at "mbuilt"
  walk_at "ms"
  rename Cx _ _ _ _ _ _ _ => C
  refine d_llen (C.kg _ _ hla) (by rw [sizeLine_eq]; omega) fun tl => ?_
  walk_at "ms"
  refine d_range C fun r tu tv h' C hr => ?_
  walk_at "ms"
  rename Cx _ _ _ _ _ _ _ => C
  have leR := PM.le_set (o := { cls := .type "range", data := .fields #[.int 0 tu, .int vs.length tl, .int 1 tv] }) hr
  refine d_iter_range C (C.kg _ _ PM.set_self) (by omega) (fun I o h' hI C => ?_)
  intro s hs
  refine d_forLoop (Iter.range hA.hh) C hI (fun k g' own m => m "due" = some (.ref la) ∧ ∃ P n l H tH, own = [(P, lstO (sv l) n)] ∧ m "marks" = some (.ref P) ∧ m "header" = some (.str (S H) tH) ∧ l.length ≤ k ∧ H ++ hdrGo (due.drop k) (l.map (·.1)) (decide (k = 0)) = hdrW due)
    ⟨rfl, P, 0, [], [], _, rfl, rfl, rfl, Nat.le_refl _, rfl⟩ ?_ ?_ (fun i o hP => by rw [show o = _ from hP]; exact ⟨_, rfl, by decide⟩) s hs
  · intro k v g5 oI own5 m5 h5 hk hvk hI le5 hInv C
    refine abs2 fun R1 hR1 => ?_
    obtain ⟨hm1, P, nP, l, H, tH, rfl, hm2, hm3, hll, hH⟩ := hInv
    obtain ⟨tk, rfl⟩ := hvk
    have hkl : k < due.length := by omega
    obtain ⟨v0, hv0⟩ : ∃ v, vs[k]? = some v := ⟨_, List.getElem?_eq_getElem hk⟩
    obtain ⟨⟨d, sg⟩, hx0⟩ : ∃ x, due[k]? = some x := ⟨_, List.getElem?_eq_getElem hkl⟩
    have hdrop : due.drop k = (d, sg) :: due.drop (k + 1) := by
      obtain ⟨hlt, e⟩ := List.getElem?_eq_some_iff.mp hx0
      rw [List.drop_eq_getElem_cons hlt, e]
    have hc0 : (castD due)[k]? = some ((d : Int), sg) := by unfold castD; rw [List.getElem?_map, hx0]; rfl
    obtain ⟨da, dn, dt, du, rfl, hda⟩ := (DuesAt.mono hd (leR.trans le5)).2 k v0 _ hv0 hc0
    obtain ⟨hd3, hsg⟩ := h3 _ (List.mem_of_getElem? hx0)
    have hd3 : d ≤ 3 := hd3
    have hsg : SgOk sg := hsg
    rw [hdrop] at hH
    generalize hT : due.drop (k + 1) = T at *
    generalize hM : l.map (·.1) = M at *
    have hMl : M.length = l.length := by rw [← hM, List.length_map]
    walk_at "ms"
    rename Cx _ _ _ _ _ _ _ => C
    refine d_litem (C.kg _ _ ((leR.trans le5) _ _ hla)) (by omega) (by omega) (show vs[((k : Int)).toNat]? = _ from by rw [show ((k : Int)).toNat = k by omega]; exact hv0) ?_
    walk_at "ms"
    refine d_unpack2 hA.hh C (C.kg _ _ hda) fun h6 C => ?_
    iterate 3 walk_at "m"
    rename Cx _ _ _ _ _ _ _ => C
    have hnl : l.length ≤ 7 := by omega
    refine d_IfI (fun h' => ∃ g6 P6 n6 l6 H6 t6 m6, g5.Le g6 ∧ l6.length ≤ k + 1 ∧ H6 ++ (sg ++ hdrGo T (l6.map (·.1)) false) = hdrW due ∧ m6 "due" = some (.ref la) ∧ m6 "marks" = some (.ref P6) ∧ m6 "header" = some (.str (S H6) t6) ∧ m6 "signs" = some (.str (S sg) du) ∧ Cx W p' g6 L' [(I, oI), (P6, lstO (sv l6) n6)] m6 h') ?_ ?_
    · intro R2 hR2
      walk_at "ms"
      walk_at "mbuilt"
      walk_at "ms"
      refine d_llen (Cx.own_at [_] [] C) (by rw [sv_len, sizeLine_eq]; omega) fun tl2 => ?_
      walk_at "ms"
      rw [sv_len]
      rw [hdr_cons, hMl] at hH
      by_cases hdl : l.length < d
      · rw [if_pos (show decide ((d : Int) > (l.length : Int)) = true by simpa using hdl)]
        rw [if_pos hdl] at hH
        iterate 2 walk_at "m"
        generalize hal : (T.head?.all fun x => decide (x.1 < d)) = al at hH
        generalize hmk : (if (al && sg.head? != some 63) = true then ([] : List Nat) else mark (d - 1)) = mk at hH
        rename Cx _ _ _ _ _ _ _ => C
        refine Do.mono (Q := fun v h' => v = .bool al ∧ ∃ m6, m6 "due" = some (.ref la) ∧ m6 "marks" = some (.ref P) ∧ m6 "header" = some (.str (S H) tH) ∧ m6 "signs" = some (.str (S sg) du) ∧ m6 "depth" = some (.int d dt) ∧ Cx W p' g5 L' [(I, oI), (P, lstO (sv l) nP)] m6 h') ?_ ?_
        · walk_at "ms"
          walk_at "mbuilt"
          walk_at "ms"
          refine d_llen (C.kg _ _ ((leR.trans le5) _ _ hla)) (by rw [sizeLine_eq]; omega) fun tl3 => ?_
          walk_at "ms"
          rw [hvl]
          by_cases hlast : k + 1 = due.length
          · rw [if_pos (show ((k : Int) + 1 == (due.length : Int)) = true by rw [beq_iff_eq]; omega)]
            have : al = true := by
              rw [← hal, ← hT, hlast, List.drop_length]; rfl
            rw [this]
            refine ⟨?_, _, ?_, ?_, ?_, ?_, ?_, C⟩
            · rw [show ((k : Int) + 1 == (due.length : Int)) = true by rw [beq_iff_eq]; omega]
            all_goals first | rfl | assumption
          · rw [if_neg (show ¬ ((k : Int) + 1 == (due.length : Int)) = true by rw [beq_iff_eq]; omega)]
            walk_at "ms"
            obtain ⟨v1, hv1⟩ : ∃ v, vs[k + 1]? = some v := ⟨_, List.getElem?_eq_getElem (by omega)⟩
            obtain ⟨⟨d1, sg1⟩, hx1⟩ : ∃ x, due[k + 1]? = some x := ⟨_, List.getElem?_eq_getElem (by omega)⟩
            have hc1 : (castD due)[k + 1]? = some ((d1 : Int), sg1) := by unfold castD; rw [List.getElem?_map, hx1]; rfl
            obtain ⟨da1, dn1, dt1, du1, rfl, hda1⟩ := (DuesAt.mono hd (leR.trans le5)).2 (k + 1) v1 _ hv1 hc1
            refine d_litem (C.kg _ _ ((leR.trans le5) _ _ hla)) (by omega) (by omega) (show vs[((k : Int) + 1).toNat]? = _ from by rw [show ((k : Int) + 1).toNat = k + 1 by omega]; exact hv1) ?_
            walk_at "ms"
            refine d_titem (C.kg _ _ hda1) (by decide) (by decide) rfl ?_
            walk_at "ms"
            have : al = decide ((d1 : Int) < d) := by
              rw [← hal, ← hT, List.head?_drop, hx1]
              simp
            rw [this]
            refine ⟨rfl, _, ?_, ?_, ?_, ?_, ?_, C⟩
            all_goals first | rfl | assumption
        · rintro v h7 ⟨rfl, m6, hm61, hm62, hm63, hm64, hm65, C⟩
          dsimp only
          iterate 2 walk_at "m"
          rename Cx _ _ _ _ _ _ _ => C
          have hlenH := congrArg List.length hH
          simp only [List.length_append, List.length_cons] at hlenH
          obtain ⟨c0, hc0⟩ : ∃ c, sg[0]? = some c := ⟨_, List.getElem?_eq_getElem (by rw [hsg.1]; decide)⟩
          have hh0 : sg.head? = some c0 := by rw [List.head?_eq_getElem?]; exact hc0
          rw [hh0] at hmk
          have hd1 : 1 ≤ d := by omega
          refine d_IfI (fun h' => ∃ m6 n6 tm, m6 "due" = some (.ref la) ∧ m6 "marks" = some (.ref P) ∧ m6 "header" = some (.str (S H) tH) ∧ m6 "signs" = some (.str (S sg) du) ∧ Cx W p' g5 L' [(I, oI), (P, lstO (sv (l ++ [(mk, tm)])) n6)] m6 h') ?_ ?_
          · intro R3 hR3
            have hb : (al && some c0 != some 63) = (al && ([c0] != [63])) := by
              congr 1
              by_cases e : c0 = 63
              · subst e; rfl
              · have h1 : (some c0 != some 63) = true := by simpa using e
                have h2 : ([c0] != [63]) = true := by simpa using e
                rw [h1, h2]
            rw [hb] at hmk
            refine Do.mono (Q := fun b h' => b = (al && ([c0] != [63])) ∧ ∃ m8, m8 "due" = some (.ref la) ∧ m8 "marks" = some (.ref P) ∧ m8 "header" = some (.str (S H) tH) ∧ m8 "signs" = some (.str (S sg) du) ∧ m8 "depth" = some (.int d dt) ∧ Cx W p' g5 L' [(I, oI), (P, lstO (sv l) nP)] m8 h') ?_ ?_
            · walk_at "ms"
              cases al with
              | false => rw [if_neg Bool.false_ne_true]; (refine ⟨rfl, _, ?_, ?_, ?_, ?_, ?_, C⟩ <;> assumption)
              | true =>
                rw [if_pos rfl]
                walk_at "ms"
                refine d_sitem (c := c0) (by decide) (by rw [hsg.1, sizeLine_eq]; decide) hc0 fun ts => ?_
                walk_at "ms"
                refine ⟨rfl, _, ?_, ?_, ?_, ?_, ?_, C⟩ <;> assumption
            · rintro b h8 ⟨rfl, m8, hm81, hm82, hm83, hm84, hm85, C⟩
              by_cases hbb : (al && ([c0] != [63])) = true
              · rw [if_pos hbb] at hmk ⊢
                subst hmk
                walk_at "ms"
                refine d_lappend (Cx.own_at [_] [] C) ?_
                walk_at "mbuilt"
                walk_at "ms"
                refine d_appendAt [_] [] C (by rw [sv_len, sizeLine_eq]; omega) fun n9 h9 C => ?_
                walk_at "ms"
                exact hR3 _ ⟨_, n9, _, hm81, hm82, hm83, hm84, by rw [sv_append]; exact C⟩
              · rw [if_neg hbb] at hmk ⊢
                subst hmk
                walk_at "ms"
                refine d_lappend (Cx.own_at [_] [] C) ?_
                walk_at "mbuilt"
                walk_at "ms"
                have hb2 : Builtin.Int.intBits 2 = 2 := by decide
                (with_reducible refine' d_pow ?a1 ?a2 ?_)
                case a1 => omega
                case a2 => rw [hb2]; omega
                intro tp
                walk_at "ms"
                have hpw : ((2 : Int) ^ ((d : Int) - 1).toNat - 1) = ((2 ^ (d - 1) - 1 : Nat) : Int) := by
                  rw [show ((d : Int) - 1).toNat = d - 1 by omega]
                  have : 0 < 2 ^ (d - 1) := Nat.two_pow_pos _
                  have e2 : ((2 ^ (d - 1) : Nat) : Int) = (2 : Int) ^ (d - 1) := by simp
                  omega
                have hp8 : 2 ^ (d - 1) ≤ 2 ^ 3 := pow_mono (by omega)
                rw [hpw]
                refine d_smul (by omega) fun ts => ?_
                walk_at "ms"
                refine d_sadd (by rw [List.length_replicate, sizeLine_eq]; simp; omega) fun ts => ?_
                walk_at "ms"
                refine d_appendAt [_] [] C (by rw [sv_len, sizeLine_eq]; omega) fun n9 h9 C => ?_
                walk_at "ms"
                exact hR3 _ ⟨_, n9, _, hm81, hm82, hm83, hm84, by rw [sv_append]; exact C⟩
          · rintro h8 ⟨m7, n7, tm, hm71, hm72, hm73, hm74, C⟩
            dsimp only
            walk_at "ms"
            refine d_sadd (by rw [sizeLine_eq]; simp; omega) fun ts => ?_
            walk_at "ms"
            refine d_UnaryOp ?_
            walk_at "ms"
            refine d_neg fun tn => ?_
            have hsl : (sv (l ++ [(mk, tm)])).length = l.length + 1 := by rw [sv_len]; simp
            refine d_litemNeg (v := .str (S mk) tm) (Cx.own_at [_] [] C) (by decide) (by rw [hsl]; omega) (by decide) ?_ ?_
            · rw [hsl, show ((-1 : Int) + ((l.length + 1 : Nat) : Int)).toNat = l.length by omega, sv_append, List.getElem?_append_right (by rw [sv_len]; exact Nat.le_refl _), sv_len, Nat.sub_self]
              rfl
            walk_at "ms"
            refine d_sadd (by rw [sizeLine_eq]; simp; omega) fun ts => ?_
            walk_at "ms"
            rename Cx _ _ _ _ _ _ _ => C
            refine hR2 _ ⟨g5, P, n7, l ++ [(mk, tm)], H ++ [61] ++ mk, ts, _, .refl, by simp; omega, ?_, ?_, ?_, ?_, ?_, C⟩
            · rw [← hH, List.map_append, hM]
              simp
            all_goals first | rfl | assumption
      · rw [if_neg (show ¬ decide ((d : Int) > (l.length : Int)) = true by simpa using hdl)]
        rw [if_neg hdl] at hH
        walk_at "ms"
        by_cases hk0 : k = 0
        · rw [if_neg (show ¬ decide ((k : Int) > 0) = true by simp; omega)]
          rw [if_pos (by simpa using hk0)] at hH
          walk_at "ms"
          refine hR2 _ ⟨g5, P, nP, l, H, tH, _, .refl, by omega, by rw [hM]; exact hH, ?_, ?_, ?_, ?_, C⟩
          all_goals first | rfl | assumption
        · rw [if_pos (show decide ((k : Int) > 0) = true by simp; omega)]
          rw [if_neg (by simpa using hk0)] at hH
          have hlenH := congrArg List.length hH
          simp only [List.length_append, List.length_cons] at hlenH
          walk_at "ms"
          with_reducible refine d_smeth PySem.F.slot_str_join PySem.F.type_str_join ?_
          walk_at "mbuilt"
          walk_at "ms"
          rename Cx _ _ _ _ _ _ _ => C
          have hsz : ∀ x : List (List Nat × Tok), x.length ≤ 7 → (sv x).length ≤ sizeLine := fun x h => by rw [sv_len, sizeLine_eq]; omega
          have hpd : slicePick (sv l).toArray (some (d : Int)) none none = (sv (l.drop d)).toArray := by
            have := slicePick_from' (sv l).toArray d
            rw [this]
            simp [sv, List.map_drop]
          have hpu : slicePick (sv l).toArray none (some (d : Int)) none = (sv (l.take d)).toArray := by
            have := slicePick_upto' (sv l).toArray d
            rw [this]
            simp [sv, List.map_take]
          refine d_lsliceE (rs := sv (l.drop d)) C (Cx.own_at [_] [] C) (.int d _) .none .none (by decide) hpd (hsz _ (by omega)) (fun a6 g6 h6 le6 e6 C => ?_)
          walk_at "ms"
          refine d_UnaryOp ?_
          walk_at "ms"
          refine d_neg fun t => ?_
          have hpr : slicePick (sv (l.drop d)).toArray none none (some (-1)) = (sv (l.drop d).reverse).toArray := by
            rw [krv_pick]
            simp [sv]
          refine d_lsliceE (rs := sv (l.drop d).reverse) C (C.kg _ _ e6) .none .none (.int (-1) t) (by decide) hpr (hsz _ (by simp; omega)) (fun a7 g7 h7 le7 e7 C => ?_)
          walk_at "ms"
          have hfl : joinL [] ((l.drop d).reverse.map (·.1)) = (M.drop d).reverse.flatten := by
            rw [joinL_nil, List.map_reverse, List.map_drop, hM]
          have hfs : (((l.drop d).reverse.map (·.1)).map List.length).sum = (M.drop d).reverse.flatten.length := by
            rw [← hfl, joinL_nil, List.length_flatten]
          refine d_join (C.kg _ _ e7) (by rw [hfs, sizeLine_eq]; simp only [List.length_nil, Nat.mul_zero]; omega) fun tj => ?_
          rw [hfl]
          walk_at "ms"
          refine d_sadd (by rw [sizeLine_eq]; omega) fun ts => ?_
          walk_at "ms"
          refine d_sadd (by rw [sizeLine_eq]; simp only [List.length_append, List.length_cons, List.length_nil]; omega) fun ts => ?_
          walk_at "ms"
          rename Cx _ _ _ _ _ _ _ => C
          refine d_lsliceO (rs := sv (l.take d)) C (Cx.own_at [_] [] C) .none (.int d _) .none (by decide) hpu (hsz _ (by omega)) (fun P8 h8 C => ?_)
          walk_at "ms"
          rename Cx _ _ _ _ _ _ _ => C
          refine hR2 _ ⟨g7, P8, 0, l.take d, H ++ (M.drop d).reverse.flatten ++ [59, 32], ts, _, le6.trans le7, by simp; omega, ?_, ?_, ?_, ?_, ?_, C.swapDrop⟩
          · rw [← hH, List.map_take, hM]; simp
          all_goals first | rfl | assumption
    · rintro h6 ⟨g6, P6, n6, l6, H6, t6, m6, le6, hl6, hH6, hm61, hm62, hm63, hm64, C⟩
      dsimp only
      walk_at "ms"
      have hlenH := congrArg List.length hH6
      simp only [List.length_append] at hlenH
      refine d_sadd (by rw [sizeLine_eq]; omega) fun ts => ?_
      walk_at "ms"
      rename Cx _ _ _ _ _ _ _ => C
      refine hR1 _ _ ⟨g6, oI, _, _, hI, le6, C, hm61, P6, n6, l6, H6 ++ sg, ts, rfl, hm62, rfl, hl6, ?_⟩
      rw [← hH6, decide_eq_false (by omega)]
      simp
  · intro g5 own5 m5 h5 le5 hInv C
    obtain ⟨hm1, P, nP, l, H, tH, rfl, hm2, hm3, hll, hH⟩ := hInv
    rw [hvl, List.drop_length] at hH
    walk_at "ms"
    have hlenH := congrArg List.length hH
    simp only [List.length_append] at hlenH
    have hfl0 : hdrGo [] (l.map (·.1)) (decide (due.length = 0)) = (l.map (·.1)).reverse.flatten := rfl
    rw [hfl0] at hH hlenH
    with_reducible refine d_smeth PySem.F.slot_str_join PySem.F.type_str_join ?_
    walk_at "mbuilt"
    walk_at "ms"
    refine d_UnaryOp ?_
    walk_at "ms"
    refine d_neg fun t => ?_
    rename Cx _ _ _ _ _ _ _ => C
    have hpr : slicePick (sv l).toArray none none (some (-1)) = (sv l.reverse).toArray := by
      rw [krv_pick]
      simp [sv]
    refine d_lsliceE (rs := sv l.reverse) C (C.ow _ (.head _)).1 .none .none (.int (-1) t) (by decide) hpr (by rw [sv_len, sizeLine_eq]; omega) (fun a7 g7 h7 le7 e7 C => ?_)
    walk_at "ms"
    have hfl : joinL [] (l.reverse.map (·.1)) = (l.map (·.1)).reverse.flatten := by
      rw [joinL_nil, List.map_reverse]
    have hfs : ((l.reverse.map (·.1)).map List.length).sum = (l.map (·.1)).reverse.flatten.length := by
      rw [← hfl, joinL_nil, List.length_flatten]
    refine d_join (C.kg _ _ e7) (by rw [hfs, sizeLine_eq]; simp only [List.length_nil, Nat.mul_zero]; omega) fun tj => ?_
    rw [hfl]
    refine d_sadd (by rw [sizeLine_eq]; omega) fun ts => ?_
    rw [hH]
    have leZ := leR.trans (le5.trans le7)
    exact hR0 _ _ ⟨g7, _, _, [], leZ, C, (fun _ h => nomatch h), rfl, fun Cc => ret _ _ _ leZ Cc⟩
end
end

section
open PySem PySem.W PySem.Calls PyProof.Rows
section
variable {W h h₁ h' h'' : Heap} {p g g' : PM} {L L' : Addr} {X X' rest own' : List (Addr × Obj)} {m m' m₁ : Str → Option Value}
theorem Cx.leave2 (C : Cx W p g L (X ++ rest) m h) (C' : Cx W (inner X g h) g' L' own' m' h') : Cx W p g' L rest m h' := by
  have inP : ∀ a o, p a = some o → inner X g h a = some o := fun a o e => by
    refine inner_some.mpr ⟨fun hm => ?_, ?_, C.kp _ _ e⟩
    · obtain ⟨q, hq, rfl⟩ := List.mem_map.mp hm
      rw [(C.ow q (List.mem_append_left _ hq)).2.1] at e; cases e
    · cases hg : g a with
      | none => rfl
      | some x => rw [C.pg _ _ hg] at e; cases e
  have nd := C.nd
  rw [List.map_append, List.nodup_append] at nd
  have inR : ∀ q ∈ rest, inner X g h q.1 = some q.2 := fun q hq => by
    have := C.ow q (List.mem_append_right _ hq)
    exact inner_some.mpr ⟨fun hm => nd.2.2 _ hm _ (List.mem_map_of_mem hq) rfl, this.2.2.1, this.1⟩
  obtain ⟨oL, es, ep, e1, e2⟩ := id C.ns
  have inL : inner X g h L = some oL := inner_some.mpr ⟨fun hm => by
    obtain ⟨q, hq, e⟩ := List.mem_map.mp hm
    exact (C.ow q (List.mem_append_left _ hq)).2.2.2 e, C.gL, e1⟩
  have gno : ∀ a o, inner X g h a = some o → g' a = none := fun a o e => by
    cases hg : g' a with
    | none => rfl
    | some x => rw [C'.pg _ _ hg] at e; cases e
  exact {
    ns := ⟨oL, es, ep, C'.kp _ _ inL, e2⟩
    kp := fun a o e => C'.kp _ _ (inP a o e)
    kg := C'.kg
    wp := C.wp
    pg := fun a o e => by
      cases hp : p a with
      | none => rfl
      | some x => rw [gno _ _ (inP _ _ hp)] at e; cases e
    pL := C.pL
    gL := gno _ _ inL
    ow := fun q hq => by
      have h1 := C.ow q (List.mem_append_right _ hq)
      exact ⟨C'.kp _ _ (inR q hq), h1.2.1, gno _ _ (inR q hq), h1.2.2.2⟩
    nd := nd.2.1 }
theorem Cx.free {a : Addr} (C : Cx W p g L rest m h) (hs : Heap.SameBut a h h') (hp : p a = none) (hg : g a = none) (hL : L ≠ a) (ho : ∀ q ∈ rest, q.1 ≠ a) : Cx W p g L rest m h' where
  ns := C.ns.sameBut hs hL
  kp := fun b o e => (hs.2 b (fun q => by rw [q, hp] at e; cases e)).trans (C.kp b o e)
  kg := fun b o e => (hs.2 b (fun q => by rw [q, hg] at e; cases e)).trans (C.kg b o e)
  wp := C.wp
  pg := C.pg
  pL := C.pL
  gL := C.gL
  ow := fun q hq => ⟨(hs.2 _ (ho q hq)).trans (C.ow q hq).1, (C.ow q hq).2⟩
  nd := C.nd
end
section
variable {prog : Program} {w : World} {A : Around} {W h : Heap} {p g : PM} {env : Env} {own : List (Addr × Obj)} {m : Str → Option Value}
theorem comp_loop {elt target iter : Expr} {scope : Scope} {pos : Pos} {cenv : Env} {I D la : Addr} {vs : List Value} {n : Nat} {oI : Obj} {kD : Nat} {R : Result → Shared → Prop} (hh : A.handled = none)
    (hla : g la = some (lstO vs n)) (hz : vs.length ≤ 1000) (C : Cx W p g cenv.locals [(I, oI), (D, lstO [] kD)] m h) (hI : IterList la 0 oI)
    (Inv : Nat → PM → List Value → Prop) (h0 : Inv 0 g []) (hlen : ∀ i g acc, Inv i g acc → acc.length = i)
    (turn : ∀ i v g' acc own' m' h', i < vs.length → vs[i]? = some v → g.Le g' → Inv i g' acc → Cx W p g' cenv.locals own' m' h' →
      Do prog w A (assign target cenv v) (fun _ h₁ => Do prog w A (eval elt cenv) (fun x h₂ => ∃ g'' m'', g'.Le g'' ∧ Cx W p g'' cenv.locals own' m'' h₂ ∧ Inv (i + 1) g'' (acc ++ [x])) h₁) h')
    (s : Shared) (hs : s.heap = h)
    (hR : ∀ s' g' acc k m', Same s s' → g.Le g' → Inv vs.length g' acc → Cx W p g' cenv.locals [(D, lstO acc k)] m' s'.heap → R (.ok .next) s') :
    codeAny (model prog w) A (.compLoop (.ListComp elt [⟨target, iter, [], 0⟩] scope pos) 0 (.ref I) (.ref D) cenv) R s := by
  have It : Iter prog w A (un g p) I vs.length (IterList la) (fun i v => vs[i]? = some v) := Iter.list hh (un_g hla)
  refine codeAny_loop rfl (fun k s' => Same s s' ∧ ∃ i g' oI acc kD m', k = vs.length - i ∧ i ≤ vs.length ∧ IterList la i oI ∧ g.Le g' ∧ Cx W p g' cenv.locals [(I, oI), (D, lstO acc kD)] m' s'.heap ∧ Inv i g' acc) (fun k s' hI => ?_) vs.length
    ⟨Same.rfl, 0, g, oI, [], kD, m, rfl, Nat.zero_le _, hI, .refl, hs ▸ C, h0⟩
  obtain ⟨e0, i, g', oI, acc, kD, m', rfl, hi, hPi, le, C', hInv⟩ := hI
  show wpAny _ _ ((compTurn (.ListComp elt [⟨target, iter, [], 0⟩] scope pos) 0 (.ref I) (.ref D) cenv).onRaise (fun x => do noteFrame x cenv; theTreesLotGoes x)) _ _ s'
  refine wpAny_noted ?_
  rw [compTurn_list1]
  refine wpAny_bind (wpAny_standAt (wpAny_bind ?_))
  by_cases hlt : i < vs.length
  · refine wpAny_mono (It.next i _ oI hlt hPi (C'.ow _ (.head _)).1 (C'.ku' le) s' rfl) (fun r s₁ h₁ => ?_) fun _ _ x => x.elim
    obtain ⟨e1, v, o₁, rfl, hv, hP1, ho1, hs1⟩ := h₁
    have C₁ := C'.upd0 hs1 ho1
    have tail := turn i v g' acc _ m' s₁.heap hlt hv le hInv C₁
    have go : wpAny (model prog w) A (letOwnedTupleGo target (.ref I) v) (fun _ s₂ => s₂ = s₁) (notedBy (model prog w) A cenv fun e s' => R (.error e) s') s₁ := let_go (C₁.ow _ (.head _)).1 ⟨_, hP1.1, by decide⟩
    refine wpAny_bind (wpAny_mono go (fun _ s₂ e => ?_) fun _ _ x => x)
    subst e
    refine wpAny_bind (wpAny_mono (tail s₂ rfl) (fun _ s₃ x₃ => ?_) fun _ _ x => x.elim)
    refine wpAny_bind (wpAny_bind (wpAny_mono (x₃.2 s₃ rfl) (fun x s₄ x₄ => ?_) fun _ _ x => x.elim))
    obtain ⟨e4, g'', m'', le'', C4, hI4⟩ := x₄
    have happ : Do prog w A (call (.builtin "list.append") [.ref D, x]) (fun _ h' => ∃ k, Cx W p g'' cenv.locals [(I, o₁), (D, lstO (acc ++ [x]) k)] m'' h') s₄.heap :=
      d_append C4.swap (by rw [hlen _ _ _ hInv, sizeLine_eq]; omega) fun k h' C => ⟨k, C.swap⟩
    refine wpAny_bind (wpAny_mono (happ s₄ rfl) (fun _ s₅ x₅ => ?_) fun _ _ x => x.elim)
    obtain ⟨e5, k5, C5⟩ := x₅
    exact wpAny_pure (wpAny_pure ⟨rfl, vs.length - (i + 1), by omega, e0.trans (e1.trans (x₃.1.trans (e4.trans e5))), i + 1, g'', o₁, _, k5, m'', rfl, hlt, hP1, le.trans le'', C5, hI4⟩)
  · have hin : i = vs.length := by omega
    subst hin
    refine wpAny_mono (It.stop _ oI hPi (C'.ow _ (.head _)).1 (C'.ku' le) s' rfl) (fun r s₁ h₁ => ?_) fun _ _ x => x.elim
    obtain ⟨e1, rfl, hx⟩ := h₁
    exact wpAny_pure (hR s₁ g' acc kD m' (e0.trans e1) le hInv (C'.gone hx))

theorem d_AssignComp {elt target iter : Expr} {scope : Scope} {pos spos py : Pos} {y : Str} {Q : Flow → Heap → Prop} {la : Addr} {vs : List Value} {n : Nat} (hh : A.handled = none)
    (C : Cx W p g env.locals own m h) (hla : g la = some (lstO vs n)) (hz : vs.length ≤ 1000)
    (hsw : swapsWith (.ListComp elt [⟨target, iter, [], 0⟩] scope pos) (some (.Name y py)) spos.line env = pure true)
    (hfree : ∀ z ∈ scope.names, z.2 ≠ .free) (hcell : ∀ z ∈ scope.names, z.2 ≠ .cell) (hkind : scope.kind = .function)
    (hnames : ∀ z ∈ scope.names, z.2 = .local → scope.names.lookup z.1 = some .local)
    (hy : env.kindOf y = some .local) (hp : (env.scope.kind == .class || (env.scope.kind == .module && env.locals != env.globals)) = false)
    (H : Do prog w A (eval iter env) (fun v h₁ => v = .ref la ∧ Cx W p g env.locals own m h₁) h)
    (Inv : Nat → PM → List Value → Prop) (h0 : Inv 0 g []) (hlen : ∀ i g acc, Inv i g acc → acc.length = i) (hlenInv : ∀ i g acc g', Inv i g acc → g.Le g' → Inv i g' acc)
    (turn : ∀ i v p' C' g' acc own' m' h', i < vs.length → vs[i]? = some v → g.Le g' → Inv i g' acc → Cx W p' g' C' own' m' h' →
      Do prog w A (assign target (compEnv scope C' env) v) (fun _ h₁ => Do prog w A (eval elt (compEnv scope C' env)) (fun x h₂ => ∃ g'' m'', g'.Le g'' ∧ Cx W p' g'' C' own' m'' h₂ ∧ Inv (i + 1) g'' (acc ++ [x])) h₁) h')
    (ret : ∀ D g' acc k h', g.Le g' → Inv vs.length g' acc → g' D = some (lstO acc k) → Cx W p g' env.locals own (fun z => if z = y then some (.ref D) else m z) h' → Q .next h')
    (hs : ∀ x, foldedSetIterable iter env x = pure x := by intro _; rfl) :
    Do prog w A (exec (.Assign [.Name y py] (.ListComp elt [⟨target, iter, [], 0⟩] scope pos) spos) env) Q h := fun s hs0 => by
  rw [exec_Assign_Name_used _ _ _ _ hsw]
  refine wpAny_bind (wpAny_standAt (wpAny_bind ?_))
  show wpAny _ A (do let _ ← comprehension (.ListComp elt [⟨target, iter, [], 0⟩] scope pos) scope env _ (newList []) false (eval iter env) (some (assign (.Name y py) env))) _ _ s
  refine wpAny_bind (wpAny_mono (wpAny_comprehension_use (Q := fun _ s' => Same s s' ∧ Q .next s'.heap) rfl hs hfree hkind hnames ?_)
    (fun _ s' hq => wpAny_pure (wpAny_pure hq)) fun _ _ e => e)
  refine H.to hs0 fun xv s₁ e₁ h₁ => ?_
  obtain ⟨rfl, C⟩ := h₁
  have d1 : Do prog w A (pyIter (.ref la)) (fun it h' => ∃ I oI, it = .ref I ∧ IterList la 0 oI ∧ Cx W p g env.locals ((I, oI) :: own) m h') s₁.heap :=
    d_iter_list C (C.kg _ _ hla) fun I oI h' hI C => ⟨I, oI, rfl, hI, C⟩
  refine d1.to rfl fun it s₂ e₂ h₂ => ?_
  obtain ⟨I, oI, rfl, hI, C⟩ := h₂
  have d2 : Do prog w A (newList []) (fun v h' => ∃ D, v = .ref D ∧ Cx W p g env.locals ((D, lstO [] 0) :: (I, oI) :: own) m h') s₂.heap :=
    d_newListO C (fun D h' C => ⟨D, rfl, C⟩) (Nat.zero_le _)
  refine d2.to rfl fun acc s₃ e₃ h₃ => ?_
  obtain ⟨D, rfl, C⟩ := h₃
  have C := C.swap
  refine wpAny_newFunctionEnv hcell (by intro y hy; simp at hy) (fun hn hns hsb => ?_) hkind
  have hk : ∀ b o, s₃.heap.get? b = some o → hn.get? b = some o := fun b o e => hsb.extBut b o (Nat.ne_of_lt (Heap.lt_size e)) (Heap.get?_push_of_some _ e)
  have Cin := Cx.enter (X := [(I, oI), (D, lstO [] 0)]) (rest := own) C hns hk
  have key : ∀ (R : Result → Shared → Prop), (∀ s' g' acc k m', Same { s₃ with heap := hn, toks := s₃.toks + ([] : List (Str × Value)).length } s' → g.Le g' → Inv vs.length g' acc → Cx W (inner [(I, oI), (D, lstO [] 0)] g s₃.heap) g' s₃.heap.objs.size [(D, lstO acc k)] m' s'.heap → R (.ok .next) s') →
      ∀ s₄ : Shared, s₄ = { s₃ with heap := hn, toks := s₃.toks + ([] : List (Str × Value)).length } →
      codeAny (model prog w) A (.compLoop (.ListComp elt [⟨target, iter, [], 0⟩] scope pos) 0 (.ref I) (.ref D) (compEnv scope s₃.heap.objs.size env)) R s₄ := by
    rintro R hR s₄ rfl
    exact comp_loop (cenv := compEnv scope s₃.heap.objs.size env) hh hla hz Cin hI Inv h0 hlen (fun i v g' acc own' m' h' a b c d e => turn i v _ _ g' acc own' m' h' a b c d e) _ rfl fun s' g' acc k m' eS le hInv C' => hR s' g' acc k m' eS le hInv C'
  refine codeAny_compStart_list (key _ ?_ _ rfl) (wpAny_pyIter_listiter (⟨oI, (Cin.ow _ (.head _)).1, hI.1, hI.2⟩ : hn.IsListIter I la 0) (key _ ?_ _ rfl))
  all_goals
    intro s' g' acc k m' eS le hInv C'
    dsimp only
    have Cf := C'.freeze
    have E1 := Cx.leave2 (X := [(I, oI), (D, lstO [] 0)]) (rest := own) C Cf
    have hgC : (g'.set D (lstO acc k)) s₃.heap.objs.size = none := Cf.gL
    have hpC : p s₃.heap.objs.size = none := none_of_size C.kp
    have hLC : env.locals ≠ s₃.heap.objs.size := fun e => Nat.lt_irrefl _ (by have := C.ns.lt; rw [e] at this; exact this)
    have hoC : ∀ q ∈ own, q.1 ≠ s₃.heap.objs.size := fun q hq => Nat.ne_of_lt (Heap.lt_size (C.ow q (.tail _ (.tail _ hq))).1)
    refine wpAny_assign_Name (wpAny_storeName_local hy E1.ns (fun h₂ hn₂ hs₂ => ?_) hp)
    have E2 := E1.store hn₂ hs₂
    refine ⟨m', Cf.ns.sameBut hs₂ hLC.symm, fun h₃ hs₃ => ⟨(e₁.trans (e₂.trans (e₃.trans (Same.of.trans (eS.trans Same.of))))), ?_⟩⟩
    exact ret D _ acc k h₃ (le.trans C'.freeze_le) (hlenInv _ _ _ _ hInv C'.freeze_le) PM.set_self (E2.free hs₃ hpC hgC hLC hoC)
end
end

section
open PySem
theorem land_pow (m k : Nat) : m &&& 2 ^ k = (m / 2 ^ k % 2) * 2 ^ k := by
  apply Nat.eq_of_testBit_eq
  intro i
  rw [Nat.testBit_and, Nat.testBit_two_pow]
  have h : m / 2 ^ k % 2 = 0 ∨ m / 2 ^ k % 2 = 1 := by omega
  by_cases hi : k = i
  · subst hi
    rw [Nat.testBit_eq_decide_div_mod_eq]
    rcases h with e | e <;> rw [e] <;> simp
  · rcases h with e | e <;> rw [e] <;> simp [hi]
theorem bitAnd_nat (m k : Nat) : Builtin.bitAnd (m : Int) (k : Int) = ((m &&& k : Nat) : Int) := by
  unfold Builtin.bitAnd
  simp
theorem hit_one {m k : Nat} {i : Nat} (hi : i ≠ 0) {b : Int} (hb : b = ((2 ^ k : Nat) : Int)) : fmHit (m : Int) i b = (m / 2 ^ k % 2 == 1) := by
  subst hb
  unfold fmHit
  rw [if_neg hi, bitAnd_nat, land_pow]
  have h : m / 2 ^ k % 2 = 0 ∨ m / 2 ^ k % 2 = 1 := by omega
  have hp : 0 < 2 ^ k := Nat.two_pow_pos k
  rcases h with e | e
  · rw [e, Nat.zero_mul]
    have : ((0 : Nat) : Int) ≠ ((2 ^ k : Nat) : Int) := by omega
    simpa using this
  · rw [e]; simp
theorem hit_two {m j k : Nat} {i : Nat} (hi : i ≠ 0) {b : Int} (hb : b = ((2 ^ j ||| 2 ^ k : Nat) : Int)) (hjk : 2 ^ j ≠ (2 ^ j ||| 2 ^ k) ∧ 2 ^ k ≠ (2 ^ j ||| 2 ^ k)) : fmHit (m : Int) i b = (m / 2 ^ j % 2 == 1 && m / 2 ^ k % 2 == 1) := by
  subst hb
  unfold fmHit
  rw [if_neg hi, bitAnd_nat, Nat.and_or_distrib_left, land_pow, land_pow]
  have h : m / 2 ^ j % 2 = 0 ∨ m / 2 ^ j % 2 = 1 := by omega
  have h2 : m / 2 ^ k % 2 = 0 ∨ m / 2 ^ k % 2 = 1 := by omega
  have hp : 0 < 2 ^ k := Nat.two_pow_pos k
  have hp2 : 0 < 2 ^ j := Nat.two_pow_pos j
  rcases h with e | e <;> rcases h2 with e2 | e2 <;> rw [e, e2] <;> simp
  · intro h; have := Nat.or_eq_zero_iff.mp (by exact_mod_cast h.symm); omega
  · exact fun h => hjk.2 (by exact_mod_cast h)
  · exact fun h => hjk.1 (by exact_mod_cast h)

theorem land_top (m : Nat) : m &&& 61440 = m / 4096 % 16 * 4096 := by
  have e : 61440 = 15 <<< 12 := rfl
  have e2 : m / 4096 % 16 = (m >>> 12) &&& 15 := by
    rw [Nat.shiftRight_eq_div_pow]
    exact (Nat.and_two_pow_sub_one_eq_mod (m / 2 ^ 12) 4).symm
  have e3 : (m / 4096 % 16) * 4096 = (m / 4096 % 16) <<< 12 := by rw [Nat.shiftLeft_eq]
  rw [e3, e2, e]
  apply Nat.eq_of_testBit_eq
  intro i
  rw [Nat.testBit_and, Nat.testBit_shiftLeft, Nat.testBit_shiftLeft, Nat.testBit_and, Nat.testBit_shiftRight]
  by_cases h : 12 ≤ i
  · rw [Nat.add_sub_cancel' h, decide_eq_true (show i ≥ 12 from h)]; simp
  · rw [decide_eq_false (show ¬ i ≥ 12 from h)]; simp
theorem type_char {m : Nat} (hm : m < 65536) : fmChar (m : Int) 0 = gT.getD (m / 4096 % 16) 0 := by
  have e1 : Builtin.bitAnd (m : Int) 61440 = ((m / 4096 % 16 * 4096 : Nat) : Int) := by
    rw [show (61440 : Int) = ((61440 : Nat) : Int) from rfl, bitAnd_nat, land_top]
  have hf : ∀ bit, fmHit (m : Int) 0 bit = (((m / 4096 % 16 * 4096 : Nat) : Int) == bit) := fun bit => by unfold fmHit; rw [if_pos rfl, e1]
  unfold fmChar
  simp only [hf]
  have : ∀ q < 16, ((((fmT.getD 0 []).find? fun bc => ((q * 4096 : Nat) : Int) == bc.1).map (·.2)).getD (if 0 = 0 then 63 else 45)) = gT.getD q 0 := by decide
  exact this _ (Nat.mod_lt _ (by decide))
theorem r_char {m i k c : Nat} {b : Int} (hi : i ≠ 0) (ht : fmT.getD i [] = [(b, c)]) (hb : b = ((2 ^ k : Nat) : Int)) : fmChar (m : Int) i = [45, c].getD (m / 2 ^ k % 2) 0 := by
  unfold fmChar
  rw [ht, if_neg hi]
  simp only [List.find?, hit_one hi hb]
  have : m / 2 ^ k % 2 = 0 ∨ m / 2 ^ k % 2 = 1 := by omega
  rcases this with e | e <;> rw [e] <;> rfl
theorem x_char {m i j k c d e : Nat} {b b1 b2 : Int} (hi : i ≠ 0) (ht : fmT.getD i [] = [(b, c), (b1, d), (b2, e)]) (hb : b = ((2 ^ j ||| 2 ^ k : Nat) : Int)) (hb1 : b1 = ((2 ^ j : Nat) : Int)) (hb2 : b2 = ((2 ^ k : Nat) : Int))
    (hjk : 2 ^ j ≠ (2 ^ j ||| 2 ^ k) ∧ 2 ^ k ≠ (2 ^ j ||| 2 ^ k)) : fmChar (m : Int) i = [45, e, d, c].getD (m / 2 ^ k % 2 + 2 * (m / 2 ^ j % 2)) 0 := by
  unfold fmChar
  rw [ht, if_neg hi]
  simp only [List.find?, hit_two hi hb hjk, hit_one hi hb1, hit_one hi hb2]
  have h1 : m / 2 ^ k % 2 = 0 ∨ m / 2 ^ k % 2 = 1 := by omega
  have h2 : m / 2 ^ j % 2 = 0 ∨ m / 2 ^ j % 2 = 1 := by omega
  rcases h1 with e1 | e1 <;> rcases h2 with e2 | e2 <;> rw [e1, e2] <;> rfl
theorem q8a (q : Nat) : q % 8 / 4 = q / 4 % 2 := by omega
theorem q8b (q : Nat) : q % 8 / 2 % 2 = q / 2 % 2 := by omega
theorem q8c (q : Nat) : q % 8 % 2 = q % 2 := by omega
theorem fm_sg {m : Nat} (hm : m < 65536) : fmI (m : Int) = sgI (m : Int) := by
  have hs : ∀ (pl : Nat) (pre : List Nat), sgAdd (m : Int) (pl : Int) pre = pre ++ [[45, 114].getD (m / 8 ^ pl % 8 / 4) 0] ++ [[45, 119].getD (m / 8 ^ pl % 8 / 2 % 2) 0] ++ [(gX (pl : Int)).getD (m / 8 ^ pl % 8 % 2 + 2 * (m / (512 * 2 ^ pl) % 2)) 0] := by
    intro pl pre
    unfold sgAdd
    have e1 : ((m : Int) / 8 ^ (pl : Int).toNat % 8) = ((m / 8 ^ pl % 8 : Nat) : Int) := by simp
    have e2 : ((m : Int) / (512 * 2 ^ (pl : Int).toNat) % 2) = ((m / (512 * 2 ^ pl) % 2 : Nat) : Int) := by simp
    simp only [e1, e2]
    rfl
  have ht : (((m : Nat) : Int) / 4096 % 16).toNat = m / 4096 % 16 := by omega
  unfold sgI fmI
  have h2 := hs 2; have h1 := hs 1; have h0 := hs 0
  rw [show ((2 : Nat) : Int) = 2 from rfl] at h2
  rw [show ((1 : Nat) : Int) = 1 from rfl] at h1
  rw [show ((0 : Nat) : Int) = 0 from rfl] at h0
  rw [h2, h1, h0, ht]
  show [fmChar (m : Int) 0, fmChar (m : Int) 1, fmChar (m : Int) 2, fmChar (m : Int) 3, fmChar (m : Int) 4, fmChar (m : Int) 5, fmChar (m : Int) 6, fmChar (m : Int) 7, fmChar (m : Int) 8, fmChar (m : Int) 9] = _
  rw [type_char hm, r_char (k := 8) (by decide) rfl rfl, r_char (i := 2) (k := 7) (by decide) rfl rfl, x_char (i := 3) (j := 11) (k := 6) (by decide) rfl rfl rfl rfl (by decide),
    r_char (i := 4) (k := 5) (by decide) rfl rfl, r_char (i := 5) (k := 4) (by decide) rfl rfl, x_char (i := 6) (j := 10) (k := 3) (by decide) rfl rfl rfl rfl (by decide),
    r_char (i := 7) (k := 2) (by decide) rfl rfl, r_char (i := 8) (k := 1) (by decide) rfl rfl, x_char (i := 9) (j := 9) (k := 0) (by decide) rfl rfl rfl rfl (by decide)]
  have a1 : m / 8 ^ 2 % 8 / 4 = m / 2 ^ 8 % 2 := (q8a _).trans (congrArg (· % 2) (Nat.div_div_eq_div_mul m (8 ^ 2) 4))
  have a2 : m / 8 ^ 2 % 8 / 2 % 2 = m / 2 ^ 7 % 2 := (q8b _).trans (congrArg (· % 2) (Nat.div_div_eq_div_mul m (8 ^ 2) 2))
  have a3 : m / 8 ^ 2 % 8 % 2 = m / 2 ^ 6 % 2 := q8c (m / 8 ^ 2)
  have a4 : m / (512 * 2 ^ 2) % 2 = m / 2 ^ 11 % 2 := rfl
  have b1 : m / 8 ^ 1 % 8 / 4 = m / 2 ^ 5 % 2 := (q8a _).trans (congrArg (· % 2) (Nat.div_div_eq_div_mul m (8 ^ 1) 4))
  have b2 : m / 8 ^ 1 % 8 / 2 % 2 = m / 2 ^ 4 % 2 := (q8b _).trans (congrArg (· % 2) (Nat.div_div_eq_div_mul m (8 ^ 1) 2))
  have b3 : m / 8 ^ 1 % 8 % 2 = m / 2 ^ 3 % 2 := q8c (m / 8 ^ 1)
  have b4 : m / (512 * 2 ^ 1) % 2 = m / 2 ^ 10 % 2 := rfl
  have c1 : m / 8 ^ 0 % 8 / 4 = m / 2 ^ 2 % 2 := (q8a _).trans (congrArg (· % 2) (Nat.div_div_eq_div_mul m (8 ^ 0) 4))
  have c2 : m / 8 ^ 0 % 8 / 2 % 2 = m / 2 ^ 1 % 2 := (q8b _).trans (congrArg (· % 2) (Nat.div_div_eq_div_mul m (8 ^ 0) 2))
  have c3 : m / 8 ^ 0 % 8 % 2 = m / 2 ^ 0 % 2 := q8c (m / 8 ^ 0)
  have c4 : m / (512 * 2 ^ 0) % 2 = m / 2 ^ 9 % 2 := rfl
  rw [a1, a2, a3, a4, b1, b2, b3, b4, c1, c2, c3, c4]
  rfl
end

section
open PySem PySem.W PySem.Calls PyProof.Rows
theorem Do.fin {α : Type} {prog : Program} {w : World} {A : Around} {t : Sem α} {Q : α → Heap → Prop} {s : Shared} {h : Heap} {Q' : α → Shared → Prop} {E : Value → Shared → Prop} (H : Do prog w A t Q h) (hs : s.heap = h)
    (k : ∀ a s', Same s s' → Q a s'.heap → Q' a s') : wpAny (model prog w) A t Q' E s :=
  wpAny_mono (H s hs) (fun a s' x => k a s' x.1 x.2) fun _ _ x => x.elim
theorem cx_start {W h : Heap} {L : Addr} {m : Str → Option Value} {own : List (Addr × Obj)} (F : Fr W L h m) (N : News W L h own) (nd : (own.map (·.1)).Nodup) : Cx W (fun a => W.get? a) (fun _ => none) L own m h where
  ns := F.ns
  kp := F.keep
  kg := fun _ _ e => nomatch e
  wp := fun _ _ e => e
  pg := fun _ _ e => nomatch e
  pL := by
    cases e : W.get? L with
    | none => rfl
    | some o => exact absurd (Heap.lt_size e) (Nat.not_lt.mpr F.above)
  gL := rfl
  ow := fun q hq => ⟨(N q hq).1, (N q hq).2.2, rfl, (N q hq).2.1⟩
  nd := nd
theorem ints_v {vs : List Value} {ns : List Int} (h : IntsAre vs ns) : IntsV vs ns := by
  induction h with
  | nil => exact at_nil
  | cons x t h ih => exact at_cons (R := fun v x => ∃ t, v = Value.int x t) ⟨t, rfl⟩ ih
theorem chain_facts : ∀ {l : List (Nat × List Nat)}, Chain l → ∀ x ∈ l, x.1 ≤ 3 ∧ SgOk x.2
  | x :: t, h, y, hy => by
    rcases List.mem_cons.mp hy with rfl | hy
    · exact ⟨h.1, h.2.1⟩
    · exact chain_facts h.2.2.2 y hy
theorem mark_ascii (e : Nat) : (mark e).all (· < 128) = true := by
  unfold mark
  rw [List.all_append, Bool.and_eq_true]
  exact ⟨by rw [List.all_eq_true]; intro x hx; rw [(List.mem_replicate.mp hx).2]; rfl, rfl⟩
theorem body_ascii : ∀ (F : Fo), F.Ok → ∀ e, (bodyE e F).all (· < 128) = true
  | .nil, _, e => rfl
  | .node s k r, h, e => by
    have hs : s.all (· < 128) = true := by
      rw [List.all_eq_true]
      exact fun c hc => by simpa using (plain_facts (h.1.2.1 c hc)).2.2.2.2.2.2.2
    have hk := body_ascii k h.2.1 (e + 1)
    have hr := body_ascii r h.2.2 e
    have hv : (valE e k).all (· < 128) = true := by
      cases k with
      | nil => rfl
      | node a b c =>
        show (61 :: (if Fo.bare (.node a b c) then bodyE (e + 1) (.node a b c) else mark e ++ bodyE (e + 1) (.node a b c) ++ mark e)).all _ = true
        rw [List.all_cons]
        split
        · rw [hk]; rfl
        · rw [List.all_append, List.all_append, hk, mark_ascii]; rfl
    have hw : (restE e r).all (· < 128) = true := by
      cases r with
      | nil => rfl
      | node a b c =>
        show (59 :: 32 :: bodyE e (.node a b c)).all _ = true
        rw [List.all_cons, List.all_cons, hr]; rfl
    rw [body_node, List.all_append, List.all_append, hs, hv, hw]; rfl
noncomputable def LawEnd (W : Heap) (L : Addr) (f : Flow) (h : Heap) : Prop := f = .ret (.bool true) ∧ ∃ p g m ps1 ps2 ps3 ps4, Cx W p g L [(152, tabObj ps1), (82, tabObj ps2), (65, tabObj ps3), (180, tabObj ps4)] m h
theorem Do.finC {prog : Program} {w : World} {t : Sem Flow} {W : Heap} {p g : PM} {L : Addr} {own : List (Addr × Obj)} {m : Str → Option Value} {s : Shared} {h : Heap} {Q' : Flow → Shared → Prop} {E : Value → Shared → Prop} {env : Env} (C : Cx W p g L own m h) (H : ∀ A, Ar 20 A → Do prog w A t (LawEnd W L) h) (hs : s.heap = h)
    (k : ∀ a s', Same s s' → LawEnd W L a s'.heap → Q' a s') : wpAny (model prog w) (callerA.deeper env) t Q' E s := Do.fin (H _ ⟨rfl, by show 1 + claimMargin + 1 + 20 < recursionLimit; decide, by show 4 + 3 + 8 * 20 + 64 < cLine; decide⟩) hs k
theorem fin : PySem.Challenge.rw_oy0201_01.Holds := hd (by
  k_go0
  (all_goals try k_fold)
  rename_i hgens X0 V0 T0 B0 TE0 TW0 ns hs0 hlay0 hL0 hr0 hl2 w1 w2 wa wv w3 hL1 ra0 w4 r0 hI hr1 hlen hc2 hD0 h₁ K T Kb F H1 H2 H3 N l0
  have H4 := codeHd
  have hla := lifted
  have hv := ints_v hI
  have V : Wd _ _ _ _ := ⟨K, T.g, T.b, T.builtins, T.nolimit, _, _, T⟩
  have C := (cx_start F N (by decide)).perm (own' := [(152, tabObj #[]), (82, tabObj #[]), (65, tabObj #[]), (180, tabObj #[])]) (List.reverse_perm [(180, tabObj #[]), (65, tabObj #[]), (82, tabObj #[]), (152, tabObj #[])])
  refine Do.finC C ?walk rfl ?post
  case post =>
    rintro f s' hsame ⟨rfl, p, g, m, ps1, ps2, ps3, ps4, C⟩
    refine ⟨goodW_bool ⟨C.ns, C.kw, F.above⟩ ?_ ?_ ?_ ?_, ?_⟩
    · rw [hsame.1]; exact hgens
    · intro cls; rfl
    · wrow_post
    · exact hsame.2.2
    · exact ⟨⟨_, Cx.own_at [_, _, _] [] C⟩, ⟨_, Cx.own_at [_, _] [_] C⟩, ⟨_, Cx.own_at [_] [_, _] C⟩, ⟨_, Cx.own_at [] [_, _, _] C⟩, trivial⟩
  case walk =>
    intro A hA
    dsimp only
    clear F N T K
    generalize ghostOf _ _ = W at *
    walk_at "ms"
    walk_at "mcall"
    walk_at "ms"
    refine ⟨C.kw, ?_⟩
    refine c_rows V (hA.le (by decide)) C hla hv (by omega) fun ra rn rvs g1 h1 le1 e1 hr C => ?_
    walk_at "ms"
    walk_at "mcall"
    walk_at "ms"
    rename Cx _ _ _ _ _ _ _ => C
    refine ⟨C.kw, ?_⟩
    generalize hrows : rowsTo (List.take 5 _) = rows at hr
    have hrl : rows.length ≤ 7 := by rw [← hrows, rowsTo_len, List.length_take]; omega
    obtain ⟨hch, hmode, t0, ht0⟩ : RowsOk rows := hrows ▸ rowsTo_ok _
    have hdl : (dueOf rows).length ≤ 7 := by unfold dueOf; rw [List.length_map]; exact hrl
    have hdne : dueOf rows ≠ [] := by rw [ht0]; exact fun e => by cases e
    have hdb : Mine.Below 1 (dueOf rows) := by rw [ht0]; rfl
    obtain ⟨F, hFok, hFn, hFs, hFr, hFp⟩ := told_law hch hdl hdb hdne
    have hFp : (foldW (dueOf rows)).getD 0 [] = F.pairs := hFp
    refine c_written (rest := [(65, tabObj #[]), (180, tabObj #[])]) V H4 H3 (hA.le (by decide)) C (.inl rfl) e1 hr hch hrl (by rw [hFp, ne_eq, Fo.pairs_nil]; exact hFn) fun th g2 ps1 ps2 h2 le2 tk2 C => ?_
    rw [hFp, join_body F hFok]
    walk_at "ms"
    rename Cx _ _ _ _ _ _ _ => C
    refine d_AssignComp hA.hh C (le2 _ _ e1) (by rw [hr.1]; omega) rfl (by decide) (by decide) rfl (by decide) rfl rfl ?_
      (fun i g acc => acc.length = i ∧ DuesAt g acc (castD ((dueOf rows).take i))) ⟨rfl, at_nil⟩ (fun i g acc h => h.1) (fun i g acc g' h le => ⟨h.1, h.2.mono le⟩) ?_ ?_
    · walk_at "m"
      exact ⟨rfl, C⟩
    · intro i v p3 C3 g3 acc own3 m3 h3 hi hvi le3 hInv C
      obtain ⟨hal, hdu⟩ := hInv
      obtain ⟨⟨d, mode⟩, hri⟩ : ∃ x, rows[i]? = some x := ⟨_, List.getElem?_eq_getElem (by rw [← hr.1]; exact hi)⟩
      obtain ⟨ta, tn, tt, tu, rfl, hta⟩ := ((hr.2 i v _ hvi hri).mono le2).mono le3
      obtain ⟨hm0, hm1⟩ := hmode _ (List.mem_of_getElem? hri)
      refine d_unpack2 hA.hh C (C.kg _ _ hta) fun h4 C => ?_
      walk_at "ms"
      walk_at "mcall"
      walk_at "ms"
      rename Cx _ _ _ _ _ _ _ => C
      refine ⟨C.kw, ?_⟩
      refine c_signs V (hA.le (by decide)) C hm0 hm1 fun t5 g5 h5 le5 C => ?_
      walk_at "ms"
      refine' d_newTupleE C ?_ ?z
      case z => exact Nat.le_of_ble_eq_true rfl
      intro a6 g6 h6 le6 e6 C
      refine ⟨g6, _, le5.trans le6, C, by rw [List.length_append, hal]; rfl, ?_⟩
      have hdi : (dueOf rows)[i]? = some (d, fmI mode) := by unfold dueOf; rw [List.getElem?_map, hri]; rfl
      rw [List.take_add_one, hdi, castD_app]
      have hsg : fmI mode = sgI mode := by
        have := fm_sg (m := mode.toNat) (by have : mode < 65536 := hm1; omega)
        rwa [show ((mode.toNat : Nat) : Int) = mode from Int.toNat_of_nonneg hm0] at this
      rw [hsg]
      exact at_snoc (R := DAt g6) (hdu.mono (le5.trans le6)) ⟨a6, 0, _, _, rfl, e6⟩
    · intro D g3 acc kD h3 le3 hInv hD C
      obtain ⟨hal, hdu⟩ := hInv
      have hvr : rvs.length = (dueOf rows).length := by rw [hr.1]; unfold dueOf; rw [List.length_map]
      rw [hvr, List.take_length] at hdu
      dsimp only
      walk_at "ms"
      walk_at "mcall"
      walk_at "ms"
      rename Cx _ _ _ _ _ _ _ => C
      refine ⟨C.kw, ?_⟩
      have hhd : hdrW (dueOf rows) = bodyE 0 F := by rw [hFr]; exact hdr_body hFok
      have hb2 : (bodyE 0 F).length ≤ 2000 := body_len7 hFok hFs
      refine c_header V (hA.le (by decide)) C hD hdu hdl (fun x hx => ?_) (by rw [hhd]; exact hb2) fun t4 g4 h4 le4 C => ?_
      · exact chain_facts hch x hx
      rw [hhd]
      walk_at "ms"
      rw [if_neg (show ¬ (bodyE 0 F != bodyE 0 F) = true by simp)]
      walk_at "ms"
      walk_at "mcall"
      walk_at "ms"
      rename Cx _ _ _ _ _ _ _ => C
      refine ⟨C.kw, ?_⟩
      have C65 := C.perm (to_front [_, _] [_] _)
      refine c_lsplit V H2 7 (F := F) (d := 0) hFs (hA.le (by decide)) C65 (.inl rfl) hFok hFn hFs fun a5 vs5 n5 g5 ps5 h5 le5 tk5 e5 hdu5 C => ?_
      rw [← hFr] at hdu5
      have C := C.perm (to_front [_, _] [_] _).symm
      walk_at "ms"
      refine d_dueEq C (by have := hA.un; omega) (C.kg _ _ e5) (C.kg _ _ (le5 _ _ (le4 _ _ hD))) hdu5 (hdu.mono (le4.trans le5)) ?_
      walk_at "ms"
      rw [if_pos rfl]
      walk_at "ms"
      walk_at "mcall"
      walk_at "ms"
      rename Cx _ _ _ _ _ _ _ => C
      refine ⟨C.kw, ?_⟩
      have C180 := C.perm (to_front [_, _, _] [] _)
      have hsc := (sc_body F hFok).1 0 [] hFn
      rw [List.nil_append, ← hFr] at hsc
      refine c_scanned V H1 (hA.le (by decide)) C180 (body_ascii F hFok 0) (by omega) hsc fun v6 g6 ps6 h6 le6 hst C => ?_
      have C := C.perm (to_front [_, _, _] [] _).symm
      obtain ⟨a6, n6, t61, t62, t63, t64, la6, vs6, nl6, rfl, hta6, hla6, hdu6⟩ := hst
      walk_at "ms"
      refine' d_newTupleE C ?_ ?z
      case z => exact Nat.le_of_ble_eq_true rfl
      intro a7 g7 h7 le7 e7 C
      refine d_stateEq C (by have := hA.un; omega) (C.kg _ _ (le7 _ _ hla6)) (C.kg _ _ (le7 _ _ (le6 _ _ (le5 _ _ (le4 _ _ hD))))) (hdu6.mono le7) (hdu.mono (le4.trans (le5.trans (le6.trans le7)))) (C.kg _ _ (le7 _ _ hta6)) (C.kg _ _ e7) ?_
      exact ⟨rfl, _, _, _, _, _, _, _, C⟩)
end

end Mine
theorem PySem.Challenge.cw_oy0201_01_holds : PySem.Challenge.rw_oy0201_01.Holds := by
  exact Mine.fin
