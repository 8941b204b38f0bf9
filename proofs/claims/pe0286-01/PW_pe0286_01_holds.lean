import PyProof.Rows.All
import Wide.All
import OpenK.AllK
import Wide.FinOn
import PySem.Challenge.RW_pe0286_01
set_option autoImplicit false
set_option Elab.async false
set_option linter.unusedVariables false
namespace Mine
theorem un_0_2 {P0 P1 : Prop} {G : Prop} (h : P0 ∧ P1) (q : P0 → P1 → G) : G := q  h.1 h.2
theorem un_0_3 {P0 P1 P2 : Prop} {G : Prop} (h : P0 ∧ P1 ∧ P2) (q : P0 → P1 → P2 → G) : G := q  h.1 h.2.1 h.2.2
theorem un_0_4 {P0 P1 P2 P3 : Prop} {G : Prop} (h : P0 ∧ P1 ∧ P2 ∧ P3) (q : P0 → P1 → P2 → P3 → G) : G := q  h.1 h.2.1 h.2.2.1 h.2.2.2
theorem un_0_5 {P0 P1 P2 P3 P4 : Prop} {G : Prop} (h : P0 ∧ P1 ∧ P2 ∧ P3 ∧ P4) (q : P0 → P1 → P2 → P3 → P4 → G) : G := q  h.1 h.2.1 h.2.2.1 h.2.2.2.1 h.2.2.2.2
theorem un_0_7 {P0 P1 P2 P3 P4 P5 P6 : Prop} {G : Prop} (h : P0 ∧ P1 ∧ P2 ∧ P3 ∧ P4 ∧ P5 ∧ P6) (q : P0 → P1 → P2 → P3 → P4 → P5 → P6 → G) : G := q  h.1 h.2.1 h.2.2.1 h.2.2.2.1 h.2.2.2.2.1 h.2.2.2.2.2.1 h.2.2.2.2.2.2
theorem un_1_1 {α : Type} {P0 : α → Prop} {G : Prop} (h : ∃ a0, P0 a0) (q : ∀ a0, P0 a0 → G) : G := h.elim fun a0 e0 => q a0 e0
theorem un_1_2 {α : Type} {P0 P1 : α → Prop} {G : Prop} (h : ∃ a0, P0 a0 ∧ P1 a0) (q : ∀ a0, P0 a0 → P1 a0 → G) : G := h.elim fun a0 e0 => q a0 e0.1 e0.2
theorem un_1_3 {α : Type} {P0 P1 P2 : α → Prop} {G : Prop} (h : ∃ a0, P0 a0 ∧ P1 a0 ∧ P2 a0) (q : ∀ a0, P0 a0 → P1 a0 → P2 a0 → G) : G := h.elim fun a0 e0 => q a0 e0.1 e0.2.1 e0.2.2
theorem un_1_4 {α : Type} {P0 P1 P2 P3 : α → Prop} {G : Prop} (h : ∃ a0, P0 a0 ∧ P1 a0 ∧ P2 a0 ∧ P3 a0) (q : ∀ a0, P0 a0 → P1 a0 → P2 a0 → P3 a0 → G) : G := h.elim fun a0 e0 => q a0 e0.1 e0.2.1 e0.2.2.1 e0.2.2.2
theorem un_1_5 {α : Type} {P0 P1 P2 P3 P4 : α → Prop} {G : Prop} (h : ∃ a0, P0 a0 ∧ P1 a0 ∧ P2 a0 ∧ P3 a0 ∧ P4 a0) (q : ∀ a0, P0 a0 → P1 a0 → P2 a0 → P3 a0 → P4 a0 → G) : G := h.elim fun a0 e0 => q a0 e0.1 e0.2.1 e0.2.2.1 e0.2.2.2.1 e0.2.2.2.2
theorem un_2_1 {α β : Type} {P0 : α → β → Prop} {G : Prop} (h : ∃ a0 a1, P0 a0 a1) (q : ∀ a0 a1, P0 a0 a1 → G) : G := h.elim fun a0 e0 => e0.elim fun a1 e1 => q a0 a1 e1
theorem un_2_2 {α β : Type} {P0 P1 : α → β → Prop} {G : Prop} (h : ∃ a0 a1, P0 a0 a1 ∧ P1 a0 a1) (q : ∀ a0 a1, P0 a0 a1 → P1 a0 a1 → G) : G := h.elim fun a0 e0 => e0.elim fun a1 e1 => q a0 a1 e1.1 e1.2
theorem un_2_3 {α β : Type} {P0 P1 P2 : α → β → Prop} {G : Prop} (h : ∃ a0 a1, P0 a0 a1 ∧ P1 a0 a1 ∧ P2 a0 a1) (q : ∀ a0 a1, P0 a0 a1 → P1 a0 a1 → P2 a0 a1 → G) : G := h.elim fun a0 e0 => e0.elim fun a1 e1 => q a0 a1 e1.1 e1.2.1 e1.2.2
theorem un_2_4 {α β : Type} {P0 P1 P2 P3 : α → β → Prop} {G : Prop} (h : ∃ a0 a1, P0 a0 a1 ∧ P1 a0 a1 ∧ P2 a0 a1 ∧ P3 a0 a1) (q : ∀ a0 a1, P0 a0 a1 → P1 a0 a1 → P2 a0 a1 → P3 a0 a1 → G) : G := h.elim fun a0 e0 => e0.elim fun a1 e1 => q a0 a1 e1.1 e1.2.1 e1.2.2.1 e1.2.2.2
theorem un_2_5 {α β : Type} {P0 P1 P2 P3 P4 : α → β → Prop} {G : Prop} (h : ∃ a0 a1, P0 a0 a1 ∧ P1 a0 a1 ∧ P2 a0 a1 ∧ P3 a0 a1 ∧ P4 a0 a1) (q : ∀ a0 a1, P0 a0 a1 → P1 a0 a1 → P2 a0 a1 → P3 a0 a1 → P4 a0 a1 → G) : G := h.elim fun a0 e0 => e0.elim fun a1 e1 => q a0 a1 e1.1 e1.2.1 e1.2.2.1 e1.2.2.2.1 e1.2.2.2.2
theorem un_3_2 {α β γ : Type} {P0 P1 : α → β → γ → Prop} {G : Prop} (h : ∃ a0 a1 a2, P0 a0 a1 a2 ∧ P1 a0 a1 a2) (q : ∀ a0 a1 a2, P0 a0 a1 a2 → P1 a0 a1 a2 → G) : G := h.elim fun a0 e0 => e0.elim fun a1 e1 => e1.elim fun a2 e2 => q a0 a1 a2 e2.1 e2.2
theorem un_3_3 {α β γ : Type} {P0 P1 P2 : α → β → γ → Prop} {G : Prop} (h : ∃ a0 a1 a2, P0 a0 a1 a2 ∧ P1 a0 a1 a2 ∧ P2 a0 a1 a2) (q : ∀ a0 a1 a2, P0 a0 a1 a2 → P1 a0 a1 a2 → P2 a0 a1 a2 → G) : G := h.elim fun a0 e0 => e0.elim fun a1 e1 => e1.elim fun a2 e2 => q a0 a1 a2 e2.1 e2.2.1 e2.2.2
theorem un_3_4 {α β γ : Type} {P0 P1 P2 P3 : α → β → γ → Prop} {G : Prop} (h : ∃ a0 a1 a2, P0 a0 a1 a2 ∧ P1 a0 a1 a2 ∧ P2 a0 a1 a2 ∧ P3 a0 a1 a2) (q : ∀ a0 a1 a2, P0 a0 a1 a2 → P1 a0 a1 a2 → P2 a0 a1 a2 → P3 a0 a1 a2 → G) : G := h.elim fun a0 e0 => e0.elim fun a1 e1 => e1.elim fun a2 e2 => q a0 a1 a2 e2.1 e2.2.1 e2.2.2.1 e2.2.2.2
theorem un_3_5 {α β γ : Type} {P0 P1 P2 P3 P4 : α → β → γ → Prop} {G : Prop} (h : ∃ a0 a1 a2, P0 a0 a1 a2 ∧ P1 a0 a1 a2 ∧ P2 a0 a1 a2 ∧ P3 a0 a1 a2 ∧ P4 a0 a1 a2) (q : ∀ a0 a1 a2, P0 a0 a1 a2 → P1 a0 a1 a2 → P2 a0 a1 a2 → P3 a0 a1 a2 → P4 a0 a1 a2 → G) : G := h.elim fun a0 e0 => e0.elim fun a1 e1 => e1.elim fun a2 e2 => q a0 a1 a2 e2.1 e2.2.1 e2.2.2.1 e2.2.2.2.1 e2.2.2.2.2
theorem un_3_7 {α β γ : Type} {P0 P1 P2 P3 P4 P5 P6 : α → β → γ → Prop} {G : Prop} (h : ∃ a0 a1 a2, P0 a0 a1 a2 ∧ P1 a0 a1 a2 ∧ P2 a0 a1 a2 ∧ P3 a0 a1 a2 ∧ P4 a0 a1 a2 ∧ P5 a0 a1 a2 ∧ P6 a0 a1 a2) (q : ∀ a0 a1 a2, P0 a0 a1 a2 → P1 a0 a1 a2 → P2 a0 a1 a2 → P3 a0 a1 a2 → P4 a0 a1 a2 → P5 a0 a1 a2 → P6 a0 a1 a2 → G) : G := h.elim fun a0 e0 => e0.elim fun a1 e1 => e1.elim fun a2 e2 => q a0 a1 a2 e2.1 e2.2.1 e2.2.2.1 e2.2.2.2.1 e2.2.2.2.2.1 e2.2.2.2.2.2.1 e2.2.2.2.2.2.2
theorem un_4_2 {α β γ δ : Type} {P0 P1 : α → β → γ → δ → Prop} {G : Prop} (h : ∃ a0 a1 a2 a3, P0 a0 a1 a2 a3 ∧ P1 a0 a1 a2 a3) (q : ∀ a0 a1 a2 a3, P0 a0 a1 a2 a3 → P1 a0 a1 a2 a3 → G) : G := h.elim fun a0 e0 => e0.elim fun a1 e1 => e1.elim fun a2 e2 => e2.elim fun a3 e3 => q a0 a1 a2 a3 e3.1 e3.2
theorem un_4_3 {α β γ δ : Type} {P0 P1 P2 : α → β → γ → δ → Prop} {G : Prop} (h : ∃ a0 a1 a2 a3, P0 a0 a1 a2 a3 ∧ P1 a0 a1 a2 a3 ∧ P2 a0 a1 a2 a3) (q : ∀ a0 a1 a2 a3, P0 a0 a1 a2 a3 → P1 a0 a1 a2 a3 → P2 a0 a1 a2 a3 → G) : G := h.elim fun a0 e0 => e0.elim fun a1 e1 => e1.elim fun a2 e2 => e2.elim fun a3 e3 => q a0 a1 a2 a3 e3.1 e3.2.1 e3.2.2
theorem un_4_4 {α β γ δ : Type} {P0 P1 P2 P3 : α → β → γ → δ → Prop} {G : Prop} (h : ∃ a0 a1 a2 a3, P0 a0 a1 a2 a3 ∧ P1 a0 a1 a2 a3 ∧ P2 a0 a1 a2 a3 ∧ P3 a0 a1 a2 a3) (q : ∀ a0 a1 a2 a3, P0 a0 a1 a2 a3 → P1 a0 a1 a2 a3 → P2 a0 a1 a2 a3 → P3 a0 a1 a2 a3 → G) : G := h.elim fun a0 e0 => e0.elim fun a1 e1 => e1.elim fun a2 e2 => e2.elim fun a3 e3 => q a0 a1 a2 a3 e3.1 e3.2.1 e3.2.2.1 e3.2.2.2
theorem un_4_5 {α β γ δ : Type} {P0 P1 P2 P3 P4 : α → β → γ → δ → Prop} {G : Prop} (h : ∃ a0 a1 a2 a3, P0 a0 a1 a2 a3 ∧ P1 a0 a1 a2 a3 ∧ P2 a0 a1 a2 a3 ∧ P3 a0 a1 a2 a3 ∧ P4 a0 a1 a2 a3) (q : ∀ a0 a1 a2 a3, P0 a0 a1 a2 a3 → P1 a0 a1 a2 a3 → P2 a0 a1 a2 a3 → P3 a0 a1 a2 a3 → P4 a0 a1 a2 a3 → G) : G := h.elim fun a0 e0 => e0.elim fun a1 e1 => e1.elim fun a2 e2 => e2.elim fun a3 e3 => q a0 a1 a2 a3 e3.1 e3.2.1 e3.2.2.1 e3.2.2.2.1 e3.2.2.2.2
theorem un_4_6 {α β γ δ : Type} {P0 P1 P2 P3 P4 P5 : α → β → γ → δ → Prop} {G : Prop} (h : ∃ a0 a1 a2 a3, P0 a0 a1 a2 a3 ∧ P1 a0 a1 a2 a3 ∧ P2 a0 a1 a2 a3 ∧ P3 a0 a1 a2 a3 ∧ P4 a0 a1 a2 a3 ∧ P5 a0 a1 a2 a3) (q : ∀ a0 a1 a2 a3, P0 a0 a1 a2 a3 → P1 a0 a1 a2 a3 → P2 a0 a1 a2 a3 → P3 a0 a1 a2 a3 → P4 a0 a1 a2 a3 → P5 a0 a1 a2 a3 → G) : G := h.elim fun a0 e0 => e0.elim fun a1 e1 => e1.elim fun a2 e2 => e2.elim fun a3 e3 => q a0 a1 a2 a3 e3.1 e3.2.1 e3.2.2.1 e3.2.2.2.1 e3.2.2.2.2.1 e3.2.2.2.2.2
open PySem PySem.W PyProof.Rows PySem.Calls
inductive V where
 | none
 | bool (b : Bool)
 | int (i : Int)
 | str (s : List Nat)
 | tup (l : List V)
 | lst (k : Nat)
 | raw (v : Value)
 deriving Inhabited
inductive SO where
 | list (items : List V)
 | iter (l : Nat) (i : Nat)
 | dead
 deriving Inhabited
mutual
noncomputable def VR (as : List Addr) (h : Heap) : V → Value → Prop
 | .none, x => x = .none
 | .bool b, x => x = .bool b
 | .int i, x => ∃ t, x = .int i t
 | .str u, x => ∃ t, x = .str ⟨u.toArray⟩ t
 | .tup l, x => ∃ a o its n, x = .ref a ∧ h.get? a = some o ∧ o.cls = .type "tuple" ∧ o.data = .seq its n ∧ VRs as h l its.toList
 | .lst k, x => ∃ a, x = .ref a ∧ as[k]? = some a
 | .raw v, x => x = v
noncomputable def VRs (as : List Addr) (h : Heap) : List V → List Value → Prop
 | [], xs => xs = []
 | v :: vs, xs => ∃ y ys, xs = y :: ys ∧ VR as h v y ∧ VRs as h vs ys
end
noncomputable def SOR (as : List Addr) (h : Heap) : SO → Addr → Prop
 | .list l, a => ∃ its n, h.get? a = some { cls := .type "list", data := .seq its n } ∧ VRs as h l its.toList
 | .iter l i, a => ∃ la, as[l]? = some la ∧ h.IsListIter a la i
 | .dead, a => ∃ o, h.get? a = some o ∧ o.cls = .type "list_iterator" ∧ ∃ vs, o.data = .fields vs ∧ vs.size ≤ 2
noncomputable def Keeps (X : List Addr) (h h' : Heap) : Prop :=
 ∀ a o, h.get? a = some o → a ∉ X → h'.get? a = some o ∨ ((∃ es ep, o.data = .dict es ep) ∧ ∃ sl, h'.get? a = some { o with slots := sl })
theorem Keeps.up {X : List Addr} {h h' : Heap} (k : Keeps X h h') {a : Addr} {o : Obj} (e : h.get? a = some o) (hn : a ∉ X) : ∃ sl, h'.get? a = some { o with slots := sl } :=
 (k a o e hn).elim (fun q => ⟨o.slots, q⟩) fun q => q.2
theorem Keeps.exact {X : List Addr} {h h' : Heap} (k : Keeps X h h') {a : Addr} {o : Obj} (e : h.get? a = some o) (hn : a ∉ X) (hd : ∀ es ep, o.data ≠ .dict es ep) : h'.get? a = some o :=
 (k a o e hn).elim id fun q => by obtain ⟨⟨es, ep, q⟩, _⟩ := q; exact absurd q (hd es ep)
theorem Keeps.refl (X : List Addr) (h : Heap) : Keeps X h h := fun _ o e _ => .inl e
theorem Keeps.of_ext {X : List Addr} {h h' : Heap} (k : ∀ b o, h.get? b = some o → h'.get? b = some o) : Keeps X h h' :=
 fun a o e _ => .inl (k a o e)
theorem Keeps.trans {X Y : List Addr} {h h' h'' : Heap} (x : Keeps X h h') (y : Keeps Y h' h'')
  (hxy : ∀ a, a ∈ Y → a ∈ X ∨ h.get? a = none) : Keeps X h h'' := fun a o e hn => by
 have hY : a ∉ Y := fun q => (hxy a q).elim hn fun q => by rw [e] at q; cases q
 rcases x a o e hn with e1 | ⟨⟨es, ep, d⟩, sl, e1⟩
 ·exact y a o e1 hY
 ·obtain ⟨sl', e2⟩ := y.up e1 hY
  exact .inr ⟨⟨es, ep, d⟩, sl', e2⟩
theorem Keeps.mono {X Y : List Addr} {h h' : Heap} (x : Keeps X h h') (hxy : ∀ a, a ∈ X → a ∈ Y) : Keeps Y h h' :=
 fun a o e hn => x a o e (fun q => hn (hxy a q))
noncomputable def TupKeeps (h h' : Heap) : Prop := ∀ a o its n, h.get? a = some o → o.cls = .type "tuple" → o.data = .seq its n → ∃ o', h'.get? a = some o' ∧ o'.cls = .type "tuple" ∧ o'.data = .seq its n
mutual
theorem VR.mono {as as' : List Addr} {h h' : Heap} (ha : as <+: as') (hk : TupKeeps h h') : ∀ (v : V) (x : Value), VR as h v x → VR as' h' v x
 | .none, _, e => e
 | .bool _, _, e => e
 | .int _, _, e => e
 | .str _, _, e => e
 | .raw _, _, e => e
 | .lst k, x, e => by
  unfold VR at e ⊢
  refine un_1_2 (e) fun a e1 e2 => ?_; (try clear e)
  obtain ⟨t, rfl⟩ := ha
  exact ⟨a, e1, by rw [List.getElem?_append_left (List.getElem?_eq_some_iff.mp e2).1]; exact e2⟩
 | .tup l, x, e => by
  unfold VR at e ⊢
  refine un_4_5 (e) fun a o its n e1 e2 e3 e4 e5 => ?_; (try clear e)
  refine un_1_3 (hk a o its n e2 e3 e4) fun o' f1 f2 f3 => ?_
  exact ⟨a, o', its, n, e1, f1, f2, f3, VRs.mono ha hk l _ e5⟩
theorem VRs.mono {as as' : List Addr} {h h' : Heap} (ha : as <+: as') (hk : TupKeeps h h') : ∀ (l : List V) (xs : List Value), VRs as h l xs → VRs as' h' l xs
 | [], _, e => e
 | v :: vs, xs, e => by
  unfold VRs at e ⊢
  refine un_2_3 (e) fun y ys e1 e2 e3 => ?_; (try clear e)
  exact ⟨y, ys, e1, VR.mono ha hk v y e2, VRs.mono ha hk vs ys e3⟩
end
theorem VRs.length {as : List Addr} {h : Heap} : ∀ {l : List V} {xs : List Value}, VRs as h l xs → xs.length = l.length
 | [], _, e => by unfold VRs at e; rw [e]; rfl
 | _ :: _, _, e => by unfold VRs at e; obtain ⟨y, ys, rfl, _, r⟩ := e; rw [List.length_cons, List.length_cons, VRs.length r]
theorem VRs.get {as : List Addr} {h : Heap} : ∀ {l : List V} {xs : List Value} {i : Nat} {v : V}, VRs as h l xs → l[i]? = some v → ∃ x, xs[i]? = some x ∧ VR as h v x
 | [], _, _, _, _, g => by simp at g
 | v :: vs, _, 0, w, e, g => by unfold VRs at e; obtain ⟨y, ys, rfl, r, _⟩ := e; simp at g; subst g; exact ⟨y, rfl, r⟩
 | v :: vs, _, i + 1, w, e, g => by
  unfold VRs at e; obtain ⟨y, ys, rfl, _, r⟩ := e
  simp only [List.getElem?_cons_succ] at g ⊢
  exact VRs.get r g
theorem VRs.cons {as : List Addr} {h : Heap} {v : V} {vs : List V} {y : Value} {ys : List Value} (a : VR as h v y) (b : VRs as h vs ys) : VRs as h (v :: vs) (y :: ys) := by
 unfold VRs; exact ⟨y, ys, rfl, a, b⟩
theorem VRs.nil {as : List Addr} {h : Heap} : VRs as h [] [] := by unfold VRs; rfl
theorem VRs.append {as : List Addr} {h : Heap} : ∀ {l l' : List V} {xs xs' : List Value}, VRs as h l xs → VRs as h l' xs' → VRs as h (l ++ l') (xs ++ xs')
 | [], _, _, _, e, e' => by unfold VRs at e; subst e; exact e'
 | _ :: _, _, _, _, e, e' => by unfold VRs at e; obtain ⟨y, ys, rfl, r, r'⟩ := e; exact VRs.cons r (VRs.append r' e')
theorem VRs.take {as : List Addr} {h : Heap} : ∀ {l : List V} {xs : List Value} (n : Nat), VRs as h l xs → VRs as h (l.take n) (xs.take n)
 | _, _, 0, _ => VRs.nil
 | [], _, n + 1, e => by unfold VRs at e; subst e; exact VRs.nil
 | _ :: _, _, n + 1, e => by unfold VRs at e; obtain ⟨y, ys, rfl, r, r'⟩ := e; exact VRs.cons r (VRs.take n r')
theorem VRs.drop {as : List Addr} {h : Heap} : ∀ {l : List V} {xs : List Value} (n : Nat), VRs as h l xs → VRs as h (l.drop n) (xs.drop n)
 | _, _, 0, e => e
 | [], _, n + 1, e => by unfold VRs at e; subst e; exact VRs.nil
 | _ :: _, _, n + 1, e => by unfold VRs at e; obtain ⟨y, ys, rfl, r, r'⟩ := e; exact VRs.drop n r'
theorem VRs.set {as : List Addr} {h : Heap} : ∀ {l : List V} {xs : List Value} (n : Nat) {v : V} {x : Value}, VRs as h l xs → VR as h v x → VRs as h (l.set n v) (xs.set n x)
 | [], _, n, _, _, e, _ => by unfold VRs at e; subst e; exact VRs.nil
 | _ :: _, _, 0, _, _, e, g => by unfold VRs at e; obtain ⟨y, ys, rfl, r, r'⟩ := e; exact VRs.cons g r'
 | _ :: _, _, n + 1, _, _, e, g => by unfold VRs at e; obtain ⟨y, ys, rfl, r, r'⟩ := e; exact VRs.cons r (VRs.set n r' g)
theorem VRs.reverse {as : List Addr} {h : Heap} : ∀ {l : List V} {xs : List Value}, VRs as h l xs → VRs as h l.reverse xs.reverse
 | [], _, e => by unfold VRs at e; subst e; exact VRs.nil
 | _ :: _, _, e => by
  unfold VRs at e; obtain ⟨y, ys, rfl, r, r'⟩ := e
  rw [List.reverse_cons, List.reverse_cons]
  exact VRs.append (VRs.reverse r') (VRs.cons r VRs.nil)
structure Cst where
 prog : Program
 w : World
 K : Frag
 h0 : Heap
 mg : Str → Option Value
 mb : Str → Option Value
 os : OsState
 kin : K.In h0
 g : h0.Ns mainGlobals mg
 b : h0.Ns builtinsNs mb
 bb : ∀ x : Str, x ≠ "__name__" → mb x = bootBuiltins x
 nolimit : h0.NoLimit
 nodigits : ∃ mc, h0.Ns cStatics mc ∧ mc "sys.int_max_str_digits" = none
structure RepG (C : Cst) (as : List Addr) (sto : List SO) (s : Shared) : Prop where
 keep : C.h0.StaysIn s.heap
 len : as.length = sto.length
 objs : ∀ (k : Nat) (a : Addr) (so : SO), as[k]? = some a → sto[k]? = some so → SOR as s.heap so a
 nodup : as.Nodup
 fresh : ∀ a ∈ as, C.h0.get? a = none
 gens : s.gens = #[]
 os : s.os = C.os
 toks : 0 < s.toks
structure Fm where
 A : Around
 env : Env
 sl : List (Str × Option Addr)
 frs : List Env
 own : List Addr
 room : Nat
structure Fm.Ok (C : Cst) (Γ : Fm) : Prop where
 kind : Γ.env.scope.kind = .function
 glob : Γ.env.globals = mainGlobals
 bts : Γ.env.builtins = builtinsNs
 loc : ∀ x, (x, none) ∈ Γ.sl → Γ.env.kindOf x = some .local
 cell : ∀ x c, (x, some c) ∈ Γ.sl → Γ.env.kindOf x = some .cell ∧ Γ.env.cells.lookup x = some c ∧ c ≠ Γ.env.locals
 names : (Γ.sl.map (·.1)).Nodup
 cells : ((Γ.sl.filterMap (·.2))).Nodup
 hand : Γ.A.handled = none
 frames : Γ.A.frames = some Γ.frs
 depth : Γ.A.depth + Γ.room < recursionLimit
 units : Γ.A.units + 8 * Γ.room < cLine
 loco : Γ.env.locals ∈ Γ.own
 fresh : ∀ a ∈ Γ.own, C.h0.get? a = none
noncomputable def SlotR (as : List Addr) (h : Heap) (m : Str → Option Value) (x : Str) : Option Addr → Option V → Prop
 | none, o => ∀ v, o = some v → ∃ y, m x = some y ∧ VR as h v y
 | some c, o => ∃ ov, h.IsCell c ov ∧ ∀ v, o = some v → ∃ y, ov = some y ∧ VR as h v y
noncomputable def SlotsR (as : List Addr) (h : Heap) (m : Str → Option Value) : List (Str × Option Addr) → List (Option V) → Prop
 | [], loc => loc = []
 | p :: sl, loc => ∃ o loc', loc = o :: loc' ∧ SlotR as h m p.1 p.2 o ∧ SlotsR as h m sl loc'
noncomputable def FrsOk (h0 h : Heap) (l : List Env) : Prop :=
 ∀ env ∈ l, env.scope.kind ≠ .module ∧ ∃ L o es ep, env.frame = some L ∧ h0.get? L = none ∧ h.get? L = some o ∧ o.data = .dict es ep
theorem FrsOk.fun {h0 h : Heap} : ∀ {l : List Env}, FrsOk h0 h l → h.FunFrames h0 l
 | [], _ => trivial
 | env :: l, r => by
  refine un_0_2 (r env (.head _)) fun hk c5x => ?_; refine un_4_4 c5x fun L o es ep e1 e2 e3 e4 => ?_; clear c5x
  exact ⟨hk, ⟨L, o, e1, e2, e3, fun vs q => by rw [e4] at q; cases q⟩, FrsOk.fun fun e he => r e (.tail _ he)⟩
structure RepF (C : Cst) (Γ : Fm) (as : List Addr) (loc : List (Option V)) (sto : List SO) (s : Shared) : Prop where
 g : RepG C as sto s
 ok : Γ.Ok C
 ns : ∃ m, s.heap.Ns Γ.env.locals m ∧ SlotsR as s.heap m Γ.sl loc
 apart : ∀ a ∈ as, a ∉ Γ.own ∧ ∀ x c, (x, some c) ∈ Γ.sl → a ≠ c
 plain : ∀ a ∈ Γ.own, ∃ o, s.heap.get? a = some o ∧ ∀ its n, o.data ≠ .seq its n
 frs : FrsOk C.h0 s.heap Γ.frs
theorem RepG.tup_not_mem {C : Cst} {as : List Addr} {sto : List SO} {s : Shared} (R : RepG C as sto s) {a : Addr} {o : Obj} (e : s.heap.get? a = some o) (hc : o.cls = .type "tuple") : a ∉ as := fun hm => by
 obtain ⟨k, hk, e1⟩ := List.getElem_of_mem hm
 have hk' : k < sto.length := by rw [← R.len]; exact hk
 have r := R.objs k a sto[k] (by rw [List.getElem?_eq_getElem hk, e1]) (by rw [List.getElem?_eq_getElem hk'])
 cases q : sto[k] with
 | list l =>
  rw [q] at r
  refine un_2_2 (r) fun its n e2 _ => ?_; (try clear r)
  rw [e] at e2; cases e2; simp at hc
 | iter l i =>
  rw [q] at r
  refine un_1_2 (r) fun la _ c8x => ?_; (try clear r); refine un_1_3 c8x fun o' e2 e3 _ => ?_; clear c8x
  rw [e] at e2; cases e2; rw [hc] at e3; simp at e3
 | dead =>
  rw [q] at r
  refine un_1_3 (r) fun o' e2 e3 _ => ?_; (try clear r)
  rw [e] at e2; cases e2; rw [hc] at e3; simp at e3
structure XV where
 cls : Addr
 msg : List Nat
 tb : Bool
noncomputable def XR (C : Cst) (h : Heap) (b : XV) (x : Addr) (T : Addr) (e : Value) : Prop :=
 ∃ oe vs t, e = .ref x ∧ h.get? x = some oe ∧ oe.cls = .ref b.cls ∧ oe.data = .fields vs ∧ vs[0]? = some (.ref t) ∧
  (∃ ot n tk, h.get? t = some ot ∧ ot.cls = .type "tuple" ∧ ot.data = .seq #[.str ⟨b.msg.toArray⟩ tk] n) ∧
  (if b.tb then ∃ oT ts, vs[1]? = some (.ref T) ∧ T ≠ x ∧ h.get? T = some oT ∧ oT.data = .fields ts ∧ ts[3]? = some .none else vs[1]? = some .none)
noncomputable def ExcOk (C : Cst) (k : Option (XV × Value)) (s s' : Shared) : Prop := match k with
 | none => True
 | some (b, e) => ∃ x T, s.heap.get? x = none ∧ (b.tb = true → s.heap.get? T = none) ∧ XR C s'.heap b x T e
structure PostK (k : Option (XV × Value)) (C : Cst) (Γ : Fm) (as : List Addr) (s : Shared) (as' : List Addr) (loc' : List (Option V)) (sto' : List SO) (s' : Shared) : Prop where
 rep : RepF C Γ as' loc' sto' s'
 pre : as <+: as'
 new : ∀ a ∈ as', a ∈ as ∨ s.heap.get? a = none
 keeps : Keeps (Γ.own ++ as) s.heap s'.heap
 dom : ∀ a, s'.heap.get? a = none → s.heap.get? a = none
 exc : ExcOk C k s s' := by trivial
noncomputable abbrev Post := PostK none
theorem PostK.trans {k : Option (XV × Value)} {C : Cst} {Γ : Fm} {as as1 as2 : List Addr} {s s1 s2 : Shared} {loc1 loc2 : List (Option V)} {sto1 sto2 : List SO}
  (x : Post C Γ as s as1 loc1 sto1 s1) (y : PostK k C Γ as1 s1 as2 loc2 sto2 s2) : PostK k C Γ as s as2 loc2 sto2 s2 where
 rep := y.rep
 pre := x.pre.trans y.pre
 new := fun a h => (y.new a h).elim (fun q => x.new a q) fun q => .inr (x.dom a q)
 keeps := x.keeps.trans y.keeps fun a h => by
  rcases List.mem_append.mp h with h | h
  ·exact .inl (List.mem_append_left _ h)
  ·exact (x.new a h).imp (fun q => List.mem_append_right _ q) id
 dom := fun a h => x.dom a (y.dom a h)
 exc := by
  cases k with
  | none => trivial
  | some p =>
   obtain ⟨b, e⟩ := p
   refine un_2_3 (y.exc) fun a T h1 h2 h3 => ?_
   exact ⟨a, T, x.dom a h1, fun q => x.dom T (h2 q), h3⟩
theorem Post.trans {k : Option (XV × Value)} {C : Cst} {Γ : Fm} {as as1 as2 : List Addr} {s s1 s2 : Shared} {loc1 loc2 : List (Option V)} {sto1 sto2 : List SO}
  (x : Post C Γ as s as1 loc1 sto1 s1) (y : PostK k C Γ as1 s1 as2 loc2 sto2 s2) : PostK k C Γ as s as2 loc2 sto2 s2 := PostK.trans x y
theorem Post.refl {C : Cst} {Γ : Fm} {as : List Addr} {s : Shared} {loc : List (Option V)} {sto : List SO} (R : RepF C Γ as loc sto s) : Post C Γ as s as loc sto s where
 rep := R
 pre := List.prefix_rfl
 new := fun _ h => .inl h
 keeps := Keeps.refl _ _
 dom := fun _ h => h
theorem PostK.tups {kx : Option (XV × Value)} {C : Cst} {Γ : Fm} {as as' : List Addr} {s s' : Shared} {loc loc' : List (Option V)} {sto sto' : List SO}
  (R : RepF C Γ as loc sto s) (P : PostK kx C Γ as s as' loc' sto' s') : TupKeeps s.heap s'.heap := fun a o its n e hc hd => by
 have h1 : a ∉ Γ.own ++ as := fun q => by
  rcases List.mem_append.mp q with q | q
  ·refine un_1_2 (R.plain a q) fun o' e1 e2 => ?_
   rw [e] at e1; cases e1; exact e2 its n hd
  ·exact R.g.tup_not_mem e hc q
 obtain ⟨sl, e1⟩ := P.keeps.up e h1
 exact ⟨_, e1, hc, hd⟩
theorem PostK.vr {kx : Option (XV × Value)} {C : Cst} {Γ : Fm} {as as' : List Addr} {s s' : Shared} {loc loc' : List (Option V)} {sto sto' : List SO} {v : V} {x : Value}
  (R : RepF C Γ as loc sto s) (P : PostK kx C Γ as s as' loc' sto' s') (h : VR as s.heap v x) : VR as' s'.heap v x := VR.mono P.pre (P.tups R) v x h
theorem PostK.vrs {kx : Option (XV × Value)} {C : Cst} {Γ : Fm} {as as' : List Addr} {s s' : Shared} {loc loc' : List (Option V)} {sto sto' : List SO} {v : List V} {x : List Value}
  (R : RepF C Γ as loc sto s) (P : PostK kx C Γ as s as' loc' sto' s') (h : VRs as s.heap v x) : VRs as' s'.heap v x := VRs.mono P.pre (P.tups R) v x h
inductive OkP {α β : Type} (C : Cst) (Γ : Fm) (as : List Addr) (s : Shared) (R : List Addr → Heap → β → α → Prop) (Q : β → List (Option V) → List SO → Prop) (x : α) (s' : Shared) : Prop
 | mk (as' : List Addr) (loc' : List (Option V)) (sto' : List SO) (b : β) (P : Post C Γ as s as' loc' sto' s') (r : R as' s'.heap b x) (q : Q b loc' sto')
inductive ErP (C : Cst) (Γ : Fm) (as : List Addr) (s : Shared) (X : XV → List (Option V) → List SO → Prop) (e : Value) (s' : Shared) : Prop
 | mk (as' : List Addr) (loc' : List (Option V)) (sto' : List SO) (b : XV) (P : PostK (some (b, e)) C Γ as s as' loc' sto' s') (r : True) (q : X b loc' sto')
noncomputable def W {α β : Type} (C : Cst) (Γ : Fm) (loc : List (Option V)) (sto : List SO) (m : Sem α) (R : List Addr → Heap → β → α → Prop)
  (Q : β → List (Option V) → List SO → Prop) (X : XV → List (Option V) → List SO → Prop) : Prop :=
 ∀ s as, RepF C Γ as loc sto s → wpAny (model C.prog C.w) Γ.A m
  (OkP C Γ as s R Q)
  (ErP C Γ as s X) s
noncomputable def WL {α β : Type} (C : Cst) (Γ : Fm) (loc : List (Option V)) (sto : List SO) (f : List Value → Sem α) (args : List V) (R : List Addr → Heap → β → α → Prop)
  (Q : β → List (Option V) → List SO → Prop) (X : XV → List (Option V) → List SO → Prop) : Prop :=
 ∀ s as xs, RepF C Γ as loc sto s → VRs as s.heap args xs → wpAny (model C.prog C.w) Γ.A (f xs)
  (OkP C Γ as s R Q)
  (ErP C Γ as s X) s
noncomputable def RT : List Addr → Heap → Bool → Bool → Prop := fun _ _ b x => x = b
noncomputable def RU : List Addr → Heap → Unit → Unit → Prop := fun _ _ _ _ => True
inductive Out where
 | next | brk | cont | ret (v : V)
noncomputable def RFl : List Addr → Heap → Out → Flow → Prop
 | _, _, .next, f => f = .next
 | _, _, .brk, f => f = .brk
 | _, _, .cont, f => f = .cont
 | as, h, .ret v, f => ∃ x, f = .ret x ∧ VR as h v x
noncomputable abbrev WE (C : Cst) (Γ : Fm) (loc : List (Option V)) (sto : List SO) (e : Expr) (Q : V → List (Option V) → List SO → Prop) (X : XV → List (Option V) → List SO → Prop) : Prop :=
 W C Γ loc sto (eval e Γ.env) VR Q X
noncomputable abbrev WT (C : Cst) (Γ : Fm) (loc : List (Option V)) (sto : List SO) (e : Expr) (Q : Bool → List (Option V) → List SO → Prop) (X : XV → List (Option V) → List SO → Prop) : Prop :=
 W C Γ loc sto (isTrue e Γ.env (eval e Γ.env)) RT Q X
noncomputable abbrev WS (C : Cst) (Γ : Fm) (loc : List (Option V)) (sto : List SO) (ss : List Stmt) (Q : Out → List (Option V) → List SO → Prop) (X : XV → List (Option V) → List SO → Prop) : Prop :=
 W C Γ loc sto (execs ss Γ.env) RFl Q X
noncomputable abbrev W1 (C : Cst) (Γ : Fm) (loc : List (Option V)) (sto : List SO) (st : Stmt) (Q : Out → List (Option V) → List SO → Prop) (X : XV → List (Option V) → List SO → Prop) : Prop :=
 W C Γ loc sto (exec st Γ.env) RFl Q X
section
variable {α β γ δ : Type} {C : Cst} {Γ : Fm} {loc : List (Option V)} {sto : List SO}
theorem w_mono {m : Sem α} {R : List Addr → Heap → β → α → Prop} {Q Q' : β → List (Option V) → List SO → Prop} {X X' : XV → List (Option V) → List SO → Prop}
  (h : W C Γ loc sto m R Q X) (hq : ∀ b l s, Q b l s → Q' b l s) (hx : ∀ b l s, X b l s → X' b l s) : W C Γ loc sto m R Q' X' := fun s as R0 =>
 wpAny_mono (h s as R0) (fun _ _ ⟨a, b, c, d, e, f, g⟩ => ⟨a, b, c, d, e, f, hq _ _ _ g⟩) fun _ _ ⟨a, b, c, d, e, f, g⟩ => ⟨a, b, c, d, e, f, hx _ _ _ g⟩
end
end Mine
namespace Mine
open PySem PySem.W PyProof.Rows PySem.Calls
noncomputable def Ext (h h' : Heap) : Prop := ∀ b o, h.get? b = some o → h'.get? b = some o
theorem Ext.refl (h : Heap) : Ext h h := fun _ _ e => e
theorem Ext.trans {h h' h'' : Heap} (x : Ext h h') (y : Ext h' h'') : Ext h h'' := fun b o e => y b o (x b o e)
theorem Ext.push (h : Heap) (o : Obj) : Ext h (h.push o) := fun _ _ e => Heap.get?_push_of_some o e
theorem Ext.dom {h h' : Heap} (x : Ext h h') (a : Addr) (e : h'.get? a = none) : h.get? a = none := by
 cases q : h.get? a with
 | none => rfl
 | some o => rw [x a o q] at e; cases e
theorem TupKeeps.of_ext {h h' : Heap} (k : Ext h h') : TupKeeps h h' := fun a o its n e hc hd => ⟨o, k a o e, hc, hd⟩
theorem TupKeeps.of_sameBut {h h' : Heap} {a : Addr} (hs : Heap.SameBut a h h') (ha : ∀ o its n, h.get? a = some o → o.cls = .type "tuple" → o.data = .seq its n → False) : TupKeeps h h' := fun b o its n e hc hd =>
 ⟨o, (hs.2 b fun q => ha o its n (q ▸ e) hc hd).trans e, hc, hd⟩
theorem SOR.mono {as as' : List Addr} {h h' : Heap} (ha : as <+: as') (hk : TupKeeps h h') {so : SO} {a : Addr} (e : ∀ o, h.get? a = some o → h'.get? a = some o) (r : SOR as h so a) : SOR as' h' so a := by
 cases so with
 | list l =>
  refine un_2_2 (r) fun its n e1 r2 => ?_; (try clear r)
  exact ⟨its, n, e _ e1, VRs.mono ha hk _ _ r2⟩
 | iter l i =>
  refine un_1_2 (r) fun la e1 c13x => ?_; (try clear r); refine un_1_2 c13x fun o e2 r1 => ?_; clear c13x
  obtain ⟨t, rfl⟩ := ha
  exact ⟨la, by rw [List.getElem?_append_left (List.getElem?_eq_some_iff.mp e1).1]; exact e1, o, e o e2, r1⟩
 | dead =>
  refine un_1_2 (r) fun o e1 r1 => ?_; (try clear r)
  exact ⟨o, e o e1, r1⟩
theorem SlotR.mono {as as' : List Addr} {h h' : Heap} {m : Str → Option Value} (ha : as <+: as') (hk : TupKeeps h h') {x : Str} {c : Option Addr} {o : Option V}
  (hc : ∀ d, c = some d → ∀ ov, h.IsCell d ov → h'.IsCell d ov) (r : SlotR as h m x c o) : SlotR as' h' m x c o := by
 cases c with
 | none => exact fun v e => let ⟨y, e1, e2⟩ := r v e; ⟨y, e1, VR.mono ha hk _ _ e2⟩
 | some d => obtain ⟨ov, e1, e2⟩ := r; exact ⟨ov, hc d rfl ov e1, fun v e => let ⟨y, e3, e4⟩ := e2 v e; ⟨y, e3, VR.mono ha hk _ _ e4⟩⟩
theorem SlotsR.mono {as as' : List Addr} {h h' : Heap} {m : Str → Option Value} (ha : as <+: as') (hk : TupKeeps h h') : ∀ {sl : List (Str × Option Addr)} {loc : List (Option V)},
  (∀ x c, (x, some c) ∈ sl → ∀ ov, h.IsCell c ov → h'.IsCell c ov) → SlotsR as h m sl loc → SlotsR as' h' m sl loc
 | [], _, _, r => r
 | (x, c) :: sl, _, hc, r => by
  refine un_2_3 (r) fun o loc' e15x2 r1 r2 => ?_; (try clear r); subst e15x2
  exact ⟨o, loc', rfl, r1.mono ha hk fun d q => hc x d (by rw [← q]; exact .head _), SlotsR.mono ha hk (fun x c hm => hc x c (.tail _ hm)) r2⟩
theorem SlotsR.cell {as : List Addr} {h : Heap} {m : Str → Option Value} {x : Str} {c : Addr} : ∀ {sl : List (Str × Option Addr)} {loc : List (Option V)}, SlotsR as h m sl loc → (x, some c) ∈ sl → ∃ ov, h.IsCell c ov
 | [], _, _, hm => by cases hm
 | (_, _) :: _, _, r, hm => by
  refine un_2_3 (r) fun o loc' e16x2 r1 r2 => ?_; (try clear r); subst e16x2
  rcases List.mem_cons.mp hm with q | q
  ·cases q; obtain ⟨ov, e, _⟩ := r1; exact ⟨ov, e⟩
  ·exact r2.cell q
theorem FrsOk.ext {h0 h h' : Heap} {l : List Env} (r : FrsOk h0 h l) (k : Ext h h') : FrsOk h0 h' l := fun env he => by
 refine un_0_2 (r env he) fun hk c17x => ?_; refine un_4_4 c17x fun L o es ep e1 e2 e3 e4 => ?_; clear c17x
 exact ⟨hk, L, o, es, ep, e1, e2, k _ _ e3, e4⟩
theorem FrsOk.keeps {h0 h h' : Heap} {l : List Env} (r : FrsOk h0 h l) (k : ∀ b o es ep, h.get? b = some o → o.data = .dict es ep → ∃ o', h'.get? b = some o' ∧ ∃ es' ep', o'.data = .dict es' ep') : FrsOk h0 h' l := fun env he => by
 refine un_0_2 (r env he) fun hk c18x => ?_; refine un_4_4 c18x fun L o es ep e1 e2 e3 e4 => ?_; clear c18x
 refine un_1_2 (k L o es ep e3 e4) fun o' e5 c19x => ?_; refine un_2_1 c19x fun es' ep' e6 => ?_; clear c19x
 exact ⟨hk, L, o', es', ep', e1, e2, e5, e6⟩
section
variable {C : Cst} {Γ : Fm} {as : List Addr} {loc : List (Option V)} {sto : List SO} {s : Shared}
theorem RepG.ext (R : RepG C as sto s) {h' : Heap} {t : Nat} (k : Ext s.heap h') (ht : 0 < t) : RepG C as sto { s with heap := h', toks := t } where
 keep := fun b o e => k b o (R.keep b o e)
 len := R.len
 objs := fun i a so e1 e2 => (R.objs i a so e1 e2).mono List.prefix_rfl (.of_ext k) (fun o e => k a o e)
 nodup := R.nodup
 fresh := R.fresh
 gens := R.gens
 os := R.os
 toks := ht
theorem RepF.ext (R : RepF C Γ as loc sto s) {h' : Heap} {t : Nat} (k : Ext s.heap h') (ht : 0 < t) : RepF C Γ as loc sto { s with heap := h', toks := t } where
 g := R.g.ext k ht
 ok := R.ok
 ns := let ⟨m, n, r⟩ := R.ns; ⟨m, n.keeps k, r.mono List.prefix_rfl (.of_ext k) fun _ _ _ _ ⟨o, e, d⟩ => ⟨o, k _ _ e, d⟩⟩
 apart := R.apart
 plain := fun a h => let ⟨o, e, d⟩ := R.plain a h; ⟨o, k _ _ e, d⟩
 frs := R.frs.ext k
theorem Post.ext (R : RepF C Γ as loc sto s) {h' : Heap} {t : Nat} (k : Ext s.heap h') (ht : 0 < t) : Post C Γ as s as loc sto { s with heap := h', toks := t } where
 rep := R.ext k ht
 pre := List.prefix_rfl
 new := fun _ h => .inl h
 keeps := Keeps.of_ext k
 dom := k.dom
theorem Post.tok (R : RepF C Γ as loc sto s) {t : Nat} (ht : 0 < t) : Post C Γ as s as loc sto { s with toks := t } := Post.ext R (Ext.refl _) ht
theorem RepG.mem_lt (R : RepG C as sto s) {a : Addr} (h : a ∈ as) : ∃ o, s.heap.get? a = some o ∧ (o.cls = .type "list" ∨ o.cls = .type "list_iterator") := by
 obtain ⟨k, hk, e1⟩ := List.getElem_of_mem h
 have hk' : k < sto.length := by rw [← R.len]; exact hk
 have r := R.objs k a sto[k] (by rw [List.getElem?_eq_getElem hk, e1]) (by rw [List.getElem?_eq_getElem hk'])
 cases q : sto[k] with
 | list l => rw [q] at r; obtain ⟨its, n, e2, _⟩ := r; exact ⟨_, e2, .inl rfl⟩
 | iter l i => rw [q] at r; obtain ⟨la, _, o', e2, e3, _⟩ := r; exact ⟨o', e2, .inr e3⟩
 | dead => rw [q] at r; obtain ⟨o', e2, e3, _⟩ := r; exact ⟨o', e2, .inr e3⟩
theorem RepG.mem_nodict (R : RepG C as sto s) {a : Addr} (h : a ∈ as) {o : Obj} {es ep} (e : s.heap.get? a = some o) (hd : o.data = .dict es ep) : False := by
 obtain ⟨k, hk, e1⟩ := List.getElem_of_mem h
 have hk' : k < sto.length := by rw [← R.len]; exact hk
 have r := R.objs k a sto[k] (by rw [List.getElem?_eq_getElem hk, e1]) (by rw [List.getElem?_eq_getElem hk'])
 cases q : sto[k] with
 | list l => rw [q] at r; obtain ⟨its, n, e2, _⟩ := r; rw [e] at e2; cases e2; cases hd
 | iter l i => rw [q] at r; obtain ⟨la, _, o', e2, _, e3⟩ := r; rw [e] at e2; cases e2; rw [hd] at e3; cases e3
 | dead => rw [q] at r; obtain ⟨o', e2, _, vs, e3, _⟩ := r; rw [e] at e2; cases e2; rw [hd] at e3; cases e3
theorem RepG.big_not_mem (R : RepG C as sto s) {a : Addr} {o : Obj} {vs : Array Value} (e : s.heap.get? a = some o) (hd : o.data = .fields vs) (h2 : 2 < vs.size) : a ∉ as := fun h => by
 obtain ⟨k, hk, e1⟩ := List.getElem_of_mem h
 have hk' : k < sto.length := by rw [← R.len]; exact hk
 have r := R.objs k a sto[k] (by rw [List.getElem?_eq_getElem hk, e1]) (by rw [List.getElem?_eq_getElem hk'])
 cases q : sto[k] with
 | list l => rw [q] at r; obtain ⟨its, n, e2, _⟩ := r; rw [e] at e2; cases e2; cases hd
 | iter l i => rw [q] at r; obtain ⟨la, _, o', e2, _, e3⟩ := r; rw [e] at e2; cases e2; rw [hd] at e3; cases e3; exact absurd (show 2 < 2 from h2) (by decide)
 | dead => rw [q] at r; obtain ⟨o', e2, _, vs', e3, h3⟩ := r; rw [e] at e2; cases e2; rw [hd] at e3; cases e3; exact absurd h2 (Nat.not_lt.mpr h3)
theorem Post.alloc (R : RepF C Γ as loc sto s) {h' : Heap} {t : Nat} {a : Addr} {so : SO} (k : Ext s.heap h') (ht : 0 < t) (ha : s.heap.get? a = none) (hs : SOR (as ++ [a]) h' so a) :
  Post C Γ as s (as ++ [a]) loc (sto ++ [so]) { s with heap := h', toks := t } := by
 have hna : a ∉ as := fun q => by obtain ⟨o, e, _⟩ := R.g.mem_lt q; rw [ha] at e; cases e
 have h0 : C.h0.get? a = none := Ext.dom (fun b o e => R.g.keep b o e) a ha
 refine ⟨⟨⟨fun b o e => k b o (R.g.keep b o e), by rw [List.length_append, List.length_append, R.g.len]; rfl, fun i b so' e1 e2 => ?_, ?_, ?_, R.g.gens, R.g.os, ht⟩, R.ok, ?_, ?_, ?_, ?_⟩, List.prefix_append .., ?_, Keeps.of_ext k, k.dom, trivial⟩
 ·by_cases hi : i < as.length
  ·rw [List.getElem?_append_left hi] at e1
   rw [List.getElem?_append_left (by rw [← R.g.len]; exact hi)] at e2
   exact (R.g.objs i b so' e1 e2).mono (List.prefix_append ..) (.of_ext k) fun o e => k b o e
  ·have : i = as.length := by
    have := (List.getElem?_eq_some_iff.mp e1).1
    rw [List.length_append] at this
    simp at this; lia
   subst this
   rw [List.getElem?_append_right (Nat.le_refl _)] at e1
   rw [List.getElem?_append_right (by rw [R.g.len]; exact Nat.le_refl _)] at e2
   simp at e1; simp [R.g.len] at e2
   subst e1; subst e2; exact hs
 ·exact List.nodup_append.mpr ⟨R.g.nodup, by simp, fun x hx y hy q => by simp at hy; exact hna (hy ▸ q ▸ hx)⟩
 ·intro b hb
  rcases List.mem_append.mp hb with hb | hb
  ·exact R.g.fresh b hb
  ·simp at hb; subst hb; exact h0
 ·refine un_1_2 (R.ns) fun m n r => ?_
  exact ⟨m, n.keeps k, r.mono (List.prefix_append ..) (.of_ext k) fun _ _ _ _ ⟨o, e, d⟩ => ⟨o, k _ _ e, d⟩⟩
 ·intro b hb
  rcases List.mem_append.mp hb with hb | hb
  ·exact R.apart b hb
  ·simp at hb; subst hb
   refine ⟨fun q => ?_, fun x c hc q => ?_⟩
   ·obtain ⟨o, e, _⟩ := R.plain b q; rw [ha] at e; cases e
   ·subst q
    refine un_1_2 (R.ns) fun m _ r => ?_
    have := r.cell hc
    refine un_2_2 (this) fun ov o e _ => ?_; (try clear this)
    rw [ha] at e; cases e
 ·exact fun b h => let ⟨o, e, d⟩ := R.plain b h; ⟨o, k _ _ e, d⟩
 ·exact R.frs.ext k
 ·intro b hb
  rcases List.mem_append.mp hb with hb | hb
  ·exact .inl hb
  ·simp at hb; subst hb; exact .inr ha
theorem Post.upd (R : RepF C Γ as loc sto s) {h' : Heap} {t : Nat} {k : Nat} {a : Addr} {so : SO} (hk : as[k]? = some a) (hs : Heap.SameBut a s.heap h') (ht : 0 < t) (hr : ∀ (_ : TupKeeps s.heap h'), SOR as h' so a) :
  Post C Γ as s as loc (sto.set k so) { s with heap := h', toks := t } := by
 have hm : a ∈ as := List.mem_of_getElem? hk
 refine un_1_2 (R.g.mem_lt hm) fun oa ea ca => ?_
 have tk : TupKeeps s.heap h' := .of_sameBut hs fun o its n e hc hd => by
  rw [ea] at e; cases e; rcases ca with ca | ca <;> rw [hc] at ca <;> simp at ca
 have ap := R.apart a hm
 have ne : ∀ b, b ≠ a → ∀ o, s.heap.get? b = some o → h'.get? b = some o := fun b q o e => (hs.2 b q).trans e
 have h'a : ∃ o, h'.get? a = some o := by
  have := hr tk
  cases so with
  | list l => obtain ⟨its, n, e2, _⟩ := this; exact ⟨_, e2⟩
  | iter l i => obtain ⟨la, _, o', e2, _⟩ := this; exact ⟨o', e2⟩
  | dead => obtain ⟨o', e2, _⟩ := this; exact ⟨o', e2⟩
 refine ⟨⟨⟨fun b o e => ne b (fun q => ?_) o (R.g.keep b o e), by rw [List.length_set]; exact R.g.len, fun i b so' e1 e2 => ?_, R.g.nodup, R.g.fresh, R.g.gens, R.g.os, ht⟩, R.ok, ?_, R.apart, ?_, ?_⟩, List.prefix_rfl, fun _ h => .inl h, ?_, ?_, trivial⟩
 ·rw [q, R.g.fresh a hm] at e; cases e
 ·by_cases q : b = a
  ·have hi : i = k := by
    subst q
    have h1 := (List.getElem?_eq_some_iff.mp e1)
    have h2 := (List.getElem?_eq_some_iff.mp hk)
    exact (List.getElem_inj R.g.nodup (h₀ := h1.1) (h₁ := h2.1)).mp (h1.2.trans h2.2.symm)
   subst hi; subst q
   rw [List.getElem?_set_self (by rw [← R.g.len]; exact (List.getElem?_eq_some_iff.mp e1).1)] at e2
   cases e2; exact hr tk
  ·have hi : k ≠ i := fun z => q (by rw [z] at hk; rw [e1] at hk; exact Option.some.inj hk)
   rw [List.getElem?_set_ne hi] at e2
   exact (R.g.objs i b so' e1 e2).mono List.prefix_rfl tk fun o e => ne b q o e
 ·refine un_1_2 (R.ns) fun m n r => ?_
  refine ⟨m, n.sameBut hs fun q => ap.1 (q ▸ R.ok.loco), r.mono List.prefix_rfl tk fun x c hc ov ⟨o, e, d⟩ => ⟨o, ne c (fun q => ap.2 x c hc q.symm) o e, d⟩⟩
 ·intro b hb
  refine un_1_2 (R.plain b hb) fun o e d => ?_
  exact ⟨o, ne b (fun q => ap.1 (q ▸ hb)) o e, d⟩
 ·refine R.frs.keeps fun b o es ep e hd => ?_
  by_cases q : b = a
  ·subst q
   exact (R.g.mem_nodict hm e hd).elim
  ·exact ⟨o, ne b q o e, es, ep, hd⟩
 ·intro b o e hn
  exact .inl (ne b (fun q => hn (List.mem_append_right _ (q ▸ hm))) o e)
 ·intro b e
  by_cases q : b = a
  ·subst q; obtain ⟨o, e'⟩ := h'a; rw [e] at e'; cases e'
  ·rw [hs.2 b q] at e; exact e
end
end Mine
namespace Mine
open PySem PySem.W PyProof.Rows PySem.Calls
inductive Slot : List (Str × Option Addr) → List (Option V) → Str → V → Prop
 | zero {x : Str} {c : Option Addr} {sl : List (Str × Option Addr)} {v : V} {loc : List (Option V)} : Slot ((x, c) :: sl) (some v :: loc) x v
 | succ {p : Str × Option Addr} {o : Option V} {sl : List (Str × Option Addr)} {loc : List (Option V)} {x : Str} {v : V} : Slot sl loc x v → Slot (p :: sl) (o :: loc) x v
inductive SetSlot : List (Str × Option Addr) → List (Option V) → Str → V → List (Option V) → Prop
 | zero {x : Str} {c : Option Addr} {sl : List (Str × Option Addr)} {o : Option V} {v : V} {loc : List (Option V)} : SetSlot ((x, c) :: sl) (o :: loc) x v (some v :: loc)
 | succ {p : Str × Option Addr} {o : Option V} {sl : List (Str × Option Addr)} {loc loc' : List (Option V)} {x : Str} {v : V} : SetSlot sl loc x v loc' → SetSlot (p :: sl) (o :: loc) x v (o :: loc')
theorem Slot.z1 {p0 : Str × Option Addr} {o0 : Option V} {x : Str} {c : Option Addr} {sl : List (Str × Option Addr)} {v : V} {loc : List (Option V)} : Slot (p0 :: (x, c) :: sl) (o0 :: some v :: loc) x v := .succ .zero
theorem Slot.z2 {p0 p1 : Str × Option Addr} {o0 o1 : Option V} {x : Str} {c : Option Addr} {sl : List (Str × Option Addr)} {v : V} {loc : List (Option V)} : Slot (p0 :: p1 :: (x, c) :: sl) (o0 :: o1 :: some v :: loc) x v := .succ .z1
theorem Slot.z3 {p0 p1 p2 : Str × Option Addr} {o0 o1 o2 : Option V} {x : Str} {c : Option Addr} {sl : List (Str × Option Addr)} {v : V} {loc : List (Option V)} : Slot (p0 :: p1 :: p2 :: (x, c) :: sl) (o0 :: o1 :: o2 :: some v :: loc) x v := .succ .z2
theorem Slot.z4 {p0 p1 p2 p3 : Str × Option Addr} {o0 o1 o2 o3 : Option V} {x : Str} {c : Option Addr} {sl : List (Str × Option Addr)} {v : V} {loc : List (Option V)} : Slot (p0 :: p1 :: p2 :: p3 :: (x, c) :: sl) (o0 :: o1 :: o2 :: o3 :: some v :: loc) x v := .succ .z3
theorem Slot.z5 {p0 p1 p2 p3 p4 : Str × Option Addr} {o0 o1 o2 o3 o4 : Option V} {x : Str} {c : Option Addr} {sl : List (Str × Option Addr)} {v : V} {loc : List (Option V)} : Slot (p0 :: p1 :: p2 :: p3 :: p4 :: (x, c) :: sl) (o0 :: o1 :: o2 :: o3 :: o4 :: some v :: loc) x v := .succ .z4
theorem Slot.z6 {p0 p1 p2 p3 p4 p5 : Str × Option Addr} {o0 o1 o2 o3 o4 o5 : Option V} {x : Str} {c : Option Addr} {sl : List (Str × Option Addr)} {v : V} {loc : List (Option V)} : Slot (p0 :: p1 :: p2 :: p3 :: p4 :: p5 :: (x, c) :: sl) (o0 :: o1 :: o2 :: o3 :: o4 :: o5 :: some v :: loc) x v := .succ .z5
theorem Slot.z7 {p0 p1 p2 p3 p4 p5 p6 : Str × Option Addr} {o0 o1 o2 o3 o4 o5 o6 : Option V} {x : Str} {c : Option Addr} {sl : List (Str × Option Addr)} {v : V} {loc : List (Option V)} : Slot (p0 :: p1 :: p2 :: p3 :: p4 :: p5 :: p6 :: (x, c) :: sl) (o0 :: o1 :: o2 :: o3 :: o4 :: o5 :: o6 :: some v :: loc) x v := .succ .z6
theorem Slot.z8 {p0 p1 p2 p3 p4 p5 p6 p7 : Str × Option Addr} {o0 o1 o2 o3 o4 o5 o6 o7 : Option V} {x : Str} {c : Option Addr} {sl : List (Str × Option Addr)} {v : V} {loc : List (Option V)} : Slot (p0 :: p1 :: p2 :: p3 :: p4 :: p5 :: p6 :: p7 :: (x, c) :: sl) (o0 :: o1 :: o2 :: o3 :: o4 :: o5 :: o6 :: o7 :: some v :: loc) x v := .succ .z7
theorem Slot.z9 {p0 p1 p2 p3 p4 p5 p6 p7 p8 : Str × Option Addr} {o0 o1 o2 o3 o4 o5 o6 o7 o8 : Option V} {x : Str} {c : Option Addr} {sl : List (Str × Option Addr)} {v : V} {loc : List (Option V)} : Slot (p0 :: p1 :: p2 :: p3 :: p4 :: p5 :: p6 :: p7 :: p8 :: (x, c) :: sl) (o0 :: o1 :: o2 :: o3 :: o4 :: o5 :: o6 :: o7 :: o8 :: some v :: loc) x v := .succ .z8
theorem Slot.z10 {p0 p1 p2 p3 p4 p5 p6 p7 p8 p9 : Str × Option Addr} {o0 o1 o2 o3 o4 o5 o6 o7 o8 o9 : Option V} {x : Str} {c : Option Addr} {sl : List (Str × Option Addr)} {v : V} {loc : List (Option V)} : Slot (p0 :: p1 :: p2 :: p3 :: p4 :: p5 :: p6 :: p7 :: p8 :: p9 :: (x, c) :: sl) (o0 :: o1 :: o2 :: o3 :: o4 :: o5 :: o6 :: o7 :: o8 :: o9 :: some v :: loc) x v := .succ .z9
theorem SetSlot.z1 {p0 : Str × Option Addr} {o0 o : Option V} {x : Str} {c : Option Addr} {sl : List (Str × Option Addr)} {v : V} {loc : List (Option V)} : SetSlot (p0 :: (x, c) :: sl) (o0 :: o :: loc) x v (o0 :: some v :: loc) := .succ .zero
theorem SetSlot.z2 {p0 p1 : Str × Option Addr} {o0 o1 o : Option V} {x : Str} {c : Option Addr} {sl : List (Str × Option Addr)} {v : V} {loc : List (Option V)} : SetSlot (p0 :: p1 :: (x, c) :: sl) (o0 :: o1 :: o :: loc) x v (o0 :: o1 :: some v :: loc) := .succ .z1
theorem SetSlot.z3 {p0 p1 p2 : Str × Option Addr} {o0 o1 o2 o : Option V} {x : Str} {c : Option Addr} {sl : List (Str × Option Addr)} {v : V} {loc : List (Option V)} : SetSlot (p0 :: p1 :: p2 :: (x, c) :: sl) (o0 :: o1 :: o2 :: o :: loc) x v (o0 :: o1 :: o2 :: some v :: loc) := .succ .z2
theorem SetSlot.z4 {p0 p1 p2 p3 : Str × Option Addr} {o0 o1 o2 o3 o : Option V} {x : Str} {c : Option Addr} {sl : List (Str × Option Addr)} {v : V} {loc : List (Option V)} : SetSlot (p0 :: p1 :: p2 :: p3 :: (x, c) :: sl) (o0 :: o1 :: o2 :: o3 :: o :: loc) x v (o0 :: o1 :: o2 :: o3 :: some v :: loc) := .succ .z3
theorem SetSlot.z5 {p0 p1 p2 p3 p4 : Str × Option Addr} {o0 o1 o2 o3 o4 o : Option V} {x : Str} {c : Option Addr} {sl : List (Str × Option Addr)} {v : V} {loc : List (Option V)} : SetSlot (p0 :: p1 :: p2 :: p3 :: p4 :: (x, c) :: sl) (o0 :: o1 :: o2 :: o3 :: o4 :: o :: loc) x v (o0 :: o1 :: o2 :: o3 :: o4 :: some v :: loc) := .succ .z4
theorem SetSlot.z6 {p0 p1 p2 p3 p4 p5 : Str × Option Addr} {o0 o1 o2 o3 o4 o5 o : Option V} {x : Str} {c : Option Addr} {sl : List (Str × Option Addr)} {v : V} {loc : List (Option V)} : SetSlot (p0 :: p1 :: p2 :: p3 :: p4 :: p5 :: (x, c) :: sl) (o0 :: o1 :: o2 :: o3 :: o4 :: o5 :: o :: loc) x v (o0 :: o1 :: o2 :: o3 :: o4 :: o5 :: some v :: loc) := .succ .z5
theorem SetSlot.z7 {p0 p1 p2 p3 p4 p5 p6 : Str × Option Addr} {o0 o1 o2 o3 o4 o5 o6 o : Option V} {x : Str} {c : Option Addr} {sl : List (Str × Option Addr)} {v : V} {loc : List (Option V)} : SetSlot (p0 :: p1 :: p2 :: p3 :: p4 :: p5 :: p6 :: (x, c) :: sl) (o0 :: o1 :: o2 :: o3 :: o4 :: o5 :: o6 :: o :: loc) x v (o0 :: o1 :: o2 :: o3 :: o4 :: o5 :: o6 :: some v :: loc) := .succ .z6
theorem SetSlot.z8 {p0 p1 p2 p3 p4 p5 p6 p7 : Str × Option Addr} {o0 o1 o2 o3 o4 o5 o6 o7 o : Option V} {x : Str} {c : Option Addr} {sl : List (Str × Option Addr)} {v : V} {loc : List (Option V)} : SetSlot (p0 :: p1 :: p2 :: p3 :: p4 :: p5 :: p6 :: p7 :: (x, c) :: sl) (o0 :: o1 :: o2 :: o3 :: o4 :: o5 :: o6 :: o7 :: o :: loc) x v (o0 :: o1 :: o2 :: o3 :: o4 :: o5 :: o6 :: o7 :: some v :: loc) := .succ .z7
theorem SetSlot.z9 {p0 p1 p2 p3 p4 p5 p6 p7 p8 : Str × Option Addr} {o0 o1 o2 o3 o4 o5 o6 o7 o8 o : Option V} {x : Str} {c : Option Addr} {sl : List (Str × Option Addr)} {v : V} {loc : List (Option V)} : SetSlot (p0 :: p1 :: p2 :: p3 :: p4 :: p5 :: p6 :: p7 :: p8 :: (x, c) :: sl) (o0 :: o1 :: o2 :: o3 :: o4 :: o5 :: o6 :: o7 :: o8 :: o :: loc) x v (o0 :: o1 :: o2 :: o3 :: o4 :: o5 :: o6 :: o7 :: o8 :: some v :: loc) := .succ .z8
theorem SetSlot.z10 {p0 p1 p2 p3 p4 p5 p6 p7 p8 p9 : Str × Option Addr} {o0 o1 o2 o3 o4 o5 o6 o7 o8 o9 o : Option V} {x : Str} {c : Option Addr} {sl : List (Str × Option Addr)} {v : V} {loc : List (Option V)} : SetSlot (p0 :: p1 :: p2 :: p3 :: p4 :: p5 :: p6 :: p7 :: p8 :: p9 :: (x, c) :: sl) (o0 :: o1 :: o2 :: o3 :: o4 :: o5 :: o6 :: o7 :: o8 :: o9 :: o :: loc) x v (o0 :: o1 :: o2 :: o3 :: o4 :: o5 :: o6 :: o7 :: o8 :: o9 :: some v :: loc) := .succ .z9
theorem Slot.get {as : List Addr} {h : Heap} {m : Str → Option Value} {sl : List (Str × Option Addr)} {loc : List (Option V)} {x : Str} {v : V} (q : Slot sl loc x v) : SlotsR as h m sl loc →
  ∃ c, (x, c) ∈ sl ∧ SlotR as h m x c (some v) := by
 induction q with
 | zero => intro r; obtain ⟨o, loc', e, r1, _⟩ := r; cases e; exact ⟨_, .head _, r1⟩
 | succ _ ih => intro r; obtain ⟨o, loc', e, _, r2⟩ := r; cases e; obtain ⟨c, a, b⟩ := ih r2; exact ⟨c, .tail _ a, b⟩
theorem SetSlot.mem {sl : List (Str × Option Addr)} {loc loc' : List (Option V)} {x : Str} {v : V} (q : SetSlot sl loc x v loc') : ∃ c, (x, c) ∈ sl := by
 induction q with
 | zero => exact ⟨_, .head _⟩
 | succ _ ih => obtain ⟨c, a⟩ := ih; exact ⟨c, .tail _ a⟩
section
variable {C : Cst} {Γ : Fm} {as : List Addr} {loc loc' : List (Option V)} {sto : List SO} {s : Shared}
theorem vr_str {as : List Addr} {h : Heap} {x : Str} {t : Tok} : VR as h (.str x.cps.toList) (.str x t) := by
 unfold VR; exact ⟨t, by cases x; simp⟩
theorem vr_str' {as : List Addr} {h : Heap} {x : List Nat} {t : Tok} : VR as h (.str x) (.str ⟨x.toArray⟩ t) := by
 unfold VR; exact ⟨t, rfl⟩
theorem vr_int {as : List Addr} {h : Heap} {i : Int} {t : Tok} : VR as h (.int i) (.int i t) := by
 unfold VR; exact ⟨t, rfl⟩
theorem vr_bool {as : List Addr} {h : Heap} {b : Bool} : VR as h (.bool b) (.bool b) := by unfold VR; rfl
theorem vr_none {as : List Addr} {h : Heap} : VR as h .none .none := by unfold VR; rfl
noncomputable def RT' : List Addr → Heap → Bool → Value → Prop := fun _ _ b x => x = .bool b
theorem jW {as : List Addr} {h : Heap} {v : Value} : VR as h (.raw v) v := by unfold VR; rfl
theorem SlotR.dict {h h' : Heap} {L : Addr} {m : Str → Option Value} {x z : Str} {y : Value} {c : Option Addr} {o : Option V} (hs : Heap.SameBut L h h') (tk : TupKeeps h h') (hzx : z ≠ x) (hc : ∀ d, c = some d → d ≠ L) (r : SlotR as h m z c o) : SlotR as h' (fun z => if z = x then some y else m z) z c o := by
 cases c with
 | none => exact fun w e => let ⟨u, e1, e2⟩ := r w e; ⟨u, (if_neg hzx).trans e1, VR.mono List.prefix_rfl tk _ _ e2⟩
 | some d => obtain ⟨ov, e1, e2⟩ := r; exact ⟨ov, e1.sameBut hs (hc d rfl), fun w e => let ⟨u, e3, e4⟩ := e2 w e; ⟨u, e3, VR.mono List.prefix_rfl tk _ _ e4⟩⟩
theorem SlotsR.dict {h h' : Heap} {L : Addr} {m : Str → Option Value} {x : Str} {y : Value} (hs : Heap.SameBut L h h') (tk : TupKeeps h h') {sl : List (Str × Option Addr)} :
  ∀ {loc : List (Option V)}, x ∉ sl.map (·.1) → (∀ z d, (z, some d) ∈ sl → d ≠ L) → SlotsR as h m sl loc → SlotsR as h' (fun z => if z = x then some y else m z) sl loc := by
 induction sl with
 | nil => intro loc _ _ r; exact r
 | cons p sl ih =>
  intro loc hx hc r
  refine un_2_3 (r) fun o loc' e29x2 r1 r2 => ?_; (try clear r); subst e29x2
  exact ⟨o, loc', rfl, r1.dict hs tk (fun q => hx (by rw [List.map_cons, q]; exact .head _)) (fun d e => hc p.1 d (by rw [← e]; exact .head _)), ih (fun q => hx (by rw [List.map_cons]; exact .tail _ q)) (fun z d q => hc z d (.tail _ q)) r2⟩
theorem head_of {x : Str} {a b : Option Addr} {sl : List (Str × Option Addr)} (hn : x ∉ sl.map (·.1)) (hm : (x, a) ∈ (x, b) :: sl) : b = a := by
 rcases List.mem_cons.mp hm with q | q
 ·cases q; rfl
 ·exact absurd (List.mem_map_of_mem (f := (·.1)) q) hn
theorem tail_of {x : Str} {a : Option Addr} {p : Str × Option Addr} {sl : List (Str × Option Addr)} (hzx : p.1 ≠ x) (hm : (x, a) ∈ p :: sl) : (x, a) ∈ sl := by
 rcases List.mem_cons.mp hm with e | e
 ·rw [← e] at hzx; exact absurd rfl hzx
 ·exact e
theorem SetSlot.ne {p : Str × Option Addr} {x : Str} {v : V} {sl : List (Str × Option Addr)} {loc loc' : List (Option V)} (q : SetSlot sl loc x v loc') (hn : p.1 ∉ sl.map (·.1)) : p.1 ≠ x := fun e => by
 obtain ⟨cx, hxm⟩ := q.mem
 exact hn (by rw [e]; exact List.mem_map_of_mem (f := (·.1)) hxm)
theorem SetSlot.dict {h h' : Heap} {L : Addr} {m : Str → Option Value} {x : Str} {v : V} {y : Value} (hs : Heap.SameBut L h h') (tk : TupKeeps h h') (hv : VR as h' v y)
  {sl : List (Str × Option Addr)} {loc loc' : List (Option V)} (q : SetSlot sl loc x v loc') (hn : (sl.map (·.1)).Nodup) (hc : ∀ z d, (z, some d) ∈ sl → d ≠ L) (hm : (x, none) ∈ sl) (r : SlotsR as h m sl loc) :
   SlotsR as h' (fun z => if z = x then some y else m z) sl loc' := by
 induction q with
 | zero =>
  obtain ⟨o, loc', e, r1, r2⟩ := r; cases e
  have hn' := List.nodup_cons.mp hn
  obtain rfl := head_of hn'.1 hm
  exact ⟨_, _, rfl, fun w e => ⟨y, if_pos rfl, by cases e; exact hv⟩, r2.dict hs tk hn'.1 (fun z d q => hc z d (.tail _ q))⟩
 | succ q ih =>
  obtain ⟨o', loc', e, r1, r2⟩ := r; cases e
  have hn' := List.nodup_cons.mp hn
  have hzx := q.ne hn'.1
  exact ⟨_, _, rfl, r1.dict hs tk hzx (fun d e => hc _ d (by rw [← e]; exact .head _)), ih hv hn'.2 (fun z d q => hc z d (.tail _ q)) (tail_of hzx hm) r2⟩
theorem SetSlot.cellT {h h' : Heap} {cx : Addr} {m : Str → Option Value} {x : Str} {v : V} {y : Value} (hs : Heap.SameBut cx h h') (tk : TupKeeps h h') (hv : VR as h' v y) (hc' : h'.IsCell cx (some y))
  {sl : List (Str × Option Addr)} {loc loc' : List (Option V)} (q : SetSlot sl loc x v loc') (hn : (sl.map (·.1)).Nodup) (hd : (sl.filterMap (·.2)).Nodup) (hm : (x, some cx) ∈ sl) (r : SlotsR as h m sl loc) :
   SlotsR as h' m sl loc' := by
 induction q with
 | zero =>
  obtain ⟨o, loc', e, r1, r2⟩ := r; cases e
  have hn' := List.nodup_cons.mp hn
  obtain rfl := head_of hn'.1 hm
  rw [List.filterMap_cons] at hd
  have hd' := List.nodup_cons.mp hd
  exact ⟨_, _, rfl, ⟨some y, hc', fun w e => ⟨y, rfl, by cases e; exact hv⟩⟩, r2.mono List.prefix_rfl tk fun z d q ov e => e.sameBut hs fun w => hd'.1 (List.mem_filterMap.mpr ⟨(z, some d), q, by rw [w]⟩)⟩
 | @succ p o sl _ _ _ _ q ih =>
  obtain ⟨o', loc', e, r1, r2⟩ := r; cases e
  have hn' := List.nodup_cons.mp hn
  have hm' := tail_of (q.ne hn'.1) hm
  have hd2 : (sl.filterMap (·.2)).Nodup ∧ ∀ d, p.2 = some d → d ≠ cx := by
   rw [List.filterMap_cons] at hd
   cases e : p.2 with
   | none => rw [e] at hd; exact ⟨hd, fun d e => by cases e⟩
   | some d =>
    rw [e] at hd
    have hd' := List.nodup_cons.mp hd
    exact ⟨hd'.2, fun d' e w => hd'.1 (List.mem_filterMap.mpr ⟨(_, some cx), hm', by cases e; rw [← w]⟩)⟩
  exact ⟨_, _, rfl, r1.mono List.prefix_rfl tk fun d e ov k => k.sameBut hs (hd2.2 d e), ih hv hn'.2 hd2.1 hm' r2⟩
theorem Post.setNs (R : RepF C Γ as loc sto s) {h' : Heap} {t : Nat} (hn : ∃ m', h'.Ns Γ.env.locals m') (hs : Heap.SameBut Γ.env.locals s.heap h') (ht : 0 < t) (hr : TupKeeps s.heap h' → ∀ m, s.heap.Ns Γ.env.locals m → SlotsR as s.heap m Γ.sl loc → ∃ m', h'.Ns Γ.env.locals m' ∧ SlotsR as h' m' Γ.sl loc') :
  Post C Γ as s as loc' sto { s with heap := h', toks := t } := by
 refine un_1_2 (R.ns) fun m n r => ?_
 refine un_3_3 (id n) fun oL esL epL eL dL _ => ?_
 refine un_4_3 (hn) fun _ oL' esL' epL' eL' dL' _ => ?_; (try clear hn)
 have tk : TupKeeps s.heap h' := .of_sameBut hs fun o its n e hc hd => by rw [eL] at e; cases e; rw [dL] at hd; cases hd
 have ne : ∀ b, b ≠ Γ.env.locals → ∀ o, s.heap.get? b = some o → h'.get? b = some o := fun b q o e => (hs.2 b q).trans e
 have nas : ∀ a ∈ as, a ≠ Γ.env.locals := fun a ha e => (R.apart a ha).1 (e ▸ R.ok.loco)
 refine ⟨⟨⟨fun b o e => ne b (fun w => ?_) o (R.g.keep b o e), R.g.len, fun i b so' e1 e2 => ?_, R.g.nodup, R.g.fresh, R.g.gens, R.g.os, ht⟩, R.ok, hr tk m n r, R.apart, ?_, ?_⟩, List.prefix_rfl, fun _ h => .inl h, ?_, ?_, trivial⟩
 ·rw [w, R.ok.fresh _ R.ok.loco] at e; cases e
 ·exact (R.g.objs i b so' e1 e2).mono List.prefix_rfl tk fun o e => ne b (nas b (List.mem_of_getElem? e1)) o e
 ·intro b hb
  by_cases w : b = Γ.env.locals
  ·rw [w]; exact ⟨oL', eL', fun its n e => by rw [dL'] at e; cases e⟩
  ·obtain ⟨o, e, d⟩ := R.plain b hb; exact ⟨o, ne b w o e, d⟩
 ·refine R.frs.keeps fun b o es ep e hd => ?_
  by_cases w : b = Γ.env.locals
  ·rw [w]; exact ⟨oL', eL', esL', epL', dL'⟩
  ·exact ⟨o, ne b w o e, es, ep, hd⟩
 ·intro b o e hn
  exact .inl (ne b (fun w => hn (List.mem_append_left _ (w ▸ R.ok.loco))) o e)
 ·intro b e
  by_cases w : b = Γ.env.locals
  ·rw [w, eL'] at e; cases e
  ·rw [hs.2 b w] at e; exact e
theorem Post.setLoc (R : RepF C Γ as loc sto s) {h' : Heap} {t : Nat} {x : Str} {v : V} {y : Value} (q : SetSlot Γ.sl loc x v loc') (hm : (x, none) ∈ Γ.sl) (hv : VR as s.heap v y)
  (hn : ∀ m, s.heap.Ns Γ.env.locals m → h'.Ns Γ.env.locals (fun z => if z = x then some y else m z)) (hs : Heap.SameBut Γ.env.locals s.heap h') (ht : 0 < t) :
  Post C Γ as s as loc' sto { s with heap := h', toks := t } :=
 Post.setNs R (let ⟨m, n, _⟩ := R.ns; ⟨_, hn m n⟩) hs ht fun tk m n r => ⟨_, hn m n, q.dict hs tk (VR.mono List.prefix_rfl tk _ _ hv) R.ok.names (fun z d w => (R.ok.cell z d w).2.2) hm r⟩
theorem Post.setCell (R : RepF C Γ as loc sto s) {h' : Heap} {x : Str} {v : V} {y : Value} {c : Addr} (q : SetSlot Γ.sl loc x v loc') (hm : (x, some c) ∈ Γ.sl) (ho : c ∈ Γ.own) (hv : VR as s.heap v y)
  (hc : h'.IsCell c (some y)) (hs : Heap.SameBut c s.heap h') :
  Post C Γ as s as loc' sto { s with heap := h' } := by
 refine un_1_2 (R.ns) fun m n r => ?_
 refine un_2_2 (r.cell hm) fun ov oc eC dC => ?_
 refine un_1_2 (id hc) fun oc' eC' dC' => ?_
 have tk : TupKeeps s.heap h' := .of_sameBut hs fun o its n e hc hd => by rw [eC] at e; cases e; rw [dC] at hd; cases hd
 have ne : ∀ b, b ≠ c → ∀ o, s.heap.get? b = some o → h'.get? b = some o := fun b q o e => (hs.2 b q).trans e
 have nas : ∀ a ∈ as, a ≠ c := fun a ha e => (R.apart a ha).1 (e ▸ ho)
 have hcl := (R.ok.cell x c hm).2.2
 refine ⟨⟨⟨fun b o e => ne b (fun w => ?_) o (R.g.keep b o e), R.g.len, fun i b so' e1 e2 => ?_, R.g.nodup, R.g.fresh, R.g.gens, R.g.os, R.g.toks⟩, R.ok, ?_, R.apart, ?_, ?_⟩, List.prefix_rfl, fun _ h => .inl h, ?_, ?_, trivial⟩
 ·rw [w, R.ok.fresh _ ho] at e; cases e
 ·exact (R.g.objs i b so' e1 e2).mono List.prefix_rfl tk fun o e => ne b (nas b (List.mem_of_getElem? e1)) o e
 ·exact ⟨m, n.sameBut hs hcl.symm, q.cellT hs tk (VR.mono List.prefix_rfl tk _ _ hv) hc R.ok.names R.ok.cells hm r⟩
 ·intro b hb
  by_cases w : b = c
  ·rw [w]; exact ⟨oc', eC', fun its n e => by rw [dC'] at e; cases e⟩
  ·obtain ⟨o, e, d⟩ := R.plain b hb; exact ⟨o, ne b w o e, d⟩
 ·refine R.frs.keeps fun b o es ep e hd => ?_
  by_cases w : b = c
  ·rw [w, eC] at e; cases e; rw [dC] at hd; cases hd
  ·exact ⟨o, ne b w o e, es, ep, hd⟩
 ·intro b o e hn
  exact .inl (ne b (fun w => hn (List.mem_append_left _ (w ▸ ho))) o e)
 ·intro b e
  by_cases w : b = c
  ·rw [w, eC'] at e; cases e
  ·rw [hs.2 b w] at e; exact e
end
section
variable {C : Cst} {Γ : Fm} {loc loc' : List (Option V)} {sto : List SO} {Q : V → List (Option V) → List SO → Prop} {X : XV → List (Option V) → List SO → Prop}
theorem load_slot {x : Str} {v : V} {as : List Addr} {s : Shared} {P : Value → Shared → Prop} {E : Value → Shared → Prop} (R : RepF C Γ as loc sto s) (hs : Slot Γ.sl loc x v) (h : ∀ y, VR as s.heap v y → P y s) : wpAny (model C.prog C.w) Γ.A (loadName Γ.env x) P E s := by
 refine un_1_2 (R.ns) fun m n r => ?_
 refine un_1_2 (hs.get r) fun c hm r => ?_
 cases c with
 | none =>
  refine un_1_2 (r v rfl) fun y e1 e2 => ?_
  exact wpAny_loadName_local R.ok.kind (R.ok.loc x hm) n e1 (h y e2)
 | some c =>
  refine un_1_2 (r) fun ov e1 e2 => ?_; (try clear r)
  refine un_1_2 (e2 v rfl) fun y e40x1 e3 => ?_; subst e40x1
  refine un_0_3 (R.ok.cell x c hm) fun k1 k2 _ => ?_
  exact wpAny_loadName_cell R.ok.kind k1 k2 e1 (h y e3)
theorem jD {x : Str} {pos : Pos} {v : V} (hs : Slot Γ.sl loc x v) (h : Q v loc sto) (hd : (x == ("__debug__" : Str)) = false := by decide) : WE C Γ loc sto (.Name x pos) Q X := fun s as R =>
 wpAny_Name (load_slot R hs fun y r => ⟨as, loc, sto, v, Post.refl R, r, h⟩) hd
theorem we_glob {x : Str} {pos : Pos} {y : Value} {v : V} (hk : Γ.env.kindOf x = some .globalImplicit) (hv : C.mg x = some y) (hr : VR [] C.h0 v y) (h : Q v loc sto) (hd : (x == ("__debug__" : Str)) = false := by decide) :
  WE C Γ loc sto (.Name x pos) Q X := fun s as R =>
 Name_function_global R.ok.kind hk (loadGlobal_global (by rw [R.ok.glob]; exact C.g.keeps R.g.keep) hv ⟨as, loc, sto, v, Post.refl R, VR.mono (List.nil_prefix) (.of_ext R.g.keep) _ _ hr, h⟩) hd
theorem we_bltn {x : Str} {pos : Pos} {y : Value} (hk : Γ.env.kindOf x = some .globalImplicit) (hm : C.mg x = none) (hv : bootBuiltins x = some y) (h : Q (.raw y) loc sto) (hn : x ≠ "__name__" := by decide) (hd : (x == ("__debug__" : Str)) = false := by decide) :
  WE C Γ loc sto (.Name x pos) Q X := fun s as R =>
 Name_function_global R.ok.kind hk (loadGlobal_builtin (by rw [R.ok.glob]; exact C.g.keeps R.g.keep) hm (by rw [R.ok.bts]; exact C.b.keeps R.g.keep) ((C.bb x hn).trans hv) ⟨as, loc, sto, _, Post.refl R, jW, h⟩) hd
theorem jF {i : Int} {k : Nat} {pos : Pos} (h : Q (.int i) loc sto) : WE C Γ loc sto (.Constant (.int i) k pos) Q X := fun s as R =>
 wpAny_Constant_int ⟨as, loc, sto, _, Post.tok R (Nat.succ_pos _), vr_int, h⟩
theorem jQ {x : Str} {k : Nat} {pos : Pos} (h : Q (.str x.cps.toList) loc sto) : WE C Γ loc sto (.Constant (.str x) k pos) Q X := fun s as R => by
 show wpAny _ _ (mkText x) _ _ _
 exact wpAny_mkText ⟨as, loc, sto, _, Post.tok R (Nat.succ_pos _), vr_str, h⟩
theorem we_noneC {k : Nat} {pos : Pos} (h : Q .none loc sto) : WE C Γ loc sto (.Constant .none k pos) Q X := fun s as R =>
 wpAny_pure (a := Value.none) ⟨as, loc, sto, _, Post.refl R, vr_none, h⟩
@[reducible] def f1 {α : Type} (f : Value → Sem α) : List Value → Sem α
 | [x] => f x
 | _ => unsupported ""
@[reducible] def f2 {α : Type} (f : Value → Value → Sem α) : List Value → Sem α
 | [x, y] => f x y
 | _ => unsupported ""
@[reducible] def f3 {α : Type} (f : Value → Value → Value → Sem α) : List Value → Sem α
 | [x, y, z] => f x y z
 | _ => unsupported ""
theorem vrs1 {as : List Addr} {h : Heap} {a : V} {x : Value} (p : VR as h a x) : VRs as h [a] [x] := VRs.cons p VRs.nil
theorem vrs2 {as : List Addr} {h : Heap} {a b : V} {x y : Value} (p : VR as h a x) (q : VR as h b y) : VRs as h [a, b] [x, y] := VRs.cons p (vrs1 q)
theorem vrs3 {as : List Addr} {h : Heap} {a b c : V} {x y z : Value} (p : VR as h a x) (q : VR as h b y) (r : VR as h c z) : VRs as h [a, b, c] [x, y, z] := VRs.cons p (vrs2 q r)
theorem w_two {α β : Type} {l r : Expr} {f : Value → Value → Sem α} {R' : List Addr → Heap → β → α → Prop} {Q : β → List (Option V) → List SO → Prop} {t : Sem α}
  (ht : ∀ (s : Shared) (P : α → Shared → Prop) (E : Value → Shared → Prop), wpAny (model C.prog C.w) Γ.A (eval l Γ.env) (fun a s1 => wpAny (model C.prog C.w) Γ.A (eval r Γ.env) (fun b s2 => wpAny (model C.prog C.w) Γ.A (f a b) P E s2) E s1) E s → wpAny (model C.prog C.w) Γ.A t P E s)
  (h : WE C Γ loc sto l (fun a loc1 sto1 => WE C Γ loc1 sto1 r (fun b loc2 sto2 => WL C Γ loc2 sto2 (f2 f) [a, b] R' Q X) X) X) :
  W C Γ loc sto t R' Q X := fun s as R => by
 refine ht s _ _ (wpAny_mono (h s as R) ?_ fun _ _ h => h)
 rintro x s1 ⟨as1, loc1, sto1, a, P1, r1, q1⟩
 refine wpAny_mono (q1 s1 as1 P1.rep) ?_ ?_
 ·rintro y s2 ⟨as2, loc2, sto2, b, P2, r2, q2⟩
  refine wpAny_mono (q2 s2 as2 [x, y] P2.rep (vrs2 (P2.vr P1.rep r1) r2)) ?_ ?_
  ·rintro z s3 ⟨as3, loc3, sto3, c, P3, r3, q3⟩
   exact ⟨as3, loc3, sto3, c, P1.trans (P2.trans P3), r3, q3⟩
  ·rintro z s3 ⟨as3, loc3, sto3, c, P3, r3, q3⟩
   exact ⟨as3, loc3, sto3, c, P1.trans (P2.trans P3), r3, q3⟩
 ·rintro z s3 ⟨as3, loc3, sto3, c, P3, r3, q3⟩
  exact ⟨as3, loc3, sto3, c, P1.trans P3, r3, q3⟩
theorem we_binop {l r : Expr} {op : Operator} {pos : Pos}
  (h : WE C Γ loc sto l (fun a loc1 sto1 => WE C Γ loc1 sto1 r (fun b loc2 sto2 => WL C Γ loc2 sto2 (f2 (binaryOp op)) [a, b] VR Q X) X) X) : WE C Γ loc sto (.BinOp l op r pos) Q X :=
 w_two (fun s P E h => wpAny_BinOp h) h
theorem we_cmp {l r : Expr} {op : CmpOp} {pos : Pos} (hm : behindInMarks op r = false)
  (h : WE C Γ loc sto l (fun a loc1 sto1 => WE C Γ loc1 sto1 r (fun b loc2 sto2 => WL C Γ loc2 sto2 (f2 (compareOp op)) [a, b] VR Q X) X) X) : WE C Γ loc sto (.Compare l [op] [r] pos) Q X :=
 w_two (fun s P E h => wpAny_Compare1 h hm) h
theorem wt_cmp {l r : Expr} {op : CmpOp} {pos : Pos} {Q : Bool → List (Option V) → List SO → Prop} (hm : behindInMarks op r = false)
  (h : WE C Γ loc sto l (fun a loc1 sto1 => WE C Γ loc1 sto1 r (fun b loc2 sto2 => WL C Γ loc2 sto2 (f2 (compareOp op)) [a, b] RT' Q X) X) X) : WT C Γ loc sto (.Compare l [op] [r] pos) Q X := fun s as R => by
 refine wpAny_isTrue_Compare1 (wpAny_mono (h s as R) ?_ fun _ _ h => h) hm
 rintro x s1 ⟨as1, loc1, sto1, a, P1, r1, q1⟩
 refine wpAny_mono (q1 s1 as1 P1.rep) ?_ ?_
 ·rintro y s2 ⟨as2, loc2, sto2, b, P2, r2, q2⟩
  refine wpAny_mono (q2 s2 as2 [x, y] P2.rep (vrs2 (P2.vr P1.rep r1) r2)) ?_ ?_
  ·rintro z s3 ⟨as3, loc3, sto3, c, P3, r3, q3⟩
   rw [show z = .bool c from r3]
   exact wpAny_truthy_bool ⟨as3, loc3, sto3, c, P1.trans (P2.trans P3), rfl, q3⟩
  ·rintro z s3 ⟨as3, loc3, sto3, c, P3, r3, q3⟩
   exact ⟨as3, loc3, sto3, c, P1.trans (P2.trans P3), r3, q3⟩
 ·rintro z s3 ⟨as3, loc3, sto3, c, P3, r3, q3⟩
  exact ⟨as3, loc3, sto3, c, P1.trans P3, r3, q3⟩
theorem wl_rt {f : List Value → Sem Value} {args : List V} {Q : V → List (Option V) → List SO → Prop} (h : WL C Γ loc sto f args RT' (fun b => Q (.bool b)) X) : WL C Γ loc sto f args VR Q X := fun s as xs R r => by
 refine wpAny_mono (h s as xs R r) ?_ fun _ _ h => h
 rintro z s3 ⟨as3, loc3, sto3, c, P3, r3, q3⟩
 exact ⟨as3, loc3, sto3, .bool c, P3, by rw [show z = .bool c from r3]; exact vr_bool, q3⟩
theorem w_then {α β γ δ : Type} {m : Sem α} {k : α → Sem γ} {R : List Addr → Heap → β → α → Prop} {R' : List Addr → Heap → δ → γ → Prop} {t : Sem γ} {Q : δ → List (Option V) → List SO → Prop}
  (ht : ∀ (s : Shared) (P : γ → Shared → Prop) (E : Value → Shared → Prop), wpAny (model C.prog C.w) Γ.A m (fun a s1 => wpAny (model C.prog C.w) Γ.A (k a) P E s1) E s → wpAny (model C.prog C.w) Γ.A t P E s)
  (h : W C Γ loc sto m R (fun b loc1 sto1 => ∀ s as x, RepF C Γ as loc1 sto1 s → R as s.heap b x → wpAny (model C.prog C.w) Γ.A (k x)
   (OkP C Γ as s R' Q)
   (ErP C Γ as s X) s) X) : W C Γ loc sto t R' Q X := fun s as R0 => by
 refine ht s _ _ (wpAny_mono (h s as R0) ?_ fun _ _ h => h)
 rintro x s1 ⟨as1, loc1, sto1, b, P1, r1, q1⟩
 refine wpAny_mono (q1 s1 as1 x P1.rep r1) ?_ ?_
 ·rintro y s2 ⟨as2, loc2, sto2, c, P2, r2, q2⟩
  exact ⟨as2, loc2, sto2, c, P1.trans P2, r2, q2⟩
 ·rintro y s2 ⟨as2, loc2, sto2, c, P2, r2, q2⟩
  exact ⟨as2, loc2, sto2, c, P1.trans P2, r2, q2⟩
theorem wt_plain {e : Expr} {Q : Bool → List (Option V) → List SO → Prop} (he : ∀ env whole, isTrue e env whole = (do let v ← whole; standAt e.pos; holding [v] (truthy v)))
  (h : WE C Γ loc sto e (fun v loc1 sto1 => WL C Γ loc1 sto1 (f1 truthy) [v] RT Q X) X) : WT C Γ loc sto e Q X :=
 w_then (m := eval e Γ.env) (k := truthy) (fun s P E h => isTrue_plain h (he _ _)) (w_mono h (fun v l1 s1 q s as x R r => q s as [x] R (vrs1 r)) fun _ _ _ h => h)
theorem wt_not {e : Expr} {pos : Pos} {Q : Bool → List (Option V) → List SO → Prop} (h : WT C Γ loc sto e (fun b => Q (!b)) X) : WT C Γ loc sto (.UnaryOp .Not e pos) Q X := fun s as R => by
 refine isTrue_not (wpAny_mono (h s as R) ?_ fun _ _ h => h)
 rintro z s3 ⟨as3, loc3, sto3, c, P3, r3, q3⟩
 exact ⟨as3, loc3, sto3, _, P3, congrArg _ r3, q3⟩
theorem wt_and_nil {pos : Pos} {Q : Bool → List (Option V) → List SO → Prop} (h : Q true loc sto) : WT C Γ loc sto (.BoolOp .And [] pos) Q X := fun s as R => isTrue_and_nil ⟨as, loc, sto, true, Post.refl R, rfl, h⟩
theorem wt_or_nil {pos : Pos} {Q : Bool → List (Option V) → List SO → Prop} (h : Q false loc sto) : WT C Γ loc sto (.BoolOp .Or [] pos) Q X := fun s as R => isTrue_or_nil ⟨as, loc, sto, false, Post.refl R, rfl, h⟩
theorem wt_and {e : Expr} {rest : List Expr} {pos : Pos} {Q : Bool → List (Option V) → List SO → Prop}
  (h : WT C Γ loc sto e (fun b loc1 sto1 => match b with | true => WT C Γ loc1 sto1 (.BoolOp .And rest pos) Q X | false => Q false loc1 sto1) X) : WT C Γ loc sto (.BoolOp .And (e :: rest) pos) Q X := fun s as R => by
 refine isTrue_and (wpAny_mono (h s as R) ?_ fun _ _ h => h)
 rintro z s3 ⟨as3, loc3, sto3, c, P3, r3, q3⟩
 have : z = c := r3
 subst this
 cases z with
 | false => exact ⟨as3, loc3, sto3, _, P3, rfl, q3⟩
 | true =>
  refine wpAny_mono (q3 s3 as3 P3.rep) ?_ ?_
  ·rintro y s2 ⟨as2, loc2, sto2, c, P2, r2, q2⟩
   exact ⟨as2, loc2, sto2, c, P3.trans P2, r2, q2⟩
  ·rintro y s2 ⟨as2, loc2, sto2, c, P2, r2, q2⟩
   exact ⟨as2, loc2, sto2, c, P3.trans P2, r2, q2⟩
theorem wt_or {e : Expr} {rest : List Expr} {pos : Pos} {Q : Bool → List (Option V) → List SO → Prop}
  (h : WT C Γ loc sto e (fun b loc1 sto1 => match b with | false => WT C Γ loc1 sto1 (.BoolOp .Or rest pos) Q X | true => Q true loc1 sto1) X) : WT C Γ loc sto (.BoolOp .Or (e :: rest) pos) Q X := fun s as R => by
 refine isTrue_or (wpAny_mono (h s as R) ?_ fun _ _ h => h)
 rintro z s3 ⟨as3, loc3, sto3, c, P3, r3, q3⟩
 have : z = c := r3
 subst this
 cases z with
 | true => exact ⟨as3, loc3, sto3, _, P3, rfl, q3⟩
 | false =>
  refine wpAny_mono (q3 s3 as3 P3.rep) ?_ ?_
  ·rintro y s2 ⟨as2, loc2, sto2, c, P2, r2, q2⟩
   exact ⟨as2, loc2, sto2, c, P3.trans P2, r2, q2⟩
  ·rintro y s2 ⟨as2, loc2, sto2, c, P2, r2, q2⟩
   exact ⟨as2, loc2, sto2, c, P3.trans P2, r2, q2⟩
theorem w_ite {α β : Type} {m : Sem Bool} {a b t : Sem α} {R' : List Addr → Heap → β → α → Prop} {Q : β → List (Option V) → List SO → Prop}
  (ht : ∀ (s : Shared) (P : α → Shared → Prop) (E : Value → Shared → Prop), wpAny (model C.prog C.w) Γ.A m (fun c s1 => if c then wpAny (model C.prog C.w) Γ.A a P E s1 else wpAny (model C.prog C.w) Γ.A b P E s1) E s → wpAny (model C.prog C.w) Γ.A t P E s)
  (h : W C Γ loc sto m RT (fun c loc1 sto1 => match c with | true => W C Γ loc1 sto1 a R' Q X | false => W C Γ loc1 sto1 b R' Q X) X) : W C Γ loc sto t R' Q X := fun s as R => by
 refine ht s _ _ (wpAny_mono (h s as R) ?_ fun _ _ h => h)
 rintro z s3 ⟨as3, loc3, sto3, c, P3, r3, q3⟩
 have : z = c := r3
 subst this
 cases z with
 | true =>
  refine wpAny_mono (q3 s3 as3 P3.rep) ?_ ?_
  ·rintro y s2 ⟨as2, loc2, sto2, c, P2, r2, q2⟩
   exact ⟨as2, loc2, sto2, c, P3.trans P2, r2, q2⟩
  ·rintro y s2 ⟨as2, loc2, sto2, c, P2, r2, q2⟩
   exact ⟨as2, loc2, sto2, c, P3.trans P2, r2, q2⟩
 | false =>
  refine wpAny_mono (q3 s3 as3 P3.rep) ?_ ?_
  ·rintro y s2 ⟨as2, loc2, sto2, c, P2, r2, q2⟩
   exact ⟨as2, loc2, sto2, c, P3.trans P2, r2, q2⟩
  ·rintro y s2 ⟨as2, loc2, sto2, c, P2, r2, q2⟩
   exact ⟨as2, loc2, sto2, c, P3.trans P2, r2, q2⟩
theorem we_ifexp {test body orelse : Expr} {pos : Pos}
  (h : WT C Γ loc sto test (fun c loc1 sto1 => match c with | true => WE C Γ loc1 sto1 body Q X | false => WE C Γ loc1 sto1 orelse Q X) X) : WE C Γ loc sto (.IfExp test body orelse pos) Q X := by
 refine w_ite (fun s P E h => ?_) h
 show wpAny _ _ (do if ← isTrue test Γ.env (eval test Γ.env) then eval body Γ.env else eval orelse Γ.env) P E s
 refine wpAny_bind (wpAny_mono h (fun c s₂ h₂ => ?_) fun _ _ x => x)
 cases c <;> exact h₂
variable {QS : Out → List (Option V) → List SO → Prop}
theorem ws_nil (h : QS .next loc sto) : WS C Γ loc sto [] QS X := fun s as R => wpAny_execs_nil ⟨as, loc, sto, .next, Post.refl R, rfl, h⟩
theorem jG {st : Stmt} {rest : List Stmt} (h : W1 C Γ loc sto st (fun o loc1 sto1 => match o with | .next => WS C Γ loc1 sto1 rest QS X | o => QS o loc1 sto1) X) : WS C Γ loc sto (st :: rest) QS X := fun s as R => by
 rw [execs_cons]
 refine wpAny_bind (wpAny_mono (h s as R) ?_ fun _ _ h => h)
 rintro f s3 ⟨as3, loc3, sto3, o, P3, r3, q3⟩
 cases o with
 | next =>
  have : f = .next := r3
  subst this
  refine wpAny_mono (q3 s3 as3 P3.rep) ?_ ?_
  ·rintro y s2 ⟨as2, loc2, sto2, c, P2, r2, q2⟩
   exact ⟨as2, loc2, sto2, c, P3.trans P2, r2, q2⟩
  ·rintro y s2 ⟨as2, loc2, sto2, c, P2, r2, q2⟩
   exact ⟨as2, loc2, sto2, c, P3.trans P2, r2, q2⟩
 | brk => have : f = .brk := r3; subst this; exact wpAny_pure ⟨as3, loc3, sto3, .brk, P3, rfl, q3⟩
 | cont => have : f = .cont := r3; subst this; exact wpAny_pure ⟨as3, loc3, sto3, .cont, P3, rfl, q3⟩
 | ret v => obtain ⟨x, rfl, r4⟩ := r3; exact wpAny_pure ⟨as3, loc3, sto3, .ret v, P3, ⟨x, rfl, r4⟩, q3⟩
theorem jGA {test : Expr} {body orelse : List Stmt} {pos : Pos}
  (h : WT C Γ loc sto test (fun c loc1 sto1 => match c with | true => WS C Γ loc1 sto1 body QS X | false => WS C Γ loc1 sto1 orelse QS X) X) : W1 C Γ loc sto (.If test body orelse pos) QS X :=
 w_ite (fun s P E h => wpAny_If h) h
theorem w1_ret {e : Expr} {pos : Pos} (h : WE C Γ loc sto e (fun v => QS (.ret v)) X) : W1 C Γ loc sto (.Return (some e) pos) QS X := fun s as R => by
 refine wpAny_Return_some (wpAny_mono (h s as R) ?_ fun _ _ h => h)
 rintro f s3 ⟨as3, loc3, sto3, o, P3, r3, q3⟩
 exact ⟨as3, loc3, sto3, .ret o, P3, ⟨_, rfl, r3⟩, q3⟩
theorem w1_brk {pos : Pos} (h : QS .brk loc sto) : W1 C Γ loc sto (.Break pos) QS X := fun s as R => wpAny_bind (wpAny_standAt (wpAny_pure ⟨as, loc, sto, .brk, Post.refl R, rfl, h⟩))
theorem w1_cont {pos : Pos} (h : QS .cont loc sto) : W1 C Γ loc sto (.Continue pos) QS X := fun s as R => wpAny_bind (wpAny_standAt (wpAny_pure ⟨as, loc, sto, .cont, Post.refl R, rfl, h⟩))
theorem wl_store {x : Str} {v : V} {Q : Unit → List (Option V) → List SO → Prop} (q : SetSlot Γ.sl loc x v loc') (ho : ∀ c, (x, some c) ∈ Γ.sl → c ∈ Γ.own) (h : Q () loc' sto) : WL C Γ loc sto (f1 (storeName Γ.env x)) [v] RU Q X := fun s as xs R r => by
 obtain ⟨y, ys, rfl, r1, r2⟩ := (by unfold VRs at r; exact r : ∃ y ys, xs = y :: ys ∧ VR as s.heap v y ∧ VRs as s.heap [] ys)
 unfold VRs at r2; subst r2
 obtain ⟨c, hm⟩ := q.mem
 refine un_1_2 (R.ns) fun m n rr => ?_
 cases c with
 | none =>
  refine wpAny_storeName_local (R.ok.loc x hm) n (fun h' hn hs => ⟨as, loc', sto, (), Post.setLoc R (h' := h') (t := s.toks + 1) q hm r1 (fun m' n' => ?_) hs (Nat.succ_pos _), trivial, h⟩) (by rw [R.ok.kind]; rfl)
  refine un_3_4 (n) fun o1 es1 ep1 a1 a2 a3 a4 => ?_; (try clear n)
  refine un_3_4 (n') fun o2 es2 ep2 b1 b2 b3 b4 => ?_; (try clear n')
  rw [a1] at b1; cases b1; rw [a2] at b2; cases b2
  have : m = m' := funext fun z => (a4 z).symm.trans (b4 z)
  rw [← this]; exact hn
 | some c =>
  refine un_0_3 (R.ok.cell x c hm) fun k1 k2 _ => ?_
  obtain ⟨ov, hc⟩ := rr.cell hm
  exact wpAny_storeName_cell R.ok.kind k1 k2 hc fun h' hc' hs => ⟨as, loc', sto, (), Post.setCell R q hm (ho c hm) r1 hc' hs, trivial, h⟩
theorem w1_assign {x : Str} {e : Expr} {pos' pos : Pos} (hs : ∀ env, swapsWith e (some (.Name x pos')) pos.line env = pure false) (ho : ∀ c, (x, some c) ∈ Γ.sl → c ∈ Γ.own)
  (h : WE C Γ loc sto e (fun v loc1 sto1 => ∃ loc2, SetSlot Γ.sl loc1 x v loc2 ∧ QS .next loc2 sto1) X) : W1 C Γ loc sto (.Assign [.Name x pos'] e pos) QS X := fun s as R => by
 refine wpAny_Assign_Name (wpAny_mono (h s as R) ?_ fun _ _ h => h) (hs _)
 rintro z s3 ⟨as3, loc3, sto3, v, P3, r3, loc4, q3, q4⟩
 refine wpAny_mono (wl_store (C := C) (Γ := Γ) (X := X) (Q := fun _ l t => QS .next l t) q3 ho q4 s3 as3 [z] P3.rep (vrs1 r3)) ?_ ?_
 ·rintro y s2 ⟨as2, loc2, sto2, c, P2, r2, q2⟩
  exact ⟨as2, loc2, sto2, .next, P3.trans P2, rfl, q2⟩
 ·rintro y s2 ⟨as2, loc2, sto2, c, P2, r2, q2⟩
  exact ⟨as2, loc2, sto2, c, P3.trans P2, r2, q2⟩
theorem w1_aug {x : Str} {op : Operator} {e : Expr} {pos' pos : Pos} {v : V} (hv : Slot Γ.sl loc x v) (ho : ∀ c, (x, some c) ∈ Γ.sl → c ∈ Γ.own)
  (h : WE C Γ loc sto e (fun b loc1 sto1 => WL C Γ loc1 sto1 (f2 (inplaceOp op)) [v, b] VR (fun v loc1 sto1 => ∃ loc2, SetSlot Γ.sl loc1 x v loc2 ∧ QS .next loc2 sto1) X) X) : W1 C Γ loc sto (.AugAssign (.Name x pos') op e pos) QS X := fun s as R => by
 refine wpAny_AugAssign_Name (load_slot R hv fun x0 r0 => ?_)
 refine wpAny_mono (h s as R) ?_ fun _ _ h => h
 rintro x1 s1 ⟨as1, loc1, sto1, b, P1, r1, q1⟩
 refine wpAny_mono (q1 s1 as1 [x0, x1] P1.rep (vrs2 (P1.vr R r0) r1)) ?_ ?_
 ·rintro z s3 ⟨as3, loc3, sto3, w, P3, r3, loc4, q3, q4⟩
  refine wpAny_mono (wl_store (C := C) (Γ := Γ) (X := X) (Q := fun _ l t => QS .next l t) q3 ho q4 s3 as3 [z] P3.rep (vrs1 r3)) ?_ ?_
  ·rintro y s2 ⟨as2, loc2, sto2, c, P2, r2, q2⟩
   exact ⟨as2, loc2, sto2, .next, P1.trans (P3.trans P2), rfl, q2⟩
  ·rintro y s2 ⟨as2, loc2, sto2, c, P2, r2, q2⟩
   exact ⟨as2, loc2, sto2, c, P1.trans (P3.trans P2), r2, q2⟩
 ·rintro y s2 ⟨as2, loc2, sto2, c, P2, r2, q2⟩
  exact ⟨as2, loc2, sto2, c, P1.trans P2, r2, q2⟩
end
end Mine
namespace Mine
open PySem PySem.W PyProof.Rows PySem.Calls
section
variable {α β : Type} {C : Cst} {Γ : Fm} {loc loc' : List (Option V)} {sto : List SO} {Q : V → List (Option V) → List SO → Prop} {X : XV → List (Option V) → List SO → Prop}
theorem wl1 {f : Value → Sem α} {a : V} {R : List Addr → Heap → β → α → Prop} {Q : β → List (Option V) → List SO → Prop}
  (h : ∀ s as x, RepF C Γ as loc sto s → VR as s.heap a x → wpAny (model C.prog C.w) Γ.A (f x) (OkP C Γ as s R Q) (ErP C Γ as s X) s) : WL C Γ loc sto (f1 f) [a] R Q X := fun s as xs F r => by
 unfold VRs at r
 refine un_2_3 (r) fun y ys e84x2 r1 r2 => ?_; (try clear r); subst e84x2
 unfold VRs at r2; subst r2
 exact h s as y F r1
theorem wl2 {f : Value → Value → Sem α} {a b : V} {R : List Addr → Heap → β → α → Prop} {Q : β → List (Option V) → List SO → Prop}
  (h : ∀ s as x y, RepF C Γ as loc sto s → VR as s.heap a x → VR as s.heap b y → wpAny (model C.prog C.w) Γ.A (f x y) (OkP C Γ as s R Q) (ErP C Γ as s X) s) : WL C Γ loc sto (f2 f) [a, b] R Q X := fun s as xs F r => by
 unfold VRs at r
 obtain ⟨y, ys, rfl, r1, r2⟩ := r
 unfold VRs at r2
 obtain ⟨z, zs, rfl, r2, r3⟩ := r2
 unfold VRs at r3; subst r3
 exact h s as y z F r1 r2
theorem wl3 {f : Value → Value → Value → Sem α} {a b c : V} {R : List Addr → Heap → β → α → Prop} {Q : β → List (Option V) → List SO → Prop}
  (h : ∀ s as x y z, RepF C Γ as loc sto s → VR as s.heap a x → VR as s.heap b y → VR as s.heap c z → wpAny (model C.prog C.w) Γ.A (f x y z) (OkP C Γ as s R Q) (ErP C Γ as s X) s) : WL C Γ loc sto (f3 f) [a, b, c] R Q X := fun s as xs F r => by
 unfold VRs at r
 obtain ⟨y, ys, rfl, r1, r2⟩ := r
 unfold VRs at r2
 obtain ⟨z, zs, rfl, r2, r3⟩ := r2
 unfold VRs at r3
 obtain ⟨u, us, rfl, r3, r4⟩ := r3
 unfold VRs at r4; subst r4
 exact h s as y z u F r1 r2 r3
theorem jTA {as : List Addr} {h : Heap} {i : Int} {x : Value} (r : VR as h (.int i) x) : ∃ t, x = .int i t := by unfold VR at r; exact r
theorem jRA {as : List Addr} {h : Heap} {u : List Nat} {x : Value} (r : VR as h (.str u) x) : ∃ t, x = .str ⟨u.toArray⟩ t := by unfold VR at r; exact r
theorem jUA {as : List Addr} {h : Heap} {k : Nat} {x : Value} (r : VR as h (.lst k) x) : ∃ a, x = .ref a ∧ as[k]? = some a := by unfold VR at r; exact r
theorem vr_tup_inv {as : List Addr} {h : Heap} {l : List V} {x : Value} (r : VR as h (.tup l) x) : ∃ a its, x = .ref a ∧ IsTup h a its ∧ VRs as h l its.toList := by
 unfold VR at r; obtain ⟨a, o, its, n, e1, e2, e3, e4, e5⟩ := r; exact ⟨a, its, e1, ⟨o, e2, e3, n, e4⟩, e5⟩
theorem vr_tup {as : List Addr} {h : Heap} {l : List V} {a : Addr} {its : Array Value} (t : IsTup h a its) (r : VRs as h l its.toList) : VR as h (.tup l) (.ref a) := by
 unfold VR; obtain ⟨o, e2, e3, n, e4⟩ := t; exact ⟨a, o, its, n, rfl, e2, e3, e4, r⟩
theorem vr_lst {as : List Addr} {h : Heap} {k : Nat} {a : Addr} (e : as[k]? = some a) : VR as h (.lst k) (.ref a) := by unfold VR; exact ⟨a, rfl, e⟩
theorem jVA {as : List Addr} {h : Heap} {x : Value} (r : VR as h .none x) : x = .none := by unfold VR at r; exact r
theorem vr_bool_inv {as : List Addr} {h : Heap} {b : Bool} {x : Value} (r : VR as h (.bool b) x) : x = .bool b := by unfold VR at r; exact r
theorem jSA {as : List Addr} {h : Heap} {v : Value} {x : Value} (r : VR as h (.raw v) x) : x = v := by unfold VR at r; exact r
theorem wl_int2 {f : Value → Value → Sem Value} {i j k : Int} (h : Q (.int k) loc sto)
  (hf : ∀ (A : Around) (E : Value → Shared → Prop) (s : Shared) (t u : Tok) (P : Value → Shared → Prop), P (.int k s.toks) { s with toks := s.toks + 1 } → wpAny (model C.prog C.w) A (f (.int i t) (.int j u)) P E s) : WL C Γ loc sto (f2 f) [.int i, .int j] VR Q X :=
 wl2 fun s as x y F r1 r2 => by
  obtain ⟨t, rfl⟩ := jTA r1
  obtain ⟨u, rfl⟩ := jTA r2
  exact hf _ _ _ _ _ _ ⟨as, loc, sto, .int k, Post.tok F (Nat.succ_pos _), vr_int, h⟩
theorem wl_add {i j : Int} (h : Q (.int (i + j)) loc sto) : WL C Γ loc sto (f2 (binaryOp .Add)) [.int i, .int j] VR Q X := wl_int2 h fun A E s t u P h => PyProof.Rows.add_int h
theorem wl_sub {i j : Int} (h : Q (.int (i - j)) loc sto) : WL C Γ loc sto (f2 (binaryOp .Sub)) [.int i, .int j] VR Q X := wl_int2 h fun A E s t u P h => PyProof.Rows.sub_int h
theorem wl_mul {i j : Int} (hj : -(2 ^ 64) < j ∧ j < 2 ^ 64) (h : Q (.int (i * j)) loc sto) : WL C Γ loc sto (f2 (binaryOp .Mult)) [.int i, .int j] VR Q X :=
 wl_int2 h fun A E s t u P h => PyProof.Rows.mul_int h (IntMulOk.of_right (intBits_le_64 hj.1 hj.2))
theorem wl_fdiv {i j : Int} (hj : 0 < j ∧ j < 1073741824) (h : Q (.int (i.fdiv j)) loc sto) : WL C Γ loc sto (f2 (binaryOp .FloorDiv)) [.int i, .int j] VR Q X :=
 wl_int2 h fun A E s t u P h => PyProof.Rows.floordiv_int (by lia) h (Or.inl (PyProof.noPylong_small (by lia)))
theorem wl_mod {i j : Int} (hj : 0 < j) (h : Q (.int (i.fmod j)) loc sto) : WL C Γ loc sto (f2 (binaryOp .Mod)) [.int i, .int j] VR Q X :=
 wl_int2 h fun A E s t u P h => PyProof.Rows.mod_int (by lia) h
theorem wl_pow {i j : Int} (hi : -(2 ^ 64) < i ∧ i < 2 ^ 64) (hj : 0 ≤ j ∧ j ≤ 1000) (h : Q (.int (i ^ j.toNat)) loc sto) : WL C Γ loc sto (f2 (binaryOp .Pow)) [.int i, .int j] VR Q X :=
 wl_int2 h fun A E s t u P h => PyProof.Rows.pow_int hj.1 (by
  have h1 := intBits_le_64 hi.1 hi.2
  have h2 : (Builtin.Int.intBits i : Int) * j ≤ 64 * 1000 := by
   have : (Builtin.Int.intBits i : Int) ≤ 64 := by lia
   exact Int.mul_le_mul this hj.2 hj.1 (by decide)
  lia) h
theorem wl_rsh {i j : Int} (hj : 0 ≤ j) (h : Q (.int (i.fdiv (2 ^ j.toNat))) loc sto) : WL C Γ loc sto (f2 (binaryOp .RShift)) [.int i, .int j] VR Q X :=
 wl_int2 h fun A E s t u P h => PyProof.Rows.rshift_int hj h
theorem wl_band {i j : Int} (h : Q (.int (Builtin.bitAnd i j)) loc sto) : WL C Γ loc sto (f2 (binaryOp .BitAnd)) [.int i, .int j] VR Q X :=
 wl_int2 h fun A E s t u P h => PyProof.Rows.and_int h
theorem wl_iadd {i j : Int} (h : Q (.int (i + j)) loc sto) : WL C Γ loc sto (f2 (inplaceOp .Add)) [.int i, .int j] VR Q X := wl_int2 h fun A E s t u P h => PyProof.Rows.iadd_int h
theorem wl_isub {i j : Int} (h : Q (.int (i - j)) loc sto) : WL C Γ loc sto (f2 (inplaceOp .Sub)) [.int i, .int j] VR Q X := wl_int2 h fun A E s t u P h => PyProof.Rows.isub_int h
variable {QB : Bool → List (Option V) → List SO → Prop}
theorem wl_cmpI {f : Value → Value → Sem Value} {i j : Int} {b : Bool} (h : QB b loc sto)
  (hf : ∀ (A : Around) (E : Value → Shared → Prop) (s : Shared) (t u : Tok) (P : Value → Shared → Prop), P (.bool b) s → wpAny (model C.prog C.w) A (f (.int i t) (.int j u)) P E s) : WL C Γ loc sto (f2 f) [.int i, .int j] RT' QB X :=
 wl2 fun s as x y F r1 r2 => by
  obtain ⟨t, rfl⟩ := jTA r1
  obtain ⟨u, rfl⟩ := jTA r2
  exact hf _ _ _ _ _ _ ⟨as, loc, sto, b, Post.refl F, rfl, h⟩
theorem wl_eqI {i j : Int} (h : QB (i == j) loc sto) : WL C Γ loc sto (f2 (compareOp .Eq)) [.int i, .int j] RT' QB X := wl_cmpI h fun A E s t u P h => PyProof.Rows.eq_int h
theorem wl_neI {i j : Int} (h : QB (i != j) loc sto) : WL C Γ loc sto (f2 (compareOp .NotEq)) [.int i, .int j] RT' QB X := wl_cmpI h fun A E s t u P h => PyProof.Rows.ne_int h
theorem wl_ltI {i j : Int} (h : QB (decide (i < j)) loc sto) : WL C Γ loc sto (f2 (compareOp .Lt)) [.int i, .int j] RT' QB X := wl_cmpI h fun A E s t u P h => PyProof.Rows.lt_int h
theorem wl_gtI {i j : Int} (h : QB (decide (j < i)) loc sto) : WL C Γ loc sto (f2 (compareOp .Gt)) [.int i, .int j] RT' QB X := wl_cmpI h fun A E s t u P h => PyProof.Rows.gt_int h
theorem wl_geI {i j : Int} (h : QB (decide (j ≤ i)) loc sto) : WL C Γ loc sto (f2 (compareOp .GtE)) [.int i, .int j] RT' QB X := wl_cmpI h fun A E s t u P h => PyProof.Rows.ge_int h
theorem wl_cmpS {f : Value → Value → Sem Value} {i j : List Nat} {b : Bool} (h : QB b loc sto)
  (hf : ∀ (A : Around) (E : Value → Shared → Prop) (s : Shared) (t u : Tok) (P : Value → Shared → Prop), P (.bool b) s → wpAny (model C.prog C.w) A (f (.str ⟨i.toArray⟩ t) (.str ⟨j.toArray⟩ u)) P E s) : WL C Γ loc sto (f2 f) [.str i, .str j] RT' QB X :=
 wl2 fun s as x y F r1 r2 => by
  obtain ⟨t, rfl⟩ := jRA r1
  obtain ⟨u, rfl⟩ := jRA r2
  exact hf _ _ _ _ _ _ ⟨as, loc, sto, b, Post.refl F, rfl, h⟩
theorem wl_eqS {i j : List Nat} (h : QB (i == j) loc sto) : WL C Γ loc sto (f2 (compareOp .Eq)) [.str i, .str j] RT' QB X := wl_cmpS h fun A E s t u P h => PySem.P.eq_str (by simpa using h)
theorem wl_neS {i j : List Nat} (h : QB (i != j) loc sto) : WL C Γ loc sto (f2 (compareOp .NotEq)) [.str i, .str j] RT' QB X := wl_cmpS h fun A E s t u P h => PySem.P.ne_str (by simpa using h)
theorem wl_ltS {i j : List Nat} (h : QB (decide (i < j)) loc sto) : WL C Γ loc sto (f2 (compareOp .Lt)) [.str i, .str j] RT' QB X := wl_cmpS h fun A E s t u P h => PyProof.Rows.lt_str (by simpa using h)
theorem wl_gtS {i j : List Nat} (h : QB (decide (j < i)) loc sto) : WL C Γ loc sto (f2 (compareOp .Gt)) [.str i, .str j] RT' QB X := wl_cmpS h fun A E s t u P h => PySem.P.gt_str (by simpa using h)
theorem sizeLine16 : sizeLine = 16777216 := by decide
theorem str_len (x : List Nat) : (⟨x.toArray⟩ : Str).length = x.length := by simp [Str.length]
theorem str_app (x y : List Nat) : (⟨x.toArray⟩ ++ ⟨y.toArray⟩ : Str) = ⟨(x ++ y).toArray⟩ := by
 show Str.mk (x.toArray ++ y.toArray) = _
 simp
theorem add_any {prog : Program} {w : World} {A : Around} {E : Value → Shared → Prop} {s : Shared} {i j : List Nat} {t u : Tok} {P : Value → Shared → Prop} (hl : i.length + j.length ≤ 16777216) (h0 : 0 < s.toks)
  (h : ∀ tk n, 0 < n → P (.str ⟨(i ++ j).toArray⟩ tk) { s with toks := n }) : wpAny (model prog w) A (binaryOp .Add (.str ⟨i.toArray⟩ t) (.str ⟨j.toArray⟩ u)) P E s := by
 refine PySem.P.add_str ?_
 rw [str_len, str_len]
 by_cases h1 : i = []
 ·subst h1; simp only [List.length_nil, beq_self_eq_true, if_true]
  exact h u s.toks h0
 ·by_cases h2 : j = []
  ·subst h2
   have : (i.length == 0) = false := by simpa using h1
   rw [this]; simp only [List.length_nil, beq_self_eq_true, if_true]
   have := h t s.toks h0
   rwa [List.append_nil] at this
  ·have e1 : (i.length == 0) = false := by simpa using h1
   have e2 : (j.length == 0) = false := by simpa using h2
   rw [e1, e2, str_app]
   simp only [Bool.false_eq_true, if_false]
   exact ⟨by rw [str_len, sizeLine16, List.length_append]; exact hl, h _ _ (Nat.succ_pos _)⟩
theorem jNA {i j : List Nat} (hl : i.length + j.length ≤ 16777216) (h : Q (.str (i ++ j)) loc sto) : WL C Γ loc sto (f2 (binaryOp .Add)) [.str i, .str j] VR Q X :=
 wl2 fun s as x y F r1 r2 => by
  obtain ⟨t, rfl⟩ := jRA r1
  obtain ⟨u, rfl⟩ := jRA r2
  exact add_any hl F.g.toks fun tk n hn => ⟨as, loc, sto, _, Post.tok F hn, vr_str', h⟩
theorem repl_foldl (x : List Nat) : ∀ (n : Nat) (acc : List Nat), (List.replicate n x.toArray).foldl (· ++ ·) acc.toArray = (acc ++ (List.replicate n x).flatten).toArray
 | 0, acc => by simp
 | n + 1, acc => by
  rw [List.replicate_succ, List.foldl_cons, List.append_toArray, repl_foldl x n]
  simp [List.replicate_succ]
noncomputable def rep (x : List Nat) (n : Int) : List Nat := (List.replicate n.toNat x).flatten
theorem wl_mulS {x : List Nat} {n : Int} (hn : 0 ≤ n ∧ n ≤ 1000) (hl : x.length ≤ 1000) (h : Q (.str (rep x n)) loc sto) : WL C Γ loc sto (f2 (binaryOp .Mult)) [.str x, .int n] VR Q X :=
 wl2 fun s as y z F r1 r2 => by
  obtain ⟨t, rfl⟩ := jRA r1
  obtain ⟨u, rfl⟩ := jTA r2
  have hx : (x.length : Int) ≤ 1000 := by lia
  have hmul : x.length * n.toNat ≤ 1000 * 1000 := Nat.mul_le_mul hl (by lia)
  refine PySem.P.mul_str (by simp; lia) (fun _ _ => ?_) (fun _ _ => ?_) ?_
  ·rw [str_len]
   have h1 : (1000 : Int) ≤ (2 ^ 63 - 1) / n := by
    have h3 : 0 < n := by lia
    rw [Int.le_ediv_iff_mul_le h3]
    lia
   lia
  ·rw [str_len]
   unfold Builtin.Str.tooLong
   rw [decide_eq_false_iff_not]
   rw [sizeLine16]; lia
  ·rw [str_len]
   have hr : (⟨(List.replicate n.toNat (⟨x.toArray⟩ : Str).cps).foldl (· ++ ·) #[]⟩ : Str) = ⟨(rep x n).toArray⟩ := by
    have := repl_foldl x n.toNat []
    simp only [List.nil_append] at this
    show Str.mk (List.foldl (· ++ ·) #[] (List.replicate n.toNat x.toArray)) = _
    rw [this]; rfl
   have hlen : (rep x n).length = n.toNat * x.length := by
    unfold rep; simp
   by_cases h1 : n < 1
   ·rw [if_pos h1]
    have e : rep x n = [] := by unfold rep; rw [show n.toNat = 0 by lia]; rfl
    rw [e] at h
    exact ⟨by decide, as, loc, sto, _, Post.tok F (Nat.succ_pos _), vr_str' (x := []), h⟩
   ·rw [if_neg h1]
    by_cases h2 : (n == 1 || x.length == 0) = true
    ·rw [if_pos h2]
     have e : rep x n = x := by
      rw [Bool.or_eq_true] at h2
      rcases h2 with h2 | h2
      ·have : n = 1 := by simpa using h2
       subst this; unfold rep; simp
      ·have : x = [] := by simpa using h2
       subst this; unfold rep; simp
     rw [e] at h
     exact ⟨as, loc, sto, _, Post.refl F, vr_str', h⟩
    ·rw [if_neg h2, hr]
     refine ⟨by rw [str_len, hlen, sizeLine16]; rw [Nat.mul_comm]; lia, as, loc, sto, _, Post.tok F (Nat.succ_pos _), vr_str', h⟩
theorem wa_nil {pos : Pos} {Q : List V → List (Option V) → List SO → Prop} (h : Q [] loc sto) : W C Γ loc sto (spliced (backTo pos (starEach [] Γ.env))) VRs Q X := fun s as F =>
 spliced_nil ⟨as, loc, sto, [], Post.refl F, VRs.nil, h⟩
theorem wa_cons {e : Expr} {es : List Expr} {pos : Pos} {Q : List V → List (Option V) → List SO → Prop} (he : starEach (e :: es) Γ.env = (false, eval e Γ.env) :: starEach es Γ.env)
  (h : WE C Γ loc sto e (fun v loc1 sto1 => W C Γ loc1 sto1 (spliced (backTo pos (starEach es Γ.env))) VRs (fun vs => Q (v :: vs)) X) X) : W C Γ loc sto (spliced (backTo pos (starEach (e :: es) Γ.env))) VRs Q X := fun s as F => by
 rw [he]
 show wpAny _ _ (spliced ((false, eval e Γ.env) :: backTo pos (starEach es Γ.env))) _ _ _
 refine spliced_cons (wpAny_mono (h s as F) ?_ fun _ _ h => h)
 rintro x s1 ⟨as1, loc1, sto1, a, P1, r1, q1⟩
 refine wpAny_mono (q1 s1 as1 P1.rep) ?_ ?_
 ·rintro y s2 ⟨as2, loc2, sto2, b, P2, r2, q2⟩
  exact ⟨as2, loc2, sto2, a :: b, P1.trans P2, VRs.cons (P2.vr P1.rep r1) r2, q2⟩
 ·rintro y s2 ⟨as2, loc2, sto2, b, P2, r2, q2⟩
  exact ⟨as2, loc2, sto2, b, P1.trans P2, r2, q2⟩
noncomputable def Plain (es : List Expr) : Prop := ∀ (env : Env) (pos : Pos), (backTo pos (starEach es env)).any (·.1) = false
theorem args_of {f : Value} {es : List Expr} {pos : Pos} {env : Env} {M : Model} {A : Around} {E : Value → Shared → Prop} {s : Shared} {P : Args → Shared → Prop} (hp : Plain es)
  (h : wpAny M A (spliced (backTo pos (starEach es env))) (fun vs s' => P ⟨vs, []⟩ s') E s) : wpAny M A (evalArgs f true (backTo pos (starEach es env)) []) P E s := by
 have hp := hp env pos
 cases hx : backTo pos (starEach es env) with
 | nil =>
  rw [hx] at h
  unfold evalArgs
  show wpAny M A (spliced [] >>= _) P E s
  refine wpAny_bind (wpAny_mono h (fun vs s' h' => ?_) fun _ _ x => x)
  refine wpAny_bind (wpAny_pure ?_)
  refine wpAny_holding ?_
  exact wpAny_bind (wpAny_pure (wpAny_bind (wpAny_pure (wpAny_pure h'))))
 | cons p r =>
  obtain ⟨b, t⟩ := p
  rw [hx] at h hp
  have : b = false := by cases b with | false => rfl | true => simp at hp
  subst this
  exact evalArgs_plain h
theorem callWith_machine {M : Model} {A : Around} {E : Value → Shared → Prop} {s : Shared} {pos : Pos} {f : Value} {first : List Value} {args : List (Bool × Sem Value)} {Q : Value → Shared → Prop} (hplain : args.any (·.1) = false) (hf : keeperOf f = pure .machine)
  (h : wpAny M A (evalArgs f true args []) (fun a s₁ => wpAny M A (call f (first ++ a.pos) a.kw) Q E s₁) E s) :
  wpAny M A (callWith pos f first args []) Q E s := by
 unfold callWith
 refine wpAny_bind (wpAny_holding (wpAny_mono h (fun a s₁ h₁ => wpAny_bind (wpAny_standAt ?_)) fun _ _ x => x))
 simp only [hplain, List.any_nil, Bool.or_false, hf]
 refine wpAny_bind (wpAny_pure ?_)
 exact wpAny_bind (wpAny_mono h₁ (fun r s₂ hr => wpAny_bind (wpAny_holding (wpAny_point (wpAny_pure hr)))) fun _ _ x => x)
end
end Mine
namespace Mine
open PySem PySem.W PyProof.Rows PySem.Calls
section
variable {α β : Type} {C : Cst} {Γ : Fm} {loc loc' : List (Option V)} {sto : List SO} {Q : V → List (Option V) → List SO → Prop} {X : XV → List (Option V) → List SO → Prop}
theorem wpL {α β : Type} {s0 s : Shared} {as0 as : List Addr} {f : List Value → Sem α} {args : List V} {xs : List Value} {R : List Addr → Heap → β → α → Prop} {Q : β → List (Option V) → List SO → Prop} {loc0 : List (Option V)} {sto0 : List SO}
  (P : Post C Γ as0 s0 as loc sto s) (r : VRs as s.heap args xs) (h : WL C Γ loc sto f args R Q X) : wpAny (model C.prog C.w) Γ.A (f xs) (OkP C Γ as0 s0 R Q) (ErP C Γ as0 s0 X) s := by
 refine wpAny_mono (h s as xs P.rep r) ?_ ?_
 ·rintro y s2 ⟨as2, loc2, sto2, b, P2, r2, q2⟩
  exact ⟨as2, loc2, sto2, b, P.trans P2, r2, q2⟩
 ·rintro y s2 ⟨as2, loc2, sto2, b, P2, r2, q2⟩
  exact ⟨as2, loc2, sto2, b, P.trans P2, r2, q2⟩
theorem alloc_tup {s : Shared} {as : List Addr} {vs : List V} {xs : List Value} {P : Value → Shared → Prop} (F : RepF C Γ as loc sto s) (r : VRs as s.heap vs xs) :
  Post C Γ as s as loc sto { s with heap := s.heap.push { cls := .type "tuple", data := .seq xs.toArray } } ∧ VR as (s.heap.push { cls := .type "tuple", data := .seq xs.toArray }) (.tup vs) (.ref s.heap.objs.size) :=
 ⟨Post.ext (t := s.toks) F (Ext.push _ _) F.g.toks, vr_tup ⟨_, Heap.get?_push_size _ rfl, rfl, 0, rfl⟩ (VRs.mono List.prefix_rfl (.of_ext (Ext.push _ _)) _ _ (by simpa using r))⟩
theorem get_size_none (h : Heap) : h.get? h.objs.size = none := by
 cases q : h.get? h.objs.size with
 | none => rfl
 | some o => exact absurd (Heap.lt_size q) (Nat.lt_irrefl _)
theorem alloc_lst {s : Shared} {as : List Addr} {vs : List V} {xs : List Value} (F : RepF C Γ as loc sto s) (r : VRs as s.heap vs xs) :
  Post C Γ as s (as ++ [s.heap.objs.size]) loc (sto ++ [.list vs]) { s with heap := s.heap.push { cls := .type "list", data := .seq xs.toArray } } ∧ VR (as ++ [s.heap.objs.size]) (s.heap.push { cls := .type "list", data := .seq xs.toArray }) (.lst sto.length) (.ref s.heap.objs.size) := by
 refine ⟨Post.alloc (t := s.toks) F (Ext.push _ _) F.g.toks (get_size_none _) ⟨xs.toArray, 0, Heap.get?_push_size _ rfl, VRs.mono (List.prefix_append ..) (.of_ext (Ext.push _ _)) _ _ (by simpa using r)⟩, vr_lst ?_⟩
 rw [← F.g.len, List.getElem?_append_right (Nat.le_refl _)]; simp
theorem we_tuple {es : List Expr} {k : Nat} {pos : Pos} (h : W C Γ loc sto (spliced (backTo pos (starEach es Γ.env))) VRs (fun vs l t => vs.length ≤ 1000 ∧ Q (.tup vs) l t) X) : WE C Γ loc sto (.Tuple es k pos) Q X := fun s as F => by
 refine PyProof.Rows.Tuple_ (wpAny_mono (h s as F) ?_ fun _ _ h => h)
 rintro xs s1 ⟨as1, loc1, sto1, vs, P1, r1, hl, q1⟩
 obtain ⟨p2, v2⟩ := alloc_tup (P := fun _ _ => True) P1.rep r1
 exact wpAny_newTuple ⟨as1, loc1, sto1, _, P1.trans p2, v2, q1⟩ (by rw [sizeLine16, r1.length]; lia)
theorem we_list {es : List Expr} {pos : Pos} (h : W C Γ loc sto (spliced (backTo pos (starEach es Γ.env))) VRs (fun vs l t => vs.length ≤ 1000 ∧ Q (.lst t.length) l (t ++ [.list vs])) X) : WE C Γ loc sto (.List es pos) Q X := fun s as F => by
 refine PyProof.Rows.List_ (wpAny_mono (h s as F) ?_ fun _ _ h => h)
 rintro xs s1 ⟨as1, loc1, sto1, vs, P1, r1, hl, q1⟩
 obtain ⟨p2, v2⟩ := alloc_lst P1.rep r1
 exact wpAny_newList ⟨_, loc1, _, _, P1.trans p2, v2, q1⟩ (by rw [sizeLine16, r1.length]; lia)
noncomputable def callF (y : Value) : List Value → Sem Value := fun xs => call y xs
theorem we_call_m {x : Str} {p pos : Pos} {es : List Expr} {y : Value} (hp : Plain es) (hf : keeperOf y = pure .machine)
  (h : WE C Γ loc sto (.Name x p) (fun v l t => v = .raw y ∧ W C Γ l t (spliced (backTo pos (starEach es Γ.env))) VRs (fun vs l t => WL C Γ l t (callF y) vs VR Q X) X) X) : WE C Γ loc sto (.Call (.Name x p) es [] pos) Q X := fun s as F => by
 refine wpAny_Call_Name_kw (wpAny_mono (h s as F) ?_ fun _ _ h => h)
 rintro f s1 ⟨as1, loc1, sto1, v, P1, r1, rfl, q1⟩
 obtain rfl := jSA r1
 refine callWith_machine (hp _ _) hf (args_of hp (wpAny_mono (q1 s1 as1 P1.rep) ?_ ?_))
 ·rintro xs s2 ⟨as2, loc2, sto2, vs, P2, r2, q2⟩
  exact wpL (f := callF f) (loc0 := loc) (sto0 := sto) (P1.trans P2) r2 q2
 ·rintro y s2 ⟨as2, loc2, sto2, b, P2, r2, q2⟩
  exact ⟨as2, loc2, sto2, b, P1.trans P2, r2, q2⟩
theorem we_call_f {x : Str} {p pos : Pos} {es : List Expr} {a : Addr} {o : Obj} {fd : FuncData} (hp : Plain es) (ho : C.h0.get? a = some o) (hd : o.data = .func fd)
  (h : WE C Γ loc sto (.Name x p) (fun v l t => v = .raw (.ref a) ∧ W C Γ l t (spliced (backTo pos (starEach es Γ.env))) VRs (fun vs l t => WL C Γ l t (callF (.ref a)) vs VR Q X) X) X) : WE C Γ loc sto (.Call (.Name x p) es [] pos) Q X := fun s as F => by
 refine wpAny_Call_Name_kw (wpAny_mono (h s as F) ?_ fun _ _ h => h)
 rintro f s1 ⟨as1, loc1, sto1, v, P1, r1, rfl, q1⟩
 obtain rfl := jSA r1
 refine callWith_function (o := o) (fd := fd) (args_of hp (wpAny_mono (q1 s1 as1 P1.rep) ?_ ?_))
 ·rintro xs s2 ⟨as2, loc2, sto2, vs, P2, r2, q2⟩
  exact ⟨⟨P2.rep.g.keep _ _ ho, hd⟩, wpL (f := callF (.ref a)) (loc0 := loc) (sto0 := sto) (P1.trans P2) r2 q2⟩
 ·rintro y s2 ⟨as2, loc2, sto2, b, P2, r2, q2⟩
  exact ⟨as2, loc2, sto2, b, P1.trans P2, r2, q2⟩
noncomputable def Base (o : Expr) (name : Str) : Prop := ∀ env, attributeBase o name env (eval o env) = eval o env
theorem jDA {o : Expr} {name : Str} {apos pos : Pos} {es : List Expr} {T id : String} (hp : Plain es) (hb : Base o name) (hn : es.length < 30) (hline : (apos.endLine == pos.line) = true)
  (pa : PlainAttrs T) (sl : PySem.Slot T name id) (ty : typeOf (.builtin id) = pure (.type "method_descriptor"))
  (h : WE C Γ loc sto o (fun v l t => (∀ as s x, RepF C Γ as l t s → VR as s.heap v x → s.TypeIs x T ∧ ∀ a, x = .ref a → ∃ ob, s.heap.get? a = some ob ∧ ob.dict = none) ∧
   W C Γ l t (spliced (backTo pos (starEach es Γ.env))) VRs (fun vs l t => WL C Γ l t (callF (.builtin id)) (v :: vs) VR Q X) X) X) : WE C Γ loc sto (.Call (.Attribute o name apos) es [] pos) Q X := fun s as F => by
 refine wpAny_Call_method_lateS (hb _) ?_ hline (wpAny_mono (h s as F) ?_ fun _ _ h => h)
 ·have h1 := hp Γ.env pos
  have h2 : (backTo pos (starEach es Γ.env)).all (fun x => !x.1) = true := by
   rw [List.all_eq_true]; intro x hx
   rw [List.any_eq_false] at h1
   have := h1 x hx
   simpa using this
  rw [h2]
  simp only [backToKw, show keywordEach [] Γ.env = [] from rfl, List.map_nil, List.all_nil, Bool.and_true, Bool.true_and, List.length_nil, Nat.add_zero, List.isEmpty_nil, if_true, decide_eq_true_eq]
  exact hn
 ·rintro ov s1 ⟨as1, loc1, sto1, v, P1, r1, hT, q1⟩
  obtain ⟨t1, t2⟩ := hT as1 s1 ov P1.rep r1
  refine ⟨T, id, pa, sl, ty, t1, t2, callWith_builtin (hp _ _) (args_of hp (wpAny_mono (q1 s1 as1 P1.rep) ?_ ?_))⟩
  ·rintro xs s2 ⟨as2, loc2, sto2, vs, P2, r2, q2⟩
   exact wpL (f := callF (.builtin id)) (xs := ov :: xs) (loc0 := loc) (sto0 := sto) (P1.trans P2) (VRs.cons (P2.vr P1.rep r1) r2) q2
  ·rintro y s2 ⟨as2, loc2, sto2, b, P2, r2, q2⟩
   exact ⟨as2, loc2, sto2, b, P1.trans P2, r2, q2⟩
theorem typeIs_S {as : List Addr} {s : Shared} {x : Value} {u : List Nat} {l : List (Option V)} {t : List SO} (F : RepF C Γ as l t s) (r : VR as s.heap (.str u) x) : s.TypeIs x "str" ∧ ∀ a, x = .ref a → ∃ ob, s.heap.get? a = some ob ∧ ob.dict = none := by
 obtain ⟨t, rfl⟩ := jRA r
 exact ⟨typeIs_str _ _ _, fun a e => nomatch e⟩
theorem lst_at {as : List Addr} {s : Shared} {x : Value} {k : Nat} {items : List V} {l : List (Option V)} {t : List SO} (F : RepF C Γ as l t s) (r : VR as s.heap (.lst k) x) (hk : t[k]? = some (.list items)) :
  ∃ a its n, x = .ref a ∧ as[k]? = some a ∧ s.heap.get? a = some { cls := .type "list", data := .seq its n } ∧ VRs as s.heap items its.toList := by
 refine un_1_2 (jUA r) fun a e106x1 e => ?_; subst e106x1
 refine un_2_2 (F.g.objs k a _ e hk) fun its n e1 e2 => ?_
 exact ⟨a, its, n, rfl, e, e1, e2⟩
theorem jBA {k : Nat} {items : List V} {v : V} (hk : sto[k]? = some (.list items)) (hl : items.length ≤ 10000) (h : Q .none loc (sto.set k (.list (items ++ [v])))) : WL C Γ loc sto (callF (.builtin "list.append")) [.lst k, v] VR Q X := fun s as xs F r => by
 unfold VRs at r
 obtain ⟨y, ys, rfl, r1, r2⟩ := r
 unfold VRs at r2
 obtain ⟨z, zs, rfl, r2, r3⟩ := r2
 unfold VRs at r3; subst r3
 obtain ⟨a, its, n, rfl, ea, e, ri⟩ := lst_at F r1 hk
 have hsz := ri.length
 refine append_at e (fun h' hs e' => ⟨as, loc, _, .none, Post.upd (t := s.toks) (so := .list (items ++ [v])) F ea hs F.g.toks (fun tk => ⟨_, _, e', ?_⟩), vr_none, h⟩) (by rw [sizeLine16]; simp at hsz; lia)
 rw [Array.toList_push]
 exact VRs.append (VRs.mono List.prefix_rfl tk _ _ ri) (vrs1 (VR.mono List.prefix_rfl tk _ _ r2))
theorem wl_pop {k : Nat} {items : List V} {v : V} (hk : sto[k]? = some (.list (items ++ [v]))) (hl : items.length ≤ 10000) (h : Q v loc (sto.set k (.list items))) : WL C Γ loc sto (callF (.builtin "list.pop")) [.lst k] VR Q X := fun s as xs F r => by
 unfold VRs at r
 refine un_2_3 (r) fun y ys e111x2 r1 r2 => ?_; (try clear r); subst e111x2
 unfold VRs at r2; subst r2
 refine un_3_4 (lst_at F r1 hk) fun a its n e112x3 ea e ri => ?_; subst e112x3
 have hsz := ri.length
 simp only [Array.length_toList, List.length_append, List.length_cons, List.length_nil] at hsz
 obtain ⟨x, ex, rx⟩ := ri.get (i := items.length) (v := v) (by rw [List.getElem?_append_right (Nat.le_refl _)]; simp)
 refine PyProof.Rows.Copied.pop_at e (y := x) (by rw [← Array.getElem?_toList]; rw [show its.size - 1 = items.length by lia]; exact ex) (fun h' hs e' => ?_) (by rw [sizeLine16]; lia)
 have tk : TupKeeps s.heap h' := .of_sameBut hs fun o its n e1 hc hd => by rw [e] at e1; cases e1; simp at hc
 refine ⟨as, loc, _, v, Post.upd (t := s.toks) (so := .list items) F ea hs F.g.toks (fun tk => ⟨_, _, e', ?_⟩), VR.mono List.prefix_rfl tk _ _ rx, h⟩
 have h1 := VRs.take items.length ri
 rw [List.take_left] at h1
 rw [Array.toList_pop, List.dropLast_eq_take, Array.length_toList, show its.size - 1 = items.length by lia]
 exact VRs.mono List.prefix_rfl tk _ _ h1
end
end Mine
namespace Mine
open PySem PySem.W PyProof.Rows PySem.Calls
section
variable {α β : Type} {C : Cst} {Γ : Fm} {loc loc' : List (Option V)} {sto : List SO} {Q : V → List (Option V) → List SO → Prop} {X : XV → List (Option V) → List SO → Prop}
theorem we_sub {value slice : Expr} {pos : Pos} (h : WE C Γ loc sto value (fun a loc1 sto1 => WE C Γ loc1 sto1 slice (fun b loc2 sto2 => WL C Γ loc2 sto2 (f2 (subscriptTail value slice)) [a, b] VR Q X) X) X) : WE C Γ loc sto (.Subscript value slice pos) Q X :=
 w_two (fun s P E h => Subscript_ h) h
noncomputable def NoSlice (slice : Expr) : Prop := ∀ o i : Value, subscripted slice false o i = operate [o, i] (getItem o i)
theorem jKA {value slice : Expr} {k : Nat} {items : List V} {i : Int} {v : V} (hs : NoSlice slice) (hk : sto[k]? = some (.list items)) (h0 : 0 ≤ i) (hi : i < 2 ^ 62) (hv : items[i.toNat]? = some v) (h : Q v loc sto) :
  WL C Γ loc sto (f2 (subscriptTail value slice)) [.lst k, .int i] VR Q X := wl2 fun s as x y F r1 r2 => by
 refine un_3_4 (lst_at F r1 hk) fun a its n e113x3 ea e ri => ?_; subst e113x3
 obtain ⟨t, rfl⟩ := jTA r2
 refine un_1_2 (ri.get hv) fun x ex rx => ?_
 have hL : s.heap.IsList a its := ⟨_, e, rfl, n, rfl⟩
 exact tail_any hL.typeIs slot_list_getitem.lookup (wpAny_getItem_list hL h0 (by lia) (by rw [← Array.getElem?_toList]; exact ex) ⟨as, loc, sto, v, Post.refl F, rx, h⟩) (hs _ _)
theorem wl_getT {value slice : Expr} {items : List V} {i : Int} {v : V} (hs : NoSlice slice) (h0 : 0 ≤ i) (hi : i < 2 ^ 62) (hv : items[i.toNat]? = some v) (h : Q v loc sto) :
  WL C Γ loc sto (f2 (subscriptTail value slice)) [.tup items, .int i] VR Q X := wl2 fun s as x y F r1 r2 => by
 refine un_2_3 (vr_tup_inv r1) fun a its e115x2 ht ri => ?_; subst e115x2
 obtain ⟨t, rfl⟩ := jTA r2
 refine un_1_2 (ri.get hv) fun x ex rx => ?_
 have hlt := (List.getElem?_eq_some_iff.mp ex).1
 refine tail_any ht.typeIs slot_tuple_getitem.lookup (PyProof.Rows.getItem_tuple (j := i.toNat) ht (by lia) (by lia) ?_ (by rw [← Array.getElem?_toList]; exact ex) ⟨as, loc, sto, v, Post.refl F, rx, h⟩) (hs _ _)
 unfold seqIndex?
 rw [Array.length_toList] at hlt
 have h1 : ¬ i < 0 := by lia
 simp [h1]; lia
theorem seqIndex_nn {i : Int} {n : Nat} (h0 : 0 ≤ i) (h : i.toNat < n) : seqIndex? i n = some i.toNat := by
 unfold seqIndex?
 have h1 : ¬ i < 0 := by lia
 simp [h1]; lia
theorem wl_getS {value slice : Expr} {u : List Nat} {i : Int} {c : Nat} (hs : NoSlice slice) (h0 : 0 ≤ i) (hi : i < 2 ^ 62) (hv : u[i.toNat]? = some c) (h : Q (.str [c]) loc sto) :
  WL C Γ loc sto (f2 (subscriptTail value slice)) [.str u, .int i] VR Q X := wl2 fun s as x y F r1 r2 => by
 obtain ⟨t, rfl⟩ := jRA r1
 obtain ⟨t', rfl⟩ := jTA r2
 have hlt := (List.getElem?_eq_some_iff.mp hv).1
 refine tail_any (typeIs_str _ _ _) PySem.F.slot_str_getitem.lookup (P.getItem_str (c := c) (by simp; lia) ?_ ⟨as, loc, sto, _, Post.tok ‹_› (Nat.succ_pos _), vr_str' (x := [c]), h⟩) (hs _ _)
 rw [seqIndex_nn h0 (by rw [str_len]; exact hlt)]
 simpa using hv
noncomputable abbrev WO (C : Cst) (Γ : Fm) (loc : List (Option V)) (sto : List SO) (e : Option Expr) (Q : V → List (Option V) → List SO → Prop) (X : XV → List (Option V) → List SO → Prop) : Prop :=
 W C Γ loc sto (valueOrNone (evalOpt e Γ.env)) VR Q X
theorem wo_none (h : Q .none loc sto) : WO C Γ loc sto none Q X := fun s as F => wpAny_pure (a := Value.none) ⟨as, loc, sto, .none, Post.refl F, vr_none, h⟩
theorem wo_some {e : Expr} (h : WE C Γ loc sto e Q X) : WO C Γ loc sto (some e) Q X := h
noncomputable def WSl (C : Cst) (Γ : Fm) (loc : List (Option V)) (sto : List SO) (value slice : Expr) (a l u k : V) (Q : V → List (Option V) → List SO → Prop) (X : XV → List (Option V) → List SO → Prop) : Prop :=
 ∀ s as x y z v sl, RepF C Γ as loc sto s → VR as s.heap a x → VR as s.heap l y → VR as s.heap u z → VR as s.heap k v → s.heap.IsSliceOf sl y z v →
  wpAny (model C.prog C.w) Γ.A (subscriptTail value slice x (.ref sl)) (OkP C Γ as s VR Q) (ErP C Γ as s X) s
theorem we_sub_slice {value : Expr} {lower upper step : Option Expr} {p pos : Pos}
  (h : WE C Γ loc sto value (fun a loc1 sto1 => WO C Γ loc1 sto1 lower (fun l loc2 sto2 => WO C Γ loc2 sto2 upper (fun u loc3 sto3 => WO C Γ loc3 sto3 step (fun k loc4 sto4 => WSl C Γ loc4 sto4 value (.Slice lower upper step p) a l u k Q X) X) X) X) X) :
  WE C Γ loc sto (.Subscript value (.Slice lower upper step p) pos) Q X := fun s as F => by
 refine Subscript_ (wpAny_mono (h s as F) ?_ fun _ _ h => h)
 rintro x s1 ⟨as1, loc1, sto1, a, P1, r1, q1⟩
 show wpAny _ _ (do
  let l ← valueOrNone (evalOpt lower Γ.env)
  let u ← holding [l] (valueOrNone (evalOpt upper Γ.env))
  let s ← holding [l, u] (valueOrNone (evalOpt step Γ.env))
  newFields "slice" [l, u, s]) _ _ _
 refine wpAny_bind (wpAny_mono (q1 s1 as1 P1.rep) ?_ ?_)
 ·rintro y s2 ⟨as2, loc2, sto2, l, P2, r2, q2⟩
  refine wpAny_bind (wpAny_holding (wpAny_mono (q2 s2 as2 P2.rep) ?_ ?_))
  ·rintro z s3 ⟨as3, loc3, sto3, u, P3, r3, q3⟩
   refine wpAny_bind (wpAny_holding (wpAny_mono (q3 s3 as3 P3.rep) ?_ ?_))
   ·rintro v s4 ⟨as4, loc4, sto4, k, P4, r4, q4⟩
    have P := P1.trans (P2.trans (P3.trans P4))
    unfold newFields
    refine wpAny_newObj_type ?_ (by size_fits)
    have P5 := Post.ext (t := s4.toks) P4.rep (Ext.push s4.heap { cls := .type "slice", data := .fields #[y, z, v] }) P4.rep.g.toks
    have r1' := P5.vr P4.rep (P4.vr P3.rep (P3.vr P2.rep (P2.vr P1.rep r1)))
    have r2' := P5.vr P4.rep (P4.vr P3.rep (P3.vr P2.rep r2))
    have r3' := P5.vr P4.rep (P4.vr P3.rep r3)
    refine wpAny_mono (q4 _ as4 x y z v s4.heap.objs.size P5.rep r1' r2' r3' (P5.vr P4.rep r4) (Heap.IsSliceOf.new _ _ _ _)) ?_ ?_
    ·rintro y s2 ⟨as2, loc2, sto2, b, P6, r6, q6⟩
     exact ⟨as2, loc2, sto2, b, P.trans (P5.trans P6), r6, q6⟩
    ·rintro y s2 ⟨as2, loc2, sto2, b, P6, r6, q6⟩
     exact ⟨as2, loc2, sto2, b, P.trans (P5.trans P6), r6, q6⟩
   ·rintro v s4 ⟨as4, loc4, sto4, k, P4, r4, q4⟩
    exact ⟨as4, loc4, sto4, k, P1.trans (P2.trans (P3.trans P4)), r4, q4⟩
  ·rintro z s3 ⟨as3, loc3, sto3, u, P3, r3, q3⟩
   exact ⟨as3, loc3, sto3, u, P1.trans (P2.trans P3), r3, q3⟩
 ·rintro z s3 ⟨as3, loc3, sto3, u, P3, r3, q3⟩
  exact ⟨as3, loc3, sto3, u, P1.trans P3, r3, q3⟩
inductive VPart : V → Option Int → Prop
 | none : VPart .none none
 | int (i : Int) : VPart (.int i) (some i)
noncomputable def slc {α : Type} (x : List α) (l u : Option Int) : List α := (x.drop (l.elim 0 (clipAt x.length))).take (u.elim x.length (clipAt x.length) - l.elim 0 (clipAt x.length))
theorem str_picks (x : List Nat) (l u : Option Int) : (Builtin.Str.strSliceIndices l u 1 x.length).filterMap (x.toArray[·]?) = slc x l u := by
 have e : Builtin.Str.strSliceIndices l u 1 x.length = sliceRange (sliceBounds l u none x.length).1 (sliceBounds l u none x.length).2.1 (sliceBounds l u none x.length).2.2 := by
  cases l <;> cases u <;> rfl
 rw [e, sliceBounds_plain]
 simp only [sliceRange_one, pick_run]
 rfl
theorem slc_full {x : List Nat} {l u : Option Int} (h : (Builtin.Str.strSliceIndices l u 1 x.length).length = x.length) : slc x l u = x := by
 have e : Builtin.Str.strSliceIndices l u 1 x.length = sliceRange (sliceBounds l u none x.length).1 (sliceBounds l u none x.length).2.1 (sliceBounds l u none x.length).2.2 := by
  cases l <;> cases u <;> rfl
 rw [e, sliceBounds_plain] at h
 simp only [sliceRange_one, List.length_map, List.length_range] at h
 have ha : ∀ (i : Option Int) (d : Nat), d ≤ x.length → i.elim d (clipAt x.length) ≤ x.length := fun i d hd => by
  cases i with
  | none => exact hd
  | some i => show clipAt x.length i ≤ _; unfold clipAt; exact Int.toNat_le.mpr (Int.max_le.mpr ⟨Int.natCast_nonneg _, Int.min_le_right _ _⟩)
 have h1 := ha u x.length (Nat.le_refl _)
 have h2 : l.elim 0 (clipAt x.length) = 0 ∨ x.length = 0 := by lia
 unfold slc
 rcases h2 with h2 | h2
 ·rw [h2, List.drop_zero, List.take_of_length_le (by lia)]
 ·have : x = [] := List.length_eq_zero_iff.mp h2
  subst this; simp
theorem slc_le {α : Type} (x : List α) (l u : Option Int) : (slc x l u).length ≤ x.length := by
 unfold slc; rw [List.length_take, List.length_drop]; exact Nat.le_trans (Nat.min_le_right _ _) (Nat.sub_le _ _)
noncomputable def NoSlice2 (lower upper : Option Expr) (step : Option Expr) (p : Pos) : Prop := ∀ o i : Value, ∃ ops, subscripted (.Slice lower upper step p) false o i = operate ops (getItem o i)
theorem noSlice2 {lower upper step : Option Expr} {p : Pos} : NoSlice2 lower upper step p := fun o i => by cases step <;> exact ⟨_, rfl⟩
theorem wsl_str {value : Expr} {lower upper step : Option Expr} {p : Pos} {x : List Nat} {l u : V} {lo hi : Option Int} (pl : VPart l lo) (pu : VPart u hi) (hl : x.length ≤ 16777216) (h : Q (.str (slc x lo hi)) loc sto) :
  WSl C Γ loc sto value (.Slice lower upper step p) (.str x) l u .none Q X := fun s as x' y z v sl F r1 r2 r3 r4 hs => by
 obtain ⟨t, rfl⟩ := jRA r1
 obtain rfl := jVA r4
 obtain ⟨ly, e1, e2⟩ : ∃ ly : Option (Int × Tok), y = partValue ly ∧ ly.map (·.1) = lo := by
  cases pl with
  | none => exact ⟨none, jVA r2, rfl⟩
  | int i => obtain ⟨t, e⟩ := jTA r2; exact ⟨some (i, t), e, rfl⟩
 obtain ⟨uy, e3, e4⟩ : ∃ ly : Option (Int × Tok), z = partValue ly ∧ ly.map (·.1) = hi := by
  cases pu with
  | none => exact ⟨none, jVA r3, rfl⟩
  | int i => obtain ⟨t, e⟩ := jTA r3; exact ⟨some (i, t), e, rfl⟩
 subst e1; subst e3; subst e2; subst e4
 obtain ⟨ops, ho⟩ := noSlice2 (lower := lower) (upper := upper) (step := step) (p := p) (.str ⟨x.toArray⟩ t) (.ref sl)
 refine tail_any (typeIs_str _ _ _) PySem.F.slot_str_getitem.lookup (wpAny_getItem_str_slice (l := ly) (u := uy) (st := none) hs rfl ?_) ho
 unfold sliceMade slicePicked
 simp only [Option.map_none, Option.getD_none, beq_self_eq_true, Bool.true_and, str_len]
 by_cases hf : ((Builtin.Str.strSliceIndices (ly.map (·.1)) (uy.map (·.1)) 1 x.length).length == x.length) = true
 ·rw [if_pos hf]
  rw [slc_full (by simpa using hf)] at h
  exact ⟨as, loc, sto, _, Post.refl F, vr_str', h⟩
 ·rw [if_neg hf, str_picks]
  exact ⟨by rw [str_len, sizeLine16]; exact Nat.le_trans (slc_le _ _ _) hl, as, loc, sto, _, Post.tok F (Nat.succ_pos _), vr_str', h⟩
theorem VRs.slc {as : List Addr} {h : Heap} {l : List V} {xs : List Value} {lo hi : Option Int} (r : VRs as h l xs) : VRs as h (Mine.slc l lo hi) (Mine.slc xs lo hi) := by
 unfold Mine.slc
 rw [r.length]
 exact VRs.take _ (VRs.drop _ r)
theorem wsl_of {value : Expr} {lower upper step : Option Expr} {p : Pos} {x l u : V} {items : List V} {lo hi : Option Int} (hk : ∀ s as y, RepF C Γ as loc sto s → VR as s.heap x y → ∃ a its, y = .ref a ∧ s.heap.IsList a its ∧ VRs as s.heap items its.toList) (pl : VPart l lo) (pu : VPart u hi) (hl : items.length ≤ 100000) (h : Q (.lst sto.length) loc (sto ++ [.list (slc items lo hi)])) :
  WSl C Γ loc sto value (.Slice lower upper step p) x l u .none Q X := fun s as x' y z v sl F r1 r2 r3 r4 hs => by
 refine un_2_3 (hk s as x' F r1) fun a its e126x2 hL ri => ?_; subst e126x2
 obtain rfl := jVA r4
 have p1 : IsPart y lo := by
  cases pl with
  | none => rw [jVA r2]; exact .none
  | int i => obtain ⟨t, e⟩ := jTA r2; rw [e]; exact .int i t
 have p2 : IsPart z hi := by
  cases pu with
  | none => rw [jVA r3]; exact .none
  | int i => obtain ⟨t, e⟩ := jTA r3; rw [e]; exact .int i t
 obtain ⟨ops, ho⟩ := noSlice2 (lower := lower) (upper := upper) (step := step) (p := p) (.ref a) (.ref sl)
 have hsz := ri.length
 rw [Array.length_toList] at hsz
 refine tail_any hL.typeIs slot_list_getitem.lookup (wpAny_getItem_list_slice hL hs p1 p2 .none (by simp) ?_ (by rw [sizeLine16]; lia)) ho
 have e5 : slicePick its lo hi none = (slc its.toList lo hi).toArray := by
  rw [slicePick_plain]; unfold slc; rw [Array.length_toList]
 rw [e5]
 obtain ⟨p5, v5⟩ := alloc_lst F (VRs.slc (lo := lo) (hi := hi) ri)
 exact ⟨_, loc, _, _, p5, v5, h⟩
theorem jOA {value : Expr} {lower upper step : Option Expr} {p : Pos} {k : Nat} {items : List V} {l u : V} {lo hi : Option Int} (hk : sto[k]? = some (.list items)) (pl : VPart l lo) (pu : VPart u hi) (hl : items.length ≤ 100000) (h : Q (.lst sto.length) loc (sto ++ [.list (slc items lo hi)])) :
  WSl C Γ loc sto value (.Slice lower upper step p) (.lst k) l u .none Q X :=
 wsl_of (fun s as y F r => let ⟨a, its, n, e1, _, e, ri⟩ := lst_at F r hk; ⟨a, its, e1, ⟨_, e, rfl, n, rfl⟩, ri⟩) pl pu hl h
noncomputable def RawL (C : Cst) (a : Addr) (items : List V) : Prop := ∃ its, C.h0.IsList a its ∧ VRs [] C.h0 items its.toList
theorem wsl_raw {value : Expr} {lower upper step : Option Expr} {p : Pos} {a : Addr} {items : List V} {l u : V} {lo hi : Option Int} (hk : RawL C a items) (pl : VPart l lo) (pu : VPart u hi) (hl : items.length ≤ 100000) (h : Q (.lst sto.length) loc (sto ++ [.list (slc items lo hi)])) :
  WSl C Γ loc sto value (.Slice lower upper step p) (.raw (.ref a)) l u .none Q X :=
 wsl_of (fun s as y F r => let ⟨its, ⟨o, e, q⟩, ri⟩ := hk; ⟨a, its, jSA r, ⟨o, F.g.keep _ _ e, q⟩, VRs.mono List.nil_prefix (fun b o its n e h1 h2 => ⟨o, F.g.keep _ _ e, h1, h2⟩) _ _ ri⟩) pl pu hl h
theorem rev_picks (its : Array Value) : slicePick its none none (some (-1)) = its.toList.reverse.toArray := by
 unfold slicePick sliceBounds
 simp only [Option.getD_some, show ¬ ((-1 : Int) > 0) by decide, if_false]
 rw [krv_sliceRange]
 congr 1
 apply List.ext_getElem?
 intro i
 by_cases hi : i < its.size
 ·rw [List.filterMap_map]
  have : ∀ n ≤ its.size, (List.range n).filterMap ((fun x => its[x]?) ∘ fun k => its.size - 1 - k) = (its.toList.reverse).take n := by
   intro n
   induction n with
   | zero => intro _; simp
   | succ n ih =>
    intro hn
    rw [List.range_succ, List.filterMap_append, ih (by lia), List.take_add_one]
    congr 1
    have h1 : its.size - 1 - n < its.size := by lia
    simp [h1]
    rw [List.getElem?_reverse (by simp; lia)]
    simp [h1]
  rw [this its.size (Nat.le_refl _), List.take_of_length_le (by simp)]
 ·rw [List.getElem?_eq_none, List.getElem?_eq_none]
  ·simp; lia
  ·refine Nat.le_trans (List.length_filterMap_le _ _) ?_
   simp; lia
theorem wsl_rev {value : Expr} {lower upper step : Option Expr} {p : Pos} {k : Nat} {items : List V} (hk : sto[k]? = some (.list items)) (hl : items.length ≤ 100000) (h : Q (.lst sto.length) loc (sto ++ [.list items.reverse])) :
  WSl C Γ loc sto value (.Slice lower upper step p) (.lst k) .none .none (.int (-1)) Q X := fun s as x' y z v sl F r1 r2 r3 r4 hs => by
 refine un_3_4 (lst_at F r1 hk) fun a its n e127x3 ea e ri => ?_; subst e127x3
 obtain rfl := jVA r2
 obtain rfl := jVA r3
 obtain ⟨t4, rfl⟩ := jTA r4
 obtain ⟨ops, ho⟩ := noSlice2 (lower := lower) (upper := upper) (step := step) (p := p) (.ref a) (.ref sl)
 have hL : s.heap.IsList a its := ⟨_, e, rfl, n, rfl⟩
 have hsz := ri.length
 rw [Array.length_toList] at hsz
 refine tail_any hL.typeIs slot_list_getitem.lookup (wpAny_getItem_list_slice hL hs .none .none (.int (-1) t4) (by simp) ?_ (by rw [sizeLine16]; lia)) ho
 rw [rev_picks]
 obtain ⟨p5, v5⟩ := alloc_lst F (VRs.reverse ri)
 exact ⟨_, loc, _, _, p5, v5, h⟩
theorem wl_addL {k j : Nat} {a b : List V} (hk : sto[k]? = some (.list a)) (hj : sto[j]? = some (.list b)) (hl : a.length + b.length ≤ 100000) (h : Q (.lst sto.length) loc (sto ++ [.list (a ++ b)])) :
  WL C Γ loc sto (f2 (binaryOp .Add)) [.lst k, .lst j] VR Q X := wl2 fun s as x y F r1 r2 => by
 refine un_3_4 (lst_at F r1 hk) fun a1 its n e128x3 ea e ri => ?_; subst e128x3
 refine un_3_4 (lst_at F r2 hj) fun a2 its2 n2 e129x3 ea2 e2 ri2 => ?_; subst e129x3
 have hsz := ri.length
 have hsz2 := ri2.length
 rw [Array.length_toList] at hsz hsz2
 have e3 : its ++ its2 = (its.toList ++ its2.toList).toArray := by simp
 refine concat_meets ⟨_, e, rfl⟩ ⟨_, e2, rfl⟩ noFill_list_add seq_list_add PySem.F.slot_list_add PySem.F.entry_list_add (PySem.F.args_list_add_2 _ _) (list_addW a1 a2 its its2 n n2 none none #[] #[] (by rw [sizeLine16]; lia)) ⟨e, e2, ?_⟩
 rw [e3]
 obtain ⟨p5, v5⟩ := alloc_lst F (VRs.append ri ri2)
 exact ⟨_, loc, _, _, p5, v5, h⟩
theorem wl_setL {k : Nat} {items : List V} {i : Int} {v : V} {Q : Unit → List (Option V) → List SO → Prop} (hk : sto[k]? = some (.list items)) (h0 : 0 ≤ i) (hi : i < 2 ^ 62) (hn : i.toNat < items.length) (h : Q () loc (sto.set k (.list (items.set i.toNat v)))) :
  WL C Γ loc sto (f3 (fun o i v => setItem o i v)) [.lst k, .int i, v] RU Q X := wl3 fun s as x y z F r1 r2 r3 => by
 refine un_3_4 (lst_at F r1 hk) fun a its n e130x3 ea e ri => ?_; subst e130x3
 obtain ⟨t, rfl⟩ := jTA r2
 have hsz := ri.length
 rw [Array.length_toList] at hsz
 refine ki_setAt e h0 (by lia) (by lia) ?_
 have hs := Heap.SameBut.update s.heap a (Obj.mapSeq (·.setIfInBounds i.toNat z))
 refine ⟨as, loc, _, (), Post.upd (t := s.toks) (so := .list (items.set i.toNat v)) F ea hs F.g.toks (fun tk => ⟨its.setIfInBounds i.toNat z, n, ?_, ?_⟩), trivial, h⟩
 ·rw [Heap.get?_update_self _ e (by rfl)]
  simp [Obj.mapSeq]
 ·rw [Array.toList_setIfInBounds]
  exact VRs.set _ (VRs.mono List.prefix_rfl tk _ _ ri) (VR.mono List.prefix_rfl tk _ _ r3)
variable {QS : Out → List (Option V) → List SO → Prop}
theorem w1_setitem {o i e : Expr} {pos' pos : Pos} (hs : ∀ env, swapsWith e (some (.Subscript o i pos')) pos.line env = pure false)
  (h : WE C Γ loc sto e (fun v loc1 sto1 => WE C Γ loc1 sto1 o (fun a loc2 sto2 => WE C Γ loc2 sto2 i (fun b loc3 sto3 => WL C Γ loc3 sto3 (f3 (fun o i v => setItem o i v)) [a, b, v] RU (fun _ l t => QS .next l t) X) X) X) X) :
  W1 C Γ loc sto (.Assign [.Subscript o i pos'] e pos) QS X := fun s as F => by
 refine wpAny_Assign_Subscript (wpAny_mono (h s as F) ?_ fun _ _ h => h) (hs _)
 rintro x s1 ⟨as1, loc1, sto1, v, P1, r1, q1⟩
 refine wpAny_mono (q1 s1 as1 P1.rep) ?_ ?_
 ·rintro y s2 ⟨as2, loc2, sto2, a, P2, r2, q2⟩
  refine wpAny_mono (q2 s2 as2 P2.rep) ?_ ?_
  ·rintro z s3 ⟨as3, loc3, sto3, b, P3, r3, q3⟩
   refine wpAny_mono (wpL (f := f3 (fun o i v => setItem o i v)) (xs := [y, z, x]) (loc0 := loc) (sto0 := sto) (P1.trans (P2.trans P3)) (vrs3 (P3.vr P2.rep r2) r3 (P3.vr P2.rep (P2.vr P1.rep r1))) q3) ?_ fun _ _ h => h
   rintro u s4 ⟨as4, loc4, sto4, c, P4, r4, q4⟩
   exact ⟨as4, loc4, sto4, .next, P4, rfl, q4⟩
  ·rintro z s3 ⟨as3, loc3, sto3, u, P3, r3, q3⟩
   exact ⟨as3, loc3, sto3, u, P1.trans (P2.trans P3), r3, q3⟩
 ·rintro z s3 ⟨as3, loc3, sto3, u, P3, r3, q3⟩
  exact ⟨as3, loc3, sto3, u, P1.trans P3, r3, q3⟩
end
end Mine
namespace Mine
open PySem PySem.W PyProof.Rows PySem.Calls
section
variable {α β : Type} {C : Cst} {Γ Γ' : Fm} {loc loc' : List (Option V)} {sto : List SO} {Q : V → List (Option V) → List SO → Prop} {X : XV → List (Option V) → List SO → Prop}
theorem Post.backG {as as' : List Addr} {s s1 s' : Shared} {sto2 : List SO} {own' : List Addr} (R : RepF C Γ as loc sto s) (k : Ext s.heap s1.heap) (hown : ∀ a ∈ own', s.heap.get? a = none)
  (P_g : RepG C as' sto2 s') (P_pre : as <+: as') (P_new : ∀ a ∈ as', a ∈ as ∨ s1.heap.get? a = none) (P_keeps : Keeps (own' ++ as) s1.heap s'.heap) (P_dom : ∀ a, s'.heap.get? a = none → s1.heap.get? a = none) : Post C Γ as s as' loc sto2 s' := by
 have KP : Keeps (own' ++ as) s.heap s'.heap := (Keeps.of_ext k).trans P_keeps fun a h => .inl h
 have K2 : ∀ a o, s.heap.get? a = some o → a ∉ as → ∃ sl, s'.heap.get? a = some { o with slots := sl } := fun a o e hn =>
  KP.up e (fun q => by
   rcases List.mem_append.mp q with q | q
   ·rw [hown a q] at e; cases e
   ·exact hn q)
 have tk : TupKeeps s.heap s'.heap := fun a o its n e hc hd => by
  obtain ⟨sl, e1⟩ := K2 a o e (R.g.tup_not_mem e hc)
  exact ⟨_, e1, hc, hd⟩
 have apart : ∀ a ∈ as', a ∉ as → s.heap.get? a = none := fun a h hn => (P_new a h).elim (fun q => absurd q hn) fun q => Ext.dom k a q
 refine un_1_2 (R.ns) fun m n r => ?_
 refine un_3_3 (id n) fun oL es ep eL dL nL => ?_
 have nLas : Γ.env.locals ∉ as := fun q => (R.apart _ q).1 R.ok.loco
 obtain ⟨slL, eL'⟩ := K2 _ _ eL nLas
 refine ⟨⟨P_g, R.ok, ⟨m, ⟨_, es, ep, eL', dL, nL⟩, r.mono P_pre tk fun x c hm ov ⟨o, e, d⟩ => ?_⟩, fun a ha => ?_, fun a ha => ?_, R.frs.keeps fun b o es ep e hd => ?_⟩, P_pre, fun a ha => (P_new a ha).imp id fun q => Ext.dom k a q, ?_, fun a e => Ext.dom k a (P_dom a e), trivial⟩
 ·obtain ⟨sl, e'⟩ := K2 c o e (fun q => (R.apart c q).2 x c hm rfl)
  exact ⟨_, e', d⟩
 ·by_cases q : a ∈ as
  ·exact R.apart a q
  ·have e0 := apart a ha q
   refine ⟨fun w => ?_, fun x c hc w => ?_⟩
   ·obtain ⟨o, e, _⟩ := R.plain a w; rw [e0] at e; cases e
   ·obtain ⟨ov, o, e, _⟩ := r.cell hc; rw [← w, e0] at e; cases e
 ·refine un_1_2 (R.plain a ha) fun o e d1 => ?_
  obtain ⟨sl, e'⟩ := K2 a o e (fun q => (R.apart a q).1 ha)
  exact ⟨_, e', d1⟩
 ·obtain ⟨sl, e'⟩ := K2 b o e (fun q => R.g.mem_nodict q e hd)
  exact ⟨_, e', es, ep, hd⟩
 ·exact fun a o e hn => KP a o e (fun q => by
   rcases List.mem_append.mp q with q | q
   ·rw [hown a q] at e; cases e
   ·exact hn (List.mem_append_right _ q))
theorem Post.back {as as' : List Addr} {s s1 s' : Shared} {loc2 : List (Option V)} {sto2 : List SO} (R : RepF C Γ as loc sto s) (k : Ext s.heap s1.heap) (hown : ∀ a ∈ Γ'.own, s.heap.get? a = none)
  (P : Post C Γ' as s1 as' loc2 sto2 s') : Post C Γ as s as' loc sto2 s' := Post.backG R k hown P.rep.g P.pre P.new P.keeps P.dom
theorem leave_exc {M : Model} {E : Value → Shared → Prop} {as as' : List Addr} {s s1 s' : Shared} {loc2 : List (Option V)} {sto2 : List SO} {b : XV} {e : Value} {env : Env} {frs : List Env} {L : Addr} {Q : Unit → Shared → Prop} (R : RepF C Γ as loc sto s) (k : Ext s.heap s1.heap) (hown : ∀ a ∈ Γ'.own, s.heap.get? a = none)
  (hfrs : Γ'.frs = env :: frs) (hL : env.frame = some L) (P : PostK (some (b, e)) C Γ' as s1 as' loc2 sto2 s') (hb : b.tb = false)
  (hQ : ∀ h', PostK (some (⟨b.cls, b.msg, true⟩, e)) C Γ as s as' loc sto2 { s' with heap := h' } → Q () { s' with heap := h' }) : wpAny M Γ'.A (leaving env e) Q E s' := by
 refine un_2_3 (P.exc) fun x _ hx _ c140x => ?_; refine un_3_7 c140x fun oe vs t e140x7 ex cx dx v0 n140x12 v1 => ?_; clear c140x; subst e140x7; obtain ⟨ot, n, tk, et, ct, dt⟩ := n140x12
 rw [hb] at v1
 have hne : ∀ env ∈ Γ'.frs, ∀ a, env.frame = some a → ∃ o es ep, s'.heap.get? a = some o ∧ C.h0.get? a = none ∧ o.data = .dict es ep := fun env he a q => by
  refine un_0_2 (P.rep.frs env he) fun _ c141x => ?_; refine un_4_4 c141x fun L' o es ep e1 e2 e3 e4 => ?_; clear c141x
  rw [e1] at q; cases q; exact ⟨o, es, ep, e3, e2, e4⟩
 have hmem : ∀ a ∈ Γ'.frs.filterMap (·.frame), ∃ o es ep, s'.heap.get? a = some o ∧ C.h0.get? a = none ∧ o.data = .dict es ep := fun a ha => by
  refine un_1_2 (List.mem_filterMap.mp ha) fun env he q => ?_
  exact hne env he a q
 have hx0 : C.h0.get? x = none := Ext.dom (fun b o q => k b o (R.g.keep b o q)) x hx
 have bst : (hideAll s'.heap (x :: Γ'.frs.filterMap (·.frame))).StaysIn s'.heap := fun b o q => of_hideAll _ q
 have fo : s'.heap.FunFrames (hideAll s'.heap (x :: Γ'.frs.filterMap (·.frame))) (env :: frs) := by
  rw [← hfrs]
  refine FrsOk.fun (h0 := hideAll s'.heap (x :: Γ'.frs.filterMap (·.frame))) fun env he => ?_
  refine un_0_2 (P.rep.frs env he) fun hk c143x => ?_; refine un_4_4 c143x fun L' o es ep e1 _ e3 e4 => ?_; clear c143x
  exact ⟨hk, L', o, es, ep, e1, hideAll_none _ (.tail _ (List.mem_filterMap.mpr ⟨env, he, e1⟩)), e3, e4⟩
 refine wpAny_leaving_firstW (a0 := .ref t) (by rw [← hfrs]; exact P.rep.ok.frames) fo hL ex bst (hideAll_none _ (.head _)) dx v1 v0 fun h' hw => hQ h' ?_
 refine un_0_4 (hw) fun k1 _ n144x2 k4 => ?_; (try clear hw); obtain ⟨oe', vs', T, oT, ts, ex', ⟨cx', v0'⟩, dx', v1', hT, hTx, eT, dT, hts⟩ := n144x2
 have KX : Keeps [x] s'.heap h' := fun a o q hn => by
  by_cases hm : a ∈ Γ'.frs.filterMap (·.frame)
  ·refine un_3_3 (hmem a hm) fun o' es ep q' _ d' => ?_
   rw [q] at q'; cases q'
   exact .inr ⟨⟨es, ep, d'⟩, k4 a o q fun vs z => by rw [d'] at z; cases z⟩
  ·exact .inl (k1 a o (hideAll_get _ q fun z => (List.mem_cons.mp z).elim (fun w => hn (by rw [w]; exact .head _)) hm))
 have tupK : TupKeeps s'.heap h' := fun a o its n q hc hd => by
  obtain ⟨sl, q'⟩ := k4 a o q fun vs z => by rw [hd] at z; cases z
  exact ⟨_, q', hc, hd⟩
 have hxas : x ∉ as' := fun z => by
  refine un_1_2 (P.rep.g.mem_lt z) fun o q hc => ?_
  rw [ex] at q; cases q; rcases hc with hc | hc <;> rw [cx] at hc <;> cases hc
 have G : RepG C as' sto2 { s' with heap := h' } := by
  refine ⟨fun b o q => k1 b o (hideAll_get _ (P.rep.g.keep b o q) fun z => ?_), P.rep.g.len, fun i a so q1 q2 => (P.rep.g.objs i a so q1 q2).mono List.prefix_rfl tupK fun o q => ?_, P.rep.g.nodup, P.rep.g.fresh, P.rep.g.gens, P.rep.g.os, P.rep.g.toks⟩
  ·rcases List.mem_cons.mp z with w | w
   ·rw [w, hx0] at q; cases q
   ·refine un_3_3 (hmem b w) fun _ _ _ _ w' _ => ?_
    rw [w'] at q; cases q
  ·have hm := List.mem_of_getElem? q1
   exact KX.exact q (fun z => hxas (by rw [List.mem_singleton.mp z] at hm; exact hm)) fun es ep z => P.rep.g.mem_nodict hm q z
 have PB := Post.backG (s' := { s' with heap := h' }) R k hown G P.pre P.new (P.keeps.trans KX fun a ha => .inr (by rw [List.mem_singleton.mp ha]; exact hx)) fun a q => by
  by_cases w : a = x
  ·rw [w, ex'] at q; cases q
  ·refine P.dom a ?_
   cases z : s'.heap.get? a with
   | none => rfl
   | some o => obtain ⟨sl, z'⟩ := KX.up z (by simpa using w); rw [q] at z'; cases z'
 refine ⟨PB.rep, PB.pre, PB.new, PB.keeps, PB.dom, x, T, Ext.dom k x hx, fun _ => Ext.dom k T (P.dom T ?_), oe', vs', t, rfl, ex', cx'.trans cx, dx', v0', ?_, oT, ts, v1', hTx, eT, dT, hts⟩
 ·cases z : s'.heap.get? T with
  | none => rfl
  | some o =>
   by_cases hm : T ∈ Γ'.frs.filterMap (·.frame)
   ·refine un_3_3 (hmem T hm) fun o' es ep q' _ d' => ?_
    obtain ⟨sl, q2⟩ := k4 T o' q' fun vs z => by rw [d'] at z; cases z
    rw [eT] at q2; cases q2; rw [d'] at dT; cases dT
   ·have := hideAll_get (x :: Γ'.frs.filterMap (·.frame)) z fun w => (List.mem_cons.mp w).elim hTx hm
    rw [hT] at this; cases this
 ·obtain ⟨sl, q⟩ := k4 t ot et fun vs z => by rw [dt] at z; cases z
  exact ⟨_, n, tk, q, ct, dt⟩
theorem lookup_zip {as : List Addr} {h : Heap} (pre : List (Str × Value)) (ps : List Str) (args : List V) (xs : List Value) (hn : (pre.map (·.1) ++ ps).Nodup) (hl : ps.length = args.length) (r : VRs as h args xs) :
  SlotsR as h (fun y => (pre ++ ps.zip xs).reverse.lookup y) (ps.map (·, none)) (args.map some) := by
 induction ps generalizing pre args xs with
 | nil => cases args with
  | nil => rfl
  | cons _ _ => cases hl
 | cons p ps ih => cases args with
  | nil => cases hl
  | cons a args =>
   unfold VRs at r
   refine un_2_3 (r) fun y ys e149x2 r1 r2 => ?_; (try clear r); subst e149x2
   have hl' : ps.length = args.length := by simpa using hl
   refine ⟨some a, args.map some, rfl, fun v e => ⟨y, ?_, by cases e; exact r1⟩, ?_⟩
   ·have hnd : ((pre ++ (p, y) :: ps.zip ys).reverse.map (·.1)).Nodup := by
     rw [List.map_reverse]
     refine (List.reverse_perm _).nodup_iff.mpr ?_
     rw [List.map_append, List.map_cons]
     have : (ps.zip ys).map (·.1) = ps := by
      rw [List.map_fst_zip]; rw [r2.length, hl']; exact Nat.le_refl _
     rw [this]; exact hn
    have hm : (p, y) ∈ (pre ++ (p, y) :: ps.zip ys).reverse := by simp
    show (pre ++ (p, y) :: ps.zip ys).reverse.lookup p = some y
    revert hnd hm
    generalize (pre ++ (p, y) :: ps.zip ys).reverse = l
    intro hnd hm
    induction l with
    | nil => cases hm
    | cons q l ih =>
     obtain ⟨q1, q2⟩ := q
     rw [List.lookup_cons]
     rw [List.map_cons, List.nodup_cons] at hnd
     rcases List.mem_cons.mp hm with e | e
     ·cases e; simp
     ·have : p ≠ q1 := fun z => hnd.1 (by rw [← z]; exact List.mem_map_of_mem (f := (·.1)) e)
      rw [beq_false_of_ne this]
      exact ih hnd.2 e
   ·have := ih (pre ++ [(p, y)]) args ys (by simpa using hn) hl' r2
    simpa using this
theorem SlotsR.append {as : List Addr} {h : Heap} {m : Str → Option Value} : ∀ {sl : List (Str × Option Addr)} {loc : List (Option V)} {rest : List Str}, SlotsR as h m sl loc → SlotsR as h m (sl ++ rest.map (·, none)) (loc ++ rest.map fun _ => none)
 | [], loc, rest, r => by
  have : loc = [] := r
  subst this
  show SlotsR as h m (rest.map (·, none)) (rest.map fun _ => none)
  induction rest with
  | nil => rfl
  | cons x rest ih => exact ⟨_, _, rfl, (fun v e => by cases e), ih⟩
 | p :: sl, loc, rest, r => by
  refine un_2_3 (r) fun o loc' e150x2 r1 r2 => ?_; (try clear r); subst e150x2
  exact ⟨o, _, rfl, r1, SlotsR.append r2⟩
noncomputable def callee (C : Cst) (Γ : Fm) (fd : FuncData) (L a : Addr) (sl : List (Str × Option Addr)) : Fm :=
 { A := Γ.A.deeper (callEnv fd L a), env := callEnv fd L a, sl := sl, frs := callEnv fd L a :: Γ.frs, own := [L], room := Γ.room - 1 }
structure FnAt (C : Cst) (a : Addr) (fd : FuncData) (body : List Stmt) (ps rest : List Str) : Prop where
 at_ : ∃ o, C.h0.get? a = some o ∧ o.data = .func fd
 rec_ : C.h0.CodeRec fd.code fd.qualname
 body_ : fd.body = .stmts body
 nocell : ∀ x ∈ fd.scope.names, x.2 ≠ .cell
 kind : fd.scope.kind = .function
 co : fd.scope.isCoroutine = false
 gen : fd.scope.isGenerator = false
 glob : fd.globals = mainGlobals
 bts : fd.builtins = builtinsNs
 nodup : (ps ++ rest).Nodup
 loc : ∀ x ∈ ps ++ rest, fd.scope.names.lookup x = some .local
theorem wl_callX {a : Addr} {fd : FuncData} {body : List Stmt} {ps rest : List Str} {args argv : List V} (f : FnAt C a fd body ps rest) (hroom : 1 ≤ Γ.room) (hlen : ps.length = argv.length)
  (hbind : ∀ (s : Shared) (as : List Addr) (xs : List Value), C.h0.StaysIn s.heap → VRs as s.heap args xs → ∃ ys, VRs as s.heap argv ys ∧ BindsTo s fd ⟨xs, []⟩ (ps.zip ys))
  {X0 : XV → List (Option V) → List SO → Prop} (hX0 : ∀ b l t, X0 b l t → b.tb = false ∧ X ⟨b.cls, b.msg, true⟩ loc t)
  (h : ∀ L, WS C (callee C Γ fd L a (ps.map (·, none) ++ rest.map (·, none))) (argv.map some ++ rest.map fun _ => none) sto body
   (fun out _ sto2 => match out with | .ret v => Q v loc sto2 | .next => Q .none loc sto2 | _ => False) X0) :
  WL C Γ loc sto (callF (.ref a)) args VR Q X := fun s as xs F r => by
 refine un_1_2 (f.at_) fun o ho hd => ?_
 refine un_1_2 (hbind s as xs F.g.keep r) fun ys ry hb => ?_
 have hlim : s.heap.NoLimit := C.nolimit.keeps F.g.keep
 have hnd := F.ok.depth
 have hu := F.ok.units
 refine wpAny_call (codeAny_call_def (by lia) (F.g.keep _ _ ho) hd hlim (by
   refine un_4_4 (f.rec_) fun c oc vs t e1 e2 e3 e4 => ?_
   exact ⟨c, oc, vs, t, e1, F.g.keep _ _ e2, e3, e4⟩) f.body_ hb f.nocell (fun x hx => ?_) (fun h1 hns hk => ?_) f.co f.gen f.kind)
 ·obtain ⟨x, v⟩ := x
  exact f.loc x (List.mem_append_left _ (List.of_mem_zip hx).1)
 ·have hL0 : s.heap.get? s.heap.objs.size = none := get_size_none _
  have F1 : RepF C (callee C Γ fd s.heap.objs.size a (ps.map (·, none) ++ rest.map (·, none))) as (argv.map some ++ rest.map fun _ => none) sto { s with heap := h1, toks := s.toks + (ps.zip ys).length } := by
   refine ⟨F.g.ext hk (Nat.lt_of_lt_of_le F.g.toks (Nat.le_add_right _ _)), ⟨f.kind, f.glob, f.bts, ?_, ?_, ?_, ?_, F.ok.hand, Around.frames_deeper F.ok.frames, ?_, ?_, .head _, ?_⟩, ⟨_, hns, ?_⟩, ?_, ?_, ?_⟩
   ·intro x hx
    refine f.loc x ?_
    rcases List.mem_append.mp hx with hx | hx <;> (obtain ⟨y, hy, e⟩ := List.mem_map.mp hx; cases e)
    ·exact List.mem_append_left _ hy
    ·exact List.mem_append_right _ hy
   ·intro x c hx
    rcases List.mem_append.mp hx with hx | hx <;> (obtain ⟨y, hy, e⟩ := List.mem_map.mp hx; cases e)
   ·show ((ps.map (·, (none : Option Addr)) ++ rest.map (·, (none : Option Addr))).map (fun p : Str × Option Addr => p.1)).Nodup
    rw [List.map_append, List.map_map, List.map_map]
    have : ∀ l : List Str, l.map ((fun p : Str × Option Addr => p.1) ∘ fun x => (x, (none : Option Addr))) = l := fun l => by induction l with | nil => rfl | cons x l ih => rw [List.map_cons, ih]; rfl
    rw [this, this]; exact f.nodup
   ·show ((ps.map (·, (none : Option Addr)) ++ rest.map (·, (none : Option Addr))).filterMap (fun p : Str × Option Addr => p.2)).Nodup
    have : (ps.map (fun x => (x, (none : Option Addr))) ++ rest.map (fun x => (x, (none : Option Addr)))).filterMap (fun p : Str × Option Addr => p.2) = [] := by
     rw [List.filterMap_eq_nil_iff]
     intro p hp
     rcases List.mem_append.mp hp with hp | hp <;> (obtain ⟨y, hy, rfl⟩ := List.mem_map.mp hp; rfl)
    rw [this]; exact List.nodup_nil
   ·show Γ.A.depth + 1 + (Γ.room - 1) < recursionLimit
    lia
   ·show Γ.A.units + 3 + 8 * (Γ.room - 1) < cLine
    lia
   ·intro b hb
    have : b = s.heap.objs.size := by simpa [callee] using hb
    subst this
    exact Ext.dom F.g.keep _ hL0
   ·refine SlotsR.append ?_
    have := lookup_zip (as := as) (h := h1) [] ps argv ys (by have := (List.nodup_append.mp f.nodup).1; simpa using this) hlen (VRs.mono List.prefix_rfl (.of_ext hk) _ _ ry)
    simpa using this
   ·intro b hb
    refine ⟨fun w => ?_, fun x c hx => ?_⟩
    ·have : b = s.heap.objs.size := by simpa [callee] using w
     subst this
     obtain ⟨o, e, _⟩ := F.g.mem_lt hb; rw [hL0] at e; cases e
    ·rcases List.mem_append.mp hx with hx | hx <;> (obtain ⟨y, hy, e⟩ := List.mem_map.mp hx; cases e)
   ·intro b hb
    have : b = s.heap.objs.size := by simpa [callee] using hb
    subst this
    refine un_3_3 (hns) fun o es ep e1 e2 _ => ?_; (try clear hns)
    exact ⟨o, e1, fun its n q => by rw [e2] at q; cases q⟩
   ·intro env he
    rcases List.mem_cons.mp he with rfl | he
    ·refine un_3_3 (hns) fun o es ep e1 e2 _ => ?_; (try clear hns)
     exact ⟨by show fd.scope.kind ≠ .module; rw [f.kind]; decide, _, o, es, ep, rfl, Ext.dom F.g.keep _ hL0, e1, e2⟩
    ·exact F.frs.ext hk env he
  refine wpAny_mono (h s.heap.objs.size _ as F1) ?_ ?_
  ·rintro fl s' ⟨as', loc', sto', out, P, r', q⟩
   have PB : Post C Γ as s as' loc sto' s' := Post.back (s1 := { s with heap := h1, toks := s.toks + (ps.zip ys).length }) (Γ' := callee C Γ fd s.heap.objs.size a (ps.map (·, none) ++ rest.map (·, none))) F hk (fun b hb => by
    have : b = s.heap.objs.size := by simpa [callee] using hb
    subst this; exact hL0) P
   cases out with
   | next =>
    have : fl = .next := r'
    subst this
    exact ⟨as', loc, sto', .none, PB, vr_none, q⟩
   | brk => exact q.elim
   | cont => exact q.elim
   | ret v => obtain ⟨x, rfl, rx⟩ := r'; exact ⟨as', loc, sto', v, PB, rx, q⟩
  ·rintro e s' ⟨as', loc', sto', b, P, r', q⟩
   exact leave_exc (s1 := { s with heap := h1, toks := s.toks + (ps.zip ys).length }) (Γ' := callee C Γ fd s.heap.objs.size a (ps.map (·, none) ++ rest.map (·, none))) F hk (fun b hb => by
    have : b = s.heap.objs.size := by simpa [callee] using hb
    subst this; exact hL0) rfl rfl P (hX0 b _ _ q).1 fun h' P' => ⟨as', loc, sto', _, P', trivial, (hX0 b _ _ q).2⟩
theorem wl_call {a : Addr} {fd : FuncData} {body : List Stmt} {ps rest : List Str} {args argv : List V} (f : FnAt C a fd body ps rest) (hroom : 1 ≤ Γ.room) (hlen : ps.length = argv.length)
  (hbind : ∀ (s : Shared) (as : List Addr) (xs : List Value), C.h0.StaysIn s.heap → VRs as s.heap args xs → ∃ ys, VRs as s.heap argv ys ∧ BindsTo s fd ⟨xs, []⟩ (ps.zip ys))
  (h : ∀ L, WS C (callee C Γ fd L a (ps.map (·, none) ++ rest.map (·, none))) (argv.map some ++ rest.map fun _ => none) sto body
   (fun out _ sto2 => match out with | .ret v => Q v loc sto2 | .next => Q .none loc sto2 | _ => False) (fun _ _ _ => False)) :
  WL C Γ loc sto (callF (.ref a)) args VR Q X := wl_callX f hroom hlen hbind (fun _ _ _ q => q.elim) h
end
end Mine
namespace Mine
open PySem PySem.W PyProof.Rows PySem.Calls
noncomputable def Fm.hide (Γ : Fm) (hid : List Addr) : Fm := { Γ with own := hid ++ Γ.own }
section
variable {α β : Type} {C : Cst} {Γ Γ' : Fm} {hid : List Addr} {as : List Addr} {loc loc' : List (Option V)} {sto : List SO} {s : Shared} {Q : V → List (Option V) → List SO → Prop} {X : XV → List (Option V) → List SO → Prop}
theorem RepF.unhide (R : RepF C (Γ.hide hid) as loc sto s) (ho : ∀ a ∈ Γ.own, True) (hok : Γ.Ok C) : RepF C Γ as loc sto s where
 g := R.g
 ok := hok
 ns := R.ns
 apart := fun a h => ⟨fun q => (R.apart a h).1 (List.mem_append_right _ q), (R.apart a h).2⟩
 plain := fun a h => R.plain a (List.mem_append_right _ h)
 frs := R.frs
noncomputable def HidOk (C : Cst) (hid : List Addr) (as : List Addr) (h : Heap) : Prop := ∀ a ∈ hid, a ∉ as ∧ C.h0.get? a = none ∧ ∃ o vs, h.get? a = some o ∧ o.data = .fields vs
inductive ForI (C : Cst) (Γ : Fm) (hid as1 : List Addr) (s2 : Shared) (St : Nat → List Addr → Heap → Prop) (Inv : Nat → List (Option V) → List SO → Prop) (n m : Nat) (s3 : Shared) : Prop
 | mk (i : Nat) (as3 : List Addr) (loc3 : List (Option V)) (sto3 : List SO) (hi : i ≤ n) (hm : m = n - i) (P : Post C Γ as1 s2 as3 loc3 sto3 s3) (h : HidOk C hid as3 s3.heap) (st : St i as3 s3.heap) (inv : Inv i loc3 sto3)
theorem RepF.hideR (R : RepF C Γ as loc sto s) (hh : HidOk C hid as s.heap) : RepF C (Γ.hide hid) as loc sto s where
 g := R.g
 ok := ⟨R.ok.kind, R.ok.glob, R.ok.bts, R.ok.loc, R.ok.cell, R.ok.names, R.ok.cells, R.ok.hand, R.ok.frames, R.ok.depth, R.ok.units, List.mem_append_right _ R.ok.loco, fun a h => (List.mem_append.mp h).elim (fun q => (hh a q).2.1) fun q => R.ok.fresh a q⟩
 ns := R.ns
 apart := fun a h => ⟨fun q => (List.mem_append.mp q).elim (fun q => (hh a q).1 h) fun q => (R.apart a h).1 q, (R.apart a h).2⟩
 plain := fun a h => (List.mem_append.mp h).elim (fun q => by
  refine un_0_3 (hh a q) fun _ _ c158x => ?_; refine un_2_2 c158x fun o vs e d => ?_; clear c158x
  exact ⟨o, e, fun its n w => by rw [d] at w; cases w⟩) fun q => R.plain a q
 frs := R.frs
theorem HidOk.post {k : Option (XV × Value)} {as' : List Addr} {s' : Shared} {sto' : List SO} (hh : HidOk C hid as s.heap) (hn : ∀ a ∈ hid, a ∉ Γ.own) (P : PostK k C Γ as s as' loc' sto' s') : HidOk C hid as' s'.heap := fun a h => by
 refine un_0_3 (hh a h) fun h1 h2 c159x => ?_; refine un_2_2 c159x fun o vs e d => ?_; clear c159x
 refine ⟨fun q => (P.new a q).elim h1 (fun w => by rw [e] at w; cases w), h2, o, vs, P.keeps.exact e (fun q => (List.mem_append.mp q).elim (hn a h) h1) (fun es ep w => by rw [d] at w; cases w), d⟩
theorem PostK.hide {as' : List Addr} {s' : Shared} {sto' : List SO} (hh : HidOk C hid as s.heap) (hn : ∀ a ∈ hid, a ∉ Γ.own) (P : Post C Γ as s as' loc' sto' s') : Post C (Γ.hide hid) as s as' loc' sto' s' where
 rep := P.rep.hideR (hh.post hn P)
 pre := P.pre
 new := P.new
 keeps := P.keeps.mono fun a h => (List.mem_append.mp h).elim (fun q => List.mem_append_left _ (List.mem_append_right _ q)) fun q => List.mem_append_right _ q
 dom := P.dom
theorem RepF.turn (R : RepF C Γ as loc sto s) (hh : HidOk C hid as s.heap) (hn : ∀ a ∈ hid, a ∉ Γ.own) {h' : Heap} {t : Nat} (k : ∀ b o, b ∉ hid → s.heap.get? b = some o → h'.get? b = some o) (ht : 0 < t) :
  RepF C Γ as loc sto { s with heap := h', toks := t } := by
 have tk : TupKeeps s.heap h' := fun a o its n e hc hd => ⟨o, k a o (fun q => by
  refine un_0_3 (hh a q) fun _ _ c160x => ?_; refine un_2_2 c160x fun o' vs e' d => ?_; clear c160x
  rw [e] at e'; cases e'; rw [hd] at d; cases d) e, hc, hd⟩
 have nas : ∀ a ∈ as, a ∉ hid := fun a h q => (hh a q).1 h
 refine ⟨⟨fun b o e => k b o (fun q => ?_) (R.g.keep b o e), R.g.len, fun i b so' e1 e2 => (R.g.objs i b so' e1 e2).mono List.prefix_rfl tk fun o e => k b o (nas b (List.mem_of_getElem? e1)) e, R.g.nodup, R.g.fresh, R.g.gens, R.g.os, ht⟩, R.ok, ?_, R.apart, fun a h => ?_, R.frs.keeps fun b o es ep e hd => ?_⟩
 ·rw [(hh b q).2.1] at e; cases e
 ·refine un_1_2 (R.ns) fun m n r => ?_
  refine un_3_3 (id n) fun oL es ep eL dL nL => ?_
  exact ⟨m, ⟨oL, es, ep, k _ _ (fun q => hn _ q R.ok.loco) eL, dL, nL⟩, r.mono List.prefix_rfl tk fun x c hc ov ⟨o, e, d⟩ => ⟨o, k c o (fun q => by
   refine un_0_3 (hh c q) fun _ _ c163x => ?_; refine un_2_2 c163x fun o' vs e' d' => ?_; clear c163x
   rw [e] at e'; cases e'; rw [d] at d'; cases d') e, d⟩⟩
 ·obtain ⟨o, e, d⟩ := R.plain a h; exact ⟨o, k a o (fun q => hn a q h) e, d⟩
 ·exact ⟨o, k b o (fun q => by
   refine un_0_3 (hh b q) fun _ _ c164x => ?_; refine un_2_2 c164x fun o' vs e' d' => ?_; clear c164x
   rw [e] at e'; cases e'; rw [hd] at d'; cases d') e, es, ep, hd⟩
theorem Post.turnH (R : RepF C Γ as loc sto s) (hh : HidOk C hid as s.heap) (hn : ∀ a ∈ hid, a ∉ Γ.own) {h' : Heap} {t : Nat} (k : ∀ b o, b ∉ hid → s.heap.get? b = some o → h'.get? b = some o) (hh' : HidOk C hid as h') (ht : 0 < t) :
  Post C (Γ.hide hid) as s as loc sto { s with heap := h', toks := t } := by
 have R2 := R.turn hh hn k ht
 refine ⟨R2.hideR hh', List.prefix_rfl, fun _ h => .inl h, fun b o e hn' => .inl (k b o (fun q => hn' (List.mem_append_left _ (List.mem_append_left _ q))) e), fun a e => ?_, trivial⟩
 by_cases q : a ∈ hid
 ·refine un_0_3 (hh' a q) fun _ _ c165x => ?_; refine un_2_2 c165x fun o vs e' _ => ?_; clear c165x
  rw [e'] at e; cases e
 ·cases w : s.heap.get? a with
  | none => rfl
  | some o => rw [k a o q w] at e; cases e
theorem Post.unhide {k : Option (XV × Value)} {as0 : List Addr} {s0 s1 : Shared} {loc1 : List (Option V)} {sto1 : List SO} {as' : List Addr} {s' : Shared} {sto' : List SO} (P0 : Post C Γ as0 s0 as loc1 sto1 s1) (hnew : ∀ a ∈ hid, s0.heap.get? a = none)
  (P : PostK k C (Γ.hide hid) as s1 as' loc' sto' s') : PostK k C Γ as0 s0 as' loc' sto' s' where
 rep := P.rep.unhide (fun _ _ => trivial) P0.rep.ok
 pre := P0.pre.trans P.pre
 new := fun a h => (P.new a h).elim (fun q => P0.new a q) fun q => .inr (P0.dom a q)
 keeps := P0.keeps.trans P.keeps fun a h => by
  rcases List.mem_append.mp h with h | h
  ·rcases List.mem_append.mp h with h | h
   ·exact .inr (hnew a h)
   ·exact .inl (List.mem_append_left _ h)
  ·exact (P0.new a h).imp (fun q => List.mem_append_right _ q) id
 dom := fun a e => P0.dom a (P.dom a e)
 exc := by
  cases k with
  | none => trivial
  | some p =>
   obtain ⟨b, e⟩ := p
   refine un_2_3 (P.exc) fun a T h1 h2 h3 => ?_
   exact ⟨a, T, P0.dom a h1, fun q => P0.dom T (h2 q), h3⟩
theorem Post.fin {as0 : List Addr} {s0 : Shared} {loc1 : List (Option V)} {sto1 : List SO} (P : Post C Γ as0 s0 as loc sto s) (hnew : ∀ a ∈ hid, s0.heap.get? a = none) (hh : HidOk C hid as s.heap) (hn : ∀ a ∈ hid, a ∉ Γ.own) {h' : Heap} {t : Nat}
  (k : ∀ b o, b ∉ hid → s.heap.get? b = some o → h'.get? b = some o) (ht : 0 < t) : Post C Γ as0 s0 as loc sto { s with heap := h', toks := t } where
 rep := P.rep.turn hh hn k ht
 pre := P.pre
 new := P.new
 keeps := fun a o e hx => by
  have ha : a ∉ hid := fun q => by rw [hnew a q] at e; cases e
  rcases P.keeps a o e hx with e1 | ⟨d, sl, e1⟩
  ·exact .inl (k a o ha e1)
  ·exact .inr ⟨d, sl, k a _ ha e1⟩
 dom := fun a e => by
  by_cases q : a ∈ hid
  ·exact hnew a q
  ·cases w : s0.heap.get? a with
   | none => rfl
   | some o =>
    exfalso
    have h1 : s.heap.get? a ≠ none := fun z => by rw [P.dom a z] at w; cases w
    cases w2 : s.heap.get? a with
    | none => exact h1 w2
    | some o2 => have e' : h'.get? a = none := e; rw [k a o2 q w2] at e'; cases e'
structure Proto (C : Cst) (Γ : Fm) (target : Expr) (it : Addr) (hid : List Addr) (n : Nat) (vals : Nat → V) (adv : Nat → List SO → List SO) (Cond : Nat → List SO → Prop) (St : Nat → List Addr → Heap → Prop) : Prop where
 stay : ∀ i as h as' h', St i as h → as <+: as' → (∀ a ∈ hid, ∀ o, h.get? a = some o → h'.get? a = some o) → TupKeeps h h' → St i as' h'
 self : ∀ i s as loc sto (K E : Value → Shared → Prop), RepF C Γ as loc sto s → Cond i sto → St i as s.heap → K (.ref it) s → wpAny (model C.prog C.w) Γ.A (pyIter (.ref it)) K E s
 item : ∀ (i : Nat), i < n → ∀ s as loc sto (K : Value → Shared → Prop) (E : Value → Shared → Prop), RepF C Γ as loc sto s → HidOk C hid as s.heap → (∀ a ∈ hid, a ∉ Γ.own) → Cond i sto → St i as s.heap →
  (∀ x s', Post C (Γ.hide hid) as s as loc (adv i sto) s' → HidOk C hid as s'.heap → VR as s'.heap (vals i) x → St (i + 1) as s'.heap → K x s') →
  wpAny (model C.prog C.w) Γ.A (pyNext (.ref it)) (fun r s' => ∃ v, r = some v ∧ wpAny (model C.prog C.w) Γ.A (letOwnedTupleGo target (.ref it) v) (fun _ s'' => K v s'') E s') E s
 done : ∀ s as loc sto (K : Shared → Prop) (E : Value → Shared → Prop), RepF C Γ as loc sto s → HidOk C hid as s.heap → (∀ a ∈ hid, a ∉ Γ.own) → Cond n sto → St n as s.heap →
  (∀ s', (∀ (Γ2 : Fm) loc2 as0 s0, Post C Γ2 as0 s0 as loc2 sto s → (∀ a ∈ hid, s0.heap.get? a = none) → (∀ a ∈ hid, a ∉ Γ2.own) → Post C Γ2 as0 s0 as loc2 (adv n sto) s') → K s') →
  wpAny (model C.prog C.w) Γ.A (pyNext (.ref it)) (fun r s' => r = none ∧ K s') E s
theorem fin_of {h' : Heap} {t : Nat} (hh : HidOk C hid as s.heap) (k : ∀ b o, b ∉ hid → s.heap.get? b = some o → h'.get? b = some o) (ht : 0 < t) :
  ∀ (Γ2 : Fm) loc2 as0 s0, Post C Γ2 as0 s0 as loc2 sto s → (∀ a ∈ hid, s0.heap.get? a = none) → (∀ a ∈ hid, a ∉ Γ2.own) → Post C Γ2 as0 s0 as loc2 sto { s with heap := h', toks := t } :=
 fun Γ2 loc2 as0 s0 P0 hnew hn => Post.fin (loc1 := loc2) (sto1 := sto) P0 hnew hh hn k ht
theorem codeAny_for {prog : Program} {w : World} {A : Around} {s : Shared} {R : Result → Shared → Prop} {target : Expr} {it : Value} {body orelse : List Stmt} {env : Env} (I : Nat → Shared → Prop)
  (turn : ∀ n s, I n s → wpAny (model prog w) A (pyNext it) (fun r s₁ => match r with
   | none => wpAny (model prog w) A (execs orelse env) (fun f s₃ => R (.ok f) s₃) (fun _ _ => False) s₁
   | some v => wpAny (model prog w) A (letOwnedTupleGo target it v) (fun _ s0 => wpAny (model prog w) A (assign target env v) (fun _ s₂ => wpAny (model prog w) A (execs body env) (fun f s₃ => match f with
     | .next | .cont => ∃ m, m < n ∧ I m s₃
     | .brk => R (.ok .next) s₃
     | .ret v => R (.ok (.ret v)) s₃) (fun _ _ => False) s₂) (fun _ _ => False) s0) (fun _ _ => False) s₁) (fun _ _ => False) s)
  (n : Nat) (h : I n s) : codeAny (model prog w) A (.forLoop target it body orelse env) R s := by
 refine codeAny_loop' rfl I (fun n s hI => ?_) n h
 show wpAny _ _ ((forTurn target it body orelse env).onRaise (fun x => do noteFrame x env; theTreesLotGoes x)) _ _ s
 refine wpAny_onRaise (wpAny_mono (Q := _) (E' := _) ?_ (fun _ _ h => h) (fun _ _ (h : False) => h.elim))
 unfold forTurn
 refine wpAny_bind (wpAny_standAt (wpAny_bind (wpAny_onRaise (wpAny_mono (turn n s hI) (fun r s₁ h₁ => ?_) fun _ _ h' => h'.elim))))
 cases r with
 | none => exact wpAny_pure (.inr ⟨rfl, codeAny_block (wpAny_mono h₁ (fun _ _ h => h) fun _ _ h => h.elim)⟩)
 | some v =>
  refine wpAny_bind (wpAny_mono h₁ (fun _ s0 h0 => ?_) fun _ _ h' => h')
  refine wpAny_bind (wpAny_mono h0 (fun _ s₂ h₂ => wpAny_bind (wpAny_mono h₂ (fun f s₃ h₃ => ?_) fun _ _ h' => h')) fun _ _ h' => h')
  cases f with
  | next => exact wpAny_pure (.inl ⟨rfl, h₃⟩)
  | cont => exact wpAny_pure (.inl ⟨rfl, h₃⟩)
  | brk => exact wpAny_pure h₃
  | ret v => exact wpAny_pure h₃
noncomputable def WIt (C : Cst) (Γ : Fm) (loc : List (Option V)) (sto : List SO) (target iter : Expr) (QI : Nat → (Nat → V) → (Nat → List SO → List SO) → (Nat → List SO → Prop) → List (Option V) → List SO → Prop) : Prop :=
 ∀ s as (K E : Value → Shared → Prop), RepF C Γ as loc sto s →
  (∀ n vals adv Cond it hid as1 s1 loc1 sto1 St, Post C Γ as s as1 loc1 sto1 s1 → (∀ a ∈ hid, s.heap.get? a = none) → HidOk C hid as1 s1.heap → (∀ Γ', Proto C Γ' target it hid n vals adv Cond St) → St 0 as1 s1.heap → QI n vals adv Cond loc1 sto1 → K (.ref it) s1) →
  wpAny (model C.prog C.w) Γ.A (eval iter Γ.env) (fun x s1 => wpAny (model C.prog C.w) Γ.A (pyIter x) K E s1) E s
theorem hid_stay {as' : List Addr} {s' : Shared} {sto' : List SO} (hh : HidOk C hid as s.heap) (hn : ∀ a ∈ hid, a ∉ Γ.own) (P : Post C Γ as s as' loc' sto' s') : ∀ a ∈ hid, ∀ o, s.heap.get? a = some o → s'.heap.get? a = some o := fun a ha o e =>
 P.keeps.exact e (fun q => (List.mem_append.mp q).elim (hn a ha) (hh a ha).1) fun es ep d => by
  refine un_0_3 (hh a ha) fun _ _ c167x => ?_; refine un_2_2 c167x fun o' vs e' d' => ?_; clear c167x
  rw [e] at e'; cases e'; rw [d] at d'; cases d'
variable {QS : Out → List (Option V) → List SO → Prop}
theorem w1_for {target iter : Expr} {body orelse : List Stmt} {pos : Pos} (hf : ∀ env x, foldedSetIterable iter env x = pure x)
  (h : WIt C Γ loc sto target iter (fun n vals adv Cond loc1 sto1 =>
   ∃ Inv : Nat → List (Option V) → List SO → Prop, Inv 0 loc1 sto1 ∧ (∀ i l t, i ≤ n → Inv i l t → Cond i t) ∧
    (∀ i l t, i < n → Inv i l t → WL C Γ l (adv i t) (f1 (assign target Γ.env)) [vals i] RU (fun _ l2 t2 => WS C Γ l2 t2 body (fun o l3 t3 => match o with
     | .next | .cont => Inv (i + 1) l3 t3
     | .brk => QS .next l3 t3
     | .ret v => QS (.ret v) l3 t3) (fun _ _ _ => False)) (fun _ _ _ => False)) ∧
    (∀ l t, Inv n l t → WS C Γ l (adv n t) orelse QS (fun _ _ _ => False)))) :
  W1 C Γ loc sto (.For target iter body orelse pos) QS X := fun s as F => by
 rw [exec_For]
 refine wpAny_bind (wpAny_standAt (wpAny_bind (wpAny_mono (h s as (fun it s2 => wpAny (model C.prog C.w) Γ.A (runOwn (.forLoop target it body orelse Γ.env) Γ.env) (OkP C Γ as s RFl QS) (ErP C Γ as s X) s2) (ErP C Γ as s X) F fun n vals adv Cond it hid as1 s2 loc1 sto1 St P2 hnew hok pr st0 => ?_) (fun y s1 hy => ?_) fun _ _ h => h)))
 case refine_2 => exact wpAny_bind (wpAny_of_eq (hf _ _) (wpAny_bind (wpAny_standAt (wpAny_bind (wpAny_holding hy)))))
 intro r84y0
 refine un_1_4 (r84y0) fun Inv i0 ic ib ie => ?_; (try clear r84y0)
 refine wpAny_runOwn ?_
 have hno : ∀ a ∈ hid, a ∉ Γ.own := fun a ha q => by
  refine un_1_2 (F.plain a q) fun o e _ => ?_
  rw [hnew a ha] at e; cases e
 have mk : (Γ.A.mark none) = Γ.A := rfl
 rw [mk]
 refine codeAny_for (fun m s3 => ForI C (Γ.hide hid) hid as1 s2 St Inv n m s3) ?_ n ⟨0, as1, loc1, sto1, Nat.zero_le _, rfl, Post.refl (P2.rep.hideR hok), hok, st0, i0⟩
 rintro m s3 ⟨i, as3, loc3, sto3, hi, rfl, P3, hok3, st3, inv⟩
 have R3 : RepF C Γ as3 loc3 sto3 s3 := P3.rep.unhide (fun _ _ => trivial) F.ok
 by_cases hlt : i < n
 ·refine wpAny_mono ((pr Γ).item i hlt s3 as3 loc3 sto3 (fun v s'' => wpAny (model C.prog C.w) Γ.A (assign target Γ.env v) (fun _ s₂ => wpAny (model C.prog C.w) Γ.A (execs body Γ.env) (fun f s₃ => match f with
     | .next | .cont => ∃ m, m < n - i ∧ ForI C (Γ.hide hid) hid as1 s2 St Inv n m s₃
     | .brk => OkP C Γ as s RFl QS .next s₃
     | .ret v => OkP C Γ as s RFl QS (.ret v) s₃) (fun _ _ => False) s₂) (fun _ _ => False) s'') (fun _ _ => False) R3 hok3 hno (ic i _ _ hi inv) st3 fun v s4 P4 hok4 rv st4 => ?_) ?_ fun _ _ h => h
  ·have R4 : RepF C Γ as3 loc3 (adv i sto3) s4 := P4.rep.unhide (fun _ _ => trivial) F.ok
   refine wpAny_mono (ib i loc3 sto3 hlt inv s4 as3 [v] R4 (vrs1 rv)) ?_ fun _ _ ⟨_, _, _, _, _, _, hF⟩ => hF
   rintro _ s5 ⟨as5, loc5, sto5, _, P5, _, q5⟩
   have hok5 := hok4.post hno P5
   refine wpAny_mono (q5 s5 as5 P5.rep) ?_ fun _ _ ⟨_, _, _, _, _, _, hF⟩ => hF
   rintro f s6 ⟨as6, loc6, sto6, o, P6, rf, q6⟩
   have hok6 := hok5.post hno P6
   have PP : Post C (Γ.hide hid) as1 s2 as6 loc6 sto6 s6 := P3.trans (P4.trans ((P5.hide hok4 hno).trans (P6.hide hok5 hno)))
   have PF : Post C Γ as s as6 loc6 sto6 s6 := Post.unhide P2 hnew PP
   have st6 : St (i + 1) as6 s6.heap := (pr Γ).stay _ _ _ _ _ ((pr Γ).stay _ _ _ _ _ st4 P5.pre (hid_stay hok4 hno P5) (P5.tups R4)) P6.pre (hid_stay hok5 hno P6) (P6.tups P5.rep)
   cases o with
   | next => have : f = .next := rf; subst this; exact ⟨n - (i + 1), by lia, i + 1, as6, loc6, sto6, by lia, rfl, PP, hok6, st6, q6⟩
   | cont => have : f = .cont := rf; subst this; exact ⟨n - (i + 1), by lia, i + 1, as6, loc6, sto6, by lia, rfl, PP, hok6, st6, q6⟩
   | brk => have : f = .brk := rf; subst this; exact (show OkP C Γ as s RFl QS .next s6 from ⟨as6, loc6, sto6, .next, PF, rfl, q6⟩)
   | ret u => obtain ⟨z, rfl, rz⟩ := rf; exact (show OkP C Γ as s RFl QS (.ret z) s6 from ⟨as6, loc6, sto6, .ret u, PF, ⟨z, rfl, rz⟩, q6⟩)
  ·intro r s4 r86y2
   refine un_1_2 (r86y2) fun v e173x1 hv => ?_; (try clear r86y2); subst e173x1
   exact hv
 ·have hin : i = n := by lia
  subst hin
  refine wpAny_mono ((pr Γ).done s3 as3 loc3 sto3 _ (fun _ _ => False) R3 hok3 hno (ic i _ _ hi inv) st3 fun s' tr => ?_) (fun r s4 hr => by obtain ⟨rfl, hr⟩ := hr; exact hr) fun _ _ h => h
  have PF : Post C Γ as s as3 loc3 (adv i sto3) s' := tr Γ loc3 as s (Post.unhide P2 hnew P3) hnew hno
  refine wpAny_mono (ie loc3 sto3 inv _ as3 PF.rep) ?_ fun _ _ ⟨_, _, _, _, _, _, hF⟩ => hF
  rintro f s5 ⟨as5, loc5, sto5, o, P5, rf, q5⟩
  exact (show OkP C Γ as s RFl QS f s5 from ⟨as5, loc5, sto5, o, PF.trans P5, rf, q5⟩)
end
end Mine
namespace Mine
open PySem PySem.W PyProof.Rows PySem.Calls
theorem Ext.of_extBut {h h' : Heap} (k : Heap.ExtBut h.objs.size h h') : Ext h h' := fun b o e => k b o (Nat.ne_of_lt (Heap.lt_size e)) e
section
variable {α β : Type} {C : Cst} {Γ Γ' : Fm} {loc loc' : List (Option V)} {sto : List SO} {Q : V → List (Option V) → List SO → Prop} {X : XV → List (Option V) → List SO → Prop} {QU : Unit → List (Option V) → List SO → Prop}
theorem wt_name {x : Str} {pos : Pos} {v : V} (q : SetSlot Γ.sl loc x v loc') (ho : ∀ c, (x, some c) ∈ Γ.sl → c ∈ Γ.own) (h : QU () loc' sto) : WL C Γ loc sto (f1 (assign (.Name x pos) Γ.env)) [v] RU QU X := fun s as xs F r => by
 have h1 := wl_store (C := C) (Γ := Γ) (sto := sto) (X := X) (Q := QU) q ho h s as xs F r
 unfold VRs at r
 refine un_2_3 (r) fun y ys e175x2 r1 r2 => ?_; (try clear r); subst e175x2
 unfold VRs at r2; subst r2
 exact wpAny_assign_Name h1
noncomputable def inOrder (ts : List (Value → Sem Unit)) : List Value → Sem Unit := fun xs => assignInOrder ts xs
theorem wt_nil {ts : List (Value → Sem Unit)} (hts : ts = []) (h : QU () loc sto) : WL C Γ loc sto (inOrder ts) [] RU QU X := fun s as xs F r => by
 unfold VRs at r; subst r; subst hts
 exact wpAny_pure ⟨as, loc, sto, (), Post.refl F, trivial, h⟩
theorem wt_cons {t : Value → Sem Unit} {ts : List (Value → Sem Unit)} {v : V} {vs : List V}
  (h : WL C Γ loc sto (f1 t) [v] RU (fun _ l1 t1 => WL C Γ l1 t1 (inOrder ts) vs RU QU X) X) : WL C Γ loc sto (inOrder (t :: ts)) (v :: vs) RU QU X := fun s as xs F r => by
 unfold VRs at r
 refine un_2_3 (r) fun y ys e176x2 r1 r2 => ?_; (try clear r); subst e176x2
 show wpAny _ _ (do holding ys (t y); assignInOrder ts ys) _ _ _
 refine wpAny_bind (wpAny_holding (wpAny_mono (h s as [y] F (vrs1 r1)) ?_ fun _ _ h => h))
 rintro u s1 ⟨as1, loc1, sto1, b, P1, _, q1⟩
 exact wpL (f := inOrder ts) (loc0 := loc) (sto0 := sto) P1 (P1.vrs F r2) q1
theorem wt_tuple {elts : List Expr} {k : Nat} {pos : Pos} {vs : List V} (hn : (assignEach elts Γ.env).length = vs.length) (hstar : (assignEach elts Γ.env).findIdx? (·.1) = none)
  (h : WL C Γ loc sto (inOrder ((assignEach elts Γ.env).map (·.2))) vs RU QU X) : WL C Γ loc sto (f1 (assign (.Tuple elts k pos) Γ.env)) [.tup vs] RU QU X := wl1 fun s as x F r => by
 refine un_2_3 (vr_tup_inv r) fun a its e178x2 ht ri => ?_; subst e178x2
 have hl := ri.length
 rw [Array.length_toList] at hl
 show wpAny _ _ (do standAt pos; unpack (.ref a) (assignEach elts Γ.env)) _ _ _
 refine wpAny_bind (wpAny_standAt (PyProof.Rows.unpack_tuple F.ok.hand ht (hn.trans hl.symm) hstar fun h' he => ?_))
 have P1 := Post.ext (t := s.toks) F (Ext.of_extBut he) F.g.toks
 exact wpL (f := inOrder ((assignEach elts Γ.env).map (·.2))) (loc0 := loc) (sto0 := sto) P1 (P1.vrs F ri) h
variable {QS : Out → List (Option V) → List SO → Prop}
theorem w1_assign_tuple {elts : List Expr} {k : Nat} {tpos pos : Pos} {e : Expr} (hs : swapsWithSole [.Tuple elts k tpos] e pos.line Γ.env = pure false) (hw : swappedStores [.Tuple elts k tpos] e Γ.env = pure none)
  (h : WE C Γ loc sto e (fun v l1 t1 => WL C Γ l1 t1 (f1 (assign (.Tuple elts k tpos) Γ.env)) [v] RU (fun _ l t => QS .next l t) X) X) : W1 C Γ loc sto (.Assign [.Tuple elts k tpos] e pos) QS X := fun s as F => by
 refine Assign_Tuple (wpAny_mono (h s as F) ?_ fun _ _ h => h) hs hw
 rintro x s1 ⟨as1, loc1, sto1, v, P1, r1, q1⟩
 refine wpAny_mono (wpL (f := f1 (assign (.Tuple elts k tpos) Γ.env)) (xs := [x]) (loc0 := loc) (sto0 := sto) P1 (vrs1 r1) q1) ?_ fun _ _ h => h
 rintro u s2 ⟨as2, loc2, sto2, b, P2, _, q2⟩
 exact ⟨as2, loc2, sto2, .next, P2, rfl, q2⟩
theorem w1_assign_swap {elts : List Expr} {k : Nat} {tpos pos : Pos} {e : Expr} {names : List Str} (hs : swapsWithSole [.Tuple elts k tpos] e pos.line Γ.env = pure false) (hw : swappedStores [.Tuple elts k tpos] e Γ.env = pure (some names))
  (h : WE C Γ loc sto e (fun v l1 t1 => ∃ vs, v = .tup vs ∧ vs.length = names.length ∧ WL C Γ l1 t1 (inOrder (names.reverse.map fun n => bindName Γ.env n)) vs.reverse RU (fun _ l t => QS .next l t) X) X) : W1 C Γ loc sto (.Assign [.Tuple elts k tpos] e pos) QS X := fun s as F => by
 refine Assign_Tuple_swapped (wpAny_mono (h s as F) ?_ fun _ _ h => h) hs hw
 rintro x s1 ⟨as1, loc1, sto1, v, P1, r1, vs, rfl, hl, q1⟩
 refine un_2_3 (vr_tup_inv r1) fun a its e182x2 ht ri => ?_; subst e182x2
 have hl2 := ri.length
 rw [Array.length_toList] at hl2
 rw [show names.length = its.size by lia]
 refine PyProof.Rows.unpackItems_tuple F.ok.hand ht fun h' he => ?_
 have P2 := Post.ext (t := s1.toks) P1.rep (Ext.of_extBut he) P1.rep.g.toks
 refine wpAny_mono (wpL (f := inOrder (names.reverse.map fun n => bindName Γ.env n)) (xs := its.toList.reverse) (loc0 := loc) (sto0 := sto) (P1.trans P2) (VRs.reverse (P2.vrs P1.rep ri)) q1) ?_ fun _ _ h => h
 rintro u s2 ⟨as2, loc2, sto2, b, P2, _, q2⟩
 exact ⟨as2, loc2, sto2, .next, P2, rfl, q2⟩
theorem wt_bind {x : Str} {v : V} (q : SetSlot Γ.sl loc x v loc') (ho : ∀ c, (x, some c) ∈ Γ.sl → c ∈ Γ.own) (h : QU () loc' sto) : WL C Γ loc sto (f1 (bindName Γ.env x)) [v] RU QU X := fun s as xs F r => by
 have h1 := wl_store (C := C) (Γ := Γ) (sto := sto) (X := X) (Q := QU) q ho h s as xs F r
 unfold VRs at r
 refine un_2_3 (r) fun y ys e184x2 r1 r2 => ?_; (try clear r); subst e184x2
 unfold VRs at r2; subst r2
 exact wpAny_bindName h1
theorem w1_expr {e : Expr} {pos : Pos} (hs : ∀ env : Env, swapsWith e none pos.line env = pure false) (h : WE C Γ loc sto e (fun _ l t => QS .next l t) X) : W1 C Γ loc sto (.Expr e pos) QS X := fun s as F => by
 refine wpAny_Expr_any (wpAny_mono (h s as F) ?_ fun _ _ h => h) (by unfold interactive; rw [F.ok.kind]; rfl) (hs _)
 rintro f s3 ⟨as3, loc3, sto3, o, P3, r3, q3⟩
 exact ⟨as3, loc3, sto3, .next, P3, rfl, q3⟩
end
end Mine
namespace Mine
open PySem PySem.W PyProof.Rows PySem.Calls
theorem go_free {prog : Program} {w : World} {A : Around} {E : Value → Shared → Prop} {s : Shared} {target : Expr} {it : Addr} {v : Value} {T : String} {Q : Unit → Shared → Prop} (h : s.TypeIs (.ref it) T)
  (hT : (["enumerate", "zip", "dict_itemiterator", "dict_reverseitemiterator", "odict_iterator", "itertools.zip_longest", "itertools.pairwise"].contains T) = false) (hQ : Q () s) :
  wpAny (model prog w) A (letOwnedTupleGo target (.ref it) v) Q E s := by
 refine un_1_2 (h) fun o ho hc => ?_; (try clear h)
 have two : ∀ a : Addr, it = it → wpAny (model prog w) A (letOwnedTupleGo (.Tuple [] 0 ⟨0, 0, 0, 0⟩) (.ref it) (.ref a)) Q E s := fun a _ => by
  show wpAny _ _ (do let o ← load it; _) _ _ _
  refine wpAny_bind (wpAny_load ho ?_)
  rw [hc]
  cases o.data with
  | fields vs => show wpAny _ _ (if (_ && _) = true then _ else _) _ _ _; rw [if_neg (by rw [hT]; simp)]; exact wpAny_pure hQ
  | _ => exact wpAny_pure hQ
 cases target with
 | Tuple _ _ _ => cases v with
  | ref a => exact two a rfl
  | _ => exact wpAny_pure hQ
 | List _ _ => cases v with
  | ref a => exact two a rfl
  | _ => exact wpAny_pure hQ
 | _ => exact wpAny_pure hQ
noncomputable abbrev ItQ := Nat → (Nat → V) → (Nat → List SO → List SO) → (Nat → List SO → Prop) → List (Option V) → List SO → Prop
noncomputable def VIt (C : Cst) (Γ : Fm) (loc : List (Option V)) (sto : List SO) (target : Expr) (v : V) (QI : ItQ) : Prop :=
 ∀ s as x (K E : Value → Shared → Prop), RepF C Γ as loc sto s → VR as s.heap v x →
  (∀ n vals adv Cond it hid as1 s1 loc1 sto1 St, Post C Γ as s as1 loc1 sto1 s1 → (∀ a ∈ hid, s.heap.get? a = none) → HidOk C hid as1 s1.heap → (∀ Γ', Proto C Γ' target it hid n vals adv Cond St) → St 0 as1 s1.heap → QI n vals adv Cond loc1 sto1 → K (.ref it) s1) →
  wpAny (model C.prog C.w) Γ.A (pyIter x) K E s
section
variable {C : Cst} {Γ : Fm} {loc loc' : List (Option V)} {sto : List SO} {QI : ItQ} {target iter : Expr}
theorem wit_of (h : WE C Γ loc sto iter (fun v l t => VIt C Γ l t target v QI) (fun _ _ _ => False)) : WIt C Γ loc sto target iter QI := fun s as K E F hK => by
 refine wpAny_mono (h s as F) ?_ fun _ _ ⟨_, _, _, _, _, _, hF⟩ => hF.elim
 rintro x s1 ⟨as1, loc1, sto1, v, P1, r1, q1⟩
 exact q1 s1 as1 x K E P1.rep r1 fun n vals adv Cond it hid as2 s2 loc2 sto2 St P2 hn => hK n vals adv Cond it hid as2 s2 loc2 sto2 St (P1.trans P2) fun a ha => P1.dom a (hn a ha)
theorem hid_new {as : List Addr} {s : Shared} {o : Obj} {vs : Array Value} {t : Nat} (F : RepF C Γ as loc sto s) (hd : o.data = .fields vs) (ht : 0 < t) (hf : o.isFreed = false := by rfl) :
  Post C Γ as s as loc sto { s with heap := s.heap.push o, toks := t } ∧ (∀ a ∈ [s.heap.objs.size], s.heap.get? a = none) ∧ HidOk C [s.heap.objs.size] as (s.heap.push o) := by
 refine ⟨Post.ext F (Ext.push _ _) ht, fun a ha => ?_, fun a ha => ?_⟩ <;> (rw [List.mem_singleton] at ha; subst ha)
 ·exact get_size_none _
 ·refine ⟨fun q => ?_, Ext.dom F.g.keep _ (get_size_none _), o, vs, Heap.get?_push_size _ hf, hd⟩
  refine un_1_2 (F.g.mem_lt q) fun o' e _ => ?_
  rw [get_size_none] at e; cases e
theorem vit_list {k : Nat} {items : List V} (hk : sto[k]? = some (.list items)) (h : QI items.length (fun i => items[i]?.getD .none) (fun _ t => t) (fun _ t => t[k]? = some (.list items)) loc sto) : VIt C Γ loc sto target (.lst k) QI := fun s as x K E F r hK => by
 refine un_3_4 (lst_at F r hk) fun a its n e189x3 ea e ri => ?_; subst e189x3
 refine un_0_3 (hid_new (o := { cls := .type "list_iterator", data := .fields #[.ref a, .int 0 0] }) (t := s.toks) F rfl F.g.toks) fun p1 p2 p3 => ?_
 refine wpAny_pyIter_list ⟨_, e, rfl, n, rfl⟩ (hK items.length _ _ _ s.heap.objs.size [s.heap.objs.size] as _ loc sto (fun i as h => ∃ la, as[k]? = some la ∧ h.IsListIter s.heap.objs.size la i) p1 p2 p3 ?_ ⟨a, ea, _, Heap.get?_push_size _ rfl, rfl, rfl⟩ h)
 generalize s.heap.objs.size = it
 refine fun Γ' => ⟨?_, ?_, ?_, ?_⟩
 ·intro i as h as' h' r96y5 r96y6 hs _
  refine un_1_2 (r96y5) fun la e1 c191x => ?_; (try clear r96y5); refine un_1_2 c191x fun o e2 e3 => ?_; clear c191x
  obtain ⟨t, rfl⟩ := r96y6
  exact ⟨la, by rw [List.getElem?_append_left (List.getElem?_eq_some_iff.mp e1).1]; exact e1, o, hs it (by simp) o e2, e3⟩
 ·intro i s as loc sto K E F hc r97y9 hK
  refine un_1_2 (r97y9) fun la e1 hit => ?_; (try clear r97y9)
  exact wpAny_pyIter_listiter hit hK
 ·intro i hi s as loc sto K E F hh hn hc r98y12 hK
  refine un_1_2 (r98y12) fun la e1 hit => ?_; (try clear r98y12)
  refine un_2_2 (F.g.objs k la _ e1 hc) fun its n e2 ri => ?_
  refine un_1_2 (ri.get (List.getElem?_eq_getElem hi)) fun x ex rx => ?_
  have hl : s.heap.IsList la its := ⟨_, e2, rfl, n, rfl⟩
  have hL : la ≠ it := fun q => (hh it (by simp)).1 (q ▸ List.mem_of_getElem? e1)
  refine wpAny_pyNext_list_item hit hl (by rw [← Array.getElem?_toList]; exact ex) fun h' hit' hs' => ⟨x, rfl, go_free hit'.typeIs (by decide) ?_⟩
  have hk2 : ∀ b o, b ∉ [it] → s.heap.get? b = some o → h'.get? b = some o := fun b o hb e => hs'.extBut b o (fun q => hb (by simp [q])) e
  have hh' : HidOk C [it] as h' := fun b hb => by
   have hb2 := hb
   rw [List.mem_singleton] at hb2; subst hb2
   refine un_1_3 (hit') fun o eo _ ed => ?_; (try clear hit')
   exact ⟨(hh _ hb).1, (hh _ hb).2.1, o, _, eo, ed⟩
  have P := Post.turnH (t := s.toks) F hh hn hk2 hh' F.g.toks
  refine hK x _ P hh' ?_ ⟨la, e1, hit'⟩
  show VR as h' (items[i]?.getD .none) x
  rw [List.getElem?_eq_getElem hi]
  exact VR.mono List.prefix_rfl (P.tups (F.hideR hh)) _ _ rx
 ·intro s as loc sto K E F hh hn hc r102y10 hK
  refine un_1_2 (r102y10) fun la e1 hit => ?_; (try clear r102y10)
  refine un_2_2 (F.g.objs k la _ e1 hc) fun its n e2 ri => ?_
  have hl : s.heap.IsList la its := ⟨_, e2, rfl, n, rfl⟩
  have hsz := ri.length
  rw [Array.length_toList] at hsz
  exact wpAny_pyNext_list_end F.ok.hand hit hl (by rw [Array.getElem?_eq_none]; lia) fun h' he' => ⟨rfl, hK _ (fin_of hh (fun b o hb e => he' b o (fun q => hb (by simp [q])) e) F.g.toks)⟩
theorem vit_tup {items : List V} (h : QI items.length (fun i => items[i]?.getD .none) (fun _ t => t) (fun _ _ => True) loc sto) : VIt C Γ loc sto target (.tup items) QI := fun s as x K E F r hK => by
 refine un_2_3 (vr_tup_inv r) fun a its e199x2 ht ri => ?_; subst e199x2
 refine un_0_3 (hid_new (o := { cls := .type "tuple_iterator", data := .fields #[.ref a, .int 0 0] }) (t := s.toks) F rfl F.g.toks) fun p1 p2 p3 => ?_
 refine iter_tuple ht (hK items.length _ _ _ s.heap.objs.size [s.heap.objs.size] as _ loc sto (fun i as h => VR as h (.tup items) (.ref a) ∧ IsTupIter h s.heap.objs.size a i) p1 p2 p3 ?_ ⟨p1.vr F r, _, Heap.get?_push_size _ rfl, rfl, rfl⟩ h)
 generalize s.heap.objs.size = it
 refine fun Γ' => ⟨?_, ?_, ?_, ?_⟩
 ·intro i as h as' h' r106y5 hp hs tk
  refine un_0_2 (r106y5) fun rv c201x => ?_; (try clear r106y5); refine un_1_2 c201x fun o e2 e3 => ?_; clear c201x
  exact ⟨VR.mono hp tk _ _ rv, o, hs it (by simp) o e2, e3⟩
 ·rintro i s as loc sto K E F hc ⟨rv, hit⟩ hK
  exact wpAny_pyIter_tupleiter hit hK
 ·rintro i hi s as loc sto K E F hh hn hc ⟨rv, hit⟩ hK
  refine un_2_3 (vr_tup_inv rv) fun a' its ea ht ri => ?_
  cases ea
  refine un_1_2 (ri.get (List.getElem?_eq_getElem hi)) fun x ex rx => ?_
  have hty : ∀ h' : Heap, IsTupIter h' it a (i + 1) → ∃ o, h'.get? it = some o ∧ o.cls = .type "tuple_iterator" := fun h' ⟨o, e1, e2, _⟩ => ⟨o, e1, e2⟩
  refine next_tuple_item hit ht (by rw [← Array.getElem?_toList]; exact ex) fun h' hit' hs' => ⟨x, rfl, go_free (T := "tuple_iterator") (hty h' hit') (by decide) ?_⟩
  have hk2 : ∀ b o, b ∉ [it] → s.heap.get? b = some o → h'.get? b = some o := fun b o hb e => hs'.extBut b o (fun q => hb (by simp [q])) e
  have hh' : HidOk C [it] as h' := fun b hb => by
   have hb2 := hb
   rw [List.mem_singleton] at hb2; subst hb2
   refine un_1_3 (hit') fun o eo _ ed => ?_; (try clear hit')
   exact ⟨(hh _ hb).1, (hh _ hb).2.1, o, _, eo, ed⟩
  have P := Post.turnH (t := s.toks) F hh hn hk2 hh' F.g.toks
  refine hK x _ P hh' ?_ ⟨VR.mono List.prefix_rfl (P.tups (F.hideR hh)) _ _ rv, hit'⟩
  show VR as h' (items[i]?.getD .none) x
  rw [List.getElem?_eq_getElem hi]
  exact VR.mono List.prefix_rfl (P.tups (F.hideR hh)) _ _ rx
 ·rintro s as loc sto K E F hh hn hc ⟨rv, hit⟩ hK
  refine un_2_3 (vr_tup_inv rv) fun a' its ea ht ri => ?_
  cases ea
  have hsz := ri.length
  rw [Array.length_toList] at hsz
  exact next_tuple_end F.ok.hand hit ht (by rw [Array.getElem?_eq_none]; lia) fun h' he' => ⟨rfl, hK _ (fin_of hh (fun b o hb e => he' b o (fun q => hb (by simp [q])) e) F.g.toks)⟩
theorem proto_range {it : Addr} {a step : Int} {n : Nat} : Proto C Γ target it [it] n (fun i => .int (a + i * step)) (fun _ t => t) (fun _ _ => True) (fun i as h => IsRangeIter h it (a + i * step) ((n : Int) - i) step) := by
 refine ⟨?_, ?_, ?_, ?_⟩
 ·rintro i as h as' h' e hp hs tk
  exact hs it (by simp) _ e
 ·rintro i s as loc sto K E F hc hit hK
  exact wpAny_pyIter_rangeiter hit hK
 ·rintro i hi s as loc sto K E F hh hn hc hit hK
  refine wpAny_pyNext_range_item hit (by lia) fun h' hit' hs' => ⟨_, rfl, go_free (T := "range_iterator") ⟨_, hit', rfl⟩ (by decide) ?_⟩
  have hk2 : ∀ b o, b ∉ [it] → s.heap.get? b = some o → h'.get? b = some o := fun b o hb e => hs'.extBut b o (fun q => hb (by simp [q])) e
  have hh' : HidOk C [it] as h' := fun b hb => by
   have hb2 := hb
   rw [List.mem_singleton] at hb2; subst hb2
   exact ⟨(hh _ hb).1, (hh _ hb).2.1, _, _, hit', rfl⟩
  have P := Post.turnH (t := s.toks + 1) F hh hn hk2 hh' (Nat.succ_pos _)
  refine hK _ _ P hh' vr_int ?_
  have e1 : a + (i : Int) * step + step = a + ((i + 1 : Nat) : Int) * step := by push_cast; rw [Int.add_mul]; lia
  have e2 : (n : Int) - i - 1 = (n : Int) - ((i + 1 : Nat) : Int) := by push_cast; lia
  rw [e1, e2] at hit'
  exact hit'
 ·rintro s as loc sto K E F hh hn hc hit hK
  exact wpAny_pyNext_range_end F.ok.hand hit (by lia) fun h' he' => ⟨rfl, hK _ (fin_of hh (fun b o hb e => he' b o (fun q => hb (by simp [q])) e) F.g.toks)⟩
noncomputable def rsz (a b c : Int) : Nat := (Builtin.Range.rangeSize a b c).toNat
theorem iter_range {s : Shared} {as : List Addr} {r : Addr} {a b c : Int} {t u v : Tok} {K E : Value → Shared → Prop} (F : RepF C Γ as loc sto s) (hr : IsRange s.heap r a b c t u v) (hsmall : Builtin.Range.small a b c = true) (h0 : 0 ≤ Builtin.Range.rangeSize a b c)
  (hK : ∀ n vals adv Cond it hid as1 s1 loc1 sto1 St, Post C Γ as s as1 loc1 sto1 s1 → (∀ a ∈ hid, s.heap.get? a = none) → HidOk C hid as1 s1.heap → (∀ Γ', Proto C Γ' target it hid n vals adv Cond St) → St 0 as1 s1.heap → QI n vals adv Cond loc1 sto1 → K (.ref it) s1)
  (h : QI (rsz a b c) (fun i => .int (a + i * c)) (fun _ t => t) (fun _ _ => True) loc sto) : wpAny (model C.prog C.w) Γ.A (pyIter (.ref r)) K E s := by
 refine un_0_3 (hid_new (o := { cls := .type "range_iterator", data := .fields #[rawInt a, rawInt (Builtin.Range.rangeSize a b c), rawInt c] }) (t := s.toks) F rfl F.g.toks) fun p1 p2 p3 => ?_
 refine wpAny_pyIter_range hr hsmall (hK _ _ _ _ s.heap.objs.size _ as _ loc sto _ p1 p2 p3 (fun Γ' => proto_range (a := a) (step := c) (n := rsz a b c)) ?_ h)
 have := Heap.get?_push_size s.heap (o := { cls := .type "range_iterator", data := .fields #[rawInt a, rawInt (Builtin.Range.rangeSize a b c), rawInt c] }) rfl
 unfold IsRangeIter
 rw [this, show ((rsz a b c : Nat) : Int) - ((0 : Nat) : Int) = Builtin.Range.rangeSize a b c by unfold rsz; lia]
 simp
end
end Mine
namespace Mine
open PySem PySem.W PyProof.Rows PySem.Calls
theorem sub_ri_reversed : isSubtype (.type "range_iterator") (.type "reversed") = pure false := by rw [isSubtype_type]; kernel_rfl
section
variable {prog : Program} {w : World} {A : Around} {E : Value → Shared → Prop} {s : Shared}
theorem range_reversed_m (r : Addr) (a b c : Int) (t u v : Tok) (hc : (Builtin.Range.rangeFitsLong a && Builtin.Range.rangeFitsLong b && Builtin.Range.rangeFitsLong c && Builtin.Range.rangeFitsLong (-c) && Builtin.Range.rangeFitsLong (a - c) && Builtin.Range.rangeFitsLong (Builtin.Range.rangeSize a b c)) = true) :
  Meets (Builtin.«range.__reversed__» ⟨[.ref r], []⟩) (fun _ R s => s.heap.get? r = some { cls := .type "range", dict := none, data := .fields #[.int a t, .int b u, .int c v], slots := #[] } ∧
   R (.ok (.ret (.ref s.heap.objs.size))) { s with heap := s.heap.push { cls := .type "range_iterator", data := .fields #[rawInt (a + (Builtin.Range.rangeSize a b c - 1) * c), rawInt (Builtin.Range.rangeSize a b c), rawInt (-c)] } }) :=
 .of_wp fun prog w A R s h => by
  obtain ⟨hp, g, d, tk, os⟩ := s; obtain ⟨hl, h⟩ := h
  have hc0 : ¬ (!(Builtin.Range.rangeFitsLong a && Builtin.Range.rangeFitsLong b && Builtin.Range.rangeFitsLong c && Builtin.Range.rangeFitsLong (-c) && Builtin.Range.rangeFitsLong (a - c) && Builtin.Range.rangeFitsLong (Builtin.Range.rangeSize a b c))) = true := by rw [hc]; decide
  wp_walk
  rw [if_pos hc]
  exact ⟨_, rfl, h⟩
theorem code_reversed_range {r : Addr} {a b c : Int} {t u v : Tok} {Q₁ : Value → Shared → Prop} (hr : IsRange s.heap r a b c t u v)
  (hc : (Builtin.Range.rangeFitsLong a && Builtin.Range.rangeFitsLong b && Builtin.Range.rangeFitsLong c && Builtin.Range.rangeFitsLong (-c) && Builtin.Range.rangeFitsLong (a - c) && Builtin.Range.rangeFitsLong (Builtin.Range.rangeSize a b c)) = true)
  (h : Q₁ (.ref s.heap.objs.size) { s with heap := s.heap.push { cls := .type "range_iterator", data := .fields #[rawInt (a + (Builtin.Range.rangeSize a b c - 1) * c), rawInt (Builtin.Range.rangeSize a b c), rawInt (-c)] } }) :
  codeAny (model prog w) A (.call (.builtin "reversed.__new__") ⟨[.type "reversed", .ref r], []⟩) (wants Q₁ E) s := by
 have hT : s.TypeIs (.ref r) "range" := ⟨_, hr, rfl⟩
 refine codeAny_of_tree ?_
 show wpAny _ A.in1 (do checkBuiltinCall "reversed.__new__" ⟨[.type "reversed", .ref r], []⟩; again (.builtin "reversed.__new__" ⟨[.type "reversed", .ref r], []⟩)) _ _ s
 refine wpAny_bind (wpAny_of_eq (F.newCall_reversed_1 _) (wpAny_pure ⟨plainId_quiet F.plain_reversed_new _, codeAny_builtin F.entry_reversed_new ?_⟩))
 rw [Around.under_plainId F.plain_reversed_new _]
 unfold Builtin.«reversed.__new__»
 refine wpAny_bind (wpAny_of_eq (newClass_reversed _) ?_)
 try dsimp only
 refine wpAny_bind (wpAny_of_eq (a := ()) (by first | rfl | kernel_rfl) ?_)
 refine wpAny_bind (wpAny_of_eq (a := ()) (by first | rfl | kernel_rfl) ?_)
 try dsimp only
 refine wpAny_bind (wpAny_specialOf hT F.slot_range_reversed.lookup ?_)
 try dsimp only
 refine wpAny_bind (wpAny_of_eq (F.slot_range_reversed.bind _) ?_)
 try dsimp only
 first
 | rw [if_neg (show ¬ ((Value.builtin "range.__reversed__" == Value.none) = true) from Bool.false_ne_true)]
 | (show wpAny _ _ (if (Value.builtin "range.__reversed__" == Value.none) = true then _ else _) _ _ _; rw [if_neg (show ¬ ((Value.builtin "range.__reversed__" == Value.none) = true) from Bool.false_ne_true)])
 refine wpAny_bind (wpAny_rule ?_)
 refine wpAny_bind (m := runValue (.call (.builtin "range.__reversed__") ⟨[.ref r], []⟩)) (show wpAny _ _ (call (.builtin "range.__reversed__") [.ref r]) _ _ _ from
  call_meets F.slot_range_reversed hT F.entry_range_reversed (F.args_range_reversed_1 _) (range_reversed_m r a b c t u v hc) ⟨hr, ?_⟩)
 first
 | exact wpAny_pure h
 | exact wpAny_bind (wpAny_pure (wpAny_pure h))
theorem call_reversed_range {r : Addr} {a b c : Int} {t u v : Tok} {Q : Value → Shared → Prop} (hr : IsRange s.heap r a b c t u v)
  (hc : (Builtin.Range.rangeFitsLong a && Builtin.Range.rangeFitsLong b && Builtin.Range.rangeFitsLong c && Builtin.Range.rangeFitsLong (-c) && Builtin.Range.rangeFitsLong (a - c) && Builtin.Range.rangeFitsLong (Builtin.Range.rangeSize a b c)) = true)
  (h : Q (.ref s.heap.objs.size) { s with heap := s.heap.push { cls := .type "range_iterator", data := .fields #[rawInt (a + (Builtin.Range.rangeSize a b c - 1) * c), rawInt (Builtin.Range.rangeSize a b c), rawInt (-c)] } }) : wpAny (model prog w) A (call (.type "reversed") [.ref r]) Q E s := by
 refine callType_other (U := "range_iterator") (Q₁ := fun obj s₁ => obj = .ref s.heap.objs.size ∧ s₁ = { s with heap := s.heap.push { cls := .type "range_iterator", data := .fields #[rawInt (a + (Builtin.Range.rangeSize a b c - 1) * c), rawInt (Builtin.Range.rangeSize a b c), rawInt (-c)] } }) (by decide +kernel) F.create_reversed ⟨_, _, F.mro_reversed⟩ F.made_reversed sub_ri_reversed (F.typeCall_reversed_1 _) (code_reversed_range hr hc ⟨rfl, rfl⟩) ?_
 rintro obj s₁ ⟨rfl, rfl⟩
 exact ⟨⟨_, Heap.get?_push_size _ rfl, rfl⟩, h⟩
end
section
variable {C : Cst} {Γ : Fm} {loc loc' : List (Option V)} {sto : List SO} {QI : ItQ} {target iter : Expr}
inductive RangeArgs : List V → Int → Int → Int → Prop
 | one (n : Int) : RangeArgs [.int n] 0 n 1
 | two (a b : Int) : RangeArgs [.int a, .int b] a b 1
 | three (a b c : Int) : c ≠ 0 → c < 1073741824 → -1073741824 < c → RangeArgs [.int a, .int b, .int c] a b c
theorem fits {i : Int} (h : -(2 ^ 62) ≤ i ∧ i ≤ 2 ^ 62) : Builtin.Range.rangeFitsLong i = true := by
 unfold Builtin.Range.rangeFitsLong; simp only [Bool.and_eq_true, decide_eq_true_eq]; lia
structure Small (a b c : Int) : Prop where
 a : -1000000 ≤ a ∧ a ≤ 1000000
 b : -1000000 ≤ b ∧ b ≤ 1000000
 c : c = 1 ∨ c = -1
theorem Small.size {a b c : Int} (h : Small a b c) : 0 ≤ Builtin.Range.rangeSize a b c ∧ Builtin.Range.rangeSize a b c ≤ 2000000 := by
 obtain ⟨⟨h1, h2⟩, ⟨h3, h4⟩, h5⟩ := h
 unfold Builtin.Range.rangeSize
 rcases h5 with rfl | rfl
 ·simp only [show (1 : Int) > 0 by decide, if_true, Int.ediv_one]
  split <;> lia
 ·simp only [show ¬ ((-1 : Int) > 0) by decide, if_false, Int.neg_neg, Int.ediv_one]
  split <;> lia
theorem Small.small {a b c : Int} (h : Small a b c) : Builtin.Range.small a b c = true := by
 have hs := h.size
 obtain ⟨⟨h1, h2⟩, ⟨h3, h4⟩, h5⟩ := h
 unfold Builtin.Range.small
 rw [fits (by lia), fits (by lia), fits (i := c) (by lia), fits (i := Builtin.Range.rangeSize a b c) (by lia), fits (i := b + (c - 1)) (by lia), fits (i := b + (c + 1)) (by lia)]
 simp
theorem Small.rev {a b c : Int} (h : Small a b c) : (Builtin.Range.rangeFitsLong a && Builtin.Range.rangeFitsLong b && Builtin.Range.rangeFitsLong c && Builtin.Range.rangeFitsLong (-c) && Builtin.Range.rangeFitsLong (a - c) && Builtin.Range.rangeFitsLong (Builtin.Range.rangeSize a b c)) = true := by
 have hs := h.size
 obtain ⟨⟨h1, h2⟩, ⟨h3, h4⟩, h5⟩ := h
 rw [fits (by lia), fits (by lia), fits (i := c) (by lia), fits (i := Builtin.Range.rangeSize a b c) (by lia), fits (i := -c) (by lia), fits (i := a - c) (by lia)]
 simp
theorem rsz_up (a b : Int) : rsz a b 1 = (b - a).toNat := by
 unfold rsz; rw [PySem.rangeSize_one]; split <;> lia
theorem rsz_down (a b : Int) : rsz a b (-1) = (a - b).toNat := by
 unfold rsz Builtin.Range.rangeSize
 simp only [show ¬ ((-1 : Int) > 0) by decide, if_false, Int.neg_neg, Int.ediv_one]
 split <;> lia
theorem made_range {s : Shared} {as : List Addr} {vs : List V} {xs : List Value} {a b c : Int} {K E : Value → Shared → Prop} (F : RepF C Γ as loc sto s) (r : VRs as s.heap vs xs) (hv : RangeArgs vs a b c)
  (hK : ∀ t u v tk, 0 < tk → K (.ref s.heap.objs.size) { s with heap := s.heap.push { cls := .type "range", data := .fields #[.int a t, .int b u, .int c v] }, toks := tk }) : wpAny (model C.prog C.w) Γ.A (call (.type "range") xs) K E s := by
 cases hv with
 | one n =>
  unfold VRs at r
  obtain ⟨y, ys, rfl, r1, r2⟩ := r
  unfold VRs at r2; subst r2
  obtain ⟨t, rfl⟩ := jTA r1
  exact call_range_1 (hK _ _ _ _ (Nat.succ_pos _))
 | two a b =>
  unfold VRs at r
  obtain ⟨y, ys, rfl, r1, r2⟩ := r
  unfold VRs at r2
  obtain ⟨y, ys, rfl, r2, r3⟩ := r2
  unfold VRs at r3; subst r3
  obtain ⟨t, rfl⟩ := jTA r1
  obtain ⟨t, rfl⟩ := jTA r2
  exact call_range_2 (hK _ _ _ _ (Nat.succ_pos _))
 | three a b c h1 h2 h3 =>
  unfold VRs at r
  obtain ⟨y, ys, rfl, r1, r2⟩ := r
  unfold VRs at r2
  obtain ⟨y, ys, rfl, r2, r3⟩ := r2
  unfold VRs at r3
  obtain ⟨y, ys, rfl, r3, r4⟩ := r3
  unfold VRs at r4; subst r4
  obtain ⟨t, rfl⟩ := jTA r1
  obtain ⟨t, rfl⟩ := jTA r2
  obtain ⟨t, rfl⟩ := jTA r3
  exact call_range_3 h1 (hK _ _ _ _ F.g.toks) (Or.inl (PyProof.noPylong_small (by lia)))
theorem wit_range {x : Str} {p pos : Pos} {es : List Expr} (hp : Plain es)
  (h : WE C Γ loc sto (.Name x p) (fun v l t => v = .raw (.type "range") ∧ W C Γ l t (spliced (backTo pos (starEach es Γ.env))) VRs (fun vs l t => ∃ a b c, RangeArgs vs a b c ∧ Small a b c ∧
   QI (rsz a b c) (fun i => .int (a + i * c)) (fun _ t => t) (fun _ _ => True) l t) (fun _ _ _ => False)) (fun _ _ _ => False)) : WIt C Γ loc sto target (.Call (.Name x p) es [] pos) QI := fun s as K E F hK => by
 refine wpAny_Call_Name_kw (wpAny_mono (h s as F) ?_ fun _ _ ⟨_, _, _, _, _, _, hF⟩ => hF.elim)
 rintro f s1 ⟨as1, loc1, sto1, v, P1, r1, rfl, q1⟩
 obtain rfl := jSA r1
 refine callWith_machine (hp _ _) (by rfl) (args_of hp (wpAny_mono (q1 s1 as1 P1.rep) ?_ fun _ _ ⟨_, _, _, _, _, _, hF⟩ => hF.elim))
 rintro xs s2 ⟨as2, loc2, sto2, vs, P2, r2, a, b, c, ha, hs, q2⟩
 refine made_range P2.rep r2 ha fun t u v tk htk => ?_
 have P3 := Post.ext (t := tk) P2.rep (Ext.push s2.heap { cls := .type "range", data := .fields #[.int a t, .int b u, .int c v] }) htk
 have PP := P1.trans (P2.trans P3)
 exact iter_range P3.rep (Heap.get?_push_size _ rfl) hs.small hs.size.1 (fun n vals adv Cond it hid as4 s4 loc4 sto4 St P4 hn => hK n vals adv Cond it hid as4 s4 loc4 sto4 St (PP.trans P4) fun a ha => PP.dom a (hn a ha)) q2
theorem wit_reversed {x y : Str} {p p2 pos pos2 : Pos} {es : List Expr} (hp : Plain es) (hp1 : Plain [.Call (.Name y p2) es [] pos2]) (he : starEach [.Call (.Name y p2) es [] pos2] Γ.env = (false, eval (.Call (.Name y p2) es [] pos2) Γ.env) :: starEach [] Γ.env)
  (h : WE C Γ loc sto (.Name x p) (fun v l t => v = .raw (.type "reversed") ∧ WE C Γ l t (.Name y p2) (fun v l t => v = .raw (.type "range") ∧ W C Γ l t (spliced (backTo pos2 (starEach es Γ.env))) VRs (fun vs l t => ∃ a b, RangeArgs vs a b 1 ∧ Small a b 1 ∧ a ≤ b ∧
   QI (b - a).toNat (fun i => .int (b - 1 - i)) (fun _ t => t) (fun _ _ => True) l t) (fun _ _ _ => False)) (fun _ _ _ => False)) (fun _ _ _ => False)) : WIt C Γ loc sto target (.Call (.Name x p) [.Call (.Name y p2) es [] pos2] [] pos) QI := fun s as K E F hK => by
 refine wpAny_Call_Name_kw (wpAny_mono (h s as F) ?_ fun _ _ ⟨_, _, _, _, _, _, hF⟩ => hF.elim)
 rintro f s1 ⟨as1, loc1, sto1, v, P1, r1, rfl, q1⟩
 obtain rfl := jSA r1
 refine callWith_machine (hp1 _ _) (by rfl) (args_of hp1 ?_)
 rw [he]
 show wpAny _ _ (spliced ((false, eval _ Γ.env) :: backTo pos (starEach [] Γ.env))) _ _ _
 refine spliced_cons (wpAny_Call_Name_kw (wpAny_mono (q1 s1 as1 P1.rep) ?_ fun _ _ ⟨_, _, _, _, _, _, hF⟩ => hF.elim))
 rintro f s2 ⟨as2, loc2, sto2, v, P2, r2, rfl, q2⟩
 obtain rfl := jSA r2
 refine callWith_machine (hp _ _) (by rfl) (args_of hp (wpAny_mono (q2 s2 as2 P2.rep) ?_ fun _ _ ⟨_, _, _, _, _, _, hF⟩ => hF.elim))
 rintro xs s3 ⟨as3, loc3, sto3, vs, P3, r3, a, b, ha, hs, hab, q3⟩
 refine made_range P3.rep r3 ha fun t u v tk htk => ?_
 have P4 := Post.ext (t := tk) P3.rep (Ext.push s3.heap { cls := .type "range", data := .fields #[.int a t, .int b u, .int 1 v] }) htk
 refine spliced_nil ?_
 refine call_reversed_range (Heap.get?_push_size _ rfl) hs.rev ?_
 have hsz := hs.size
 have hsn : Builtin.Range.rangeSize a b 1 = (((b - a).toNat : Nat) : Int) := by
  have := rsz_up a b
  unfold rsz at this; lia
 refine un_0_3 (hid_new (o := { cls := .type "range_iterator", data := .fields #[rawInt (a + (Builtin.Range.rangeSize a b 1 - 1) * 1), rawInt (Builtin.Range.rangeSize a b 1), rawInt (-1)] }) (t := tk) P4.rep rfl htk) fun p1 p2' p3 => ?_
 have PP := P1.trans (P2.trans (P3.trans P4))
 have hit0 := Heap.get?_push_size (s3.heap.push { cls := .type "range", data := .fields #[.int a t, .int b u, .int 1 v] }) (o := { cls := .type "range_iterator", data := .fields #[rawInt (a + (Builtin.Range.rangeSize a b 1 - 1) * 1), rawInt (Builtin.Range.rangeSize a b 1), rawInt (-1)] }) rfl
 refine wpAny_pyIter_rangeiter hit0 (hK (b - a).toNat _ _ _ _ _ as3 _ loc3 sto3 _ (PP.trans p1) (fun a ha => PP.dom a (p2' a ha)) p3 (fun Γ' => proto_range (a := a + (Builtin.Range.rangeSize a b 1 - 1) * 1) (step := -1) (n := (b - a).toNat)) ?_ ?_)
 ·unfold IsRangeIter
  rw [hit0, hsn]
  simp
 ·have e : (fun i : Nat => V.int (a + (Builtin.Range.rangeSize a b 1 - 1) * 1 + (i : Int) * -1)) = fun i : Nat => V.int (a + ((b - a).toNat - 1) - i) := by
   funext i; rw [hsn]; congr 1; lia
  rw [e]
  have e2 : (fun i : Nat => V.int (a + ((b - a).toNat - 1) - i)) = fun i : Nat => V.int (b - 1 - i) := by
   funext i; congr 1; lia
  rw [e2]; exact q3
end
end Mine
namespace Mine
open PySem PySem.W PyProof.Rows PySem.Calls
open AutoSeq1 (wpAny_loadPart')
set_option maxRecDepth 100000
section
variable {prog : Program} {w : World} {A : Around} {E : Value → Shared → Prop} {s : Shared}
theorem nextOf_tuple_item {it l : Addr} {i : Nat} {items} {x : Value} {Q : Value → Shared → Prop} (hit : IsTupIter s.heap it l i)
  (hl : IsTup s.heap l items) (hx : items[i]? = some x)
  (hQ : ∀ h', IsTupIter h' it l (i + 1) → Heap.SameBut it s.heap h' → Q x { s with heap := h' }) :
  wpAny (model prog w) A (Builtin.SmallTypes.nextOf (.ref it)) Q E s := by
 refine un_1_3 (id hit) fun o ho hc hd => ?_
 refine un_1_3 (hl) fun ol hol _ c223x => ?_; (try clear hl); refine un_1_1 c223x fun nl hdl => ?_; clear c223x
 have hT : s.TypeIs (.ref it) "tuple_iterator" := ⟨o, ho, hc⟩
 unfold Builtin.SmallTypes.nextOf
 refine wpAny_bind (wpAny_callSpecial?_slot (name := Str.ofString "__next__") hT slot_tupleiter_next
  (wpAny_call_entry slot_tupleiter_next hT entry_tupleiter_next ?_ (args_tupleiter_next _)))
 show wpAny _ _ (field (.ref it) 0 >>= _) _ _ s
 refine wpAny_bind (wpAny_field ho hd (x := .ref l) rfl ?_)
 show wpAny _ _ (if (Value.ref l == Value.none) = true then _ else _) _ _ s
 rw [if_neg (show ¬ ((Value.ref l == Value.none) = true) from Bool.false_ne_true)]
 show wpAny _ _ (field (.ref it) 1 >>= _) _ _ s
 refine wpAny_bind (wpAny_field ho hd (x := .int i 0) rfl ?_)
 show wpAny _ _ (seqItems? (.ref l) >>= _) _ _ s
 refine wpAny_bind (wpAny_seqItems hol hdl ?_)
 simp only [Int.toNat_natCast, hx]
 refine wpAny_bind (wpAny_setField ho hd (by simp) (wpAny_pure ⟨x, rfl, wpAny_pure (hQ _ ?_ (Heap.SameBut.update ..))⟩))
 exact ⟨_, Heap.get?_update_self _ ho (Obj.isFreed_of_fields (Obj.data_mapFields hd _)), (Obj.cls_mapFields ..).trans hc, by
  rw [Obj.data_mapFields hd]; simp [rawInt]⟩
theorem nextOf_tuple_end {it l : Addr} {i : Nat} {items} {Q : Value → Shared → Prop} (hh : A.handled = none)
  (hit : IsTupIter s.heap it l i) (hl : IsTup s.heap l items) (hx : items[i]? = none)
  (hE : ∀ h' e, Heap.ExtBut it s.heap h' → (∃ o, h'.get? e = some o ∧ o.cls = .type "StopIteration") → E (.ref e) { s with heap := h' }) :
  wpAny (model prog w) A (Builtin.SmallTypes.nextOf (.ref it)) Q E s := by
 refine un_1_3 (id hit) fun o ho hc hd => ?_
 refine un_1_3 (hl) fun ol hol _ c225x => ?_; (try clear hl); refine un_1_1 c225x fun nl hdl => ?_; clear c225x
 have hT : s.TypeIs (.ref it) "tuple_iterator" := ⟨o, ho, hc⟩
 unfold Builtin.SmallTypes.nextOf
 refine wpAny_bind (wpAny_callSpecial?_slot (name := Str.ofString "__next__") hT slot_tupleiter_next
  (wpAny_call_entry slot_tupleiter_next hT entry_tupleiter_next ?_ (args_tupleiter_next _)))
 show wpAny _ _ (field (.ref it) 0 >>= _) _ _ s
 refine wpAny_bind (wpAny_field ho hd (x := .ref l) rfl ?_)
 show wpAny _ _ (if (Value.ref l == Value.none) = true then _ else _) _ _ s
 rw [if_neg (show ¬ ((Value.ref l == Value.none) = true) from Bool.false_ne_true)]
 show wpAny _ _ (field (.ref it) 1 >>= _) _ _ s
 refine wpAny_bind (wpAny_field ho hd (x := .int i 0) rfl ?_)
 show wpAny _ _ (seqItems? (.ref l) >>= _) _ _ s
 refine wpAny_bind (wpAny_seqItems hol hdl ?_)
 simp only [Int.toNat_natCast, hx]
 refine wpAny_bind (wpAny_rule (wpAny_bind (wpAny_setField ho hd (by simp) ?_)))
 show wpAny _ _ (newExc (.type "StopIteration") [] >>= _) _ _ _
 refine wpAny_bind ?_
 simp only [newExc, newTuple]
 refine wpAny_bind (wpAny_newObj_type ?_ (by size_fits))
 refine wpAny_bind (m := firstArgMember _ _) (wpAny_of_eq (a := Value.none) (by first | rfl | (simp only [firstArgMember]; rfl)) ?_)
 refine wpAny_newObj_type ?_ (by size_fits)
 simp only [raiseNew]
 refine wpAny_bind (wpAny_handled ?_)
 first | rw [show A.in1.handled = none from hh] | rw [hh]
 refine wpAny_bind (wpAny_pure (wpAny_throw ?_))
 exact hE _ _ (((Heap.SameBut.update ..).extBut.push _).push _) ⟨_, Heap.get?_push_size _ rfl, rfl⟩
theorem enumerate_newT (l : Addr) (items : Array Value) (n : Nat) (dct : Option Addr) (sl : Array (Option Value)) :
  Meets (Builtin.«enumerate.__new__» ⟨[.type "enumerate", .ref l], []⟩) (fun _ R s => s.heap.get? l = some { cls := .type "tuple", dict := dct, data := .seq items n, slots := sl } ∧
   R (.ok (.ret (.ref (s.heap.push { cls := .type "tuple_iterator", data := .fields #[.ref l, .int 0 0] }).objs.size)))
    { s with heap := (s.heap.push { cls := .type "tuple_iterator", data := .fields #[.ref l, .int 0 0] }).push { cls := .type "enumerate", data := .fields #[.none, .bool false, .ref s.heap.objs.size, rawInt 0, .none, .none] } }) :=
 .of_wp fun prog w A R s h => by
  obtain ⟨hp, g, d, tk, os⟩ := s; obtain ⟨hl, h⟩ := h
  have hsub := sub_enumerate
  have hL : IsTup (Shared.heap ⟨hp, g, d, tk, os⟩) l items := ⟨_, hl, rfl, n, rfl⟩
  wp_walk using wpAny_loadPart' hl
  refine wpAny_stack_any fun st => wpAny_pure ?_
  split
  ·rename_i c _ _ _ _ _
   cases (c == Value.type "enumerate")
   ·wp_walk using wpAny_loadPart' hl, iter_tuple hL
    exact ⟨_, rfl, h⟩
   ·wp_walk using wpAny_loadPart' hl, iter_tuple hL
    exact ⟨_, rfl, h⟩
  ·wp_walk using wpAny_loadPart' hl, iter_tuple hL
   exact ⟨_, rfl, h⟩
end
theorem draws_tuple {prog : Program} {w : World} {A : Around} (hh : A.handled = none) (it l : Addr) (hne : l ≠ it) (items : Array Value) :
  Draws prog w A it [it, l] items.size (fun i v => items[i]? = some v) (fun i h => IsTupIter h it l i ∧ IsTup h l items) where
 live := fun _ _ st => let ⟨o, ho, _⟩ := st.1; ⟨o, ho⟩
 frame := fun _ _ _ st hk => ⟨let ⟨o, ho, r⟩ := st.1; ⟨o, hk it (by simp) o ho, r⟩, let ⟨o, ho, r⟩ := st.2; ⟨o, hk l (by simp) o ho, r⟩⟩
 item := fun i s Q E hi st hQ => by
  refine nextOf_tuple_item st.1 st.2 (x := items[i]) (by simp [hi]) fun h' hit' hs' => ?_
  exact hQ _ h' s.toks (by simp [hi]) ⟨hit', st.2.extBut hs'.extBut hne⟩ hs'
 done := fun s Q E st hE => nextOf_tuple_end hh st.1 st.2 (by simp) hE
section
variable {C : Cst} {Γ : Fm} {loc loc' : List (Option V)} {sto : List SO} {QI : ItQ} {target iter : Expr}
theorem enum_item {s : Shared} {as : List Addr} {e it : Addr} {fp : List Addr} {n i : Nat} {P : Nat → Value → Prop} {St : Nat → Heap → Prop} {old : Value} {elts : List Expr} {k : Nat} {pos : Pos} {K E : Value → Shared → Prop}
  (F : RepF C Γ as loc sto s) (hh : HidOk C [e, it] as s.heap) (hn : ∀ a ∈ [e, it], a ∉ Γ.own) (D : Draws C.prog C.w Γ.A.in1 it fp n P St) (he : IsEnum s.heap e it i old) (hst : St i s.heap) (hlt : i < n) (hne : e ≠ it) (hef : e ∉ fp)
  (hf : ∀ h, St (i + 1) h → ∃ o vs, h.get? it = some o ∧ o.data = .fields vs)
  (hK : ∀ x s' t, P i x → Post C (Γ.hide [e, it]) as s as loc sto s' → HidOk C [e, it] as s'.heap → s'.heap.get? s.heap.objs.size = some { cls := .type "tuple", data := .seq #[.int i t, x] } → (∃ old, IsEnum s'.heap e it ((i + 1 : Nat) : Int) old) → St (i + 1) s'.heap → K (.ref s.heap.objs.size) s') :
  wpAny (model C.prog C.w) Γ.A (pyNext (.ref e)) (fun r s' => ∃ v, r = some v ∧ wpAny (model C.prog C.w) Γ.A (letOwnedTupleGo (.Tuple elts k pos) (.ref e) v) (fun _ s'' => K v s'') E s') E s := by
 refine wpAny_pyNext_enum_itemD D he hst hlt hne hef fun x h' tk px ho hs' ht hz hk => ⟨_, rfl, ?_⟩
 refine wpAny_letOwnedTupleGo_enum ho fun h2 he2 hs2 => ?_
 replace hs2 : Heap.SameBut e h' h2 := hs2
 have hsz : s.heap.objs.size ≠ e := Nat.ne_of_gt (Heap.lt_size he)
 have st2 : St (i + 1) h2 := D.frame _ _ _ hs' fun b hb o y => (hs2.2 b fun q => hef (q ▸ hb)).trans y
 have hk2 : ∀ b o, b ∉ [e, it] → s.heap.get? b = some o → h2.get? b = some o := fun b o hb eo => hs2.extBut b o (fun q => hb (by simp [q])) (hk b o (fun q => hb (by simp [q])) (fun q => hb (by simp [q])) eo)
 have hh2 : HidOk C [e, it] as h2 := fun b hb => by
  refine ⟨(hh b hb).1, (hh b hb).2.1, ?_⟩
  rcases List.mem_cons.mp hb with rfl | hb
  ·exact ⟨_, _, he2, rfl⟩
  ·rw [List.mem_singleton] at hb; subst hb; exact hf _ st2
 have ee : (i : Int) + 1 = ((i + 1 : Nat) : Int) := by push_cast; rfl
 rw [ee] at he2
 exact hK x _ tk px (Post.turnH (t := tk + 1) F hh hn hk2 hh2 (Nat.succ_pos _)) hh2 ((hs2.2 _ hsz).trans ht) ⟨x, he2⟩ st2
theorem wit_enum_list {x : Str} {p pos : Pos} {e : Expr} {elts : List Expr} {kt : Nat} {tpos : Pos} (hp : Plain [e])
  (h : WE C Γ loc sto (.Name x p) (fun v l t => v = .raw (.type "enumerate") ∧ W C Γ l t (spliced (backTo pos (starEach [e] Γ.env))) VRs (fun vs l t => ∃ k items, vs = [.lst k] ∧ t[k]? = some (.list items) ∧
   QI items.length (fun i => .tup [.int i, items[i]?.getD .none]) (fun _ t => t) (fun _ t => t[k]? = some (.list items)) l t) (fun _ _ _ => False)) (fun _ _ _ => False)) : WIt C Γ loc sto (.Tuple elts kt tpos) (.Call (.Name x p) [e] [] pos) QI := fun s as K E F hK => by
 refine wpAny_Call_Name_kw (wpAny_mono (h s as F) ?_ fun _ _ ⟨_, _, _, _, _, _, hF⟩ => hF.elim)
 rintro f s1 ⟨as1, loc1, sto1, v, P1, r1, rfl, q1⟩
 obtain rfl := jSA r1
 refine callWith_machine (hp _ _) (by rfl) (args_of hp (wpAny_mono (q1 s1 as1 P1.rep) ?_ fun _ _ ⟨_, _, _, _, _, _, hF⟩ => hF.elim))
 rintro xs s2 ⟨as2, loc2, sto2, vs, P2, r2, k, items, rfl, hk, q2⟩
 unfold VRs at r2
 obtain ⟨y, ys, rfl, r2, r3⟩ := r2
 unfold VRs at r3; subst r3
 obtain ⟨a, its, n, rfl, ea, eo, ri⟩ := lst_at P2.rep r2 hk
 refine call_enumerate_list ⟨_, eo, rfl, n, rfl⟩ fun h' he' hit' hz' hk' => wpAny_pyIter_enum he' ?_
 have PP := P1.trans P2
 have P3 := Post.ext (t := s2.toks) P2.rep hk' P2.rep.g.toks
 have gn : s2.heap.get? (s2.heap.objs.size + 1) = none := by
  cases q : s2.heap.get? (s2.heap.objs.size + 1) with
  | none => rfl
  | some o => exact absurd (Nat.lt_of_succ_lt (Heap.lt_size q)) (Nat.lt_irrefl _)
 have hnew : ∀ b ∈ [s2.heap.objs.size + 1, s2.heap.objs.size], s2.heap.get? b = none := fun b hb => by
  rcases List.mem_cons.mp hb with rfl | hb
  ·exact gn
  ·rw [List.mem_singleton] at hb; subst hb; exact get_size_none _
 have hhid : HidOk C [s2.heap.objs.size + 1, s2.heap.objs.size] as2 h' := fun b hb => by
  refine ⟨fun q => ?_, Ext.dom P2.rep.g.keep _ (hnew b hb), ?_⟩
  ·obtain ⟨o', e, _⟩ := P2.rep.g.mem_lt q
   rw [hnew b hb] at e; cases e
  ·rcases List.mem_cons.mp hb with rfl | hb
   ·exact ⟨_, _, he', rfl⟩
   ·rw [List.mem_singleton] at hb; subst hb; obtain ⟨o, e1, _, e2⟩ := hit'; exact ⟨o, _, e1, e2⟩
 refine hK items.length _ _ _ _ [s2.heap.objs.size + 1, s2.heap.objs.size] as2 _ loc2 sto2 (fun i as h => (∃ old, IsEnum h (s2.heap.objs.size + 1) s2.heap.objs.size (i : Int) old) ∧ ∃ la, as[k]? = some la ∧ h.IsListIter s2.heap.objs.size la i)
  (PP.trans P3) (fun b hb => PP.dom b (hnew b hb)) hhid ?_ ⟨⟨_, he'⟩, a, ea, hit'⟩ q2
 have hne : s2.heap.objs.size + 1 ≠ s2.heap.objs.size := by lia
 revert hne
 generalize s2.heap.objs.size + 1 = z
 generalize s2.heap.objs.size = it
 intro hne
 refine fun Γ' => ⟨?_, ?_, ?_, ?_⟩
 ·rintro i as h as' h' ⟨⟨old, e0⟩, la, e1, o, e2, e3⟩ ⟨t, rfl⟩ hs _
  exact ⟨⟨old, hs z (by simp) _ e0⟩, la, by rw [List.getElem?_append_left (List.getElem?_eq_some_iff.mp e1).1]; exact e1, o, hs it (by simp) o e2, e3⟩
 ·rintro i s as loc sto K E F hc ⟨⟨old, he⟩, la, e1, hit⟩ hK
  exact wpAny_pyIter_enum he hK
 ·rintro i hi s as loc sto K E F hh hn hc ⟨⟨old, he⟩, la, e1, hit⟩ hK
  obtain ⟨its, n, e2, ri⟩ := F.g.objs k la _ e1 hc
  obtain ⟨x, ex, rx⟩ := ri.get (List.getElem?_eq_getElem hi)
  have hsz := ri.length
  rw [Array.length_toList] at hsz
  have hl : s.heap.IsList la its := ⟨_, e2, rfl, n, rfl⟩
  have hL : la ≠ it := fun q => (hh it (by simp)).1 (q ▸ List.mem_of_getElem? e1)
  have hL2 : la ≠ z := fun q => (hh z (by simp)).1 (q ▸ List.mem_of_getElem? e1)
  refine enum_item F hh hn (Draws.list (show Γ'.A.in1.handled = none from F.ok.hand) it la hL its) he ⟨hit, hl⟩ (by lia) hne (by simp [hne, Ne.symm hL2]) (fun h st => ?_) fun x' s' t px P hh' ht he' st' => hK _ s' P hh' ?_ ⟨he', la, e1, st'.1⟩
  ·obtain ⟨⟨o, e1, _, e2⟩, _⟩ := st; exact ⟨o, _, e1, e2⟩
  ·have : x' = x := by rw [← Array.getElem?_toList, ex] at px; exact (Option.some.inj px).symm
   subst this
   refine vr_tup ⟨_, ht, rfl, 0, rfl⟩ (vrs2 vr_int ?_)
   rw [List.getElem?_eq_getElem hi]
   exact VR.mono List.prefix_rfl (P.tups (F.hideR hh)) _ _ rx
 ·rintro s as loc sto K E F hh hn hc ⟨⟨old, he⟩, la, e1, hit⟩ hK
  obtain ⟨its, n, e2, ri⟩ := F.g.objs k la _ e1 hc
  have hl : s.heap.IsList la its := ⟨_, e2, rfl, n, rfl⟩
  have hsz := ri.length
  rw [Array.length_toList] at hsz
  have hL : la ≠ it := fun q => (hh it (by simp)).1 (q ▸ List.mem_of_getElem? e1)
  exact wpAny_pyNext_enum_endD (Draws.list (show Γ'.A.in1.handled = none from F.ok.hand) it la hL its) he ⟨by rw [hsz]; exact hit, hl⟩ fun h' he' => ⟨rfl, hK _ (fin_of hh (fun b o hb e => he' b o (fun q => hb (by simp [q])) e) F.g.toks)⟩
end
end Mine
namespace Mine
open PySem PySem.W PyProof.Rows PySem.Calls
set_option maxRecDepth 100000
theorem call_enumerate_tuple {prog : Program} {w : World} {A : Around} {E : Value → Shared → Prop} {s : Shared} {l : Addr} {items : Array Value} {Q : Value → Shared → Prop} (hL : IsTup s.heap l items)
  (h : ∀ h', IsEnum h' (s.heap.objs.size + 1) s.heap.objs.size 0 .none → IsTupIter h' s.heap.objs.size l 0 → h'.objs.size = s.heap.objs.size + 2 →
   (∀ b o, s.heap.get? b = some o → h'.get? b = some o) → Q (.ref (s.heap.objs.size + 1)) { s with heap := h' }) :
  wpAny (model prog w) A (call (.type "enumerate") [.ref l]) Q E s := by
 refine un_1_3 (hL) fun n238x0 hl hc c238x => ?_; (try clear hL); refine un_1_1 c238x fun n hd => ?_; clear c238x; obtain ⟨c, dct, dt, sl⟩ := n238x0
 replace hc : c = .type "tuple" := hc
 replace hd : dt = .seq items n := hd
 subst hc hd
 refine callType_new F.called_enumerate (by decide) (F.typeCall_enumerate_1 _) (F.newCall_enumerate_1 _) (fun obj => F.args_object_init_2 obj _) F.entry_enumerate_new
  (enumerate_newT l items n dct sl) ⟨hl, ?_⟩
 have hz : (s.heap.push { cls := .type "tuple_iterator", data := .fields #[.ref l, .int 0 0] }).objs.size = s.heap.objs.size + 1 := Heap.size_push ..
 show _ ∧ _
 rw [hz]
 have he : IsEnum ((s.heap.push { cls := .type "tuple_iterator", data := .fields #[.ref l, .int 0 0] }).push
   { cls := .type "enumerate", data := .fields #[.none, .bool false, .ref s.heap.objs.size, rawInt 0, .none, .none] }) (s.heap.objs.size + 1) s.heap.objs.size 0 .none := by
  have := Heap.get?_push_size (s.heap.push { cls := .type "tuple_iterator", data := .fields #[.ref l, .int 0 0] })
   (o := { cls := .type "enumerate", data := .fields #[.none, .bool false, .ref s.heap.objs.size, rawInt 0, .none, .none] }) rfl
  rw [hz] at this; exact this
 refine ⟨⟨_, he, rfl⟩, h _ he ⟨_, Heap.get?_push_of_some _ (Heap.get?_push_size _ rfl), rfl, rfl⟩ (by rw [Heap.size_push, hz]) fun b o x => Heap.get?_push_of_some _ (Heap.get?_push_of_some _ x)⟩
theorem next_list_end {prog : Program} {w : World} {A : Around} {E : Value → Shared → Prop} {s : Shared} {it l : Addr} {i : Nat} {items} {Q : Option Value → Shared → Prop} (hh : A.handled = none)
  (hit : s.heap.IsListIter it l i) (hl : s.heap.IsList l items) (hx : items[i]? = none)
  (hQ : ∀ h1 h', Heap.SameBut it s.heap h1 → (∃ o, h1.get? it = some o ∧ o.cls = .type "list_iterator" ∧ ∃ vs, o.data = .fields vs ∧ vs.size ≤ 2) → (∀ b o, h1.get? b = some o → h'.get? b = some o) → Q none { s with heap := h' }) : wpAny (model prog w) A (pyNext (.ref it)) Q E s := by
 refine un_1_3 (id hit) fun o ho hc hd => ?_
 refine un_1_3 (hl) fun ol hol _ c240x => ?_; (try clear hl); refine un_1_1 c240x fun nl hdl => ?_; clear c240x
 unfold pyNext
 refine wpAny_bind (wpAny_attempt (wpAny_callSpecial?_slot (name := Str.ofString "__next__") hit.typeIs slot_listiter_next
  (wpAny_call_entry slot_listiter_next hit.typeIs entry_listiter_next ?_ (args_listiter_next _))))
 show wpAny _ _ (field (.ref it) 0 >>= _) _ _ s
 refine wpAny_bind (wpAny_field ho hd (x := .ref l) rfl ?_)
 show wpAny _ _ (if (Value.ref l == Value.none) = true then _ else _) _ _ s
 rw [if_neg (show ¬ ((Value.ref l == Value.none) = true) from Bool.false_ne_true)]
 show wpAny _ _ (field (.ref it) 1 >>= _) _ _ s
 refine wpAny_bind (wpAny_field ho hd (x := .int i 0) rfl ?_)
 show wpAny _ _ (seqItems? (.ref l) >>= _) _ _ s
 refine wpAny_bind (wpAny_seqItems hol hdl ?_)
 simp only [Int.toNat_natCast, hx]
 refine wpAny_bind (wpAny_rule (wpAny_bind (wpAny_setField ho hd (by simp) ?_)))
 show wpAny _ _ (newExc (.type "StopIteration") [] >>= _) _ _ _
 refine wpAny_bind ?_
 simp only [newExc, newTuple]
 refine wpAny_bind (wpAny_newObj_type ?_ (by size_fits))
 refine wpAny_bind (m := firstArgMember _ _) (wpAny_of_eq (a := Value.none) (by first | rfl | (simp only [firstArgMember]; rfl)) ?_)
 refine wpAny_newObj_type ?_ (by size_fits)
 simp only [raiseNew]
 refine wpAny_bind (wpAny_handled ?_)
 rw [show A.in1.handled = none from hh]
 refine wpAny_bind (wpAny_pure (wpAny_throw ?_))
 refine wpAny_bind (wpAny_isInstance (T := "StopIteration") (b := true) ⟨_, Heap.get?_push_size _ rfl, rfl⟩ isSubtype_stop ?_)
 exact wpAny_pure (hQ _ _ (Heap.SameBut.update ..) ⟨_, Heap.get?_update_self _ ho (Obj.isFreed_of_fields (Obj.data_mapFields hd _)), (Obj.cls_mapFields ..).trans hc, _, Obj.data_mapFields hd _, by rw [Array.size_setIfInBounds]; exact Nat.le_refl _⟩ fun b o e => Heap.get?_push_of_some _ (Heap.get?_push_of_some _ e))
section
variable {C : Cst} {Γ : Fm} {loc loc' : List (Option V)} {sto : List SO} {QI : ItQ} {target iter : Expr}
theorem wit_enum_tup {x : Str} {p pos : Pos} {e : Expr} {elts : List Expr} {kt : Nat} {tpos : Pos} (hp : Plain [e])
  (h : WE C Γ loc sto (.Name x p) (fun v l t => v = .raw (.type "enumerate") ∧ W C Γ l t (spliced (backTo pos (starEach [e] Γ.env))) VRs (fun vs l t => ∃ items, vs = [.tup items] ∧
   QI items.length (fun i => .tup [.int i, items[i]?.getD .none]) (fun _ t => t) (fun _ _ => True) l t) (fun _ _ _ => False)) (fun _ _ _ => False)) : WIt C Γ loc sto (.Tuple elts kt tpos) (.Call (.Name x p) [e] [] pos) QI := fun s as K E F hK => by
 refine wpAny_Call_Name_kw (wpAny_mono (h s as F) ?_ fun _ _ ⟨_, _, _, _, _, _, hF⟩ => hF.elim)
 rintro f s1 ⟨as1, loc1, sto1, v, P1, r1, rfl, q1⟩
 obtain rfl := jSA r1
 refine callWith_machine (hp _ _) (by rfl) (args_of hp (wpAny_mono (q1 s1 as1 P1.rep) ?_ fun _ _ ⟨_, _, _, _, _, _, hF⟩ => hF.elim))
 rintro xs s2 ⟨as2, loc2, sto2, vs, P2, r2, items, rfl, q2⟩
 unfold VRs at r2
 obtain ⟨y, ys, rfl, r2, r3⟩ := r2
 unfold VRs at r3; subst r3
 obtain ⟨a, its, rfl, ht0, ri⟩ := vr_tup_inv r2
 refine call_enumerate_tuple ht0 fun h' he' hit' hz' hk' => wpAny_pyIter_enum he' ?_
 have PP := P1.trans P2
 have P3 := Post.ext (t := s2.toks) P2.rep hk' P2.rep.g.toks
 have gn : s2.heap.get? (s2.heap.objs.size + 1) = none := by
  cases q : s2.heap.get? (s2.heap.objs.size + 1) with
  | none => rfl
  | some o => exact absurd (Nat.lt_of_succ_lt (Heap.lt_size q)) (Nat.lt_irrefl _)
 have hnew : ∀ b ∈ [s2.heap.objs.size + 1, s2.heap.objs.size], s2.heap.get? b = none := fun b hb => by
  rcases List.mem_cons.mp hb with rfl | hb
  ·exact gn
  ·rw [List.mem_singleton] at hb; subst hb; exact get_size_none _
 have hhid : HidOk C [s2.heap.objs.size + 1, s2.heap.objs.size] as2 h' := fun b hb => by
  refine ⟨fun q => ?_, Ext.dom P2.rep.g.keep _ (hnew b hb), ?_⟩
  ·obtain ⟨o', e, _⟩ := P2.rep.g.mem_lt q
   rw [hnew b hb] at e; cases e
  ·rcases List.mem_cons.mp hb with rfl | hb
   ·exact ⟨_, _, he', rfl⟩
   ·rw [List.mem_singleton] at hb; subst hb; obtain ⟨o, e1, _, e2⟩ := hit'; exact ⟨o, _, e1, e2⟩
 refine hK items.length _ _ _ _ [s2.heap.objs.size + 1, s2.heap.objs.size] as2 _ loc2 sto2 (fun i as h => (∃ old, IsEnum h (s2.heap.objs.size + 1) s2.heap.objs.size (i : Int) old) ∧ VR as h (.tup items) (.ref a) ∧ IsTupIter h s2.heap.objs.size a i)
  (PP.trans P3) (fun b hb => PP.dom b (hnew b hb)) hhid ?_ ⟨⟨_, he'⟩, P3.vr P2.rep r2, hit'⟩ q2
 have hne : s2.heap.objs.size + 1 ≠ s2.heap.objs.size := by lia
 revert hne
 generalize s2.heap.objs.size + 1 = z
 generalize s2.heap.objs.size = it
 intro hne
 refine fun Γ' => ⟨?_, ?_, ?_, ?_⟩
 ·rintro i as h as' h' ⟨⟨old, e0⟩, rv, o, e2, e3⟩ hp hs tk
  exact ⟨⟨old, hs z (by simp) _ e0⟩, VR.mono hp tk _ _ rv, o, hs it (by simp) o e2, e3⟩
 ·rintro i s as loc sto K E F hc ⟨⟨old, he⟩, rv, hit⟩ hK
  exact wpAny_pyIter_enum he hK
 ·rintro i hi s as loc sto K E F hh hn hc ⟨⟨old, he⟩, rv, hit⟩ hK
  obtain ⟨a', its, ea, hl, ri⟩ := vr_tup_inv rv
  cases ea
  obtain ⟨x, ex, rx⟩ := ri.get (List.getElem?_eq_getElem hi)
  have hsz := ri.length
  rw [Array.length_toList] at hsz
  have cl : ∀ b, (∃ o vs, s.heap.get? b = some o ∧ o.data = .fields vs) → a ≠ b := by
   rintro b ⟨o, vs, e, d⟩ rfl
   obtain ⟨o', e', _, n, d'⟩ := hl
   rw [e] at e'; cases e'; rw [d] at d'; cases d'
  have hL : a ≠ it := cl _ (hh it (by simp)).2.2
  have hL2 : a ≠ z := cl _ (hh z (by simp)).2.2
  refine enum_item F hh hn (draws_tuple (show Γ'.A.in1.handled = none from F.ok.hand) it a hL its) he ⟨hit, hl⟩ (by lia) hne (by simp [hne, Ne.symm hL2]) (fun h st => ?_) fun x' s' t px P hh' ht he' st' => hK _ s' P hh' ?_ ⟨he', VR.mono List.prefix_rfl (P.tups (F.hideR hh)) _ _ rv, st'.1⟩
  ·obtain ⟨⟨o, e1, _, e2⟩, _⟩ := st; exact ⟨o, _, e1, e2⟩
  ·have : x' = x := by rw [← Array.getElem?_toList, ex] at px; exact (Option.some.inj px).symm
   subst this
   refine vr_tup ⟨_, ht, rfl, 0, rfl⟩ (vrs2 vr_int ?_)
   rw [List.getElem?_eq_getElem hi]
   exact VR.mono List.prefix_rfl (P.tups (F.hideR hh)) _ _ rx
 ·rintro s as loc sto K E F hh hn hc ⟨⟨old, he⟩, rv, hit⟩ hK
  obtain ⟨a', its, ea, hl, ri⟩ := vr_tup_inv rv
  cases ea
  have hsz := ri.length
  rw [Array.length_toList] at hsz
  have hL : a ≠ it := by
   rintro rfl
   obtain ⟨_, _, o, vs, e, d⟩ := hh a (by simp)
   obtain ⟨o', e', _, n, d'⟩ := hl
   rw [e] at e'; cases e'; rw [d] at d'; cases d'
  exact wpAny_pyNext_enum_endD (draws_tuple (show Γ'.A.in1.handled = none from F.ok.hand) it a hL its) he ⟨by rw [hsz]; exact hit, hl⟩ fun h' he' => ⟨rfl, hK _ (fin_of hh (fun b o hb e => he' b o (fun q => hb (by simp [q])) e) F.g.toks)⟩
theorem vit_iter {k l i0 : Nat} {items : List V} (hk : sto[k]? = some (.iter l i0)) (hl : sto[l]? = some (.list items)) (hi0 : i0 ≤ items.length)
  (h : QI (items.length - i0) (fun i => items[i0 + i]?.getD .none) (fun i t => if i = items.length - i0 then t.set k .dead else t.set k (.iter l (i0 + i + 1))) (fun i t => t[k]? = some (.iter l (i0 + i)) ∧ t[l]? = some (.list items)) loc sto) : VIt C Γ loc sto target (.lst k) QI := fun s as x K E F r hK => by
 refine un_1_2 (jUA r) fun a e255x1 ea => ?_; subst e255x1
 refine un_1_2 (F.g.objs k a _ ea hk) fun la e1 hit => ?_
 refine wpAny_pyIter_listiter hit (hK _ _ _ _ a [] as s loc sto (fun i as h => as[k]? = some a) (Post.refl F) (fun _ hm => by cases hm) (fun _ hm => by cases hm) (fun Γ' => ⟨?_, ?_, ?_, ?_⟩) ea h)
 ·rintro i as h as' h' e1 ⟨t, rfl⟩ hs _
  rw [List.getElem?_append_left (List.getElem?_eq_some_iff.mp e1).1]; exact e1
 ·rintro i s as loc sto K E F ⟨hk, hl⟩ ea hK
  refine un_1_2 (F.g.objs k a _ ea hk) fun la e1 hit => ?_
  exact wpAny_pyIter_listiter hit hK
 ·rintro i hi s as loc sto K E F hh hn ⟨hk, hl⟩ ea hK
  refine un_1_2 (F.g.objs k a _ ea hk) fun la e1 hit => ?_
  refine un_2_2 (F.g.objs l la _ e1 hl) fun its n e2 ri => ?_
  have hi2 : i0 + i < items.length := by lia
  refine un_1_2 (ri.get (List.getElem?_eq_getElem hi2)) fun x ex rx => ?_
  have hL : s.heap.IsList la its := ⟨_, e2, rfl, n, rfl⟩
  refine wpAny_pyNext_list_item hit hL (by rw [← Array.getElem?_toList]; exact ex) fun h' hit' hs' => ⟨x, rfl, go_free hit'.typeIs (by decide) ?_⟩
  have P := Post.upd (t := s.toks) (so := .iter l (i0 + i + 1)) F ea hs' F.g.toks fun tk => ⟨la, e1, hit'⟩
  have e : (if i = items.length - i0 then sto.set k .dead else sto.set k (.iter l (i0 + i + 1))) = sto.set k (.iter l (i0 + i + 1)) := if_neg (by lia)
  refine hK x _ (by rw [e]; exact P) (fun _ hm => by cases hm) ?_ ea
  show VR as h' (items[i0 + i]?.getD .none) x
  rw [List.getElem?_eq_getElem hi2]
  exact VR.mono List.prefix_rfl (P.tups F) _ _ rx
 ·rintro s as loc sto K E F hh hn ⟨hk, hl⟩ ea hK
  refine un_1_2 (F.g.objs k a _ ea hk) fun la e1 hit => ?_
  refine un_2_2 (F.g.objs l la _ e1 hl) fun its n e2 ri => ?_
  have hL : s.heap.IsList la its := ⟨_, e2, rfl, n, rfl⟩
  have hsz := ri.length
  rw [Array.length_toList] at hsz
  refine next_list_end F.ok.hand hit hL (by rw [Array.getElem?_eq_none]; lia) fun h1 h' hs' hd' hk' => ⟨rfl, hK _ fun Γ2 loc2 as0 s0 P0 _ _ => ?_⟩
  have P1 := Post.upd (t := s.toks) (so := .dead) P0.rep ea hs' F.g.toks fun tk => hd'
  have P2 := Post.ext (t := s.toks) P1.rep hk' P1.rep.g.toks
  have e : (if items.length - i0 = items.length - i0 then sto.set k .dead else sto.set k (.iter l (i0 + (items.length - i0) + 1))) = sto.set k .dead := if_pos rfl
  rw [e]
  exact P0.trans (P1.trans P2)
end
end Mine
namespace Mine
open PySem PySem.W PyProof.Rows PySem.Calls
theorem Post.retouch {C : Cst} {Γ : Fm} {as as' : List Addr} {s s' : Shared} {loc loc' : List (Option V)} {sto sto' : List SO} {a : Addr} {h' : Heap} (R : RepF C Γ as loc sto s) (P : Post C Γ as s as' loc' sto' s') (ha : s.heap.get? a = none) (hm : a ∉ as')
  (hd : ∃ o, s'.heap.get? a = some o ∧ ∀ its n, o.data ≠ .seq its n) (hs : Heap.SameBut a s'.heap h') : Post C Γ as s as' loc' sto' { s' with heap := h' } := by
 have k : ∀ b o, b ≠ a → s'.heap.get? b = some o → h'.get? b = some o := fun b o hb e => (hs.2 b hb).trans e
 have tk : TupKeeps s'.heap h' := .of_sameBut hs fun o its n e hc hd' => by
  obtain ⟨o', e', d⟩ := hd; rw [e] at e'; cases e'; exact d its n hd'
 have nown : a ∉ Γ.own := fun q => by obtain ⟨o, e, _⟩ := R.plain a q; rw [ha] at e; cases e
 have F := P.rep
 refine un_1_2 (R.ns) fun m0 n0 r0 => ?_
 refine ⟨⟨⟨fun b o e => k b o (fun q => ?_) (F.g.keep b o e), F.g.len, fun i b so e1 e2 => (F.g.objs i b so e1 e2).mono List.prefix_rfl tk fun o e => k b o (fun q => hm (q ▸ List.mem_of_getElem? e1)) e, F.g.nodup, F.g.fresh, F.g.gens, F.g.os, F.g.toks⟩, F.ok, ?_, F.apart, ?_, ?_⟩, P.pre, P.new, ?_, ?_, trivial⟩
 ·subst q; rw [Ext.dom R.g.keep _ ha] at e; cases e
 ·refine un_1_2 (F.ns) fun m n r => ?_
  refine ⟨m, n.sameBut hs fun q => nown (q ▸ R.ok.loco), r.mono List.prefix_rfl tk fun x c hc ov ⟨o, e, d⟩ => ⟨o, k c o (fun q => ?_) e, d⟩⟩
  refine un_2_2 (r0.cell hc) fun ov' o' e' _ => ?_
  subst q; rw [ha] at e'; cases e'
 ·intro b hb
  refine un_1_2 (F.plain b hb) fun o e d => ?_
  exact ⟨o, k b o (fun q => nown (q ▸ hb)) e, d⟩
 ·intro env he
  refine un_0_2 (F.frs env he) fun hk c267x => ?_; refine un_4_4 c267x fun L o es ep e1 e2 e3 e4 => ?_; clear c267x
  refine ⟨hk, L, o, es, ep, e1, e2, k L o (fun q => ?_) e3, e4⟩
  refine un_0_2 (R.frs env he) fun _ c268x => ?_; refine un_4_4 c268x fun L' o' _ _ f1 _ f3 _ => ?_; clear c268x
  rw [e1] at f1; cases f1; subst q; rw [ha] at f3; cases f3
 ·intro b o e hn
  have hb : b ≠ a := fun q => by rw [q, ha] at e; cases e
  rcases P.keeps b o e hn with e1 | ⟨d, sl, e1⟩
  ·exact .inl (k b o hb e1)
  ·exact .inr ⟨d, sl, k b _ hb e1⟩
 ·intro b e
  by_cases q : b = a
  ·subst q; exact ha
  ·exact P.dom b (by rw [← hs.2 b q]; exact e)
theorem Post.back2 {C : Cst} {Γ Γ' : Fm} {as as1 as' : List Addr} {s s1 s' : Shared} {loc loc1 loc2 locx : List (Option V)} {sto sto1 sto2 : List SO} (R : RepF C Γ as loc sto s) (P0 : Post C Γ as s as1 loc1 sto1 s1)
  (hown : ∀ a ∈ Γ'.own, s.heap.get? a = none) (R' : RepF C Γ' as1 locx sto1 s1) (P : Post C Γ' as1 s1 as' loc2 sto2 s') : Post C Γ as s as' loc1 sto2 s' := by
 have KP : Keeps (Γ.own ++ as) s.heap s'.heap := P0.keeps.trans P.keeps fun a h => by
  rcases List.mem_append.mp h with h | h
  ·exact .inr (hown a h)
  ·exact (P0.new a h).imp (fun q => List.mem_append_right _ q) id
 have R1 := P0.rep
 have ex : ∀ a o, s.heap.get? a = some o → a ∉ Γ'.own := fun a o e q => by rw [hown a q] at e; cases e
 have K2 : ∀ a o, s1.heap.get? a = some o → a ∉ Γ'.own → a ∉ as1 → ∃ sl, s'.heap.get? a = some { o with slots := sl } := fun a o e h1 h2 =>
  P.keeps.up e fun q => (List.mem_append.mp q).elim h1 h2
 have ownex : ∀ a ∈ Γ.own, a ∉ Γ'.own := fun a h => by obtain ⟨o, e, _⟩ := R.plain a h; exact ex a o e
 have tk : TupKeeps s1.heap s'.heap := P.tups R'
 refine un_1_2 (R.ns) fun m0 n0 r0 => ?_
 refine un_1_2 (R1.ns) fun m n r => ?_
 refine un_3_3 (id n) fun oL es ep eL dL nL => ?_
 obtain ⟨slL, eL'⟩ := K2 _ _ eL (ownex _ R.ok.loco) (fun q => (R1.apart _ q).1 R.ok.loco)
 have cex : ∀ x c, (x, some c) ∈ Γ.sl → c ∉ Γ'.own := fun x c hc => by obtain ⟨ov, o, e, _⟩ := r0.cell hc; exact ex c o e
 refine ⟨⟨P.rep.g, R.ok, ⟨m, ⟨_, es, ep, eL', dL, nL⟩, r.mono P.pre tk fun x c hm ov ⟨o, e, d⟩ => ?_⟩, fun a ha => ?_, fun a ha => ?_, fun env he => ?_⟩, P0.pre.trans P.pre, fun a ha => (P.new a ha).elim (fun q => P0.new a q) fun q => .inr (P0.dom a q), KP, fun a e => P0.dom a (P.dom a e), trivial⟩
 ·obtain ⟨sl, e'⟩ := K2 c o e (cex x c hm) (fun q => (R1.apart c q).2 x c hm rfl)
  exact ⟨_, e', d⟩
 ·rcases P.new a ha with q | q
  ·exact R1.apart a q
  ·refine ⟨fun w => ?_, fun x c hc w => ?_⟩
   ·obtain ⟨o, e, _⟩ := R1.plain a w; rw [q] at e; cases e
   ·obtain ⟨ov, o, e, _⟩ := r.cell hc; rw [← w, q] at e; cases e
 ·refine un_1_2 (R1.plain a ha) fun o e d1 => ?_
  obtain ⟨sl, e'⟩ := K2 a o e (ownex a ha) (fun q => (R1.apart a q).1 ha)
  exact ⟨_, e', d1⟩
 ·refine un_0_2 (R1.frs env he) fun hk c273x => ?_; refine un_4_4 c273x fun L o es ep e1 e2 e3 e4 => ?_; clear c273x
  refine un_0_2 (R.frs env he) fun _ c274x => ?_; refine un_4_4 c274x fun L' o' _ _ f1 _ f3 _ => ?_; clear c274x
  rw [e1] at f1; cases f1
  obtain ⟨sl, e'⟩ := K2 L o e3 (ex L o' f3) (fun q => R1.g.mem_nodict q e3 e4)
  exact ⟨hk, L, _, es, ep, e1, e2, e', e4⟩
noncomputable def compT (ifs : List Expr) (env : Env) : Sem Bool := forIn ifs true fun c r => if r = true then do let ok ← isTrue c env (eval c env); pure (ForInStep.yield ok) else pure (ForInStep.yield r)
theorem codeAny_comp {prog : Program} {w : World} {A : Around} {s : Shared} {R : Result → Shared → Prop} {elt target iter : Expr} {ifs : List Expr} {scope : Scope} {pos : Pos} {it acc : Value} {env : Env} (I : Nat → Shared → Prop)
  (turn : ∀ n s, I n s → wpAny (model prog w) A (pyNext it) (fun r s₁ => match r with
   | none => R (.ok .next) s₁
   | some v => wpAny (model prog w) A (letOwnedTupleGo target it v) (fun _ s0 => wpAny (model prog w) A (assign target env v) (fun _ s₂ =>
     wpAny (model prog w) A (compT ifs env) (fun ok s₃ =>
      if ok = true then wpAny (model prog w) A (eval elt env) (fun x s₄ =>
       wpAny (model prog w) A (call (.builtin "list.append") [acc, x]) (fun _ s₅ => ∃ m, m < n ∧ I m s₅) (fun _ _ => False) s₄) (fun _ _ => False) s₃
      else ∃ m, m < n ∧ I m s₃) (fun _ _ => False) s₂) (fun _ _ => False) s0) (fun _ _ => False) s₁) (fun _ _ => False) s)
  (n : Nat) (h : I n s) :
  codeAny (model prog w) A (.compLoop (.ListComp elt [⟨target, iter, ifs, 0⟩] scope pos) 0 it acc env) R s := by
 refine codeAny_loop rfl I (fun n s hI => ?_) n h
 show wpAny _ A ((compTurn (.ListComp elt [⟨target, iter, ifs, 0⟩] scope pos) 0 it acc env).onRaise (fun x => do noteFrame x env; theTreesLotGoes x)) _ _ s
 refine wpAny_onRaise (wpAny_mono (Q := _) (E' := _) ?_ (fun _ _ h => h) (fun _ _ (h : False) => h.elim))
 rw [compTurn_list]
 refine wpAny_bind (wpAny_standAt (wpAny_bind (wpAny_mono (turn n s hI) (fun r s₁ h₁ => ?_) fun _ _ h' => h')))
 cases r with
 | none => exact wpAny_pure h₁
 | some v =>
  refine wpAny_bind (wpAny_mono h₁ (fun _ s0 h0 => ?_) fun _ _ h' => h')
  refine wpAny_bind (wpAny_mono h0 (fun _ s₂ h₂ => wpAny_bind (wpAny_mono h₂ (fun ok s₃ h₃ => ?_) fun _ _ h' => h')) fun _ _ h' => h')
  cases ok with
  | false => exact wpAny_pure ⟨rfl, h₃⟩
  | true =>
   exact wpAny_bind (wpAny_bind (wpAny_mono h₃ (fun x s₄ h₄ => wpAny_bind (wpAny_mono h₄ (fun _ s₅ h₅ => wpAny_pure (wpAny_pure ⟨rfl, h₅⟩)) fun _ _ h' => h')) fun _ _ h' => h'))
section
variable {C : Cst} {Γ : Fm} {loc loc' : List (Option V)} {sto : List SO} {Q : V → List (Option V) → List SO → Prop} {X : XV → List (Option V) → List SO → Prop} {QB : Bool → List (Option V) → List SO → Prop}
theorem wct_nil (h : QB true loc sto) : W C Γ loc sto (compT [] Γ.env) RT QB X := fun s as F => wpAny_pure (a := true) ⟨as, loc, sto, true, Post.refl F, rfl, h⟩
theorem wct_one {c : Expr} (h : WT C Γ loc sto c QB X) : W C Γ loc sto (compT [c] Γ.env) RT QB X := fun s as F => by
 unfold compT
 exact wpAny_tests_one (h s as F)
inductive SlotC : List (Str × Option Addr) → List (Option V) → Str → Addr → Option V → Prop
 | zero {x : Str} {c : Addr} {sl : List (Str × Option Addr)} {o : Option V} {loc : List (Option V)} : SlotC ((x, some c) :: sl) (o :: loc) x c o
 | succ {p : Str × Option Addr} {o o' : Option V} {sl : List (Str × Option Addr)} {loc : List (Option V)} {x : Str} {c : Addr} : SlotC sl loc x c o' → SlotC (p :: sl) (o :: loc) x c o'
theorem SlotC.z1 {p0 : Str × Option Addr} {o0 o : Option V} {x : Str} {c : Addr} {sl : List (Str × Option Addr)} {loc : List (Option V)} : SlotC (p0 :: (x, some c) :: sl) (o0 :: o :: loc) x c o := .succ .zero
theorem SlotC.z2 {p0 p1 : Str × Option Addr} {o0 o1 o : Option V} {x : Str} {c : Addr} {sl : List (Str × Option Addr)} {loc : List (Option V)} : SlotC (p0 :: p1 :: (x, some c) :: sl) (o0 :: o1 :: o :: loc) x c o := .succ .z1
theorem SlotC.z3 {p0 p1 p2 : Str × Option Addr} {o0 o1 o2 o : Option V} {x : Str} {c : Addr} {sl : List (Str × Option Addr)} {loc : List (Option V)} : SlotC (p0 :: p1 :: p2 :: (x, some c) :: sl) (o0 :: o1 :: o2 :: o :: loc) x c o := .succ .z2
theorem SlotC.z4 {p0 p1 p2 p3 : Str × Option Addr} {o0 o1 o2 o3 o : Option V} {x : Str} {c : Addr} {sl : List (Str × Option Addr)} {loc : List (Option V)} : SlotC (p0 :: p1 :: p2 :: p3 :: (x, some c) :: sl) (o0 :: o1 :: o2 :: o3 :: o :: loc) x c o := .succ .z3
theorem SlotC.z5 {p0 p1 p2 p3 p4 : Str × Option Addr} {o0 o1 o2 o3 o4 o : Option V} {x : Str} {c : Addr} {sl : List (Str × Option Addr)} {loc : List (Option V)} : SlotC (p0 :: p1 :: p2 :: p3 :: p4 :: (x, some c) :: sl) (o0 :: o1 :: o2 :: o3 :: o4 :: o :: loc) x c o := .succ .z4
theorem SlotC.z6 {p0 p1 p2 p3 p4 p5 : Str × Option Addr} {o0 o1 o2 o3 o4 o5 o : Option V} {x : Str} {c : Addr} {sl : List (Str × Option Addr)} {loc : List (Option V)} : SlotC (p0 :: p1 :: p2 :: p3 :: p4 :: p5 :: (x, some c) :: sl) (o0 :: o1 :: o2 :: o3 :: o4 :: o5 :: o :: loc) x c o := .succ .z5
theorem SlotC.z7 {p0 p1 p2 p3 p4 p5 p6 : Str × Option Addr} {o0 o1 o2 o3 o4 o5 o6 o : Option V} {x : Str} {c : Addr} {sl : List (Str × Option Addr)} {loc : List (Option V)} : SlotC (p0 :: p1 :: p2 :: p3 :: p4 :: p5 :: p6 :: (x, some c) :: sl) (o0 :: o1 :: o2 :: o3 :: o4 :: o5 :: o6 :: o :: loc) x c o := .succ .z6
theorem SlotC.z8 {p0 p1 p2 p3 p4 p5 p6 p7 : Str × Option Addr} {o0 o1 o2 o3 o4 o5 o6 o7 o : Option V} {x : Str} {c : Addr} {sl : List (Str × Option Addr)} {loc : List (Option V)} : SlotC (p0 :: p1 :: p2 :: p3 :: p4 :: p5 :: p6 :: p7 :: (x, some c) :: sl) (o0 :: o1 :: o2 :: o3 :: o4 :: o5 :: o6 :: o7 :: o :: loc) x c o := .succ .z7
theorem SlotC.z9 {p0 p1 p2 p3 p4 p5 p6 p7 p8 : Str × Option Addr} {o0 o1 o2 o3 o4 o5 o6 o7 o8 o : Option V} {x : Str} {c : Addr} {sl : List (Str × Option Addr)} {loc : List (Option V)} : SlotC (p0 :: p1 :: p2 :: p3 :: p4 :: p5 :: p6 :: p7 :: p8 :: (x, some c) :: sl) (o0 :: o1 :: o2 :: o3 :: o4 :: o5 :: o6 :: o7 :: o8 :: o :: loc) x c o := .succ .z8
theorem SlotC.z10 {p0 p1 p2 p3 p4 p5 p6 p7 p8 p9 : Str × Option Addr} {o0 o1 o2 o3 o4 o5 o6 o7 o8 o9 o : Option V} {x : Str} {c : Addr} {sl : List (Str × Option Addr)} {loc : List (Option V)} : SlotC (p0 :: p1 :: p2 :: p3 :: p4 :: p5 :: p6 :: p7 :: p8 :: p9 :: (x, some c) :: sl) (o0 :: o1 :: o2 :: o3 :: o4 :: o5 :: o6 :: o7 :: o8 :: o9 :: o :: loc) x c o := .succ .z9
theorem SlotC.get {as : List Addr} {h : Heap} {m : Str → Option Value} {sl : List (Str × Option Addr)} {loc : List (Option V)} {x : Str} {c : Addr} {o : Option V} (q : SlotC sl loc x c o) : SlotsR as h m sl loc → SlotR as h m x (some c) o := by
 induction q with
 | zero => intro r; obtain ⟨o, loc', e, r1, _⟩ := r; cases e; exact r1
 | succ _ ih => intro r; obtain ⟨o, loc', e, _, r2⟩ := r; cases e; exact ih r2
theorem SlotC.mem {sl : List (Str × Option Addr)} {loc : List (Option V)} {x : Str} {c : Addr} {o : Option V} (q : SlotC sl loc x c o) : (x, some c) ∈ sl := by
 induction q with
 | zero => exact .head _
 | succ _ ih => exact .tail _ ih
inductive Cap (sl : List (Str × Option Addr)) (loc : List (Option V)) : List (Str × Option Addr) → List (Option V) → Prop
 | nil : Cap sl loc [] []
 | loc {x : Str} {sl0 : List (Str × Option Addr)} {loc0 : List (Option V)} : Cap sl loc sl0 loc0 → Cap sl loc ((x, none) :: sl0) (none :: loc0)
 | cap {x : Str} {c : Addr} {o : Option V} {sl0 : List (Str × Option Addr)} {loc0 : List (Option V)} : SlotC sl loc x c o → Cap sl loc sl0 loc0 → Cap sl loc ((x, some c) :: sl0) (o :: loc0)
theorem Cap.get {as : List Addr} {h : Heap} {m m' : Str → Option Value} {sl sl0 : List (Str × Option Addr)} {loc loc0 : List (Option V)} (q : Cap sl loc sl0 loc0) (r : SlotsR as h m sl loc) : SlotsR as h m' sl0 loc0 := by
 induction q with
 | nil => rfl
 | loc _ ih => exact ⟨_, _, rfl, (fun v e => by cases e), ih⟩
 | cap s _ ih => exact ⟨_, _, rfl, (by have := s.get r; exact this), ih⟩
theorem Cap.mem {sl sl0 : List (Str × Option Addr)} {loc loc0 : List (Option V)} (q : Cap sl loc sl0 loc0) : ∀ x c, (x, some c) ∈ sl0 → (x, some c) ∈ sl := by
 induction q with
 | nil => intro x c h; cases h
 | loc _ ih => intro x c h; rcases List.mem_cons.mp h with e | e; cases e; exact ih x c e
 | cap s _ ih =>
  intro x c h
  rcases List.mem_cons.mp h with e | e
  ·cases e; exact s.mem
  ·exact ih x c e
noncomputable def compΓ (Γ : Fm) (scope : Scope) (cl : List (Str × Addr)) (Cl : Addr) (sl0 : List (Str × Option Addr)) : Fm :=
 { A := Γ.A, env := compEnvC scope cl Cl Γ.env, sl := sl0, frs := Γ.frs, own := [Cl], room := Γ.room }
structure CompOk (C : Cst) (Γ : Fm) (scope : Scope) (cl : List (Str × Addr)) (sl0 : List (Str × Option Addr)) : Prop where
 clos : closureFor scope Γ.env = pure cl
 nocell : ∀ y ∈ scope.names, y.2 ≠ .cell
 kind : scope.kind = .function
 nam : ∀ y ∈ scope.names, y.2 = .local → scope.names.lookup y.1 = some .local
 loc : ∀ x, (x, none) ∈ sl0 → scope.names.lookup x = some .local
 cell : ∀ x c, (x, some c) ∈ sl0 → (relabel scope Γ.env).names.lookup x = some .cell ∧ cl.lookup x = some c
 names : (sl0.map (·.1)).Nodup
 cells : ((sl0.filterMap (·.2))).Nodup
noncomputable def CompRun (C : Cst) (Γ : Fm) (loc : List (Option V)) (sto : List SO) (elt target iter : Expr) (ifs : List Expr) (scope : Scope) (cl : List (Str × Addr)) (sl0 : List (Str × Option Addr)) (fin : Nat → List (Option V) → List SO → Prop) : Prop :=
 WIt C Γ loc sto target iter (fun n vals adv Cond l1 t1 => ∃ (loc0 : List (Option V)) (Inv : Nat → List (Option V) → List SO → Prop), Cap Γ.sl l1 sl0 loc0 ∧ Inv 0 loc0 (t1 ++ [.list []]) ∧ (∀ i l t, i ≤ n → Inv i l t → Cond i t) ∧
  (∀ Cl i l t, i < n → Inv i l t → WL C (compΓ Γ scope cl Cl sl0) l (adv i t) (f1 (assign target (compΓ Γ scope cl Cl sl0).env)) [vals i] RU (fun _ l2 t2 =>
   W C (compΓ Γ scope cl Cl sl0) l2 t2 (compT ifs (compΓ Γ scope cl Cl sl0).env) RT (fun ok l3 t3 => match ok with
    | true => WE C (compΓ Γ scope cl Cl sl0) l3 t3 elt (fun v l4 t4 => ∃ items, t4[t1.length]? = some (.list items) ∧ items.length ≤ 10000 ∧ Inv (i + 1) l4 (t4.set t1.length (.list (items ++ [v])))) (fun _ _ _ => False)
    | false => Inv (i + 1) l3 t3) (fun _ _ _ => False)) (fun _ _ _ => False)) ∧
  (∀ l t, Inv n l t → fin t1.length l1 (adv n t)))
theorem comp_core {elt target iter : Expr} {ifs : List Expr} {scope : Scope} {pos p0 : Pos} {cl : List (Str × Addr)} {sl0 : List (Str × Option Addr)} {use : Option (Value → Sem Unit)} {K E : Value → Shared → Prop} {s : Shared} {as : List Addr} {fin : Nat → List (Option V) → List SO → Prop}
  (F : RepF C Γ as loc sto s) (hf : ∀ env x, foldedSetIterable iter env x = pure x) (ok : CompOk C Γ scope cl sl0)
  (h : CompRun C Γ loc sto elt target iter ifs scope cl sl0 fin)
  (hK : ∀ Cl k l' t' as' s', Post C Γ as s as' l' t' s' → VR as' s'.heap (.lst k) (.ref (as'[k]?.getD 0)) → s.heap.get? Cl = none → Cl ∉ as' → (∃ m, s'.heap.Ns Cl m) → fin k l' t' → compPost (model C.prog C.w) Γ.A E use K (.ref (as'[k]?.getD 0)) Cl (.ok .next) s') :
  wpAny (model C.prog C.w) Γ.A (comprehension (.ListComp elt [⟨target, iter, ifs, 0⟩] scope pos) scope Γ.env p0 (newList []) false (eval iter Γ.env) use) K E s := by
 refine wpAny_comprehension_free rfl (fun x => hf _ x) ok.clos ok.kind ok.nam (h s as _ _ F ?_)
 intro n vals adv Cond it hid as1 s1 loc1 sto1 St P1 hnew hok pr st0 r140y16
 refine un_2_5 (r140y16) fun loc0 Inv hcap i0 ic ib ie => ?_; (try clear r140y16)
 refine wpAny_newObj_type (wpAny_newFunctionEnv ok.nocell (by intro y hy; simp at hy) (fun h₁ hns₁ hsb₁ => ?_) ok.kind) (hd := by size_fits)
 dsimp only at hns₁ hsb₁ ⊢
 obtain ⟨PD, vD⟩ := alloc_lst (vs := []) (xs := []) P1.rep VRs.nil
 revert hns₁ hsb₁ PD vD
 generalize hH2 : s1.heap.push { cls := .type "list", dict := none, data := .seq ([] : List Value).toArray } = H2
 intro hns₁ hsb₁ PD vD
 have hk1 : Ext H2 h₁ := fun b o e => hsb₁.extBut b o (Nat.ne_of_lt (Heap.lt_size e)) (Heap.get?_push_of_some _ e)
 have hCl0 : H2.get? H2.objs.size = none := get_size_none _
 have PE := Post.ext (t := s1.toks) PD.rep hk1 PD.rep.g.toks
 have hCls : s.heap.get? H2.objs.size = none := P1.dom _ (PD.dom _ hCl0)
 have hC0 : C.h0.get? H2.objs.size = none := Ext.dom F.g.keep _ hCls
 have hCas : H2.objs.size ∉ as1 ++ [s1.heap.objs.size] := fun q => by obtain ⟨o, e, _⟩ := PD.rep.g.mem_lt q; rw [hCl0] at e; cases e
 have hno : ∀ a ∈ hid, a ∉ Γ.own := fun a ha q => by
  refine un_1_2 (F.plain a q) fun o e _ => ?_
  rw [hnew a ha] at e; cases e
 have hok2 : HidOk C hid (as1 ++ [s1.heap.objs.size]) h₁ := hok.post hno (PD.trans PE)
 generalize hcl : H2.objs.size = Cl at *
 have FC : RepF C (compΓ Γ scope cl Cl sl0) (as1 ++ [s1.heap.objs.size]) loc0 (sto1 ++ [.list []]) { s1 with heap := h₁, toks := s1.toks + 0 } := by
  refine ⟨PE.rep.g, ⟨ok.kind, F.ok.glob, F.ok.bts, fun x hx => lookup_relabel_local (ok.loc x hx), fun x c hx => ⟨(ok.cell x c hx).1, (ok.cell x c hx).2, fun q => ?_⟩, ok.names, ok.cells, F.ok.hand, F.ok.frames, F.ok.depth, F.ok.units, .head _, fun a ha => ?_⟩, ⟨_, hns₁, ?_⟩, fun a ha => ⟨fun q => ?_, fun x c hx => ?_⟩, fun a ha => ?_, PE.rep.frs⟩
  ·refine un_1_2 (F.ns) fun m _ r => ?_
   refine un_2_2 (r.cell (hcap.mem x c hx)) fun ov o e _ => ?_
   have q' : c = Cl := q
   rw [q', hCls] at e; cases e
  ·have : a = Cl := by simpa [compΓ] using ha
   rw [this]; exact hC0
  ·refine un_1_2 (PE.rep.ns) fun m _ r => ?_
   exact hcap.get r
  ·have : a = Cl := by simpa [compΓ] using q
   exact hCas (this ▸ ha)
  ·exact (PE.rep.apart a ha).2 x c (hcap.mem x c hx)
  ·have : a = Cl := by simpa [compΓ] using ha
   subst this
   refine un_3_3 (hns₁) fun o es ep e1 e2 _ => ?_
   exact ⟨o, e1, fun its n q => by rw [e2] at q; cases q⟩
 have hnoC : ∀ a ∈ hid, a ∉ (compΓ Γ scope cl Cl sl0).own := fun a ha q => by
  have : a = Cl := by simpa [compΓ] using q
  subst this
  refine un_0_3 (hok a ha) fun _ _ c281x => ?_; refine un_2_2 c281x fun o vs e _ => ?_; clear c281x
  have := PD.dom a hCl0
  rw [e] at this; cases this
 have hnewC : ∀ a ∈ Cl :: hid, s.heap.get? a = none := fun a ha => by
  rcases List.mem_cons.mp ha with rfl | ha
  ·exact hCls
  ·exact hnew a ha
 have st1 : St 0 (as1 ++ [s1.heap.objs.size]) h₁ := (pr Γ).stay 0 as1 s1.heap _ _ st0 (List.prefix_append ..) (fun a ha o e => (hid_stay hok hno (PD.trans PE)) a ha o e) ((PD.trans PE).tups P1.rep)
 have inv0 : Inv 0 loc0 (sto1 ++ [.list []]) := i0
 have hDk : (as1 ++ [s1.heap.objs.size])[sto1.length]? = some s1.heap.objs.size := by
  rw [← P1.rep.g.len, List.getElem?_append_right (Nat.le_refl _)]; simp
 have loop : codeAny (model C.prog C.w) Γ.A (.compLoop (.ListComp elt [⟨target, iter, ifs, 0⟩] scope pos) 0 (.ref it) (.ref s1.heap.objs.size) (compEnvC scope cl Cl Γ.env))
   (compPost (model C.prog C.w) Γ.A E use K (.ref s1.heap.objs.size) Cl) { s1 with heap := h₁, toks := s1.toks + 0 } := by
  refine codeAny_comp (fun m s3 => ForI C ((compΓ Γ scope cl Cl sl0).hide hid) hid (as1 ++ [s1.heap.objs.size]) { s1 with heap := h₁, toks := s1.toks + 0 } St Inv n m s3) ?_ n
   ⟨0, _, loc0, _, Nat.zero_le _, rfl, Post.refl (FC.hideR hok2), hok2, st1, inv0⟩
  rintro m s3 ⟨i, as3, loc3, sto3, hi, rfl, P3, hok3, st3, inv⟩
  have R3 : RepF C (compΓ Γ scope cl Cl sl0) as3 loc3 sto3 s3 := P3.rep.unhide (fun _ _ => trivial) FC.ok
  have hDk3 : as3[sto1.length]? = some s1.heap.objs.size := by
   obtain ⟨t, rfl⟩ := P3.pre
   rw [List.getElem?_append_left (by rw [List.length_append, P1.rep.g.len]; simp)]; exact hDk
  by_cases hlt : i < n
  ·refine wpAny_mono ((pr (compΓ Γ scope cl Cl sl0)).item i hlt s3 as3 loc3 sto3 (fun v s0 => wpAny (model C.prog C.w) Γ.A (assign target (compEnvC scope cl Cl Γ.env) v) (fun _ s₂ =>
     wpAny (model C.prog C.w) Γ.A (compT ifs (compEnvC scope cl Cl Γ.env)) (fun ok s₃ =>
      if ok = true then wpAny (model C.prog C.w) Γ.A (eval elt (compEnvC scope cl Cl Γ.env)) (fun x s₄ =>
       wpAny (model C.prog C.w) Γ.A (call (.builtin "list.append") [.ref s1.heap.objs.size, x]) (fun _ s₅ => ∃ m, m < n - i ∧ ForI C ((compΓ Γ scope cl Cl sl0).hide hid) hid (as1 ++ [s1.heap.objs.size]) { s1 with heap := h₁, toks := s1.toks + 0 } St Inv n m s₅) (fun _ _ => False) s₄) (fun _ _ => False) s₃
      else ∃ m, m < n - i ∧ ForI C ((compΓ Γ scope cl Cl sl0).hide hid) hid (as1 ++ [s1.heap.objs.size]) { s1 with heap := h₁, toks := s1.toks + 0 } St Inv n m s₃) (fun _ _ => False) s₂) (fun _ _ => False) s0) (fun _ _ => False) R3 hok3 hnoC (ic i _ _ hi inv) st3 fun v s4 P4 hok4 rv st4 => ?_) ?_ fun _ _ h => h
   ·have R4 : RepF C (compΓ Γ scope cl Cl sl0) as3 loc3 (adv i sto3) s4 := P4.rep.unhide (fun _ _ => trivial) FC.ok
    refine wpAny_mono (ib Cl i loc3 sto3 hlt inv s4 as3 [v] R4 (vrs1 rv)) ?_ fun _ _ ⟨_, _, _, _, _, _, hF⟩ => hF.elim
    rintro _ s5 ⟨as5, loc5, sto5, _, P5, _, q5⟩
    have hok5 := hok4.post hnoC P5
    have st5 := (pr Γ).stay _ _ _ _ _ st4 P5.pre (hid_stay hok4 hnoC P5) (P5.tups R4)
    refine wpAny_mono (q5 s5 as5 P5.rep) ?_ fun _ _ ⟨_, _, _, _, _, _, hF⟩ => hF.elim
    rintro okv s6 ⟨as6, loc6, sto6, b, P6, rb, q6⟩
    have : okv = b := rb
    subst this
    have hok6 := hok5.post hnoC P6
    have st6 := (pr Γ).stay _ _ _ _ _ st5 P6.pre (hid_stay hok5 hnoC P6) (P6.tups P5.rep)
    have PP6 : Post C ((compΓ Γ scope cl Cl sl0).hide hid) (as1 ++ [s1.heap.objs.size]) { s1 with heap := h₁, toks := s1.toks + 0 } as6 loc6 sto6 s6 := P3.trans (P4.trans ((P5.hide hok4 hnoC).trans (P6.hide hok5 hnoC)))
    cases okv with
    | false =>
     rw [if_neg (by simp)]
     exact ⟨n - (i + 1), by lia, i + 1, as6, loc6, sto6, by lia, rfl, PP6, hok6, st6, q6⟩
    | true =>
     rw [if_pos rfl]
     refine wpAny_mono (q6 s6 as6 P6.rep) ?_ fun _ _ ⟨_, _, _, _, _, _, hF⟩ => hF.elim
     rintro x s7 ⟨as7, loc7, sto7, vx, P7, rx, items, hitm, hlen, q7⟩
     have hok7 := hok6.post hnoC P7
     have st7 := (pr Γ).stay _ _ _ _ _ st6 P7.pre (hid_stay hok6 hnoC P7) (P7.tups P6.rep)
     have PP7 := PP6.trans (P7.hide hok6 hnoC)
     have hDk7 : as7[sto1.length]? = some s1.heap.objs.size := by
      obtain ⟨t, rfl⟩ := PP7.pre
      rw [List.getElem?_append_left (by rw [List.length_append, P1.rep.g.len]; simp)]; exact hDk
     refine wpAny_mono (jBA (C := C) (Γ := compΓ Γ scope cl Cl sl0) (X := fun _ _ _ => False) (Q := fun v l t => v = .none ∧ l = loc7 ∧ t = sto7.set sto1.length (.list (items ++ [vx]))) (v := vx) hitm hlen ⟨rfl, rfl, rfl⟩ s7 as7 [.ref s1.heap.objs.size, x] P7.rep (vrs2 (vr_lst hDk7) rx)) ?_ fun _ _ ⟨_, _, _, _, _, _, hF⟩ => hF.elim
     rintro y s8 ⟨as8, loc8, sto8, b, P8, _, rfl, rfl, rfl⟩
     have hok8 := hok7.post hnoC P8
     have st8 := (pr Γ).stay _ _ _ _ _ st7 P8.pre (hid_stay hok7 hnoC P8) (P8.tups P7.rep)
     exact ⟨n - (i + 1), by lia, i + 1, as8, _, _, by lia, rfl, PP7.trans (P8.hide hok7 hnoC), hok8, st8, q7⟩
   ·intro r s4 r147y2
    refine un_1_2 (r147y2) fun v e287x1 hv => ?_; (try clear r147y2); subst e287x1
    exact hv
  ·have hin : i = n := by lia
   subst hin
   refine wpAny_mono ((pr (compΓ Γ scope cl Cl sl0)).done s3 as3 loc3 sto3 _ (fun _ _ => False) R3 hok3 hnoC (ic i _ _ hi inv) st3 fun s' tr => ?_) (fun r s4 hr => by obtain ⟨rfl, hr⟩ := hr; exact hr) fun _ _ h => h
   have PB : Post C Γ as s as3 loc1 sto3 s3 := Post.back2 F (P1.trans (PD.trans PE)) (fun a ha => by
    rcases List.mem_append.mp ha with q | q
    ·exact hnew a q
    ·have : a = Cl := by simpa [compΓ] using q
     rw [this]; exact hCls) (FC.hideR hok2) P3
   have PF := tr Γ loc1 as s PB hnew hno
   have P00 : Post C (compΓ Γ scope cl Cl sl0) [] { s3 with heap := C.h0 } as3 loc3 sto3 s3 := ⟨R3, List.nil_prefix, fun a ha => .inr (R3.g.fresh a ha), Keeps.of_ext R3.g.keep, fun a e => Ext.dom R3.g.keep a e, trivial⟩
   have PC := tr (compΓ Γ scope cl Cl sl0) loc3 [] _ P00 (fun a ha => (hok3 a ha).2.1) hnoC
   have hDk4 : as3[sto1.length]?.getD 0 = s1.heap.objs.size := by rw [hDk3]; rfl
   have hfin := hK Cl sto1.length loc1 (adv i sto3) as3 s' PF (by rw [hDk4]; exact vr_lst hDk3) hCls (fun q => by
    have := (PC.rep.apart Cl q).1
    exact this (.head _)) (let ⟨m, n, _⟩ := PC.rep.ns; ⟨m, n⟩) (ie loc3 sto3 inv)
   rw [hDk4] at hfin
   exact hfin
 refine codeAny_compStart_list loop ((pr (compΓ Γ scope cl Cl sl0)).self 0 _ _ _ _ _ _ FC (ic 0 _ _ (Nat.zero_le _) inv0) st1 loop)
theorem we_comp {elt target iter : Expr} {ifs : List Expr} {scope : Scope} {pos : Pos} {cl : List (Str × Addr)} {sl0 : List (Str × Option Addr)}
  (hf : ∀ env x, foldedSetIterable iter env x = pure x) (ok : CompOk C Γ scope cl sl0) (h : CompRun C Γ loc sto elt target iter ifs scope cl sl0 (fun k l t => Q (.lst k) l t)) :
  WE C Γ loc sto (.ListComp elt [⟨target, iter, ifs, 0⟩] scope pos) Q X := fun s as F => by
 rw [eval_ListComp]
 refine comp_core (use := none) F hf ok h fun Cl k l' t' as' s' P r hCl hm hn q => ?_
 obtain ⟨m, hn⟩ := hn
 refine ⟨m, hn, fun h' hs => ?_⟩
 refine un_3_3 (id hn) fun o es ep e1 e2 _ => ?_
 have P2 := Post.retouch F P hCl hm ⟨o, e1, fun its n q => by rw [e2] at q; cases q⟩ hs
 exact ⟨as', l', t', .lst k, P2, (by unfold VR at r ⊢; exact r), q⟩
theorem w1_assign_comp {QS : Out → List (Option V) → List SO → Prop} {x : Str} {pos' : Pos} {elt target iter : Expr} {ifs : List Expr} {scope : Scope} {pos apos : Pos} {cl : List (Str × Addr)} {sl0 : List (Str × Option Addr)}
  (hsw : swapsWith (.ListComp elt [⟨target, iter, ifs, 0⟩] scope pos) (some (.Name x pos')) apos.line Γ.env = pure true)
  (hf : ∀ env x, foldedSetIterable iter env x = pure x) (ok : CompOk C Γ scope cl sl0) (ho : ∀ c, (x, some c) ∈ Γ.sl → c ∈ Γ.own)
  (h : CompRun C Γ loc sto elt target iter ifs scope cl sl0 (fun k l t => ∃ l2, SetSlot Γ.sl l x (.lst k) l2 ∧ QS .next l2 t)) :
  W1 C Γ loc sto (.Assign [.Name x pos'] (.ListComp elt [⟨target, iter, ifs, 0⟩] scope pos) apos) QS X := fun s as F => by
 rw [exec_Assign_Name_used _ _ _ _ hsw]
 refine wpAny_bind (wpAny_standAt (wpAny_bind ?_))
 show wpAny _ Γ.A (do let _ ← comprehension (.ListComp elt [⟨target, iter, ifs, 0⟩] scope pos) scope Γ.env _ (newList []) false (eval iter Γ.env) (some (assign (.Name x pos') Γ.env))) _ _ s
 refine wpAny_bind (wpAny_mono (comp_core (use := some (assign (.Name x pos') Γ.env)) (E := ErP C Γ as s X) (K := fun _ s' => OkP C Γ as s RFl QS .next s') F hf ok h fun Cl k l' t' as' s' P r hCl hm hn q => ?_) (fun _ s' hq => wpAny_pure (wpAny_pure hq)) fun _ _ e => e)
 refine un_1_2 (q) fun l2 q2 q3 => ?_; (try clear q)
 show wpAny _ _ (assign (.Name x pos') Γ.env _) _ _ _
 refine wpAny_mono (wt_name (C := C) (Γ := Γ) (X := X) (QU := fun _ l t => l = l2 ∧ t = t') q2 ho ⟨rfl, rfl⟩ s' as' [.ref (as'[k]?.getD 0)] P.rep (vrs1 r)) ?_ ?_
 ·rintro _ s2 ⟨as2, loc2, sto2, b, P2, _, rfl, rfl⟩
  obtain ⟨m, n⟩ := hn
  refine un_3_3 (id n) fun o es ep e1 e2 e3 => ?_
  have nown : Cl ∉ Γ.own ++ as' := fun w => (List.mem_append.mp w).elim (fun w => by obtain ⟨o, e, _⟩ := F.plain Cl w; rw [hCl] at e; cases e) hm
  obtain ⟨sl, e1'⟩ := P2.keeps.up e1 nown
  refine ⟨m, ⟨_, es, ep, e1', e2, e3⟩, fun h' hs => ?_⟩
  have hm2 : Cl ∉ as2 := fun w => (P2.new Cl w).elim hm fun w => by rw [e1] at w; cases w
  exact ⟨as2, _, _, .next, Post.retouch F (P.trans P2) hCl hm2 ⟨_, e1', fun its n q => by rw [show (_ : Obj).data = _ from e2] at q; cases q⟩ hs, rfl, q3⟩
 ·rintro e s2 ⟨as2, loc2, sto2, b, P2, _, q⟩
  exact ⟨as2, loc2, sto2, b, P.trans P2, trivial, q⟩
end
end Mine
namespace Mine
open PySem PySem.W PyProof.Rows PySem.Calls
section
variable {C : Cst} {Γ : Fm} {loc loc' : List (Option V)} {sto : List SO} {X : XV → List (Option V) → List SO → Prop} {QS : Out → List (Option V) → List SO → Prop}
theorem w1_while {test : Expr} {body orelse : List Stmt} {pos : Pos} (Inv : Nat → List (Option V) → List SO → Prop) (n : Nat) (h0 : Inv n loc sto)
  (turn : ∀ n l t, Inv n l t → WT C Γ l t test (fun b l2 t2 => match b with
   | true => WS C Γ l2 t2 body (fun o l3 t3 => match o with
     | .next | .cont => ∃ m, m < n ∧ Inv m l3 t3
     | .brk => QS .next l3 t3
     | .ret v => QS (.ret v) l3 t3) (fun _ _ _ => False)
   | false => WS C Γ l2 t2 orelse QS (fun _ _ _ => False)) (fun _ _ _ => False)) : W1 C Γ loc sto (.While test body orelse pos) QS X := fun s as F => by
 refine wpAny_While ?_
 refine codeAny_whileLoop (fun m s3 => ∃ as3 loc3 sto3, Post C Γ as s as3 loc3 sto3 s3 ∧ Inv m loc3 sto3) ?_ n ⟨as, loc, sto, Post.refl F, h0⟩
 intro m s3 r151y2
 refine un_3_2 (r151y2) fun as3 loc3 sto3 P3 inv => ?_; (try clear r151y2)
 refine wpAny_mono (turn m loc3 sto3 inv s3 as3 P3.rep) ?_ fun _ _ ⟨_, _, _, _, _, _, hF⟩ => hF.elim
 rintro b s4 ⟨as4, loc4, sto4, b', P4, rb, q4⟩
 have : b = b' := rb
 subst this
 cases b with
 | true =>
  rw [if_pos rfl]
  refine wpAny_mono (q4 s4 as4 P4.rep) ?_ fun _ _ ⟨_, _, _, _, _, _, hF⟩ => hF.elim
  rintro f s5 ⟨as5, loc5, sto5, o, P5, rf, q5⟩
  have PP := P3.trans (P4.trans P5)
  cases o with
  | next => have : f = .next := rf; subst this; obtain ⟨k, hk, hi⟩ := q5; exact ⟨k, hk, as5, loc5, sto5, PP, hi⟩
  | cont => have : f = .cont := rf; subst this; obtain ⟨k, hk, hi⟩ := q5; exact ⟨k, hk, as5, loc5, sto5, PP, hi⟩
  | brk => have : f = .brk := rf; subst this; exact (show OkP C Γ as s RFl QS .next s5 from ⟨as5, loc5, sto5, .next, PP, rfl, q5⟩)
  | ret u => obtain ⟨z, rfl, rz⟩ := rf; exact (show OkP C Γ as s RFl QS (.ret z) s5 from ⟨as5, loc5, sto5, .ret u, PP, ⟨z, rfl, rz⟩, q5⟩)
 | false =>
  rw [if_neg (by simp)]
  refine wpAny_mono (q4 s4 as4 P4.rep) ?_ fun _ _ ⟨_, _, _, _, _, _, hF⟩ => hF.elim
  rintro f s5 ⟨as5, loc5, sto5, o, P5, rf, q5⟩
  exact (show OkP C Γ as s RFl QS f s5 from ⟨as5, loc5, sto5, o, P3.trans (P4.trans P5), rf, q5⟩)
end
end Mine
namespace Mine
open PySem PySem.W PyProof.Rows PySem.Calls
open Builtin Builtin.Str
theorem vrs1_inv {as : List Addr} {h : Heap} {a : V} {xs : List Value} (r : VRs as h [a] xs) : ∃ x, xs = [x] ∧ VR as h a x := by
 unfold VRs at r; obtain ⟨y, ys, rfl, r1, r2⟩ := r; unfold VRs at r2; subst r2; exact ⟨y, rfl, r1⟩
theorem vrs2_inv {as : List Addr} {h : Heap} {a b : V} {xs : List Value} (r : VRs as h [a, b] xs) : ∃ x y, xs = [x, y] ∧ VR as h a x ∧ VR as h b y := by
 unfold VRs at r; obtain ⟨y, ys, rfl, r1, r2⟩ := r; obtain ⟨z, rfl, r3⟩ := vrs1_inv r2; exact ⟨y, z, rfl, r1, r3⟩
theorem vrs3_inv {as : List Addr} {h : Heap} {a b c : V} {xs : List Value} (r : VRs as h [a, b, c] xs) : ∃ x y z, xs = [x, y, z] ∧ VR as h a x ∧ VR as h b y ∧ VR as h c z := by
 unfold VRs at r; obtain ⟨y, ys, rfl, r1, r2⟩ := r; obtain ⟨z, w, rfl, r3, r4⟩ := vrs2_inv r2; exact ⟨y, z, w, rfl, r1, r3, r4⟩
section
variable {α β : Type} {C : Cst} {Γ : Fm} {loc loc' : List (Option V)} {sto : List SO} {Q : V → List (Option V) → List SO → Prop} {X : XV → List (Option V) → List SO → Prop} {QB : Bool → List (Option V) → List SO → Prop}
theorem wl_lenL {k : Nat} {items : List V} (hk : sto[k]? = some (.list items)) (hl : items.length ≤ 100000) (h : Q (.int items.length) loc sto) : WL C Γ loc sto (callF (.builtin "len")) [.lst k] VR Q X := fun s as xs F r => by
 refine un_1_2 (vrs1_inv r) fun x e297x1 r1 => ?_; subst e297x1
 refine un_3_4 (lst_at F r1 hk) fun a its n e298x3 ea e ri => ?_; subst e298x3
 have hsz := ri.length
 rw [Array.length_toList] at hsz
 refine PySem.Calls.call_len_list ⟨_, e, rfl, n, rfl⟩ (by lia) ?_
 exact ⟨as, loc, sto, .int items.length, Post.tok F (Nat.succ_pos _), by rw [hsz]; exact vr_int, h⟩
theorem wl_lenS {u : List Nat} (hl : u.length ≤ 16777216) (h : Q (.int u.length) loc sto) : WL C Γ loc sto (callF (.builtin "len")) [.str u] VR Q X := fun s as xs F r => by
 refine un_1_2 (vrs1_inv r) fun x e299x1 r1 => ?_; subst e299x1
 obtain ⟨t, rfl⟩ := jRA r1
 refine call_len_gives (T := "str") (typeIs_str _ _ _) PySem.F.slot_str_len PySem.F.entry_str_len (PySem.F.args_str_len_1 _) (gives_str_len _ t) (by lia) (by rw [str_len]; lia) ?_
 exact ⟨as, loc, sto, .int u.length, Post.tok F (Nat.succ_pos _), by rw [str_len]; exact vr_int, h⟩
theorem wl_truthL {k : Nat} {items : List V} (hk : sto[k]? = some (.list items)) (hl : items.length ≤ 100000) (h : QB (!items.isEmpty) loc sto) : WL C Γ loc sto (f1 truthy) [.lst k] RT QB X := wl1 fun s as x F r => by
 refine un_3_4 (lst_at F r hk) fun a its n e300x3 ea e ri => ?_; subst e300x3
 have hsz := ri.length
 rw [Array.length_toList] at hsz
 refine wpAny_truthy_list ⟨_, e, rfl, n, rfl⟩ (by lia) ⟨as, loc, sto, _, Post.tok F (Nat.succ_pos _), ?_, h⟩
 show (!its.isEmpty) = !items.isEmpty
 cases items with
 | nil => have : its = #[] := Array.eq_empty_of_size_eq_zero hsz; rw [this]; rfl
 | cons v l =>
  have : its.isEmpty = false := by unfold Array.isEmpty; rw [hsz]; simp
  rw [this]; rfl
theorem at_iff {u : List Nat} {c i : Nat} : StrLaws.At ⟨u.toArray⟩ ⟨#[c]⟩ (⟨u.toArray⟩ : Str).length i ↔ u[i]? = some c := StrLaws.subAt_one ⟨u.toArray⟩ c i
theorem find_hit {u : List Nat} {c i : Nat} (hi : u[i]? = some c) (hn : ∀ k, k < i → u[k]? ≠ some c) : Txt.find ⟨u.toArray⟩ ⟨#[c]⟩ = i := by
 unfold Txt.find
 rcases StrLaws.occ_head ⟨u.toArray⟩ ⟨#[c]⟩ 1 (Nat.le_refl 1) with ⟨h0, h⟩ | ⟨k, r, h0, hk, h⟩
 ·exact absurd (at_iff.mpr hi) (h i)
 ·rw [h0]
  have h1 := at_iff.mp hk
  show (k : Int) = i
  rcases Nat.lt_trichotomy k i with e | e | e
  ·exact absurd h1 (hn k e)
  ·rw [e]
  ·exact absurd (at_iff.mpr hi) (h i e)
theorem find_miss {u : List Nat} {c : Nat} (hn : ∀ k : Nat, u[k]? ≠ some c) : Txt.find ⟨u.toArray⟩ ⟨#[c]⟩ = -1 := by
 unfold Txt.find
 rcases StrLaws.occ_head ⟨u.toArray⟩ ⟨#[c]⟩ 1 (Nat.le_refl 1) with ⟨h0, h⟩ | ⟨k, r, h0, hk, h⟩
 ·rw [h0]
 ·exact absurd (at_iff.mp hk) (hn k)
theorem wl_find {u : List Nat} {c : Nat} (h : Q (.int (Txt.find ⟨u.toArray⟩ ⟨#[c]⟩)) loc sto) : WL C Γ loc sto (callF (.builtin "str.find")) [.str u, .str [c]] VR Q X := fun s as xs F r => by
 refine un_2_3 (vrs2_inv r) fun x y e301x2 r1 r2 => ?_; subst e301x2
 obtain ⟨t, rfl⟩ := jRA r1
 obtain ⟨t', rfl⟩ := jRA r2
 exact SC.find ⟨as, loc, sto, _, Post.tok F (Nat.succ_pos _), vr_int, h⟩
theorem find3_hit {u : List Nat} {c i j : Nat} (hi : u[i]? = some c) (hj : j ≤ i) (hn : ∀ k, j ≤ k → k < i → u[k]? ≠ some c) : Txt.find3 ⟨u.toArray⟩ ⟨#[c]⟩ j = i := by
 have hlt := (List.getElem?_eq_some_iff.mp hi).1
 have hf : fromIndex (⟨u.toArray⟩ : Str).length (j : Int) = j := by
  unfold fromIndex; rw [str_len]
  simp only [show ¬ ((j : Int) < 0) by lia, if_false]
  lia
 unfold Txt.find3
 rw [hf]
 rcases StrLaws.occ_head_from ⟨u.toArray⟩ ⟨#[c]⟩ j 1 (Nat.le_refl 1) with ⟨h0, h⟩ | ⟨k, r, h0, hjk, hk, h⟩
 ·exact absurd (at_iff.mpr hi) (h i hj)
 ·rw [h0]
  have h1 := at_iff.mp hk
  show (k : Int) = i
  rcases Nat.lt_trichotomy k i with e | e | e
  ·exact absurd h1 (hn k hjk e)
  ·rw [e]
  ·exact absurd (at_iff.mpr hi) (h i hj e)
theorem find3_miss {u : List Nat} {c j : Nat} (hj : j ≤ u.length) (hn : ∀ k, j ≤ k → u[k]? ≠ some c) : Txt.find3 ⟨u.toArray⟩ ⟨#[c]⟩ j = -1 := by
 have hf : fromIndex (⟨u.toArray⟩ : Str).length (j : Int) = j := by
  unfold fromIndex; rw [str_len]
  simp only [show ¬ ((j : Int) < 0) by lia, if_false]
  lia
 unfold Txt.find3
 rw [hf]
 rcases StrLaws.occ_head_from ⟨u.toArray⟩ ⟨#[c]⟩ j 1 (Nat.le_refl 1) with ⟨h0, h⟩ | ⟨k, r, h0, hjk, hk, h⟩
 ·rw [h0]
 ·exact absurd (at_iff.mp hk) (hn k hjk)
theorem wl_find3 {u : List Nat} {c : Nat} {i : Int} (h : Q (.int (Txt.find3 ⟨u.toArray⟩ ⟨#[c]⟩ i)) loc sto) : WL C Γ loc sto (callF (.builtin "str.find")) [.str u, .str [c], .int i] VR Q X := fun s as xs F r => by
 refine un_3_4 (vrs3_inv r) fun x y z e302x3 r1 r2 r3 => ?_; subst e302x3
 obtain ⟨t, rfl⟩ := jRA r1
 obtain ⟨t', rfl⟩ := jRA r2
 obtain ⟨t3, rfl⟩ := jTA r3
 exact call_gives PySem.F.slot_str_find (typeIs_str _ _ _) PySem.F.entry_str_find (PySem.F.args_str_find_3 _ _ _) (gives_str_find_from _ _ _ _ _ _)
  (show (Made.int (Txt.find3 ⟨u.toArray⟩ ⟨#[c]⟩ i)).post _ s from ⟨as, loc, sto, _, Post.tok F (Nat.succ_pos _), vr_int, h⟩)
noncomputable def spl (c : Nat) : List Nat → List (List Nat)
 | [] => [[]]
 | k :: r => if k = c then [] :: spl c r else match spl c r with | p :: q => (k :: p) :: q | [] => [[k]]
theorem spl_ne (c : Nat) : ∀ x, spl c x ≠ []
 | [] => by simp [spl]
 | k :: r => by unfold spl; split; simp; split <;> simp
theorem spl_app (c : Nat) : ∀ (p x : List Nat), c ∉ p → spl c (p ++ x) = match spl c x with | q :: r => (p ++ q) :: r | [] => [p]
 | [], x, _ => by cases h : spl c x with | nil => exact absurd h (spl_ne c x) | cons q r => simp [h]
 | k :: p, x, hn => by
  have h1 : ¬ k = c := fun e => hn (e ▸ List.mem_cons_self ..)
  have h2 : c ∉ p := fun m => hn (List.mem_cons_of_mem _ m)
  have hk : ∀ r, spl c (k :: r) = match spl c r with | p :: q => (k :: p) :: q | [] => [[k]] := fun r => by rw [spl, if_neg h1]
  rw [List.cons_append, hk, spl_app c p x h2]
  generalize hg : spl c x = g
  cases g with
  | nil => exact absurd hg (spl_ne c x)
  | cons q r => rfl
theorem spl_free (c : Nat) (p : List Nat) (h : c ∉ p) : spl c p = [p] := by
 have := spl_app c p [] h
 simpa [spl] using this
theorem spl_cut (c : Nat) (p x : List Nat) (h : c ∉ p) : spl c (p ++ c :: x) = p :: spl c x := by
 rw [spl_app c p _ h]
 have : spl c (c :: x) = [] :: spl c x := by rw [spl]; simp
 rw [this]; simp
theorem spl_join (c : Nat) : ∀ parts : List Str, parts ≠ [] → (∀ p ∈ parts, c ∉ p.cps.toList) → spl c (Str.join ⟨#[c]⟩ parts).cps.toList = parts.map (·.cps.toList)
 | [], h, _ => absurd rfl h
 | [p], _, h => spl_free c _ (h p (List.mem_singleton.mpr rfl))
 | p :: q :: r, _, h => by
  have ih := spl_join c (q :: r) (by simp) fun a ha => h a (List.mem_cons_of_mem _ ha)
  show spl c (p ++ ⟨#[c]⟩ ++ Str.join ⟨#[c]⟩ (q :: r)).cps.toList = _
  simp only [Str.cps_append, Array.toList_append]
  rw [List.append_assoc]
  show spl c (p.cps.toList ++ c :: (Str.join ⟨#[c]⟩ (q :: r)).cps.toList) = _
  rw [spl_cut c _ _ (h p (List.mem_cons_self ..)), ih]
  rfl
theorem split_eq (u : List Nat) (c : Nat) : (Txt.split ⟨u.toArray⟩ ⟨#[c]⟩).map (·.cps.toList) = spl c u := by
 have h1 := spl_join c (Txt.split ⟨u.toArray⟩ ⟨#[c]⟩) (fun e => by have := PyProof.Rows.split_pos ⟨u.toArray⟩ ⟨#[c]⟩; rw [e] at this; simp at this) (StrLaws.split_free _ c)
 rw [StrLaws.join_split] at h1
 rw [← h1]
theorem spl_length (c : Nat) : ∀ x, (spl c x).length ≤ x.length + 1
 | [] => by simp [spl]
 | k :: r => by
  have := spl_length c r
  unfold spl
  split
  ·simp; lia
  ·split
   ·rename_i p q h; rw [h] at this; simp at this ⊢; lia
   ·simp
theorem vrs_strs {as : List Addr} {h : Heap} : ∀ (l : List (Str × Tok)), VRs as h (l.map fun p => V.str p.1.cps.toList) (strValues l)
 | [] => VRs.nil
 | (x, t) :: l => VRs.cons (vr_str (x := x) (t := t)) (vrs_strs l)
theorem wl_split {u : List Nat} {c : Nat} (hl : u.length ≤ 100000) (h : Q (.lst sto.length) loc (sto ++ [.list ((spl c u).map V.str)])) : WL C Γ loc sto (callF (.builtin "str.split")) [.str u, .str [c]] VR Q X := fun s as xs F r => by
 refine un_2_3 (vrs2_inv r) fun x y e303x2 r1 r2 => ?_; subst e303x2
 obtain ⟨t, rfl⟩ := jRA r1
 obtain ⟨t', rfl⟩ := jRA r2
 have key : ∀ (l : List (Str × Tok)) (tk : Nat), 0 < tk → l.map (·.1) = Txt.split ⟨u.toArray⟩ ⟨#[c]⟩ →
   OkP C Γ as s VR Q (.ref s.heap.objs.size) { s with heap := s.heap.push { cls := .type "list", data := .seq (strValues l).toArray }, toks := tk } := fun l tk htk e => by
  have ev : l.map (fun p => V.str p.1.cps.toList) = (spl c u).map V.str := by
   rw [← split_eq, ← e, List.map_map, List.map_map]; rfl
  have rv := vrs_strs (as := as) (h := s.heap) l
  rw [ev] at rv
  obtain ⟨p5, v5⟩ := alloc_lst F rv
  exact ⟨_, loc, _, _, p5.trans (Post.tok p5.rep htk), v5, h⟩
 have hy : ((⟨[c].toArray⟩ : Str).length == 0) = false := rfl
 cases h1 : (decide ((⟨u.toArray⟩ : Str).length < (⟨[c].toArray⟩ : Str).length) || decide (strKind ⟨u.toArray⟩ < strKind ⟨[c].toArray⟩))
 ·cases hf : (occurrences ⟨u.toArray⟩ ⟨[c].toArray⟩ 0 (⟨u.toArray⟩ : Str).length ((⟨u.toArray⟩ : Str).length + 1)).isEmpty
  ·refine call_meets PySem.F.slot_str_split (typeIs_str _ _ _) PySem.F.entry_str_split (PySem.F.args_str_split_2 _ _) (meets_str_split_sep _ _ t t' h1 hy hf (by rw [str_len, sizeLine16]; lia) ?_) ?_
   ·have h2 := StrLaws.occ_length_le ⟨u.toArray⟩ ⟨[c].toArray⟩ 0 (⟨u.toArray⟩ : Str).length ((⟨u.toArray⟩ : Str).length + 1)
    rw [str_len] at h2
    have h3 : ∀ (x : Str) (w : Nat) (cuts : List Nat), (partsBetween x cuts w).length = cuts.length + 1 := fun x w cuts => by
     rw [StrLaws.partsBetween_eq]
     have : ∀ (cuts : List Nat) (a : Nat), (StrLaws.partsFrom x w a cuts).length = cuts.length + 1 := fun cuts => by
      induction cuts with
      | nil => intro a; rfl
      | cons c r ih => intro a; show (StrLaws.partsFrom x w (c + w) r).length + 1 = _; rw [ih]; rfl
     exact this cuts 0
    rw [h3, sizeLine16, str_len]; lia
   ·show wants _ _ _ { s with toks := _, heap := s.heap.push { cls := .type "list", data := .seq (strsFrom s.toks _).toArray } }
    rw [strsFrom_eq]
    exact key (numbered s.toks _) _ (by have := F.g.toks; lia) ((numbered_texts _ _).trans ((if_neg (by rw [h1]; simp)).trans (if_neg (by rw [hf]; simp))).symm)
  ·exact call_meets PySem.F.slot_str_split (typeIs_str _ _ _) PySem.F.entry_str_split (PySem.F.args_str_split_2 _ _) (meets_str_split_not_found _ _ t t' h1 hy hf)
    (key [(⟨u.toArray⟩, t)] s.toks F.g.toks ((if_neg (by rw [h1]; simp)).trans (if_pos hf)).symm)
 ·exact call_meets PySem.F.slot_str_split (typeIs_str _ _ _) PySem.F.entry_str_split (PySem.F.args_str_split_2 _ _) (meets_str_split_cannot_occur _ _ t t' h1)
   (key [(⟨u.toArray⟩, t)] s.toks F.g.toks (if_pos h1).symm)
end
end Mine
namespace Mine
open PySem PySem.W PyProof.Rows PySem.Calls
open Builtin Builtin.Str
section
variable {α β : Type} {C : Cst} {Γ : Fm} {loc loc' : List (Option V)} {sto : List SO} {Q : V → List (Option V) → List SO → Prop} {X : XV → List (Option V) → List SO → Prop} {QB : Bool → List (Option V) → List SO → Prop}
noncomputable def Fresh (C : Cst) (Γ : Fm) (loc : List (Option V)) (sto : List SO) (e : Expr) (u : List Nat) : Prop :=
 ∀ s as (K E : Value → Shared → Prop), RepF C Γ as loc sto s → (∀ t tk, s.toks ≤ t → t < tk → K (.str ⟨u.toArray⟩ t) { s with toks := tk }) → wpAny (model C.prog C.w) Γ.A (eval e Γ.env) K E s
theorem fresh_const {x : Str} {k : Nat} {pos : Pos} : Fresh C Γ loc sto (.Constant (.str x) k pos) x.cps.toList := fun s as K E F h => by
 show wpAny _ _ (mkText x) _ _ _
 refine wpAny_mkText ?_
 have := h s.toks (s.toks + 1) (Nat.le_refl _) (Nat.lt_succ_self _)
 simpa using this
theorem fresh_mul {x : Str} {p pos : Pos} {c k : Nat} {n : Int} {ipos : Pos} (hs : Slot Γ.sl loc x (.str [c])) (hn : 2 ≤ n ∧ n ≤ 1000) (hd : (x == ("__debug__" : Str)) = false := by decide) :
  Fresh C Γ loc sto (.BinOp (.Name x p) .Mult (.Constant (.int n) k ipos) pos) (rep [c] n) := fun s as K E F h => by
 refine wpAny_BinOp (wpAny_Name (load_slot F hs fun y r => ?_) hd)
 obtain ⟨t, rfl⟩ := jRA r
 refine wpAny_Constant_int ?_
 refine PySem.P.mul_str (by simp; lia) (fun _ _ => ?_) (fun _ _ => ?_) ?_
 ·rw [str_len]
  have h1 : (1 : Int) ≤ (2 ^ 63 - 1) / n := by
   rw [Int.le_ediv_iff_mul_le (by lia)]
   lia
  simpa using h1
 ·rw [str_len]
  unfold Builtin.Str.tooLong
  rw [decide_eq_false_iff_not, sizeLine16]
  simp; lia
 ·rw [str_len, if_neg (by lia), if_neg (by simp; lia)]
  have hr : (⟨(List.replicate n.toNat (⟨[c].toArray⟩ : Str).cps).foldl (· ++ ·) #[]⟩ : Str) = ⟨(rep [c] n).toArray⟩ := by
   have := repl_foldl [c] n.toNat []
   simp only [List.nil_append] at this
   show Str.mk (List.foldl (· ++ ·) #[] (List.replicate n.toNat [c].toArray)) = _
   rw [this]; rfl
  have hlen : (rep [c] n).length = n.toNat := by unfold rep; simp
  rw [hr]
  exact ⟨by rw [str_len, hlen, sizeLine16]; lia, h _ _ (Nat.le_succ _) (Nat.lt_succ_self _)⟩
theorem we_replace {o e1 e2 : Expr} {name : Str} {apos pos : Pos} {y z : List Nat} (hp : Plain [e1, e2]) (hname : name = "replace") (hb : Base o name) (hline : (apos.endLine == pos.line) = true)
  (he : starEach [e1, e2] Γ.env = [(false, eval e1 Γ.env), (false, eval e2 Γ.env)]) (hyz : y ≠ z) (hz : z.length ≤ 14)
  (h : WE C Γ loc sto o (fun v l t => ∃ x, v = .str x ∧ x.length ≤ 100000 ∧ Fresh C Γ l t e1 y ∧ Fresh C Γ l t e2 z ∧ Q (.str (Txt.replace ⟨x.toArray⟩ ⟨y.toArray⟩ ⟨z.toArray⟩).cps.toList) l t) X) : WE C Γ loc sto (.Call (.Attribute o name apos) [e1, e2] [] pos) Q X := fun s as F => by
 subst hname
 refine wpAny_Call_method_lateS (hb _) ?_ hline (wpAny_mono (h s as F) ?_ fun _ _ h => h)
 ·have h1 := hp Γ.env pos
  have h2 : (backTo pos (starEach [e1, e2] Γ.env)).all (fun x => !x.1) = true := by
   rw [List.all_eq_true]; intro x hx
   rw [List.any_eq_false] at h1
   have := h1 x hx
   simpa using this
  rw [h2]
  simp only [backToKw, show keywordEach [] Γ.env = [] from rfl, List.map_nil, List.all_nil, Bool.and_true, Bool.true_and, List.length_nil, Nat.add_zero, List.isEmpty_nil, if_true, decide_eq_true_eq]
  exact (by decide : 2 < 30)
 ·rintro ov s1 ⟨as1, loc1, sto1, v, P1, r1, x, rfl, hx, f1, f2, q⟩
  obtain ⟨t1, t2⟩ := typeIs_S P1.rep r1
  obtain ⟨t, rfl⟩ := jRA r1
  refine ⟨"str", "str.replace", PySem.F.plainAttrs_str, PySem.F.slot_str_replace, PySem.F.type_str_replace, t1, t2, callWith_builtin (hp _ _) (args_of hp ?_)⟩
  rw [he]
  show wpAny _ _ (spliced ((false, eval e1 Γ.env) :: (false, eval e2 Γ.env) :: [])) _ _ _
  refine spliced_cons (f1 s1 as1 _ _ P1.rep fun u tk h1 h2 => ?_)
  have htk : 0 < tk := Nat.lt_of_le_of_lt (Nat.zero_le _) h2
  have P2 := Post.tok (t := tk) P1.rep htk
  refine spliced_cons (f2 _ as1 _ _ P2.rep fun v tk' h3 h4 => spliced_nil ?_)
  have htk' : 0 < tk' := Nat.lt_of_le_of_lt (Nat.zero_le _) h4
  have P3 := Post.tok (t := tk') P2.rep htk'
  have hu : u ≠ 0 := by have := P1.rep.g.toks; lia
  have h3' : tk ≤ v := h3
  have hv : v ≠ 0 := Nat.ne_of_gt (Nat.lt_of_lt_of_le htk h3')
  have huv : u ≠ v := Nat.ne_of_lt (Nat.lt_of_lt_of_le h2 h3')
  have hyz' : ((⟨y.toArray⟩ : Str) == ⟨z.toArray⟩) = false := by
   cases hc : ((⟨y.toArray⟩ : Str) == ⟨z.toArray⟩) with
   | false => rfl
   | true =>
    have := eq_of_beq hc
    injection this with this
    exact absurd (List.toArray_inj this) hyz
  have hb' : (⟨x.toArray⟩ : Str).length + ((⟨x.toArray⟩ : Str).length + 1) * (⟨z.toArray⟩ : Str).length ≤ 16777216 := by
   rw [str_len, str_len]
   have h1 : (x.length + 1) * z.length ≤ (x.length + 1) * 14 := Nat.mul_le_mul_left _ hz
   lia
  have hl : tooLong ((⟨x.toArray⟩ : Str).length + (occurrences ⟨x.toArray⟩ ⟨y.toArray⟩ 0 (⟨x.toArray⟩ : Str).length ((⟨x.toArray⟩ : Str).length + 1)).length * (⟨z.toArray⟩ : Str).length) = false := by
   have h1 := StrLaws.occ_length_le ⟨x.toArray⟩ ⟨y.toArray⟩ 0 (⟨x.toArray⟩ : Str).length ((⟨x.toArray⟩ : Str).length + 1)
   have h2 : (occurrences ⟨x.toArray⟩ ⟨y.toArray⟩ 0 (⟨x.toArray⟩ : Str).length ((⟨x.toArray⟩ : Str).length + 1)).length * (⟨z.toArray⟩ : Str).length ≤ ((⟨x.toArray⟩ : Str).length + 1) * (⟨z.toArray⟩ : Str).length := Nat.mul_le_mul_right _ h1
   unfold tooLong
   rw [sizeLine16]
   exact decide_eq_false (by lia)
  refine call_gives PySem.F.slot_str_replace (typeIs_str _ _ _) PySem.F.entry_str_replace (PySem.F.args_str_replace_3 _ _ _)
   (gives_str_replace ⟨x.toArray⟩ ⟨y.toArray⟩ ⟨z.toArray⟩ t u v fun _ => ⟨by simp [hu, hv], by simp [huv], hyz', hl⟩) ?_
  unfold Txt.replace at q
  have PP := P1.trans (P2.trans P3)
  cases hc : ((occurrences ⟨x.toArray⟩ ⟨y.toArray⟩ 0 (⟨x.toArray⟩ : Str).length ((⟨x.toArray⟩ : Str).length + 1)).isEmpty || ((⟨y.toArray⟩ : Str).length == 0 && (⟨z.toArray⟩ : Str).length == 0))
  ·rw [hc] at q
   simp only [Bool.false_eq_true, if_false] at q ⊢
   exact ⟨fits_replaced _ hb', as1, loc1, sto1, _, PP.trans (Post.tok P3.rep (Nat.succ_pos _)), vr_str, q⟩
  ·rw [hc] at q
   simp only [if_true] at q ⊢
   exact ⟨as1, loc1, sto1, _, PP, vr_str', q⟩
noncomputable def dig (n : Int) : List Nat := (Str.ofString (toString n)).cps.toList
theorem str_eta (x : Str) : (⟨x.cps.toList.toArray⟩ : Str) = x := by cases x; simp
theorem wl_str {n : Int} (hn : 0 ≤ n ∧ n < 1000000) (h : Q (.str (dig n)) loc sto) : WL C Γ loc sto (callF (.type "str")) [.int n] VR Q X := fun s as xs F r => by
 refine un_1_2 (vrs1_inv r) fun x e305x1 r1 => ?_; subst e305x1
 obtain ⟨t, rfl⟩ := jTA r1
 refine PySem.P.str_of_int ?_ ⟨as, loc, sto, _, Post.tok F (Nat.succ_pos _), vr_str (x := Str.ofString (toString n)), h⟩
 have : n.natAbs < 2 ^ 20 := by lia
 by_cases h0 : n.natAbs = 0
 ·rw [h0]; decide
 ·exact Nat.lt_trans ((Nat.log2_lt h0).mpr this) (by decide)
theorem wl_int {n : Int} (hn : 0 ≤ n ∧ n < 1000000) (h : Q (.int n) loc sto) : WL C Γ loc sto (callF (.type "int")) [.str (dig n)] VR Q X := fun s as xs F r => by
 refine un_1_2 (vrs1_inv r) fun x e306x1 r1 => ?_; subst e306x1
 obtain ⟨t, rfl⟩ := jRA r1
 unfold dig
 rw [str_eta]
 exact PySem.W.KIN.call_num hn.1 (by lia) ⟨as, loc, sto, _, Post.tok F (Nat.succ_pos _), vr_int, h⟩
end
end Mine
namespace Mine
open PySem PySem.W PyProof.Rows PySem.Calls
open PySem.SeqAt
open AutoSeq1 (wpAny_loadPart')
noncomputable def LtAt (A : Around) (s : Shared) (y x : Value) (b : Bool) : Prop :=
 ∀ (prog : Program) (w : World) (E : Value → Shared → Prop) (Q : Value → Shared → Prop), Q (.bool b) s → wpAny (model prog w) A (richCompare .Lt y x) Q E s
noncomputable def fdiff (e r : Nat → Bool) (d : Bool) : List Nat → Bool
 | [] => d
 | j :: t => if e j then fdiff e r d t else r j
theorem tuple_ltAt (l b : Addr) (items items2 : Array Value) (n n2 : Nat) (dd dd2 : Option Addr) (sl sl2 : Array (Option Value)) (e r : Nat → Bool) :
  Meets (Builtin.«tuple.__lt__» ⟨[.ref l, .ref b], []⟩)
   (fun A R s => s.heap.get? l = some { cls := .type "tuple", dict := dd, data := .seq items n, slots := sl } ∧ s.heap.get? b = some { cls := .type "tuple", dict := dd2, data := .seq items2 n2, slots := sl2 } ∧
    (∀ j (h1 : j < items.size) (h2 : j < items2.size), EqAt A.in1 s items[j] items2[j] (e j) ∧ (e j = false → LtAt A.in1 s items[j] items2[j] (r j))) ∧
    R (.ok (.ret (.bool (fdiff e r (decide (items.size < items2.size)) (List.range (min items.size items2.size)))))) s) :=
 .of_wp fun prog w A R s h => by
  obtain ⟨hp, g, d, tk, os⟩ := s; obtain ⟨hl, hb, he, h⟩ := h
  have f2 := AutoSeq1.sub_tuple_tuple
  have hZ : (items.toList.zip items2.toList).length = min items.size items2.size := by simp
  wp_walk using wpAny_loadPart' hl, wpAny_loadPart' hb, wpAny_forIn_list _ (fun rest b s' => b.1 = none ∧ s' = ⟨hp, g, d, tk, os⟩ ∧ ∃ i, rest = (items.toList.zip items2.toList).drop i ∧
   R (.ok (.ret (.bool (fdiff e r (decide (items.size < items2.size)) ((List.range (min items.size items2.size)).drop i))))) ⟨hp, g, d, tk, os⟩) _
  case turn =>
   intro r161y0 rest b s' r161y4
   obtain ⟨y, x⟩ := r161y0
   refine un_0_3 (r161y4) fun hb' e307x1 c307x => ?_; (try clear r161y4); refine un_1_2 c307x fun i hz hR => ?_; clear c307x; subst e307x1
   have hlt : i < (items.toList.zip items2.toList).length := by
    rcases Nat.lt_or_ge i (items.toList.zip items2.toList).length with h' | h'
    ·exact h'
    ·rw [List.drop_of_length_le h'] at hz; cases hz
   have hm : i < min items.size items2.size := hZ ▸ hlt
   have h1 : i < items.size := Nat.lt_of_lt_of_le hm (Nat.min_le_left _ _)
   have h2 : i < items2.size := Nat.lt_of_lt_of_le hm (Nat.min_le_right _ _)
   rw [List.drop_eq_getElem_cons hlt] at hz
   injection hz with hyx hrest
   have hy : y = items[i] := by have := congrArg Prod.fst hyx; simpa using this
   have hx : x = items2[i] := by have := congrArg Prod.snd hyx; simpa using this
   subst hy hx
   have hd : (List.range (min items.size items2.size)).drop i = i :: (List.range (min items.size items2.size)).drop (i + 1) := by simp [List.drop_eq_getElem_cons, hm]
   rw [hd] at hR
   obtain ⟨ha, hb2⟩ := he i h1 h2
   refine wpAny_bind (ha prog w _ _ ?_)
   cases hy : e i with
   | true =>
    have : fdiff e r (decide (items.size < items2.size)) (i :: (List.range (min items.size items2.size)).drop (i + 1)) = fdiff e r (decide (items.size < items2.size)) ((List.range (min items.size items2.size)).drop (i + 1)) := by
     show (if e i then _ else _) = _
     rw [hy]; rfl
    rw [this] at hR
    wp_walk
    exact ⟨rfl, rfl, i + 1, hrest, hR⟩
   | false =>
    have : fdiff e r (decide (items.size < items2.size)) (i :: (List.range (min items.size items2.size)).drop (i + 1)) = r i := by
     show (if e i then _ else _) = _
     rw [hy]; rfl
    rw [this] at hR
    simp only [Bool.not_false, if_true]
    refine wpAny_bind (wpAny_rule (wpAny_bind (hb2 hy prog w _ _ ?_)))
    exact wpAny_bind (wpAny_pure (wpAny_pure (wpAny_pure ⟨_, rfl, hR⟩)))
  case fin =>
   intro r162y0 s' r162y2
   obtain ⟨b1, b2⟩ := r162y0
   refine un_0_3 (r162y2) fun hb' e308x1 c308x => ?_; (try clear r162y2); refine un_1_2 c308x fun i hz hR => ?_; clear c308x; subst e308x1
   simp only at hb'
   subst hb'
   have hge : min items.size items2.size ≤ i := by
    rcases Nat.lt_or_ge i (items.toList.zip items2.toList).length with h' | h'
    ·rw [List.drop_eq_getElem_cons h'] at hz; cases hz
    ·exact hZ ▸ h'
   rw [List.drop_of_length_le (by simpa using hge)] at hR
   wp_walk
   exact ⟨_, rfl, by simpa [Builtin.Tuple.tupleCompareSizes, fdiff] using hR⟩
  case h =>
   exact ⟨rfl, rfl, 0, rfl, by simpa using h⟩
noncomputable def sEq : V → V → Bool
 | .str a, .str b => a == b
 | .int a, .int b => a == b
 | .bool a, .bool b => a == b
 | _, _ => false
noncomputable def sLt : V → V → Bool
 | .str a, .str b => decide (a < b)
 | .int a, .int b => decide (a < b)
 | _, _ => false
inductive SameS : V → V → Prop
 | str (a b : List Nat) : SameS (.str a) (.str b)
 | int (a b : Int) : SameS (.int a) (.int b)
inductive SameB : V → V → Prop
 | str (a b : List Nat) : SameB (.str a) (.str b)
 | int (a b : Int) : SameB (.int a) (.int b)
 | bool (a b : Bool) : SameB (.bool a) (.bool b)
theorem SameS.b {v u : V} (h : SameS v u) : SameB v u := by cases h; exact .str _ _; exact .int _ _
noncomputable def tLt : List V → List V → Bool
 | a :: l, b :: m => if sEq a b then tLt l m else sLt a b
 | [], _ :: _ => true
 | _, [] => false
inductive All2 {α β : Type} (P : α → β → Prop) : List α → List β → Prop
 | nil : All2 P [] []
 | cons {a b l m} : P a b → All2 P l m → All2 P (a :: l) (b :: m)
theorem All2.length {α β : Type} {P : α → β → Prop} {l : List α} {m : List β} (h : All2 P l m) : l.length = m.length := by
 induction h with
 | nil => rfl
 | cons _ _ ih => simp [ih]
theorem All2.get {α β : Type} {P : α → β → Prop} {l : List α} {m : List β} (h : All2 P l m) {i : Nat} {a : α} {b : β} (h1 : l[i]? = some a) (h2 : m[i]? = some b) : P a b := by
 induction h generalizing i with
 | nil => simp at h1
 | cons p _ ih =>
  cases i with
  | zero => simp at h1 h2; subst h1; subst h2; exact p
  | succ i => simp at h1 h2; exact ih h1 h2
theorem eqAt_sca {A : Around} {s : Shared} {as : List Addr} {h : Heap} {v u : V} {x y : Value} (sm : SameB v u) (r1 : VR as h v x) (r2 : VR as h u y) : EqAt A s x y (sEq v u) := by
 cases sm with
 | str a b =>
  obtain ⟨t, rfl⟩ := jRA r1
  obtain ⟨t', rfl⟩ := jRA r2
  have := (SeqRoads2.EqGives.str ⟨a.toArray⟩ ⟨b.toArray⟩ t t').at A s
  simpa [sEq] using this
 | int a b =>
  obtain ⟨t, rfl⟩ := jTA r1
  obtain ⟨t', rfl⟩ := jTA r2
  exact EqAt.int_int a t b t'
 | bool a b =>
  obtain rfl := vr_bool_inv r1
  obtain rfl := vr_bool_inv r2
  exact EqAt.bool_bool a b
theorem ltAt_sca {A : Around} {s : Shared} {as : List Addr} {h : Heap} {v u : V} {x y : Value} (sm : SameS v u) (r1 : VR as h v x) (r2 : VR as h u y) : LtAt A s x y (sLt v u) := by
 cases sm with
 | str a b =>
  obtain ⟨t, rfl⟩ := jRA r1
  obtain ⟨t', rfl⟩ := jRA r2
  intro prog w E Q h
  exact PyProof.Rows.lt_str (by simpa [sLt] using h)
 | int a b =>
  obtain ⟨t, rfl⟩ := jTA r1
  obtain ⟨t', rfl⟩ := jTA r2
  intro prog w E Q h
  exact PyProof.Rows.lt_int h
theorem fdiff_tLt : ∀ (l m : List V) (k : Nat) (e r : Nat → Bool), l.length = m.length → (∀ j a b, l[j]? = some a → m[j]? = some b → e (k + j) = sEq a b ∧ r (k + j) = sLt a b) → fdiff e r false (List.range' k l.length) = tLt l m
 | [], [], k, e, r, _, _ => rfl
 | [], _ :: _, _, _, _, h, _ => by simp at h
 | _ :: _, [], _, _, _, h, _ => by simp at h
 | a :: l, b :: m, k, e, r, hl, h => by
  obtain ⟨h1, h2⟩ := h 0 a b rfl rfl
  have ih := fdiff_tLt l m (k + 1) e r (by simpa using hl) fun j a' b' q1 q2 => by
   have := h (j + 1) a' b' (by simpa using q1) (by simpa using q2)
   rwa [show k + (j + 1) = k + 1 + j by lia] at this
  show (if e k then fdiff e r false (List.range' (k + 1) l.length) else r k) = if sEq a b then tLt l m else sLt a b
  rw [ih]
  simp only [Nat.add_zero] at h1 h2
  rw [h1, h2]
section
variable {α β : Type} {C : Cst} {Γ : Fm} {loc loc' : List (Option V)} {sto : List SO} {Q : V → List (Option V) → List SO → Prop} {X : XV → List (Option V) → List SO → Prop} {QB : Bool → List (Option V) → List SO → Prop}
theorem units_ok (F : Γ.Ok C) : Γ.A.units < cLine := by have := F.units; lia
theorem wl_ltT {l m : List V} (sm : All2 SameS l m) (h : QB (tLt l m) loc sto) : WL C Γ loc sto (f2 (compareOp .Lt)) [.tup l, .tup m] RT' QB X := wl2 fun s as x y F r1 r2 => by
 refine un_2_3 (vr_tup_inv r1) fun a its e309x2 n309x3 ri => ?_; subst e309x2; obtain ⟨o1, ho1, hc1, n1, hd1⟩ := n309x3
 refine un_2_3 (vr_tup_inv r2) fun b its2 e310x2 n310x3 ri2 => ?_; subst e310x2; obtain ⟨o2, ho2, hc2, n2, hd2⟩ := n310x3
 obtain ⟨cls, dd, data, sl⟩ := o1
 obtain ⟨cls2, dd2, data2, sl2⟩ := o2
 simp only at hc1 hd1 hc2 hd2
 subst hc1 hd1 hc2 hd2
 have z1 := ri.length
 have z2 := ri2.length
 rw [Array.length_toList] at z1 z2
 have zl := sm.length
 refine richCompare_meets_room (op := .Lt) ⟨_, ho1, rfl⟩ ⟨_, ho2, rfl⟩ PySem.F.slot_tuple_lt PySem.F.entry_tuple_lt (PySem.F.args_tuple_lt_2 _ _)
  (tuple_ltAt a b its its2 n1 n2 dd dd2 sl sl2 (fun j => sEq (l[j]?.getD .none) (m[j]?.getD .none)) (fun j => sLt (l[j]?.getD .none) (m[j]?.getD .none)))
  ⟨ho1, ho2, fun j h1 h2 => ?_, ?_⟩ (units_ok F.ok)
 ·have hj : j < l.length := by lia
  have hj2 : j < m.length := by lia
  refine un_1_2 (ri.get (List.getElem?_eq_getElem hj)) fun x ex rx => ?_
  refine un_1_2 (ri2.get (List.getElem?_eq_getElem hj2)) fun y ey ry => ?_
  have e1 : its[j] = x := by rw [Array.getElem?_toList, Array.getElem?_eq_getElem h1] at ex; exact Option.some.inj ex
  have e2 : its2[j] = y := by rw [Array.getElem?_toList, Array.getElem?_eq_getElem h2] at ey; exact Option.some.inj ey
  rw [e1, e2, List.getElem?_eq_getElem hj, List.getElem?_eq_getElem hj2]
  have ss := sm.get (List.getElem?_eq_getElem hj) (List.getElem?_eq_getElem hj2)
  exact ⟨eqAt_sca ss.b rx ry, fun _ => ltAt_sca ss rx ry⟩
 ·have hm : min its.size its2.size = l.length := by lia
  have hd : decide (its.size < its2.size) = false := decide_eq_false (by lia)
  rw [hm, hd, List.range_eq_range']
  rw [fdiff_tLt l m 0 _ _ zl fun j a b q1 q2 => by simp [q1, q2]]
  exact ⟨(fun x => nomatch x), as, loc, sto, _, Post.refl F, rfl, h⟩
theorem range_all {l m : List V} (hl : l.length = m.length) : (List.range l.length).all (fun j => sEq (l[j]?.getD .none) (m[j]?.getD .none)) = (l.zip m).all (fun p => sEq p.1 p.2) := by
 induction l generalizing m with
 | nil => rfl
 | cons a l ih =>
  cases m with
  | nil => simp at hl
  | cons b m =>
   rw [List.length_cons, List.range_succ_eq_map, List.all_cons, List.zip_cons_cons, List.all_cons, List.all_map, ← ih (by simpa using hl)]
   rfl
noncomputable def lEq (l m : List V) : Bool := l.length == m.length && (l.zip m).all (fun p => sEq p.1 p.2)
theorem rcAt_list {A : Around} {s : Shared} {as : List Addr} {a b : Addr} {its its2 : Array Value} {n n2 : Nat} {l m : List V} (hu : A.units < cLine) (h1 : s.heap.get? a = some { cls := .type "list", data := .seq its n }) (h2 : s.heap.get? b = some { cls := .type "list", data := .seq its2 n2 })
  (r1 : VRs as s.heap l its.toList) (r2 : VRs as s.heap m its2.toList) (sm : ∀ (i : Nat) v u, l[i]? = some v → m[i]? = some u → SameB v u) : RcAt A s (.ref a) (.ref b) (lEq l m) ∧ RcNeAt A s (.ref a) (.ref b) (!lEq l m) := by
 have z1 := r1.length
 have z2 := r2.length
 rw [Array.length_toList] at z1 z2
 by_cases hl : l.length = m.length
 ·have he : ∀ j (h1 : j < its.size) (h2 : j < its2.size), EqAt A.in1 s its[j] its2[j] (sEq (l[j]?.getD .none) (m[j]?.getD .none)) := fun j h1 h2 => by
   have hj : j < l.length := by lia
   have hj2 : j < m.length := by lia
   refine un_1_2 (r1.get (List.getElem?_eq_getElem hj)) fun x ex rx => ?_
   refine un_1_2 (r2.get (List.getElem?_eq_getElem hj2)) fun y ey ry => ?_
   have e1 : its[j] = x := by rw [Array.getElem?_toList, Array.getElem?_eq_getElem h1] at ex; exact Option.some.inj ex
   have e2 : its2[j] = y := by rw [Array.getElem?_toList, Array.getElem?_eq_getElem h2] at ey; exact Option.some.inj ey
   rw [e1, e2, List.getElem?_eq_getElem hj, List.getElem?_eq_getElem hj2]
   exact eqAt_sca (sm j _ _ (List.getElem?_eq_getElem hj) (List.getElem?_eq_getElem hj2)) rx ry
  have e : (List.range its.size).all (fun j => sEq (l[j]?.getD .none) (m[j]?.getD .none)) = lEq l m := by
   unfold lEq; rw [z1, range_all hl, hl]; simp
  have k1 := RcAt.lists ⟨_, h1, rfl, n, rfl⟩ ⟨_, h2, rfl, n2, rfl⟩ (by lia) hu he
  have k2 := RcNeAt.lists ⟨_, h1, rfl, n, rfl⟩ ⟨_, h2, rfl, n2, rfl⟩ (by lia) hu he
  rw [e] at k1 k2
  exact ⟨k1, k2⟩
 ·have e : lEq l m = false := by unfold lEq; simp [hl]
  rw [e]
  exact ⟨RcAt.lists_lengths ⟨_, h1, rfl, n, rfl⟩ ⟨_, h2, rfl, n2, rfl⟩ (by simp; lia) hu, RcNeAt.lists_lengths ⟨_, h1, rfl, n, rfl⟩ ⟨_, h2, rfl, n2, rfl⟩ (by simp; lia) hu⟩
theorem wl_neL {k j : Nat} {l m : List V} (hk : sto[k]? = some (.list l)) (hj : sto[j]? = some (.list m)) (sm : ∀ (i : Nat) v u, l[i]? = some v → m[i]? = some u → SameB v u) (h : QB (!lEq l m) loc sto) : WL C Γ loc sto (f2 (compareOp .NotEq)) [.lst k, .lst j] RT' QB X := wl2 fun s as x y F r1 r2 => by
 refine un_3_4 (lst_at F r1 hk) fun a its n e317x3 ea e ri => ?_; subst e317x3
 refine un_3_4 (lst_at F r2 hj) fun b its2 n2 e318x3 eb e2 ri2 => ?_; subst e318x3
 exact (rcAt_list (units_ok F.ok) e e2 ri ri2 sm).2 _ _ _ _ ⟨as, loc, sto, _, Post.refl F, rfl, h⟩
end
end Mine
namespace Mine
open PySem PySem.W PyProof.Rows PySem.Calls
noncomputable def kev {α : Type} (lt : Nat → Nat → Bool) : KasT α → α
 | .ret a => a
 | .ask i j k => kev lt (k (lt i j))
theorem kev_bind {α β : Type} (lt : Nat → Nat → Bool) (f : α → KasT β) : ∀ t : KasT α, kev lt (t.bind f) = kev lt (f (kev lt t))
 | .ret a => rfl
 | .ask i j k => kev_bind lt f (k (lt i j))
section
variable (lt : Nat → Nat → Bool)
noncomputable def pg (p : Array Nat) (i : Nat) : Nat := p.getD i 0
theorem pg_eq (p : Array Nat) (i : Nat) : pg p i = p[i]?.getD 0 := by unfold pg; rw [Array.getD_eq_getD_getElem?]
structure LtOk : Prop where
 irr : ∀ i, lt i i = false
 asym : ∀ i j, lt i j = true → lt j i = false
 tr : ∀ i j k, lt j i = false → lt k j = false → lt k i = false
noncomputable def Asc (p : Array Nat) (k : Nat) : Prop := ∀ i j, i ≤ j → j < k → lt (pg p j) (pg p i) = false
noncomputable def Dsc (p : Array Nat) (k : Nat) : Prop := ∀ i j, i ≤ j → j < k → lt (pg p i) (pg p j) = false
variable {lt}
theorem asc_one (O : LtOk lt) (p : Array Nat) : Asc lt p 1 := fun i j h1 h2 => by
 have : i = j := by lia
 subst this; exact O.irr _
theorem asc_snoc (O : LtOk lt) {p : Array Nat} {n : Nat} (h : Asc lt p n) (h1 : 1 ≤ n) (h2 : lt (pg p n) (pg p (n - 1)) = false) : Asc lt p (n + 1) := fun i j hi hj => by
 by_cases e : j < n
 ·exact h i j hi e
 ·have : j = n := by lia
  subst this
  by_cases e2 : i = j
  ·subst e2; exact O.irr _
  ·exact O.tr _ _ _ (h i (j - 1) (by lia) (by lia)) h2
theorem kas_asc_ok (O : LtOk lt) (p : Array Nat) : ∀ (f n : Nat), 1 ≤ n → Asc lt p n → let m := kev lt (kas_asc p f n)
  n ≤ m ∧ m ≤ n + f ∧ Asc lt p m ∧ (m < n + f → lt (pg p m) (pg p (m - 1)) = true)
 | 0, n, h1, h => ⟨Nat.le_refl _, Nat.le_refl _, h, fun q => absurd q (Nat.lt_irrefl _)⟩
 | f + 1, n, h1, h => by
  show n ≤ kev lt (if lt (pg p n) (pg p (n - 1)) = true then .ret n else kas_asc p f (n + 1)) ∧ _
  by_cases c : lt (pg p n) (pg p (n - 1)) = true
  ·have e : kev lt (kas_asc p (f + 1) n) = n := by
    show kev lt (if lt (pg p n) (pg p (n - 1)) = true then .ret n else kas_asc p f (n + 1)) = n
    rw [if_pos c]; rfl
   rw [if_pos c, e]
   exact ⟨Nat.le_refl _, by lia, h, fun _ => c⟩
  ·have e : kev lt (kas_asc p (f + 1) n) = kev lt (kas_asc p f (n + 1)) := by
    show kev lt (if lt (pg p n) (pg p (n - 1)) = true then .ret n else kas_asc p f (n + 1)) = _
    rw [if_neg c]
   rw [if_neg c, e]
   have ih := kas_asc_ok O p f (n + 1) (by lia) (asc_snoc O h h1 (by simpa using c))
   exact ⟨by lia, by lia, ih.2.2.1, fun q => ih.2.2.2 (by lia)⟩
theorem pg_rev {p : Array Nat} {i j : Nat} (hj : j ≤ p.size) (k : Nat) : pg (kas_rev p i j) k = if i ≤ k ∧ k < j then pg p (i + j - 1 - k) else pg p k := by
 have e := getElem?_mirror_all (xs := p) (i := i) hj k
 rw [pg_eq, pg_eq, pg_eq]
 unfold kas_rev
 rw [e]
 split <;> rfl
theorem rev_size (p : Array Nat) (i j : Nat) : (kas_rev p i j).size = p.size := mirror_size _ _ _ _
theorem rev_perm (p : Array Nat) (i j : Nat) : (kas_rev p i j).Perm p := mirror_perm _ _ _ _
noncomputable def Eqv (lt : Nat → Nat → Bool) (p : Array Nat) (a b : Nat) : Prop := ∀ i j, a ≤ i → i < b → a ≤ j → j < b → lt (pg p i) (pg p j) = false
theorem mir {a b i : Nat} (h : a ≤ i ∧ i < b) : a ≤ a + b - 1 - i ∧ a + b - 1 - i < b := by lia
theorem dsc_rev_eq (O : LtOk lt) {p : Array Nat} {a b n : Nat} (hb : b ≤ p.size) (hbn : b ≤ n) (h : Dsc lt p n) (e : Eqv lt p a b) : Dsc lt (kas_rev p a b) n := fun i j hi hj => by
 rw [pg_rev hb, pg_rev hb]
 by_cases h1 : a ≤ i ∧ i < b
 ·rw [if_pos h1]
  by_cases h2 : a ≤ j ∧ j < b
  ·rw [if_pos h2]; exact e _ _ (mir h1).1 (mir h1).2 (mir h2).1 (mir h2).2
  ·rw [if_neg h2]
   first | exact O.tr _ _ _ (h i j hi hj) (e _ _ h1.1 h1.2 (mir h1).1 (mir h1).2) | exact O.tr _ _ _ (h i j hi hj) (e _ _ (mir h1).1 (mir h1).2 h1.1 h1.2)
 ·rw [if_neg h1]
  by_cases h2 : a ≤ j ∧ j < b
  ·rw [if_pos h2]
   first | exact O.tr _ _ _ (e _ _ h2.1 h2.2 (mir h2).1 (mir h2).2) (h i j hi hj) | exact O.tr _ _ _ (e _ _ (mir h2).1 (mir h2).2 h2.1 h2.2) (h i j hi hj)
  ·rw [if_neg h2]; exact h i j hi hj
theorem kas_desc_ok (O : LtOk lt) : ∀ (f : Nat) (p : Array Nat) (n q : Nat), n + f ≤ p.size → q < n → Dsc lt p n → Eqv lt p (n - (q + 1)) n → let r := kev lt (kas_desc f p n q)
  r.1.size = p.size ∧ r.1.Perm p ∧ n ≤ r.2.1 ∧ r.2.1 ≤ n + f ∧ r.2.2 < r.2.1 ∧ Dsc lt r.1 r.2.1 ∧ Eqv lt r.1 (r.2.1 - (r.2.2 + 1)) r.2.1
 | 0, p, n, q, hz, hq, h, he => ⟨rfl, Array.Perm.refl _, Nat.le_refl _, Nat.le_refl _, hq, h, he⟩
 | f + 1, p, n, q, hz, hq, h, he => by
  have one : ∀ p' : Array Nat, Eqv lt p' (n + 1 - (0 + 1)) (n + 1) := fun p' i j h1 h2 h3 h4 => by
   have : i = j := by lia
   subst this; exact O.irr _
  have snoc : ∀ p' : Array Nat, Dsc lt p' n → lt (pg p' (n - 1)) (pg p' n) = false → Dsc lt p' (n + 1) := fun p' hd h2 i j hi hj => by
   by_cases e : j < n
   ·exact hd i j hi e
   ·have : j = n := by lia
    subst this
    by_cases e2 : i = j
    ·subst e2; exact O.irr _
    ·exact O.tr _ _ _ h2 (hd i (j - 1) (by lia) (by lia))
  by_cases c : lt (pg p n) (pg p (n - 1)) = true
  ·by_cases hq0 : q > 0
   ·have e : kev lt (kas_desc (f + 1) p n q) = kev lt (kas_desc f (kas_rev p (n - (q + 1)) n) (n + 1) 0) := by
     show kev lt (if lt (pg p n) (pg p (n - 1)) = true then (if q > 0 then kas_desc f (kas_rev p (n - (q + 1)) n) (n + 1) 0 else kas_desc f p (n + 1) 0) else _) = _
     rw [if_pos c, if_pos hq0]
    rw [e]
    have hd : Dsc lt (kas_rev p (n - (q + 1)) n) n := dsc_rev_eq O (by lia) (Nat.le_refl _) h he
    have hlast : lt (pg (kas_rev p (n - (q + 1)) n) (n - 1)) (pg (kas_rev p (n - (q + 1)) n) n) = false := by
     have hn0 : 0 < n := Nat.lt_of_le_of_lt (Nat.zero_le _) hq
     have k1 : n - (q + 1) ≤ n - 1 ∧ n - 1 < n := ⟨Nat.sub_le_sub_left (Nat.le_add_left 1 q) n, Nat.sub_lt hn0 Nat.one_pos⟩
     have hz2 : n ≤ p.size := Nat.le_trans (Nat.le_add_right _ _) hz
     rw [pg_rev hz2, pg_rev hz2, if_pos k1, if_neg (fun q => Nat.lt_irrefl _ q.2)]
     first | exact O.tr _ _ _ (O.asym _ _ c) (he _ _ (mir k1).1 (mir k1).2 k1.1 k1.2) | exact O.tr _ _ _ (O.asym _ _ c) (he _ _ k1.1 k1.2 (mir k1).1 (mir k1).2)
    have ih := kas_desc_ok O f (kas_rev p (n - (q + 1)) n) (n + 1) 0 (by rw [rev_size]; lia) (by lia) (snoc _ hd hlast) (one _)
    exact ⟨ih.1.trans (rev_size _ _ _), ih.2.1.trans (rev_perm _ _ _), by lia, by lia, ih.2.2.2.2.1, ih.2.2.2.2.2.1, ih.2.2.2.2.2.2⟩
   ·have e : kev lt (kas_desc (f + 1) p n q) = kev lt (kas_desc f p (n + 1) 0) := by
     show kev lt (if lt (pg p n) (pg p (n - 1)) = true then (if q > 0 then kas_desc f (kas_rev p (n - (q + 1)) n) (n + 1) 0 else kas_desc f p (n + 1) 0) else _) = _
     rw [if_pos c, if_neg hq0]
    rw [e]
    have ih := kas_desc_ok O f p (n + 1) 0 (by lia) (by lia) (snoc _ h (O.asym _ _ c)) (one _)
    exact ⟨ih.1, ih.2.1, by lia, by lia, ih.2.2.2.2.1, ih.2.2.2.2.2.1, ih.2.2.2.2.2.2⟩
  ·have c' : lt (pg p n) (pg p (n - 1)) = false := by simpa using c
   by_cases d : lt (pg p (n - 1)) (pg p n) = true
   ·have e : kev lt (kas_desc (f + 1) p n q) = (p, n, q) := by
     show kev lt (if lt (pg p n) (pg p (n - 1)) = true then _ else KasT.ask (pg p (n - 1)) (pg p n) fun d => if d = true then .ret (p, n, q) else kas_desc f p (n + 1) (q + 1)) = _
     rw [if_neg c]
     show kev lt (if lt (pg p (n - 1)) (pg p n) = true then .ret (p, n, q) else kas_desc f p (n + 1) (q + 1)) = _
     rw [if_pos d]; rfl
    rw [e]
    exact ⟨rfl, Array.Perm.refl _, Nat.le_refl _, by show n ≤ _; lia, hq, h, he⟩
   ·have d' : lt (pg p (n - 1)) (pg p n) = false := by simpa using d
    have e : kev lt (kas_desc (f + 1) p n q) = kev lt (kas_desc f p (n + 1) (q + 1)) := by
     show kev lt (if lt (pg p n) (pg p (n - 1)) = true then _ else KasT.ask (pg p (n - 1)) (pg p n) fun d => if d = true then .ret (p, n, q) else kas_desc f p (n + 1) (q + 1)) = _
     rw [if_neg c]
     show kev lt (if lt (pg p (n - 1)) (pg p n) = true then .ret (p, n, q) else kas_desc f p (n + 1) (q + 1)) = _
     rw [if_neg d]
    rw [e]
    have he' : Eqv lt p (n + 1 - (q + 1 + 1)) (n + 1) := fun i j h1 h2 h3 h4 => by
     by_cases hi : i < n
     ·by_cases hj : j < n
      ·exact he i j (by lia) hi (by lia) hj
      ·have : j = n := by lia
       subst this
       exact O.tr _ _ _ d' (he i (j - 1) (by lia) hi (by lia) (by lia))
     ·have : i = n := by lia
      subst this
      by_cases hj : j < i
      ·exact O.tr _ _ _ (he (i - 1) j (by lia) (by lia) (by lia) hj) c'
      ·have : j = i := by lia
       subst this; exact O.irr _
    have ih := kas_desc_ok O f p (n + 1) (q + 1) (by lia) (by lia) (snoc _ h d') he'
    exact ⟨ih.1, ih.2.1, by lia, by lia, ih.2.2.2.2.1, ih.2.2.2.2.2.1, ih.2.2.2.2.2.2⟩
theorem asc_of_rev {p : Array Nat} {n : Nat} (hn : n ≤ p.size) (h : Dsc lt p n) : Asc lt (kas_rev p 0 n) n := fun i j hi hj => by
 rw [pg_rev hn, pg_rev hn, if_pos (by lia), if_pos (by lia)]
 exact h _ _ (Nat.sub_le_sub_left hi _) (by lia)
noncomputable def RunOk (lt : Nat → Nat → Bool) (p : Array Nat) (nrem : Nat) (r : Nat × Array Nat) : Prop := r.2.size = p.size ∧ r.2.Perm p ∧ 1 ≤ r.1 ∧ r.1 ≤ nrem ∧ Asc lt r.2 r.1
theorem kas_tail3_ok (O : LtOk lt) {n nrem : Nat} {p : Array Nat} (h1 : 1 ≤ n) (h2 : n ≤ nrem) (hz : nrem ≤ p.size) (h : Dsc lt p n) : RunOk lt p nrem (kev lt (kas_tail3 n nrem p)) := by
 unfold kas_tail3
 rw [kev_bind]
 have a := kas_asc_ok O (kas_rev p 0 n) (nrem - n) n h1 (asc_of_rev (by lia) h)
 exact ⟨rev_size _ _ _, rev_perm _ _ _, Nat.le_trans h1 a.1, Nat.le_trans a.2.1 (by lia), a.2.2.1⟩
theorem RunOk.of {p p' : Array Nat} {nrem : Nat} {r : Nat × Array Nat} (h : RunOk lt p' nrem r) (hs : p'.size = p.size) (hp : p'.Perm p) : RunOk lt p nrem r := ⟨h.1.trans hs, h.2.1.trans hp, h.2.2⟩
theorem kas_descPart_ok (O : LtOk lt) {n nrem : Nat} {p : Array Nat} (h1 : 1 ≤ n) (h2 : n < nrem) (hz : nrem ≤ p.size) (h : Dsc lt p (n + 1)) : RunOk lt p nrem (kev lt (kas_descPart n nrem p)) := by
 unfold kas_descPart
 rw [kev_bind]
 have a := kas_desc_ok O (nrem - (n + 1)) p (n + 1) 0 (by lia) (by lia) h fun i j h1 h2 h3 h4 => by
  have : i = j := by lia
  subst this; exact O.irr _
 revert a
 generalize kev lt (kas_desc (nrem - (n + 1)) p (n + 1) 0) = r
 intro r171y0
 refine un_0_7 (r171y0) fun a1 a2 a3 a4 a5 a6 a7 => ?_; (try clear r171y0)
 split
 ·have hd : Dsc lt (kas_rev r.1 (r.2.1 - (r.2.2 + 1)) r.2.1) r.2.1 := dsc_rev_eq O (by lia) (Nat.le_refl _) a6 a7
  exact (kas_tail3_ok O (by lia) (by lia) (by rw [rev_size]; lia) hd).of ((rev_size _ _ _).trans a1) ((rev_perm _ _ _).trans a2)
 ·exact (kas_tail3_ok O (by lia) (by lia) (by lia) a6).of a1 a2
theorem kas_count_ok (O : LtOk lt) {nrem : Nat} {p : Array Nat} (h1 : 1 ≤ nrem) (hz : nrem ≤ p.size) : RunOk lt p nrem (kev lt (kas_count nrem p)) := by
 unfold kas_count
 rw [kev_bind]
 have a := kas_asc_ok O p (nrem - 1) 1 (Nat.le_refl _) (asc_one O p)
 revert a
 generalize kev lt (kas_asc p (nrem - 1) 1) = n
 intro r172y0
 refine un_0_4 (r172y0) fun a1 a2 a3 a4 => ?_; (try clear r172y0)
 by_cases c : (n == nrem) = true
 ·rw [if_pos c]
  exact ⟨rfl, Array.Perm.refl _, a1, by show n ≤ _; lia, a3⟩
 ·have hn0 : n ≠ nrem := by simpa using c
  have hn : n < nrem := by lia
  have hlast := a4 (by lia)
  rw [if_neg c]
  by_cases c2 : n > 1
  ·rw [if_pos c2]
   show RunOk lt p nrem (kev lt (if lt (pg p 0) (pg p (n - 1)) = true then .ret (n, p) else kas_descPart n nrem (kas_rev p 0 n)))
   by_cases c3 : lt (pg p 0) (pg p (n - 1)) = true
   ·rw [if_pos c3]
    exact ⟨rfl, Array.Perm.refl _, a1, by show n ≤ _; lia, a3⟩
   ·have c4 : lt (pg p 0) (pg p (n - 1)) = false := by simpa using c3
    rw [if_neg c3]
    have he : Eqv lt p 0 n := fun i j h1 h2 h3 h4 => by
     exact O.tr _ _ _ (O.tr _ _ _ (a3 j (n - 1) (by lia) (by lia)) c4) (a3 0 i (by lia) h2)
    have hd0 : Dsc lt (kas_rev p 0 n) (n + 1) := fun i j hi hj => by
     rw [pg_rev (by lia), pg_rev (by lia)]
     by_cases hj2 : j < n
     ·rw [if_pos (by lia), if_pos (by lia)]
      exact he _ _ (by lia) (by lia) (by lia) (by lia)
     ·have : j = n := by lia
      subst this
      rw [if_neg (c := 0 ≤ j ∧ j < j) (by lia)]
      by_cases hi2 : i < j
      ·rw [if_pos (by lia)]
       exact O.tr _ _ _ (O.asym _ _ hlast) (he _ _ (by lia) (by lia) (by lia) (by lia))
      ·have : i = j := by lia
       subst this
       rw [if_neg (by lia)]
       exact O.irr _
    exact (kas_descPart_ok O (by lia) hn (by rw [rev_size]; exact hz) hd0).of (rev_size _ _ _) (rev_perm _ _ _)
  ·rw [if_neg c2]
   have : n = 1 := by lia
   subst this
   refine kas_descPart_ok O (Nat.le_refl _) hn hz fun i j hi hj => ?_
   by_cases e : i = j
   ·subst e; exact O.irr _
   ·have hi0 : i = 0 := by lia
    have hj1 : j = 1 := by lia
    subst hi0; subst hj1
    exact O.asym _ _ hlast
theorem place_succ (p : Array Nat) (k f l r : Nat) : kas_place p k (f + 1) l r = if l ≥ r then .ret l else .ask (p.getD k 0) (p.getD ((l + r) / 2) 0) fun c => if c = true then kas_place p k f l ((l + r) / 2) else kas_place p k f ((l + r) / 2 + 1) r := rfl
theorem bin_succ (f : Nat) (p : Array Nat) (k : Nat) : kas_bin (f + 1) p k = (kas_place p k k 0 k).bind fun l => kas_bin f (bubble p k (k - l)) (k + 1) := rfl
theorem kas_place_ok (O : LtOk lt) {p : Array Nat} {k : Nat} (h : Asc lt p k) : ∀ (f l r : Nat), r - l ≤ f → l ≤ r → r ≤ k → (∀ i, i < l → lt (pg p k) (pg p i) = false) → (∀ i, r ≤ i → i < k → lt (pg p k) (pg p i) = true) →
  let m := kev lt (kas_place p k f l r)
  m ≤ k ∧ (∀ i, i < m → lt (pg p k) (pg p i) = false) ∧ (∀ i, m ≤ i → i < k → lt (pg p k) (pg p i) = true)
 | 0, l, r, hf, hl, hr, h1, h2 => ⟨by show l ≤ k; lia, h1, fun i hi => h2 i (by have : l ≤ i := hi; lia)⟩
 | f + 1, l, r, hf, hl, hr, h1, h2 => by
  by_cases c : l ≥ r
  ·have e : kev lt (kas_place p k (f + 1) l r) = l := by rw [place_succ, if_pos c]; rfl
   rw [e]
   exact ⟨by lia, h1, fun i hi => h2 i (by lia)⟩
  ·by_cases d : lt (pg p k) (pg p ((l + r) / 2)) = true
   ·have e : kev lt (kas_place p k (f + 1) l r) = kev lt (kas_place p k f l ((l + r) / 2)) := by
     rw [place_succ, if_neg c]
     show kev lt (if lt (pg p k) (pg p ((l + r) / 2)) = true then _ else _) = _
     rw [if_pos d]
    rw [e]
    exact kas_place_ok O h f l ((l + r) / 2) (by lia) (by lia) (by lia) h1 fun i hi hk => by
     cases q : lt (pg p k) (pg p i) with
     | true => rfl
     | false =>
      have := O.tr _ _ _ (h ((l + r) / 2) i hi hk) q
      rw [d] at this; cases this
   ·have d' : lt (pg p k) (pg p ((l + r) / 2)) = false := by simpa using d
    have e : kev lt (kas_place p k (f + 1) l r) = kev lt (kas_place p k f ((l + r) / 2 + 1) r) := by
     rw [place_succ, if_neg c]
     show kev lt (if lt (pg p k) (pg p ((l + r) / 2)) = true then _ else _) = _
     rw [if_neg d]
    rw [e]
    exact kas_place_ok O h f ((l + r) / 2 + 1) r (by lia) (by lia) hr (fun i hi => O.tr _ _ _ (h i ((l + r) / 2) (by lia) (by lia)) d') h2
theorem pg_bubble {p : Array Nat} {src d : Nat} (hs : src < p.size) (hd : d ≤ src) (k : Nat) :
  pg (bubble p src d) k = if k = src - d then pg p src else if src - d < k ∧ k ≤ src then pg p (k - 1) else pg p k := by
 have e := getElem?_bubble hs d hd k
 rw [pg_eq, pg_eq, pg_eq, pg_eq, e]
 split
 ·rfl
 ·split <;> rfl
theorem kas_bin_ok (O : LtOk lt) : ∀ (f : Nat) (p : Array Nat) (k : Nat), k + f ≤ p.size → Asc lt p k → let r := kev lt (kas_bin f p k)
  r.size = p.size ∧ r.Perm p ∧ Asc lt r (k + f)
 | 0, p, k, hz, h => ⟨rfl, Array.Perm.refl _, h⟩
 | f + 1, p, k, hz, h => by
  have a := kas_place_ok O h k 0 k (by lia) (by lia) (Nat.le_refl _) (fun i hi => absurd hi (Nat.not_lt_zero _)) (fun i h1 h2 => absurd h2 (by lia))
  have e : kev lt (kas_bin (f + 1) p k) = kev lt (kas_bin f (bubble p k (k - kev lt (kas_place p k k 0 k))) (k + 1)) := by
   rw [bin_succ, kev_bind]
  rw [e]
  revert a
  generalize kev lt (kas_place p k k 0 k) = m
  intro r173y0
  refine un_0_3 (r173y0) fun a1 a2 a3 => ?_; (try clear r173y0)
  have hb : Asc lt (bubble p k (k - m)) (k + 1) := fun i j hi hj => by
   rw [pg_bubble (by lia) (by lia), pg_bubble (by lia) (by lia)]
   have hkm : k - (k - m) = m := by lia
   rw [hkm]
   by_cases i1 : i = m
   ·rw [if_pos i1]
    by_cases j1 : j = m
    ·rw [if_pos j1]; exact O.irr _
    ·rw [if_neg j1, if_pos (by lia)]
     exact O.asym _ _ (a3 _ (by lia) (by lia))
   ·rw [if_neg i1]
    by_cases i2 : m < i ∧ i ≤ k
    ·rw [if_pos i2, if_neg (by lia), if_pos (by lia)]
     exact h _ _ (Nat.sub_le_sub_right hi _) (by lia)
    ·rw [if_neg i2]
     have hi3 : i < m := by lia
     by_cases j1 : j = m
     ·rw [if_pos j1]; exact a2 _ hi3
     ·rw [if_neg j1]
      by_cases j2 : m < j ∧ j ≤ k
      ·rw [if_pos j2]; exact h _ _ (by lia) (by lia)
      ·rw [if_neg j2]; exact h _ _ hi (by lia)
  have ih := kas_bin_ok O f (bubble p k (k - m)) (k + 1) (by rw [bubble_size]; lia) hb
  refine ⟨ih.1.trans (bubble_size _ _ _), ih.2.1.trans (bubble_perm _ _ _), ?_⟩
  have := ih.2.2
  rwa [show k + 1 + f = k + (f + 1) by lia] at this
theorem kas_sort_ok (O : LtOk lt) {n : Nat} (hn : 1 ≤ n) : (kev lt (kas_sort n)).Perm (List.toArray (List.range n)) ∧ Asc lt (kev lt (kas_sort n)) n := by
 unfold kas_sort
 rw [kev_bind]
 have a := kas_count_ok O (p := List.toArray (List.range n)) hn (by simp)
 revert a
 generalize kev lt (kas_count n (List.toArray (List.range n))) = r
 intro r174y0
 refine un_0_5 (r174y0) fun a1 a2 a3 a4 a5 => ?_; (try clear r174y0)
 have hsz : r.2.size = n := by rw [a1]; simp
 by_cases c : r.1 < n
 ·rw [if_pos c]
  have hm : max r.1 1 = r.1 := by lia
  rw [hm]
  have b := kas_bin_ok O (n - r.1) r.2 r.1 (by lia) a5
  have e : r.1 + (n - r.1) = n := by lia
  rw [e] at b
  exact ⟨b.2.1.trans a2, b.2.2⟩
 ·rw [if_neg c]
  have : r.1 = n := by lia
  rw [this] at a5
  exact ⟨a2, a5⟩
end
end Mine
namespace Mine
open PySem PySem.W PyProof.Rows PySem.Calls
noncomputable def kin {α : Type} (lt : Nat → Nat → Bool) (n : Nat) : KasT α → Prop
 | .ret _ => True
 | .ask i j k => i < n ∧ j < n ∧ kin lt n (k (lt i j))
theorem kin_bind {α β : Type} {lt : Nat → Nat → Bool} {n : Nat} {f : α → KasT β} : ∀ {t : KasT α}, kin lt n t → kin lt n (f (kev lt t)) → kin lt n (t.bind f)
 | .ret a, _, h => h
 | .ask i j k, h, h2 => ⟨h.1, h.2.1, kin_bind (t := k (lt i j)) h.2.2 h2⟩
theorem kin_wp {α : Type} {lt : Nat → Nat → Bool} {n : Nat} {cmp : Nat → Nat → (Bool → Shared → Prop) → Shared → Prop} {Q : α → Shared → Prop} {J : Shared → Prop}
  (h : ∀ i j C s, i < n → j < n → J s → (∀ s', J s' → C (lt i j) s') → cmp i j C s) : ∀ (t : KasT α) (s : Shared), kin lt n t → J s → (∀ s', J s' → Q (kev lt t) s') → t.kasWp cmp Q s
 | .ret a, s, _, js, q => q s js
 | .ask i j k, s, hk, js, q => h i j _ s hk.1 hk.2.1 js fun s' js' => kin_wp h (k (lt i j)) s' hk.2.2 js' q
section
variable {lt : Nat → Nat → Bool} {N : Nat}
noncomputable def Bd (N : Nat) (p : Array Nat) : Prop := ∀ i, pg p i < N
theorem bd_of {p q : Array Nat} (h : Bd N p) (hp : q.Perm p) (hN : 0 < N) : Bd N q := fun i => by
 rw [pg_eq]
 cases e : q[i]? with
 | none => exact hN
 | some x =>
  have hm : x ∈ q := Array.mem_of_getElem? e
  have hm2 : x ∈ p := hp.mem_iff.mp hm
  obtain ⟨j, hj, e2⟩ := Array.getElem_of_mem hm2
  have := h j
  rw [pg_eq, Array.getElem?_eq_getElem hj, e2] at this
  exact this
theorem kin_asc {p : Array Nat} (h : Bd N p) : ∀ f n, kin lt N (kas_asc p f n)
 | 0, _ => trivial
 | f + 1, n => ⟨h n, h (n - 1), by
   show kin lt N (if lt (pg p n) (pg p (n - 1)) = true then .ret n else kas_asc p f (n + 1))
   split
   ·trivial
   ·exact kin_asc h f (n + 1)⟩
theorem kin_desc (hN : 0 < N) : ∀ f (p : Array Nat) n q, Bd N p → kin lt N (kas_desc f p n q)
 | 0, _, _, _, _ => trivial
 | f + 1, p, n, q, h => ⟨h n, h (n - 1), by
   show kin lt N (if lt (pg p n) (pg p (n - 1)) = true then (if q > 0 then kas_desc f (kas_rev p (n - (q + 1)) n) (n + 1) 0 else kas_desc f p (n + 1) 0) else .ask (pg p (n - 1)) (pg p n) fun d => if d = true then .ret (p, n, q) else kas_desc f p (n + 1) (q + 1))
   split
   ·split
    ·exact kin_desc hN f _ _ _ (bd_of h (rev_perm _ _ _) hN)
    ·exact kin_desc hN f _ _ _ h
   ·refine ⟨h (n - 1), h n, ?_⟩
    show kin lt N (if lt (pg p (n - 1)) (pg p n) = true then .ret (p, n, q) else kas_desc f p (n + 1) (q + 1))
    split
    ·trivial
    ·exact kin_desc hN f _ _ _ h⟩
theorem desc_perm : ∀ f (p : Array Nat) n q, (kev lt (kas_desc f p n q)).1.Perm p
 | 0, _, _, _ => Array.Perm.refl _
 | f + 1, p, n, q => by
   show (kev lt (if lt (pg p n) (pg p (n - 1)) = true then (if q > 0 then kas_desc f (kas_rev p (n - (q + 1)) n) (n + 1) 0 else kas_desc f p (n + 1) 0) else .ask (pg p (n - 1)) (pg p n) fun d => if d = true then .ret (p, n, q) else kas_desc f p (n + 1) (q + 1))).1.Perm p
   split
   ·split
    ·exact (desc_perm f _ _ _).trans (rev_perm _ _ _)
    ·exact desc_perm f _ _ _
   ·show (kev lt (if lt (pg p (n - 1)) (pg p n) = true then .ret (p, n, q) else kas_desc f p (n + 1) (q + 1))).1.Perm p
    split
    ·exact Array.Perm.refl _
    ·exact desc_perm f _ _ _
theorem kin_tail3 (hN : 0 < N) {p : Array Nat} (h : Bd N p) (n nrem : Nat) : kin lt N (kas_tail3 n nrem p) := kin_bind (kin_asc (bd_of h (rev_perm _ _ _) hN) _ _) trivial
theorem kin_descPart (hN : 0 < N) {p : Array Nat} (h : Bd N p) (n nrem : Nat) : kin lt N (kas_descPart n nrem p) := by
 refine kin_bind (kin_desc hN _ _ _ _ h) ?_
 have hp := desc_perm (lt := lt) (nrem - (n + 1)) p (n + 1) 0
 split
 ·exact kin_tail3 hN (bd_of h ((rev_perm _ _ _).trans hp) hN) _ _
 ·exact kin_tail3 hN (bd_of h hp hN) _ _
theorem kin_count (hN : 0 < N) {p : Array Nat} (h : Bd N p) (nrem : Nat) : kin lt N (kas_count nrem p) := by
 refine kin_bind (kin_asc h _ _) ?_
 split
 ·trivial
 ·split
  ·refine ⟨h 0, h _, ?_⟩
   dsimp only
   split
   ·trivial
   ·exact kin_descPart hN (bd_of h (rev_perm _ _ _) hN) _ _
  ·exact kin_descPart hN h _ _
theorem kin_place {p : Array Nat} (h : Bd N p) (k : Nat) : ∀ f l r, kin lt N (kas_place p k f l r)
 | 0, _, _ => trivial
 | f + 1, l, r => by
  rw [place_succ]
  split
  ·trivial
  ·refine ⟨h k, h _, ?_⟩
   dsimp only
   split
   ·exact kin_place h k f _ _
   ·exact kin_place h k f _ _
theorem kin_bin (hN : 0 < N) : ∀ f (p : Array Nat) k, Bd N p → kin lt N (kas_bin f p k)
 | 0, _, _, _ => trivial
 | f + 1, p, k, h => by
  rw [bin_succ]
  exact kin_bind (kin_place h k _ _ _) (kin_bin hN f _ _ (bd_of h (bubble_perm _ _ _) hN))
theorem kin_sort (O : LtOk lt) {n : Nat} (hn : 1 ≤ n) : kin lt n (kas_sort n) := by
 have hb : Bd n (List.toArray (List.range n)) := fun i => by
  rw [pg_eq]
  simp only [List.getElem?_toArray]
  by_cases h : i < n
  ·rw [List.getElem?_range h]; exact h
  ·rw [List.getElem?_eq_none (by simpa using h)]; exact hn
 refine kin_bind (kin_count hn hb n) ?_
 have a := kas_count_ok O (p := List.toArray (List.range n)) hn (by simp)
 split
 ·exact kin_bin hn _ _ _ (bd_of hb a.2.1 hn)
 ·trivial
end
theorem sort_plain_eq (a : Addr) : Builtin.«list.sort» ⟨[.ref a], []⟩ = Builtin.«list.sort» ⟨[.ref a], [("reverse", .bool false)]⟩ := by
 rw [list_sort_plain, list_sort_rev]; rfl
section
variable {prog : Program} {w : World} {A : Around} {E : Value → Shared → Prop} {s : Shared}
theorem jQA {a : Addr} {vs : List Value} {n : Nat} {b : Bool} {κ : SortKind} {lt : Nat → Nat → Bool} {P : Fin → Shared → Prop} (ho : s.heap.get? a = some (seqObj "list" vs.toArray n)) (h64 : vs.length < 64) (O : LtOk lt)
  (hkind : 2 ≤ vs.length → ∀ s' (Q : SortKind → Shared → Prop) (E : Value → Shared → Prop), (∀ b o, b ≠ a → s.heap.get? b = some o → s'.heap.get? b = some o) → Q κ s' → wpAny (model prog w) A (keyKind' vs.toArray) Q E s')
  (hask : 2 ≤ vs.length → ∀ s' i j (C : Bool → Shared → Prop), i < vs.length → j < vs.length → (∀ b o, b ≠ a → s.heap.get? b = some o → s'.heap.get? b = some o) → C (lt i j) s' →
   wpAny (model prog w) A (keyLt' κ ((katRev b vs).getD i .none) ((katRev b vs).getD j .none)) C (fun _ _ => False) s')
  (h : ∀ p : Array Nat, p.Perm (List.toArray (List.range vs.length)) → Asc lt p vs.length → P (.done (.ret .none)) { s with heap := sortedHeap s.heap a vs (List.toArray (katRev b (p.toList.map fun i => (katRev b vs).getD i .none))) }) :
  wpAny (model prog w) A (Builtin.«list.sort» ⟨[.ref a], [("reverse", .bool b)]⟩) P E s := by
 rw [list_sort_rev]
 have ha : a < s.heap.objs.size := Heap.lt_size ho
 refine wpAny_bind (listItems_at ho rfl ?_)
 refine wpAny_bind (listUpdate_at ho rfl ?_ (by rw [List.size_toArray, sizeLine_eq]; lia) (Nat.zero_le _))
 obtain ⟨e1, ho1⟩ : ∃ e1, (s.heap.update a (Obj.mapSeq fun _ => #[])).get? a = some (seqObj "list" #[] e1) := ⟨_, get?_update_seq ho (fun _ => #[])⟩
 refine wpAny_bind (seqEpoch_at ho1 rfl ?_)
 refine wpAny_bind (wpAny_newTuple ?_ (by show vs.length ≤ _; rw [sizeLine_eq]; lia))
 refine wpAny_bind (wpAny_newList ?_ (Nat.zero_le _))
 refine wpAny_holding ?_
 have ho6 : (((s.heap.update a (Obj.mapSeq fun _ => #[])).push (seqObj "tuple" vs.toArray 0)).push (seqObj "list" #[] 0)).get? a = some (seqObj "list" #[] e1) := by
  rw [Heap.get?_push_ne _ _ _ (by rw [size_push', Heap.size_update]; exact Nat.ne_of_lt (Nat.lt_succ_of_lt ha)), Heap.get?_push_ne _ _ _ (by rw [Heap.size_update]; exact Nat.ne_of_lt ha)]
  exact ho1
 have keep6 : ∀ b o, b ≠ a → s.heap.get? b = some o → (((s.heap.update a (Obj.mapSeq fun _ => #[])).push (seqObj "tuple" vs.toArray 0)).push (seqObj "list" #[] 0)).get? b = some o := fun b o hb e =>
  Heap.get?_push_of_some _ (Heap.get?_push_of_some _ (by rw [Heap.get?_update_ne _ _ _ _ hb]; exact e))
 show wpAny (model prog w) A _ P E { s with heap := ((s.heap.update a (Obj.mapSeq fun _ => #[])).push (seqObj "tuple" vs.toArray 0)).push (seqObj "list" #[] 0) }
 have hsz : vs.toArray.size = vs.length := by simp
 have step : ∀ t : Sem Fin, wpAny (model prog w) A t P E { s with heap := ((s.heap.update a (Obj.mapSeq fun _ => #[])).push (seqObj "tuple" vs.toArray 0)).push (seqObj "list" #[] 0) } →
   wpAny (model prog w) A (if b = true then (do let _ ← rule "list.sort.reverse"; t) else t) P E { s with heap := ((s.heap.update a (Obj.mapSeq fun _ => #[])).push (seqObj "tuple" vs.toArray 0)).push (seqObj "list" #[] 0) } := by
  intro t ht
  split
  ·exact wpAny_bind (wpAny_rule ht)
  ·exact ht
 dsimp only
 refine step _ ?_
 rw [kat_pairs b rfl]
 by_cases h2 : vs.toArray.size < 2
 ·rw [if_pos h2, if_pos h2]
  refine wpAny_bind (wpAny_pure ?_)
  rw [StateT.run_pure]
  refine wpAny_bind (wpAny_pure ?_)
  dsimp only
  have har : (arrOf (SortSt.mk' general' ((List.toArray (katRev b vs)).zip (List.toArray (katRev b vs))) #[] 7 none)).map (·.2) = List.toArray (katRev b vs) := by
   show ((List.toArray (katRev b vs)).zip (List.toArray (katRev b vs))).map (·.2) = _
   apply Array.toList_inj.mp
   simp
   exact List.map_snd_zip (Nat.le_refl _)
  rw [har, kat_outs]
  refine wpAny_bind (seqEpoch_at ho6 rfl ?_)
  refine wpAny_bind (listUpdate_at ho6 rfl ?_ (Nat.zero_le _) (by rw [List.size_toArray, kat_len, kat_len, sizeLine_eq]; lia))
  simp only [bne_self_eq_false, Bool.false_eq_true, if_false]
  have hr : ((List.toArray (List.range vs.length)).toList.map fun i => (katRev b vs).getD i .none) = katRev b vs := by
   have e : (List.range (katRev b vs).length).map (fun i => (katRev b vs).getD i .none) = katRev b vs := by
    apply List.ext_getElem
    ·simp
    ·intro i h1 h2; simp [h2]
   rw [kat_len] at e
   exact e
  have := h (List.toArray (List.range vs.length)) (Array.Perm.refl _) (fun i j hij hj => by
   have : i = j := by lia
   subst this; exact O.irr _)
  rw [hr] at this
  exact wpAny_pure this
 ·rw [if_neg h2, if_neg h2]
  have h2' : 2 ≤ vs.length := by lia
  refine wpAny_bind (hkind h2' _ _ _ keep6 ?_)
  have hrl : (katRev b vs).length = vs.length := kat_len b vs
  refine wpAny_bind (wpAny_mono (kat_run (ks := katRev b vs) (vs := katRev b vs) (Q := fun st' s' => ∃ p : Array Nat, arrOf st' = p.map (kas_item ((List.toArray (katRev b vs)).zip (List.toArray (katRev b vs)))) ∧ failedOf st' = none ∧ p.Perm (List.toArray (List.range vs.length)) ∧ Asc lt p vs.length ∧ s' = { s with heap := ((s.heap.update a (Obj.mapSeq fun _ => #[])).push (seqObj "tuple" vs.toArray 0)).push (seqObj "list" #[] 0) })
   (G := fun p s' => p.Perm (List.toArray (List.range vs.length)) ∧ Asc lt p vs.length ∧ s' = { s with heap := ((s.heap.update a (Obj.mapSeq fun _ => #[])).push (seqObj "tuple" vs.toArray 0)).push (seqObj "list" #[] 0) })
   rfl (by rw [hrl]; exact h2') (by rw [hrl]; exact h64) (fun p' st' s' a1 a2 a3 a4 => ⟨p', a2, a3, a4⟩) ?_) ?_ fun _ _ e => e)
  ·rw [hrl]
   refine kin_wp (lt := lt) (n := vs.length) (J := fun s' => s' = { s with heap := ((s.heap.update a (Obj.mapSeq fun _ => #[])).push (seqObj "tuple" vs.toArray 0)).push (seqObj "list" #[] 0) }) ?_ _ _ (kin_sort O (by lia)) rfl ?_
   ·rintro i j C s' hi hj rfl hC
    exact hask h2' _ i j C hi hj keep6 (hC _ rfl)
   ·rintro s' rfl
    have := kas_sort_ok O (n := vs.length) (by lia)
    exact ⟨this.1, this.2, rfl⟩
  ·intro r175y0 s' r175y2
   obtain ⟨⟨⟩, st'⟩ := r175y0
   refine un_1_5 (r175y2) fun p har hf hp hasc e324x5 => ?_; (try clear r175y2); subst e324x5
   dsimp only
   rw [kat_snds rfl har, kat_outs]
   refine wpAny_bind (seqEpoch_at ho6 rfl ?_)
   refine wpAny_bind (listUpdate_at ho6 rfl ?_ (Nat.zero_le _) (by
    rw [List.size_toArray, kat_len, List.length_map]
    have := hp.size_eq
    rw [Array.length_toList, this, sizeLine_eq]; simp; lia))
   rw [hf]
   simp only [bne_self_eq_false, Bool.false_eq_true, if_false]
   exact wpAny_pure (h p hp hasc)
end
end Mine
namespace Mine
open PySem PySem.W PyProof.Rows PySem.Calls
open PySem.SeqAt
theorem sEq_refl {v u : V} (h : SameS v u) : sEq v v = true := by cases h <;> simp [sEq]
theorem sEq_eq {v u : V} (h : SameS v u) (e : sEq v u = true) : v = u := by
 cases h with
 | str a b => simp [sEq] at e; rw [e]
 | int a b => simp [sEq] at e; rw [e]
theorem sEq_symm {v u : V} (h : SameS v u) : sEq v u = sEq u v := by
 cases h with
 | str a b => simp [sEq, Bool.beq_comm]
 | int a b => simp [sEq, Bool.beq_comm]
theorem sLt_irr (v : V) : sLt v v = false := by
 cases v <;> simp [sLt]
theorem sLt_asym {v u : V} (h : SameS v u) (e : sLt v u = true) : sLt u v = false := by
 cases h with
 | str a b => simp only [sLt, decide_eq_true_eq, decide_eq_false_iff_not] at e ⊢; exact List.lt_asymm e
 | int a b => simp only [sLt, decide_eq_true_eq, decide_eq_false_iff_not] at e ⊢; lia
theorem sLt_total {v u : V} (h : SameS v u) (e : sLt v u = false) (e2 : sLt u v = false) : v = u := by
 cases h with
 | str a b => simp only [sLt, decide_eq_false_iff_not] at e e2; rw [List.le_antisymm (List.not_lt.mp e2) (List.not_lt.mp e)]
 | int a b => simp only [sLt, decide_eq_false_iff_not] at e e2; rw [show a = b by lia]
theorem sLt_trans {v u t : V} (h : SameS v u) (h2 : SameS u t) (e : sLt v u = true) (e2 : sLt u t = true) : sLt v t = true := by
 cases h with
 | str a b =>
  cases h2 with
  | str _ c => simp only [sLt, decide_eq_true_eq] at e e2 ⊢; exact List.lt_trans e e2
 | int a b =>
  cases h2 with
  | int _ c => simp only [sLt, decide_eq_true_eq] at e e2 ⊢; lia
theorem SameS.symm {v u : V} (h : SameS v u) : SameS u v := by cases h; exact .str _ _; exact .int _ _
theorem SameS.trans {v u t : V} (h : SameS v u) (h2 : SameS u t) : SameS v t := by cases h <;> cases h2; exact .str _ _; exact .int _ _
noncomputable abbrev Sh (l m : List V) : Prop := All2 SameS l m
theorem tLt_irr {l m : List V} (hs : Sh l m) : tLt l l = false := by
 induction hs with
 | nil => rfl
 | cons p r ih => unfold tLt; rw [sEq_refl p, if_pos rfl]; exact ih
theorem tLt_asym {l m : List V} (hs : Sh l m) : tLt l m = true → tLt m l = false := by
 induction hs with
 | nil => intro _; rfl
 | cons p r ih =>
  intro e
  unfold tLt at e ⊢
  rw [sEq_symm p.symm]
  split at e
  ·rename_i h; rw [if_pos h]; exact ih e
  ·rename_i h; rw [if_neg h]; exact sLt_asym p e
theorem tLt_total {l m : List V} (hs : Sh l m) : tLt l m = false → tLt m l = false → l = m := by
 induction hs with
 | nil => intro _ _; rfl
 | @cons a b _ _ p r ih =>
  intro e e2
  unfold tLt at e e2
  rw [sEq_symm p.symm] at e2
  by_cases h : sEq a b = true
  ·rw [if_pos h] at e e2; rw [sEq_eq p h, ih e e2]
  ·rw [if_neg h] at e e2
   have := sLt_total p e e2
   subst this
   exact absurd (sEq_refl p) h
theorem tLt_trans {l m k : List V} (hs : Sh l m) (h2 : Sh m k) : tLt l m = true → tLt m k = true → tLt l k = true := by
 induction hs generalizing k with
 | nil => intro e; cases e
 | @cons a b l m p r ih =>
  intro e e2
  cases h2 with
  | @cons _ c _ k p2 r2 =>
   unfold tLt at e e2 ⊢
   by_cases h : sEq a b = true
   ·have := sEq_eq p h
    subst this
    rw [if_pos h] at e
    by_cases h2 : sEq a c = true
    ·rw [if_pos h2] at e2 ⊢; exact ih r2 e e2
    ·rw [if_neg h2] at e2 ⊢; exact e2
   ·rw [if_neg h] at e
    by_cases h2 : sEq b c = true
    ·have := sEq_eq p2 h2
     subst this
     rw [if_neg h]; exact e
    ·rw [if_neg h2] at e2
     have h3 := sLt_trans p p2 e e2
     have h4 : ¬ sEq a c = true := fun q => by
      have := sEq_eq (p.trans p2) q
      subst this
      rw [sLt_irr] at h3; cases h3
     rw [if_neg h4]; exact h3
noncomputable def ltI (us : List (List V)) (i j : Nat) : Bool := tLt (us.getD i []) (us.getD j [])
theorem ltI_ok {us : List (List V)} (h : ∀ l ∈ us, ∀ m ∈ us, Sh l m) (hne : ∀ l ∈ us, l ≠ []) : LtOk (ltI us) := by
 have hd : ∀ i, us.getD i [] ∈ us ∨ us.getD i [] = [] := fun i => by
  by_cases hi : i < us.length
  ·left; simp [hi]
  ·right; simp [Nat.le_of_not_lt hi]
 have n1 : ∀ l : List V, tLt l [] = false := fun l => by cases l <;> rfl
 have n2 : ∀ l : List V, l ≠ [] → tLt [] l = true := fun l h => by cases l with | nil => exact absurd rfl h | cons _ _ => rfl
 refine ⟨fun i => ?_, fun i j => ?_, fun i j k => ?_⟩
 ·unfold ltI
  rcases hd i with q | q
  ·exact tLt_irr (h _ q _ q)
  ·rw [q]; rfl
 ·unfold ltI
  rcases hd i with q | q
  ·rcases hd j with r | r
   ·exact tLt_asym (h _ q _ r)
   ·rw [r, n1]; intro e; cases e
  ·rw [q, n1]; intro _; rfl
 ·unfold ltI
  intro e1 e2
  rcases hd i with q | q
  ·rcases hd k with t | t
   ·rcases hd j with r | r
    ·cases e : tLt (us.getD k []) (us.getD i []) with
     | false => rfl
     | true =>
      by_cases hij : tLt (us.getD i []) (us.getD j []) = true
      ·have := tLt_trans (h _ t _ q) (h _ q _ r) e hij
       rw [e2] at this; cases this
      ·have := tLt_total (h _ q _ r) (by simpa using hij) e1
       rw [this, e2] at e; cases e
    ·rw [r] at e1; rw [n2 _ (hne _ q)] at e1; cases e1
   ·rcases hd j with r | r
    ·rw [t, n2 _ (hne _ r)] at e2; cases e2
    ·rw [r, n2 _ (hne _ q)] at e1; cases e1
  ·rw [q]; exact n1 _
section
variable {prog : Program} {w : World} {A : Around} {E : Value → Shared → Prop} {s : Shared}
noncomputable def tyOf : V → Value
 | .str _ => .type "str"
 | _ => .type "int"
theorem typeOf_looks {M : Model} {h h2 : Heap} {as : List Addr} {v u : V} {x : Value} (sm : SameS v u) (r : VR as h v x) : Looks M h2 (typeOf x) (tyOf u) := by
 cases sm with
 | str a b =>
  obtain ⟨t, rfl⟩ := jRA r
  exact fun A Q E s _ q => wpAny_typeOf (T := "str") (typeIs_str _ _ _) q
 | int a b =>
  obtain ⟨t, rfl⟩ := jTA r
  exact fun A Q E s _ q => wpAny_pure q
theorem oneLt_sca {b : Bool} {as : List Addr} {h : Heap} {v u : V} {x y : Value} {Q : Bool → Shared → Prop} (sm : SameS v u) (r1 : VR as h v x) (r2 : VR as h u y) (hq : Q (sLt v u) s) : wpAny (model prog w) A (oneLt' b x y) Q E s := by
 cases b with
 | false =>
  exact kat_one _ _ (ltAt_sca sm r1 r2 prog w E _ hq)
 | true =>
  cases sm with
  | str a c =>
   obtain ⟨t, rfl⟩ := jRA r1
   obtain ⟨t', rfl⟩ := jRA r2
   have := kas_lt_str (prog := prog) (w := w) (A := A) (E := E) (s := s) (a := ⟨a.toArray⟩) (c := ⟨c.toArray⟩) (t := t) (u := t') (Q := Q) (by simpa [sLt] using hq)
   rwa [keyLt'_oneType] at this
  | int a c =>
   obtain ⟨t, rfl⟩ := jTA r1
   obtain ⟨t', rfl⟩ := jTA r2
   have := kat_lt_int (prog := prog) (w := w) (A := A) (E := E) (s := s) (x := a) (y := c) (t := t) (u := t') (Q := Q) (by simpa [sLt] using hq)
   rwa [keyLt'_oneType] at this
theorem katLex_ok {b : Bool} {as : List Addr} {h : Heap} {Q : Bool → Shared → Prop} {l m : List V} {xs ys : List Value} (i : Nat) (hs : Sh l m) (r1 : VRs as h l xs) (r2 : VRs as h m ys) (hq : Q (tLt l m) s) : KatLex prog w A b false Q (xs.zip ys) i s := by
 induction hs generalizing xs ys i with
 | nil => unfold VRs at r1 r2; subst r1; subst r2; exact kat_nil hq
 | @cons a c l m p r ih =>
  unfold VRs at r1 r2
  obtain ⟨x, xs, rfl, r1, t1⟩ := r1
  obtain ⟨y, ys, rfl, r2, t2⟩ := r2
  refine kat_cons (eqAt_sca p.b r1 r2 prog w _ _ ?_)
  refine kat_go (fun e => kat_yes ?_) (fun e => kat_no ?_)
  ·refine ih (i + 1) t1 t2 ?_
   unfold tLt at hq; rwa [if_pos e] at hq
  ·refine oneLt_sca p r1 r2 ?_
   unfold tLt at hq; rwa [if_neg (by rw [e]; simp)] at hq
end
theorem VRs.getD {as : List Addr} {h : Heap} {l : List V} {xs : List Value} (r : VRs as h l xs) {i : Nat} (hi : i < l.length) : VR as h (l.getD i .none) (xs.getD i .none) := by
 refine un_1_2 (r.get (List.getElem?_eq_getElem hi)) fun x ex rx => ?_
 have h1 : xs.getD i .none = x := by simp [ex]
 have h2 : l.getD i .none = l[i] := by simp [hi]
 rw [h1, h2]; exact rx
theorem VRs.rev {as : List Addr} {h : Heap} {l : List V} {xs : List Value} (b : Bool) (r : VRs as h l xs) : VRs as h (katRev b l) (katRev b xs) := by
 cases b with
 | false => exact r
 | true => exact r.reverse
theorem VRs.maps {as : List Addr} {h : Heap} {f : Nat → V} {g : Nat → Value} : ∀ {p : List Nat}, (∀ i ∈ p, VR as h (f i) (g i)) → VRs as h (p.map f) (p.map g)
 | [], _ => VRs.nil
 | i :: p, hh => VRs.cons (hh i (.head _)) (VRs.maps fun j hj => hh j (.tail _ hj))
structure Rowy (ts : List (List V)) : Prop where
 same : ∀ l ∈ ts, ∀ m ∈ ts, Sh l m
 ne : ∀ l ∈ ts, l ≠ []
noncomputable def Ord (b : Bool) (ts : List (List V)) : Prop := ts.Pairwise (fun l m => (if b = true then tLt l m else tLt m l) = false)
theorem katRev_mem {α : Type} {b : Bool} {l : List α} {x : α} : x ∈ katRev b l ↔ x ∈ l := by cases b <;> simp [katRev]
theorem out_of {b : Bool} {ts : List (List V)} {p : Array Nat} (hp : p.Perm (List.toArray (List.range ts.length))) (ha : Asc (ltI (katRev b ts)) p ts.length) :
  ∃ out : List (List V), katRev b (p.toList.map fun i => (katRev b (ts.map V.tup)).getD i .none) = out.map V.tup ∧ out.Perm ts ∧ Ord b out := by
 have hl : p.toList.length = ts.length := by rw [Array.length_toList, hp.size_eq]; simp
 have hpl : p.toList.Perm (List.range ts.length) := Array.perm_iff_toList_perm.mp hp
 refine ⟨katRev b (p.toList.map fun i => (katRev b ts).getD i []), ?_, ?_, ?_⟩
 ·have e1 : katRev b (ts.map V.tup) = (katRev b ts).map V.tup := by cases b <;> simp [katRev]
  have e2 : ∀ l : List (List V), katRev b (l.map V.tup) = (katRev b l).map V.tup := fun l => by cases b <;> simp [katRev]
  rw [← e2, List.map_map, e1]
  congr 1
  refine List.map_congr_left fun i hi => ?_
  have hi' : i < ts.length := List.mem_range.mp (hpl.mem_iff.mp hi)
  have h1 : i < (katRev b ts).length := by rw [kat_len]; exact hi'
  simp [h1]
 ·have e3 : (p.toList.map fun i => (katRev b ts).getD i []).Perm (katRev b ts) := by
   have e : (List.range (katRev b ts).length).map (fun i => (katRev b ts).getD i []) = katRev b ts := by
    apply List.ext_getElem
    ·simp
    ·intro i h1 h2; simp [h2]
   rw [kat_len] at e
   have := hpl.map fun i => (katRev b ts).getD i []
   rwa [e] at this
  cases b with
  | false => exact e3
  | true => exact (List.reverse_perm _).trans (e3.trans (List.reverse_perm _))
 ·have e4 : (p.toList.map fun i => (katRev b ts).getD i []).Pairwise (fun l m => tLt m l = false) := by
   rw [List.pairwise_map, List.pairwise_iff_getElem]
   intro i j hi hj hij
   have := ha i j (by lia) (by lia)
   unfold ltI at this
   rw [pg_eq, pg_eq] at this
   have g1 : p[i]? = some p.toList[i] := by rw [← Array.getElem?_toList, List.getElem?_eq_getElem hi]
   have g2 : p[j]? = some p.toList[j] := by rw [← Array.getElem?_toList, List.getElem?_eq_getElem hj]
   rw [g1, g2] at this
   exact this
  cases b with
  | false => exact e4
  | true =>
   show (List.reverse _).Pairwise _
   rw [List.pairwise_reverse]
   exact e4
section
variable {C : Cst} {Γ : Fm} {loc loc' : List (Option V)} {sto : List SO} {Q : V → List (Option V) → List SO → Prop} {X : XV → List (Option V) → List SO → Prop}
theorem sort_tups {s : Shared} {A : Around} {E : Value → Shared → Prop} {as : List Addr} {h0 : Heap} {a : Addr} {its : Array Value} {n : Nat} {b : Bool} {ts : List (List V)} {P : Fin → Shared → Prop} (ho : s.heap.get? a = some { cls := .type "list", data := .seq its n })
  (hk : ∀ b o, b ≠ a → h0.get? b = some o → s.heap.get? b = some o) (ha : ∀ (l : List V) (x : Value), VR as h0 (.tup l) x → x ≠ .ref a) (ri : VRs as h0 (ts.map V.tup) its.toList) (hr : Rowy ts) (h64 : ts.length < 64)
  (h : ∀ out : List (List V), out.Perm ts → Ord b out → ∀ its', VRs as h0 (out.map V.tup) its' → P (.done (.ret .none)) { s with heap := sortedHeap s.heap a its.toList its'.toArray }) :
  wpAny (model C.prog C.w) A (Builtin.«list.sort» ⟨[.ref a], [("reverse", .bool b)]⟩) P E s := by
 have hl : its.toList.length = ts.length := by rw [ri.length, List.length_map]
 obtain ⟨hsame, hne⟩ := hr
 have hmem : ∀ i, i < ts.length → ts.getD i [] ∈ ts := fun i hi => by simp [hi]
 have hsame' : ∀ l ∈ katRev b ts, ∀ m ∈ katRev b ts, Sh l m := fun l hl m hm => hsame l (katRev_mem.mp hl) m (katRev_mem.mp hm)
 have O := ltI_ok hsame' fun l hl => hne l (katRev_mem.mp hl)
 have ho' : s.heap.get? a = some (seqObj "list" its.toList.toArray n) := by rw [Array.toArray_toList]; exact ho
 have hrev : VRs as h0 ((katRev b ts).map V.tup) (katRev b its.toList) := by
  have := VRs.rev b ri
  have e : katRev b (ts.map V.tup) = (katRev b ts).map V.tup := by cases b <;> simp [katRev]
  rwa [e] at this
 have klen : (katRev b ts).length = ts.length := kat_len _ _
 have hT2 : ∀ v, (tyOf v == tyOf v) = true := fun v => by cases v <;> rfl
 have hT3 : ∀ v, (tyOf v != Value.type "tuple") = true := fun v => by cases v <;> rfl
 refine jQA (κ := tuples' true) (lt := ltI (katRev b ts)) ho' (by lia) O ?_ ?_ fun p hp hasc => ?_
 ·intro h2 s' Q E hk' hq
  have h2' : 2 ≤ ts.length := by lia
  have : ∀ (us : List (List V)) (xs : List Value), (∀ l ∈ us, l ∈ ts) → VRs as h0 (us.map V.tup) xs → ∃ fs, KatTups s'.heap xs fs ∧ fs.length = us.length ∧ ∀ v ∈ fs, Looks (model C.prog C.w) s'.heap (typeOf v) (tyOf ((ts.getD 0 []).getD 0 .none)) := by
   intro us
   induction us with
   | nil => intro xs _ r; unfold VRs at r; subst r; exact ⟨[], trivial, rfl, fun v hv => by cases hv⟩
   | cons l us ih =>
    intro xs hm r
    unfold VRs at r
    obtain ⟨x, xs, rfl, rx, r⟩ := r
    obtain ⟨fs, k1, k2, k3⟩ := ih xs (fun l hl => hm l (.tail _ hl)) r
    have hxa := ha l x rx
    refine un_2_3 (vr_tup_inv rx) fun c its1 e329x2 n329x3 r1 => ?_; subst e329x2; obtain ⟨o, e1, e2, n1, e3⟩ := n329x3
    have hl := hm l (.head _)
    obtain ⟨a0, l0, rfl⟩ : ∃ a0 l0, l = a0 :: l0 := by
     cases l with
     | nil => exact absurd rfl (hne _ hl)
     | cons a0 l0 => exact ⟨a0, l0, rfl⟩
    have sh := hsame _ hl _ (hmem 0 (by lia))
    refine un_1_2 (r1.get (i := 0) (v := a0) rfl) fun f ef rf => ?_
    have hc : c ≠ a := fun q => hxa (by rw [q])
    refine ⟨f :: fs, ⟨⟨c, o, its1, n1, rfl, hk' c o hc (hk c o hc e1), e2, e3, by rw [← Array.getElem?_toList]; exact ef⟩, k1⟩, by simp [k2], fun v hv => ?_⟩
    rcases List.mem_cons.mp hv with rfl | hv
    ·revert sh
     generalize ts.getD 0 [] = l1
     intro sh
     cases sh with
     | cons p _ => exact typeOf_looks p rf
    ·exact k3 v hv
  obtain ⟨fs, k1, k2, k3⟩ := this ts its.toList (fun l h => h) ri
  exact kat_kind k1 (by lia) k3 (hT2 _) (by rw [hT3]; exact hq)
 ·intro h2 s' i j Cc hi hj hk' hC
  have g1 := hrev.getD (i := i) (by rw [List.length_map, klen]; lia)
  have g2 := hrev.getD (i := j) (by rw [List.length_map, klen]; lia)
  have e1 : ((katRev b ts).map V.tup).getD i .none = .tup ((katRev b ts).getD i []) := by simp [show i < (katRev b ts).length by lia]
  have e2 : ((katRev b ts).map V.tup).getD j .none = .tup ((katRev b ts).getD j []) := by simp [show j < (katRev b ts).length by lia]
  rw [e1] at g1
  rw [e2] at g2
  have n1 := ha _ _ g1
  have n2 := ha _ _ g2
  have m1 : (katRev b ts).getD i [] ∈ katRev b ts := by simp [show i < (katRev b ts).length by lia]
  have m2 : (katRev b ts).getD j [] ∈ katRev b ts := by simp [show j < (katRev b ts).length by lia]
  have sh := hsame' _ m1 _ m2
  refine un_2_3 (vr_tup_inv g1) fun c1 its1 q1 n331x3 r1 => ?_; obtain ⟨o1, a1, a2, z1, a3⟩ := n331x3
  refine un_2_3 (vr_tup_inv g2) fun c2 its2 q2 n332x3 r2 => ?_; obtain ⟨o2, b1, b2, z2, b3⟩ := n332x3
  rw [q1] at n1 ⊢
  rw [q2] at n2 ⊢
  have nc1 : c1 ≠ a := fun q => n1 (by rw [q])
  have nc2 : c2 ≠ a := fun q => n2 (by rw [q])
  have hz : decide (its1.size < its2.size) = false := by
   have y1 := r1.length
   have y2 := r2.length
   have y3 := sh.length
   rw [Array.length_toList] at y1 y2
   exact decide_eq_false (by lia)
  refine kat_lt (hk' c1 o1 nc1 (hk c1 o1 nc1 a1)) a3 (hk' c2 o2 nc2 (hk c2 o2 nc2 b1)) b3 ?_
  rw [hz]
  exact katLex_ok 0 sh r1 r2 hC
 ·rw [hl] at hp hasc
  refine un_1_3 (out_of hp hasc) fun out e hperm hord => ?_
  refine h out hperm hord _ ?_
  rw [← e]
  refine VRs.rev b (VRs.maps fun i hi => ?_)
  have hi' : i < ts.length := List.mem_range.mp ((Array.perm_iff_toList_perm.mp hp).mem_iff.mp hi)
  exact (VRs.rev b ri).getD (by rw [kat_len, List.length_map]; exact hi')
end
end Mine
namespace Mine
open PySem PySem.W PyProof.Rows PySem.Calls
section
variable {C : Cst} {Γ : Fm} {as : List Addr} {loc : List (Option V)} {sto : List SO} {s : Shared}
theorem Post.updK (R : RepF C Γ as loc sto s) {h' : Heap} {t : Nat} {k : Nat} {a : Addr} {so : SO} (hk : as[k]? = some a) (ne : ∀ b o, b ≠ a → s.heap.get? b = some o → h'.get? b = some o) (ht : 0 < t) (hr : ∀ (_ : TupKeeps s.heap h'), SOR as h' so a) :
  Post C Γ as s as loc (sto.set k so) { s with heap := h', toks := t } := by
 have hm : a ∈ as := List.mem_of_getElem? hk
 refine un_1_2 (R.g.mem_lt hm) fun oa ea ca => ?_
 have tk : TupKeeps s.heap h' := fun b o its n e hc hd => ⟨o, ne b o (fun q => by
  subst q; rw [ea] at e; cases e; rcases ca with ca | ca <;> rw [hc] at ca <;> simp at ca) e, hc, hd⟩
 have ap := R.apart a hm
 have h'a : ∃ o, h'.get? a = some o := by
  have := hr tk
  cases so with
  | list l => obtain ⟨its, n, e2, _⟩ := this; exact ⟨_, e2⟩
  | iter l i => obtain ⟨la, _, o', e2, _⟩ := this; exact ⟨o', e2⟩
  | dead => obtain ⟨o', e2, _⟩ := this; exact ⟨o', e2⟩
 refine ⟨⟨⟨fun b o e => ne b o (fun q => ?_) (R.g.keep b o e), by rw [List.length_set]; exact R.g.len, fun i b so' e1 e2 => ?_, R.g.nodup, R.g.fresh, R.g.gens, R.g.os, ht⟩, R.ok, ?_, R.apart, ?_, ?_⟩, List.prefix_rfl, fun _ h => .inl h, ?_, ?_, trivial⟩
 ·rw [q, R.g.fresh a hm] at e; cases e
 ·by_cases q : b = a
  ·have hi : i = k := by
    subst q
    have h1 := (List.getElem?_eq_some_iff.mp e1)
    have h2 := (List.getElem?_eq_some_iff.mp hk)
    exact (List.getElem_inj R.g.nodup (h₀ := h1.1) (h₁ := h2.1)).mp (h1.2.trans h2.2.symm)
   subst hi; subst q
   rw [List.getElem?_set_self (by rw [← R.g.len]; exact (List.getElem?_eq_some_iff.mp e1).1)] at e2
   cases e2; exact hr tk
  ·have hi : k ≠ i := fun z => q (by rw [z] at hk; rw [e1] at hk; exact Option.some.inj hk)
   rw [List.getElem?_set_ne hi] at e2
   exact (R.g.objs i b so' e1 e2).mono List.prefix_rfl tk fun o e => ne b o q e
 ·refine un_1_2 (R.ns) fun m n r => ?_
  refine ⟨m, n.at fun o e => ne _ o (fun q => ap.1 (q ▸ R.ok.loco)) e, r.mono List.prefix_rfl tk fun x c hc ov ⟨o, e, d⟩ => ⟨o, ne c o (fun q => ap.2 x c hc q.symm) e, d⟩⟩
 ·intro b hb
  refine un_1_2 (R.plain b hb) fun o e d => ?_
  exact ⟨o, ne b o (fun q => ap.1 (q ▸ hb)) e, d⟩
 ·refine R.frs.keeps fun b o es ep e hd => ?_
  by_cases q : b = a
  ·subst q
   exact (R.g.mem_nodict hm e hd).elim
  ·exact ⟨o, ne b o q e, es, ep, hd⟩
 ·intro b o e hn
  exact .inl (ne b o (fun q => hn (List.mem_append_right _ (q ▸ hm))) e)
 ·intro b e
  by_cases q : b = a
  ·subst q; obtain ⟨o, e'⟩ := h'a; rw [e] at e'; cases e'
  ·cases w : s.heap.get? b with
   | none => rfl
   | some o => have e' : h'.get? b = none := e; rw [ne b o q w] at e'; cases e'
variable {Q : V → List (Option V) → List SO → Prop} {X : XV → List (Option V) → List SO → Prop}
theorem tup_ne {l : List V} {x : Value} {k : Nat} {a : Addr} (F : RepF C Γ as loc sto s) (ea : as[k]? = some a) (r : VR as s.heap (.tup l) x) : x ≠ .ref a := fun q => by
 refine un_2_3 (vr_tup_inv r) fun b its e n337x3 _ => ?_; obtain ⟨o, e1, e2, _⟩ := n337x3
 rw [e] at q; cases q
 exact F.g.tup_not_mem e1 e2 (List.mem_of_getElem? ea)
theorem sort_store {A : Around} {E : Value → Shared → Prop} {k : Nat} {a : Addr} {its : Array Value} {n : Nat} {b : Bool} {ts : List (List V)} {P : Fin → Shared → Prop} (F : RepF C Γ as loc sto s) (ea : as[k]? = some a) (e : s.heap.get? a = some { cls := .type "list", data := .seq its n })
  (ri : VRs as s.heap (ts.map V.tup) its.toList) (hr : Rowy ts) (h64 : ts.length < 64)
  (h : ∀ out : List (List V), out.Perm ts → Ord b out → ∀ s', Post C Γ as s as loc (sto.set k (.list (out.map V.tup))) s' → P (.done (.ret .none)) s') :
  wpAny (model C.prog C.w) A (Builtin.«list.sort» ⟨[.ref a], [("reverse", .bool b)]⟩) P E s := by
 refine sort_tups (h0 := s.heap) (as := as) e (fun _ _ _ e => e) (fun l x r => tup_ne F ea r) ri hr h64 fun out hp ho its' r' => ?_
 have hlt : ∀ b o, s.heap.get? b = some o → b < s.heap.objs.size := fun b o e => Heap.lt_size e
 refine h out hp ho _ (Post.updK (t := s.toks) F ea (fun b o hb e => (sortedHeap_old hb (hlt b o e)).trans e) F.g.toks fun tk => ?_)
 obtain ⟨n', e'⟩ := sortedHeap_at (h := s.heap) (a := a) (vs := its.toList) (n := n) (out := its'.toArray) (by rw [Array.toArray_toList]; exact e)
 exact ⟨its'.toArray, n', e', VRs.mono List.prefix_rfl tk _ _ (by simpa using r')⟩
theorem wl_sort {k : Nat} {ts : List (List V)} (hk : sto[k]? = some (.list (ts.map V.tup))) (hr : Rowy ts) (h64 : ts.length < 64)
  (h : ∀ out : List (List V), out.Perm ts → Ord false out → Q .none loc (sto.set k (.list (out.map V.tup)))) : WL C Γ loc sto (callF (.builtin "list.sort")) [.lst k] VR Q X := fun s as xs F r => by
 refine un_1_2 (vrs1_inv r) fun x e338x1 r1 => ?_; subst e338x1
 refine un_3_4 (lst_at F r1 hk) fun a its n e339x3 ea e ri => ?_; subst e339x3
 have hT : s.TypeIs (.ref a) "list" := ⟨_, e, rfl⟩
 refine wpAny_call_entry slot_list_sort hT entry_list_sort ?_ (args_list_sort _)
 rw [sort_plain_eq]
 exact sort_store F ea e ri hr h64 fun out hp ho s' P => ⟨.none, rfl, as, loc, _, .none, P, vr_none, h out hp ho⟩
theorem wl_sorted {k : Nat} {ts : List (List V)} (hk : sto[k]? = some (.list (ts.map V.tup))) (hr : Rowy ts) (h64 : ts.length < 64)
  (h : ∀ out : List (List V), out.Perm ts → Ord false out → Q (.lst sto.length) loc (sto ++ [.list (out.map V.tup)])) : WL C Γ loc sto (callF (.builtin "sorted")) [.lst k] VR Q X := fun s as xs F r => by
 refine un_1_2 (vrs1_inv r) fun x e340x1 r1 => ?_; subst e340x1
 refine un_3_4 (lst_at F r1 hk) fun a its n e341x3 ea e ri => ?_; subst e341x3
 have hl : its.toList.length = ts.length := by rw [ri.length, List.length_map]
 refine Calls.call_function_entry kind_sorted plain_sorted entry_sorted (args_sorted1 _) ?_
 unfold Builtin.«sorted»
 refine wpAny_bind (m := checkCount "sorted" 1 1 _) (wpAny_pure ?_)
 have hL : s.heap.IsList a its.toList.toArray := by rw [Array.toArray_toList]; exact ⟨_, e, rfl, n, rfl⟩
 refine wpAny_bind (collect_list hL ?_ (by rw [sizeLine_eq]; lia))
 refine wpAny_bind (wpAny_newList ?_ (by rw [sizeLine_eq]; lia))
 have hsz : ((s.heap.push (seqObj "list" #[] 0)).update s.heap.objs.size (Obj.mapSeq (· ++ its.toList.toArray))).objs.size = s.heap.objs.size + 1 := by
  rw [Heap.size_update, size_push']
 have hoL : (((s.heap.push (seqObj "list" #[] 0)).update s.heap.objs.size (Obj.mapSeq (· ++ its.toList.toArray))).push (seqObj "list" its.toList.toArray 0)).get? (s.heap.objs.size + 1) = some (seqObj "list" its.toList.toArray 0) := by
  rw [← hsz]; exact Heap.get?_push_size _ rfl
 have keep : ∀ b o, s.heap.get? b = some o → (((s.heap.push (seqObj "list" #[] 0)).update s.heap.objs.size (Obj.mapSeq (· ++ its.toList.toArray))).push (seqObj "list" its.toList.toArray 0)).get? b = some o := fun b o q => by
  have hlt : b < s.heap.objs.size := Heap.lt_size q
  rw [Heap.get?_push_ne _ _ _ (by rw [hsz]; exact Nat.ne_of_lt (Nat.lt_succ_of_lt hlt)), Heap.get?_update_ne _ _ _ _ (Nat.ne_of_lt hlt), Heap.get?_push_ne _ _ _ (Nat.ne_of_lt hlt)]
  exact q
 have hnone : s.heap.get? (s.heap.objs.size + 1) = none := by
  cases q : s.heap.get? (s.heap.objs.size + 1) with
  | none => rfl
  | some o => exact absurd (Nat.lt_of_succ_lt (Heap.lt_size q)) (Nat.lt_irrefl _)
 show wpAny _ _ _ _ _ { s with heap := ((s.heap.push (seqObj "list" #[] 0)).update s.heap.objs.size (Obj.mapSeq (· ++ its.toList.toArray))).push (seqObj "list" its.toList.toArray 0) }
 rw [hsz]
 refine wpAny_bind (wpAny_holding (wpAny_call_entry slot_list_sort ⟨_, hoL, rfl⟩ entry_list_sort ?body (args_list_sort _)))
 rw [sort_plain_eq]
 refine sort_tups (h0 := s.heap) (as := as) (n := 0) (its := its.toList.toArray) hoL (fun b o _ e => keep b o e) (fun l x r => fun q => ?_) (by simpa using ri) hr h64 fun out hp ho its' r' => ⟨.none, rfl, wpAny_pure ⟨.ref (s.heap.objs.size + 1), rfl, ?_⟩⟩
 ·refine un_2_3 (vr_tup_inv r) fun b its2 eb n342x3 _ => ?_; obtain ⟨o, e1, _⟩ := n342x3
  rw [eb] at q; cases q
  rw [hnone] at e1; cases e1
 ·have kk : ∀ b o, s.heap.get? b = some o → (sortedHeap (((s.heap.push (seqObj "list" #[] 0)).update s.heap.objs.size (Obj.mapSeq (· ++ its.toList.toArray))).push (seqObj "list" its.toList.toArray 0)) (s.heap.objs.size + 1) its.toList.toArray.toList its'.toArray).get? b = some o := fun b o q => by
   have hlt : b < s.heap.objs.size := Heap.lt_size q
   rw [sortedHeap_old (Nat.ne_of_lt (Nat.lt_succ_of_lt hlt)) (Heap.lt_size (keep b o q))]
   exact keep b o q
  obtain ⟨n', e'⟩ := sortedHeap_at (h := ((s.heap.push (seqObj "list" #[] 0)).update s.heap.objs.size (Obj.mapSeq (· ++ its.toList.toArray))).push (seqObj "list" its.toList.toArray 0)) (a := s.heap.objs.size + 1) (vs := its.toList.toArray.toList) (n := 0) (out := its'.toArray) (by simpa using hoL)
  refine ⟨as ++ [s.heap.objs.size + 1], loc, _, .lst sto.length, Post.alloc (t := s.toks) (so := .list (out.map V.tup)) F kk F.g.toks hnone ⟨its'.toArray, n', e', VRs.mono (List.prefix_append ..) (.of_ext kk) _ _ (by simpa using r')⟩, vr_lst ?_, h out hp ho⟩
  rw [← F.g.len, List.getElem?_append_right (Nat.le_refl _)]; simp
theorem kw_few {env : Env} {kn : Str} {cp kp pos : Pos} {e : Expr} : ((backTo pos (starEach ([] : List Expr) env)).all (fun x => !x.1) && (backToKw pos (keywordEach [⟨some kn, e, kp⟩] env)).all (fun x => x.1.isSome)
   && decide (([] : List Expr).length + ([⟨some kn, e, kp⟩] : List Keyword).length + (if ([⟨some kn, e, kp⟩] : List Keyword).isEmpty then 0 else 1) < 30)) = true := by
 have h1 : (backTo pos (starEach ([] : List Expr) env)).all (fun x => !x.1) = true := rfl
 have h2 : (backToKw pos (keywordEach [⟨some kn, e, kp⟩] env)).all (fun x => x.1.isSome) = true := rfl
 rw [h1, h2]
 simp
theorem kw_names {env : Env} {kn : Str} {kp pos : Pos} {e : Expr} : (backToKw pos (keywordEach [⟨some kn, e, kp⟩] env)).filterMap (·.1) = [kn] := rfl
theorem kw_any {env : Env} {kn : Str} {kp pos : Pos} {e : Expr} : (backToKw pos (keywordEach [⟨some kn, e, kp⟩] env)).any (·.1.isNone) = false := rfl
theorem kw_all {env : Env} {kn : Str} {kp pos : Pos} {e : Expr} : (backToKw pos (keywordEach [⟨some kn, e, kp⟩] env)).all (·.1.isSome) = true := rfl
theorem kw_form {env : Env} {kn : Str} {kp pos : Pos} {e : Expr} : methodCallForm (([] : List Expr).length + ([⟨some kn, e, kp⟩] : List Keyword).length) (backTo pos (starEach ([] : List Expr) env)) (backToKw pos (keywordEach [⟨some kn, e, kp⟩] env)) = true := kw_few (cp := kp)
theorem we_sort_rev {o : Expr} {name kn : Str} {apos pos kp cp : Pos} {ck : Nat} (hname : name = "sort") (hkn : kn = "reverse") (hb : Base o name) (hline : (apos.endLine == pos.line) = true)
  (h : WE C Γ loc sto o (fun v l t => ∃ k ts, v = .lst k ∧ t[k]? = some (.list (ts.map V.tup)) ∧ Rowy ts ∧ ts.length < 64 ∧ ∀ out : List (List V), out.Perm ts → Ord true out → Q .none l (t.set k (.list (out.map V.tup)))) X) :
  WE C Γ loc sto (.Call (.Attribute o name apos) [] [⟨some kn, .Constant (.bool true) ck cp, kp⟩] pos) Q X := fun s as F => by
 subst hname; subst hkn
 rw [arm_eval_Call, hb]
 refine wpAny_bind (wpAny_mono (h s as F) ?_ fun _ _ h => h)
 rintro ov s1 ⟨as1, loc1, sto1, v, P1, r1, k, ts, rfl, hk, hr, h64, hq⟩
 refine un_3_4 (lst_at P1.rep r1 hk) fun a its n e344x3 ea e ri => ?_; subst e344x3
 have hT : s1.TypeIs (.ref a) "list" := ⟨_, e, rfl⟩
 refine wpAny_bind (wpAny_standAt ?_)
 have hpos : methodCallPos true o Γ.env apos pos = pure pos := by unfold methodCallPos; simp [hline]
 unfold methodCall
 rw [kw_form]
 refine wpAny_bind (wpAny_holding (getMethod_builtin hT PySem.F.plainAttrs_list slot_list_sort PySem.F.type_list_sort (fun b q => by cases q; exact ⟨_, e, rfl⟩) ?_))
 refine wpAny_bind (wpAny_of_eq hpos ?_)
 refine callWith_builtin_kwB (by rfl) kw_any (evalArgs_kw_nil kw_all ?_)
 rw [kw_names]
 refine kws_cons (wpAny_pure (a := Value.bool true) (kws_nil ?_))
 have key : wpAny (model C.prog C.w) Γ.A (call (.builtin "list.sort") [.ref a] [("reverse", .bool true)]) (OkP C Γ as s VR Q) (ErP C Γ as s X) s1 := by
  refine wpAny_call_entry_kw slot_list_sort hT entry_list_sort ?_ (args_list_sort_rev (.ref a) (.bool true))
  exact sort_store P1.rep ea e ri hr h64 fun out hp ho s' P => ⟨.none, rfl, as1, loc1, _, .none, P1.trans P, vr_none, hq out hp ho⟩
 exact key
end
end Mine
namespace Mine
open PySem PySem.W PyProof.Rows PySem.Calls
open PySem.SeqAt
open Builtin Builtin.Str
theorem sEq_strs {l m : List (List Nat)} : lEq (l.map V.str) (m.map V.str) = (l == m) := by
 unfold lEq
 induction l generalizing m with
 | nil => cases m <;> simp
 | cons a l ih =>
  cases m with
  | nil => simp
  | cons b m =>
   have := @ih m
   simp only [List.map_cons, List.zip_cons_cons, List.all_cons, List.length_cons, List.length_map] at this ⊢
   show ((l.length + 1 == m.length + 1) && (sEq (.str a) (.str b) && _)) = ((a == b) && (l == m))
   rw [← this]
   have e : (l.length + 1 == m.length + 1) = (l.length == m.length) := by simp
   rw [e]
   have e2 : sEq (.str a) (.str b) = (a == b) := rfl
   rw [e2]
   cases (a == b) <;> simp
theorem sEq_bools {l m : List Bool} : lEq (l.map V.bool) (m.map V.bool) = (l == m) := by
 unfold lEq
 induction l generalizing m with
 | nil => cases m <;> simp
 | cons a l ih =>
  cases m with
  | nil => simp
  | cons b m =>
   have := @ih m
   simp only [List.map_cons, List.zip_cons_cons, List.all_cons, List.length_cons, List.length_map] at this ⊢
   show ((l.length + 1 == m.length + 1) && (sEq (.bool a) (.bool b) && _)) = ((a == b) && (l == m))
   rw [← this]
   have e : (l.length + 1 == m.length + 1) = (l.length == m.length) := by simp
   rw [e]
   have e2 : sEq (.bool a) (.bool b) = (a == b) := rfl
   rw [e2]
   cases (a == b) <;> simp
theorem same_strs {l m : List (List Nat)} : ∀ (i : Nat) v u, (l.map V.str)[i]? = some v → (m.map V.str)[i]? = some u → SameB v u := fun i v u h1 h2 => by
 rw [List.getElem?_map] at h1 h2
 cases e1 : l[i]? with
 | none => rw [e1] at h1; cases h1
 | some a =>
  cases e2 : m[i]? with
  | none => rw [e2] at h2; cases h2
  | some b => rw [e1] at h1; rw [e2] at h2; cases h1; cases h2; exact .str a b
theorem same_bools {l m : List Bool} : ∀ (i : Nat) v u, (l.map V.bool)[i]? = some v → (m.map V.bool)[i]? = some u → SameB v u := fun i v u h1 h2 => by
 rw [List.getElem?_map] at h1 h2
 cases e1 : l[i]? with
 | none => rw [e1] at h1; cases h1
 | some a =>
  cases e2 : m[i]? with
  | none => rw [e2] at h2; cases h2
  | some b => rw [e1] at h1; rw [e2] at h2; cases h1; cases h2; exact .bool a b
section
variable {α β : Type} {C : Cst} {Γ : Fm} {loc loc' : List (Option V)} {sto : List SO} {Q : V → List (Option V) → List SO → Prop} {X : XV → List (Option V) → List SO → Prop} {QB : Bool → List (Option V) → List SO → Prop}
theorem wl_isNone (h : QB true loc sto) : WL C Γ loc sto (f2 (compareOp .Is)) [.none, .none] RT' QB X := wl2 fun s as x y F r1 r2 => by
 obtain rfl := jVA r1
 obtain rfl := jVA r2
 exact wpAny_is_self rfl ⟨as, loc, sto, true, Post.refl F, rfl, h⟩
theorem wl_usub {i : Int} (h : Q (.int (-i)) loc sto) : WL C Γ loc sto (f1 (unaryOp .USub)) [.int i] VR Q X := wl1 fun s as x F r => by
 obtain ⟨t, rfl⟩ := jTA r
 exact PyProof.Rows.neg_int ⟨as, loc, sto, _, Post.tok F (Nat.succ_pos _), vr_int, h⟩
theorem we_unary {op : UnaryOp} {e : Expr} {pos : Pos} (h : WE C Γ loc sto e (fun v l t => WL C Γ l t (f1 (unaryOp op)) [v] VR Q X) X) : WE C Γ loc sto (.UnaryOp op e pos) Q X :=
 w_then (m := eval e Γ.env) (k := unaryOp op) (fun s P E h => wpAny_UnaryOp h) (w_mono h (fun v l1 s1 q s as x R r => q s as [x] R (vrs1 r)) fun _ _ _ h => h)
theorem wl_notinS {x : List Nat} {k : Nat} {l : List (List Nat)} (hk : sto[k]? = some (.list (l.map V.str))) (h : QB (!l.any (· == x)) loc sto) : WL C Γ loc sto (f2 (compareOp .NotIn)) [.str x, .lst k] RT' QB X := wl2 fun s as v y F r1 r2 => by
 obtain ⟨t, rfl⟩ := jRA r1
 refine un_3_4 (lst_at F r2 hk) fun a its n e345x3 ea e ri => ?_; subst e345x3
 have key : ∀ (l : List (List Nat)) (ys : List Value), VRs as s.heap (l.map V.str) ys → (∀ y ∈ ys, ∃ u t, y = .str u t) ∧ ys.any (fun y => match y with | .str u _ => u.cps.toList == x | _ => false) = l.any (· == x) := by
  intro l
  induction l with
  | nil => intro ys r; unfold VRs at r; subst r; exact ⟨fun y hy => (by cases hy), rfl⟩
  | cons u l ih =>
   intro ys r
   unfold VRs at r
   refine un_2_3 (r) fun y ys e346x2 r1 r2 => ?_; (try clear r); subst e346x2
   obtain ⟨t, rfl⟩ := jRA r1
   obtain ⟨h1, h2⟩ := ih ys r2
   refine ⟨fun z hz => ?_, ?_⟩
   ·rcases List.mem_cons.mp hz with rfl | hz
    ·exact ⟨_, _, rfl⟩
    ·exact h1 z hz
   ·rw [List.any_cons, List.any_cons, h2]
 obtain ⟨h1, h2⟩ := key l its.toList ri
 refine notIn_listAt (fun y => match y with | .str u _ => u.cps.toList == x | _ => false) ⟨_, e, rfl, n, rfl⟩ (fun y hy => ?_) ?_
 ·obtain ⟨u, t', rfl⟩ := h1 y (by simpa using hy)
  have := (SeqRoads2.EqGives.str u ⟨x.toArray⟩ t' t).at Γ.A.in1 s
  simpa using this
 ·rw [← Array.any_toList, h2]
  exact ⟨as, loc, sto, _, Post.refl F, rfl, h⟩
theorem eqAt_list {A : Around} {s : Shared} {as : List Addr} {a b : Addr} {its its2 : Array Value} {n n2 : Nat} {l m : List (List Nat)} (hu : A.units < cLine) (h1 : s.heap.get? a = some { cls := .type "list", data := .seq its n }) (h2 : s.heap.get? b = some { cls := .type "list", data := .seq its2 n2 })
  (r1 : VRs as s.heap (l.map V.str) its.toList) (r2 : VRs as s.heap (m.map V.str) its2.toList) : EqAt A s (.ref a) (.ref b) (l == m) := by
 by_cases hab : a = b
 ·subst hab
  rw [h1] at h2
  cases h2
  have key : ∀ (l m : List (List Nat)) (ys : List Value), VRs as s.heap (l.map V.str) ys → VRs as s.heap (m.map V.str) ys → l = m := by
   intro l
   induction l with
   | nil =>
    intro m ys r1 r2
    unfold VRs at r1; subst r1
    cases m with
    | nil => rfl
    | cons _ _ => unfold VRs at r2; obtain ⟨_, _, q, _⟩ := r2; cases q
   | cons u l ih =>
    intro m ys r1 r2
    unfold VRs at r1
    obtain ⟨y, ys, rfl, ry, r1⟩ := r1
    cases m with
    | nil => unfold VRs at r2; cases r2
    | cons u2 m =>
     unfold VRs at r2
     obtain ⟨y2, ys2, q, ry2, r2⟩ := r2
     cases q
     obtain ⟨t, rfl⟩ := jRA ry
     obtain ⟨t2, q2⟩ := jRA ry2
     injection q2 with q2 _
     injection q2 with q2
     rw [List.toArray_inj q2, ih m ys r1 r2]
  rw [key l m _ r1 r2, beq_self_eq_true]
  exact EqAt.same _
 ·have := (rcAt_list hu h1 h2 r1 r2 same_strs).1
  rw [sEq_strs] at this
  exact EqAt.of_refs hab this
theorem wl_neT2 {a b c d : List Nat} (h : QB (!(a == c && b == d)) loc sto) : WL C Γ loc sto (f2 (compareOp .NotEq)) [.tup [.str a, .str b], .tup [.str c, .str d]] RT' QB X := wl2 fun s as x y F r1 r2 => by
 refine un_2_3 (vr_tup_inv r1) fun p its e349x2 t1 ri => ?_; subst e349x2
 refine un_2_3 (vr_tup_inv r2) fun q its2 e350x2 t2 ri2 => ?_; subst e350x2
 refine un_2_3 (vrs2_inv ri) fun x1 x2 e1 v1 v2 => ?_
 refine un_2_3 (vrs2_inv ri2) fun y1 y2 e2 u1 u2 => ?_
 have z1 : its = #[x1, x2] := by apply Array.toList_inj.mp; rw [e1]
 have z2 : its2 = #[y1, y2] := by apply Array.toList_inj.mp; rw [e2]
 subst z1; subst z2
 have := RcNeAt.tuples (A := Γ.A) (s := s) (e := fun j => if j = 0 then a == c else b == d) t1 t2 (units_ok F.ok) (fun j h1 h2 => by
  have : j = 0 ∨ j = 1 := by simp at h1; lia
  rcases this with rfl | rfl
  ·exact eqAt_sca (.str a c) v1 u1
  ·exact eqAt_sca (.str b d) v2 u2)
 refine this _ _ _ _ ⟨as, loc, sto, _, Post.refl F, rfl, ?_⟩
 have e : ((List.range (min (#[x1, x2] : Array Value).size (#[y1, y2] : Array Value).size)).all (fun j => if j = 0 then a == c else b == d) && (#[x1, x2] : Array Value).size == (#[y1, y2] : Array Value).size) = (a == c && b == d) := by
  show ((List.range 2).all (fun j => if j = 0 then a == c else b == d) && (2 == 2)) = _
  simp [List.range_succ]
 rw [e]; exact h
theorem wl_eqTL {i j k m : Nat} {a b c d : List (List Nat)} (hroom : 1 ≤ Γ.room) (h1 : sto[i]? = some (.list (a.map V.str))) (h2 : sto[j]? = some (.list (b.map V.str))) (h3 : sto[k]? = some (.list (c.map V.str))) (h4 : sto[m]? = some (.list (d.map V.str)))
  (h : QB (a == c && b == d) loc sto) : WL C Γ loc sto (f2 (compareOp .Eq)) [.tup [.lst i, .lst j], .tup [.lst k, .lst m]] RT' QB X := wl2 fun s as x y F r1 r2 => by
 refine un_2_3 (vr_tup_inv r1) fun p its e353x2 t1 ri => ?_; subst e353x2
 refine un_2_3 (vr_tup_inv r2) fun q its2 e354x2 t2 ri2 => ?_; subst e354x2
 refine un_2_3 (vrs2_inv ri) fun x1 x2 e1 v1 v2 => ?_
 refine un_2_3 (vrs2_inv ri2) fun y1 y2 e2 u1 u2 => ?_
 have z1 : its = #[x1, x2] := by apply Array.toList_inj.mp; rw [e1]
 have z2 : its2 = #[y1, y2] := by apply Array.toList_inj.mp; rw [e2]
 subst z1; subst z2
 refine un_3_4 (lst_at F v1 h1) fun a1 i1 n1 e357x3 _ g1 w1 => ?_; subst e357x3
 refine un_3_4 (lst_at F v2 h2) fun a2 i2 n2 e358x3 _ g2 w2 => ?_; subst e358x3
 refine un_3_4 (lst_at F u1 h3) fun a3 i3 n3 e359x3 _ g3 w3 => ?_; subst e359x3
 refine un_3_4 (lst_at F u2 h4) fun a4 i4 n4 e360x3 _ g4 w4 => ?_; subst e360x3
 have hu : Γ.A.in1.units < cLine := by
  have := F.ok.units
  show Γ.A.units + 1 < cLine
  lia
 have := RcAt.tuples (A := Γ.A) (s := s) (e := fun j => if j = 0 then a == c else b == d) t1 t2 (units_ok F.ok) (fun j h1 h2 => by
  have : j = 0 ∨ j = 1 := by simp at h1; lia
  rcases this with rfl | rfl
  ·exact eqAt_list hu g1 g3 w1 w3
  ·exact eqAt_list hu g2 g4 w2 w4)
 refine this _ _ _ _ ⟨as, loc, sto, _, Post.refl F, rfl, ?_⟩
 have e : ((List.range (min (#[Value.ref a1, .ref a2] : Array Value).size (#[Value.ref a3, .ref a4] : Array Value).size)).all (fun j => if j = 0 then a == c else b == d) && (#[Value.ref a1, .ref a2] : Array Value).size == (#[Value.ref a3, .ref a4] : Array Value).size) = (a == c && b == d) := by
  show ((List.range 2).all (fun j => if j = 0 then a == c else b == d) && (2 == 2)) = _
  simp [List.range_succ]
 rw [e]; exact h
theorem join_flat : ∀ l : List Str, (Str.join ⟨#[]⟩ l).cps.toList = (l.map (·.cps.toList)).flatten
 | [] => rfl
 | [x] => by show x.cps.toList = _; simp
 | x :: y :: l => by
  have ih := join_flat (y :: l)
  show (x ++ ⟨#[]⟩ ++ Str.join ⟨#[]⟩ (y :: l)).cps.toList = _
  simp only [Str.cps_append, Array.toList_append]
  rw [ih]; simp
theorem strs_of {as : List Addr} {h : Heap} : ∀ {l : List (List Nat)} {ys : List Value}, VRs as h (l.map V.str) ys → ∃ p : List (Str × Tok), ys = strValues p ∧ p.map (·.1.cps.toList) = l
 | [], ys, r => by unfold VRs at r; subst r; exact ⟨[], rfl, rfl⟩
 | u :: l, ys, r => by
  unfold VRs at r
  obtain ⟨y, ys, rfl, ry, r⟩ := r
  obtain ⟨t, rfl⟩ := jRA ry
  obtain ⟨p, rfl, e⟩ := strs_of r
  exact ⟨(⟨u.toArray⟩, t) :: p, rfl, by rw [List.map_cons, e]⟩
theorem wl_join {k : Nat} {l : List (List Nat)} (hk : sto[k]? = some (.list (l.map V.str))) (hl : (l.map List.length).sum ≤ 100000) (h : Q (.str l.flatten) loc sto) : WL C Γ loc sto (callF (.builtin "str.join")) [.str [], .lst k] VR Q X := fun s as xs F r => by
 refine un_2_3 (vrs2_inv r) fun x y e363x2 r1 r2 => ?_; subst e363x2
 obtain ⟨t, rfl⟩ := jRA r1
 refine un_3_4 (lst_at F r2 hk) fun a its n e364x3 ea e ri => ?_; subst e364x3
 refine un_1_2 (strs_of ri) fun p hp hpl => ?_
 have hL : s.heap.IsList a (strValues p).toArray := by rw [← hp, Array.toArray_toList]; exact ⟨_, e, rfl, n, rfl⟩
 have hsum : ∀ (q : List (Str × Tok)) (c : Nat), (q.map (·.1)).toArray.foldl (fun a x => a + x.length + (⟨[].toArray⟩ : Str).length) c = c + (q.map (fun z => z.1.cps.toList.length)).sum := fun q => by
  induction q with
  | nil => intro c; simp
  | cons z q ih =>
   intro c
   have := ih (c + z.1.length + 0)
   simp only [List.map_cons, List.foldl_toArray', List.foldl_cons, List.sum_cons] at this ⊢
   show List.foldl _ (c + z.1.length + 0) _ = _
   rw [this]
   have : z.1.length = z.1.cps.toList.length := by simp [Str.length]
   lia
 have hfit : tooLong ((p.map (·.1)).toArray.foldl (· + ·.length + (⟨[].toArray⟩ : Str).length) 0) = false := by
  unfold tooLong
  rw [hsum, sizeLine16]
  have : (p.map (fun z => z.1.cps.toList.length)).sum = (l.map List.length).sum := by rw [← hpl, List.map_map]; rfl
  rw [this]
  exact decide_eq_false (by lia)
 have hjo : (Str.join ⟨[].toArray⟩ (p.map (·.1))).cps.toList = l.flatten := by
  rw [← hpl]; exact (join_flat _).trans (by rw [List.map_map]; rfl)
 have fin : ∀ (t' : Tok) k', 0 < k' → OkP C Γ as s VR Q (.str (Txt.join ⟨[].toArray⟩ (p.map (·.1))) t') { s with toks := k' } := fun t' k' hk' => by
  refine ⟨as, loc, sto, .str l.flatten, Post.tok F hk', ?_, h⟩
  rw [← hjo, ← StrLaws.glued_eq_join]
  exact vr_str
 refine call_meets PySem.F.slot_str_join (typeIs_str _ _ _) PySem.F.entry_str_join (PySem.F.args_str_join_2 _ _) (meets_str_join_list _ t a p hfit) ⟨hL, ?_⟩
 have hlen := joinFit_length hfit
 match p, hlen, fin with
 | [], hlen, fin => exact ⟨hlen, fin _ _ (Nat.succ_pos _)⟩
 | [q], hlen, fin => exact fin q.2 s.toks F.g.toks
 | _ :: _ :: _, hlen, fin => exact ⟨hlen, fin _ _ (Nat.succ_pos _)⟩
theorem wl_iter {k : Nat} {items : List V} (hk : sto[k]? = some (.list items)) (h : Q (.lst sto.length) loc (sto ++ [.iter k 0])) : WL C Γ loc sto (callF (.builtin "iter")) [.lst k] VR Q X := fun s as xs F r => by
 refine un_1_2 (vrs1_inv r) fun x e366x1 r1 => ?_; subst e366x1
 refine un_3_4 (lst_at F r1 hk) fun a its n e367x3 ea e ri => ?_; subst e367x3
 refine call_function_entry (by decide +kernel) (by decide +kernel) kdk_entry_iter (kdk_args_iter _) ?_
 unfold Builtin.«iter»
 refine wpAny_bind (m := someArgs "iter" 1 2 _) (wpAny_of_eq (a := [Value.ref a]) (by first | rfl | kernel_rfl!) ?_)
 show wpAny _ _ (pyIter (.ref a) >>= _) _ _ _
 refine wpAny_bind (wpAny_pyIter_list ⟨_, e, rfl, n, rfl⟩ (wpAny_pure ⟨_, rfl, ?_⟩))
 refine ⟨as ++ [s.heap.objs.size], loc, _, .lst sto.length, Post.alloc (t := s.toks) (so := .iter k 0) F (Ext.push _ _) F.g.toks (get_size_none _) ⟨a, ?_, _, Heap.get?_push_size _ rfl, rfl, rfl⟩, vr_lst ?_, h⟩
 ·rw [List.getElem?_append_left (List.getElem?_eq_some_iff.mp ea).1]; exact ea
 ·rw [← F.g.len, List.getElem?_append_right (Nat.le_refl _)]; simp
end
end Mine
namespace Mine
open PySem PySem.W PyProof.Rows PySem.Calls
inductive Ex2 {α β : Type} (p : α → β → Prop) : Prop | mk (a : α) (b : β) (h : p a b)
inductive Ex3 {α β γ : Type} (p : α → β → γ → Prop) : Prop | mk (a : α) (b : β) (c : γ) (h : p a b c)
inductive Ex4 {α β γ δ : Type} (p : α → β → γ → δ → Prop) : Prop | mk (a : α) (b : β) (c : γ) (d : δ) (h : p a b c d)
inductive Ex5 {α β γ δ ε : Type} (p : α → β → γ → δ → ε → Prop) : Prop | mk (a : α) (b : β) (c : γ) (d : δ) (e : ε) (h : p a b c d e)
inductive Ex6 {α β γ δ ε ζ : Type} (p : α → β → γ → δ → ε → ζ → Prop) : Prop | mk (a : α) (b : β) (c : γ) (d : δ) (e : ε) (f : ζ) (h : p a b c d e f)
inductive Ex7 {α β γ δ ε ζ η : Type} (p : α → β → γ → δ → ε → ζ → η → Prop) : Prop | mk (a : α) (b : β) (c : γ) (d : δ) (e : ε) (f : ζ) (g : η) (h : p a b c d e f g)
inductive P1 {α : Type} (f : α → List (Option V)) (S : α → List SO → Prop) (o : Out) (l : List (Option V)) (t : List SO) : Prop | mk (h0 : o = .next) (a : α) (hl : l = f a) (h : S a t)
inductive P2 {α β : Type} (f : α → β → List (Option V)) (S : α → β → List SO → Prop) (o : Out) (l : List (Option V)) (t : List SO) : Prop | mk (h0 : o = .next) (a : α) (b : β) (hl : l = f a b) (h : S a b t)
inductive P3 {α β γ : Type} (f : α → β → γ → List (Option V)) (S : α → β → γ → List SO → Prop) (o : Out) (l : List (Option V)) (t : List SO) : Prop | mk (h0 : o = .next) (a : α) (b : β) (c : γ) (hl : l = f a b c) (h : S a b c t)
inductive P5 {α β γ δ ε : Type} (f : α → β → γ → δ → ε → List (Option V)) (S : α → β → γ → δ → ε → List SO → Prop) (o : Out) (l : List (Option V)) (t : List SO) : Prop | mk (h0 : o = .next) (a : α) (b : β) (c : γ) (d : δ) (e : ε) (hl : l = f a b c d e) (h : S a b c d e t)
inductive I4 {α β γ δ : Type} (f : α → β → γ → δ → List (Option V)) (S : α → β → γ → δ → List SO → Prop) (l : List (Option V)) (t : List SO) : Prop | mk (a : α) (b : β) (c : γ) (d : δ) (hl : l = f a b c d) (h : S a b c d t)
inductive I5 {α β γ δ ε : Type} (f : α → β → γ → δ → ε → List (Option V)) (S : α → β → γ → δ → ε → List SO → Prop) (l : List (Option V)) (t : List SO) : Prop | mk (a : α) (b : β) (c : γ) (d : δ) (e : ε) (hl : l = f a b c d e) (h : S a b c d e t)
theorem mono_is {α β : Type} {C : Cst} {Γ : Fm} {loc loc0 : List (Option V)} {sto sto0 : List SO} {m : Sem α} {R : List Addr → Heap → β → α → Prop} {v0 : β} {K : α → Shared → Prop} {E : Value → Shared → Prop} {s : Shared} {as : List Addr}
  (h : W C Γ loc sto m R (fun b' l' t' => b' = v0 ∧ l' = loc0 ∧ t' = sto0) (fun _ _ _ => False)) (F : RepF C Γ as loc sto s) (k : ∀ x s' as', Post C Γ as s as' loc0 sto0 s' → R as' s'.heap v0 x → K x s') : wpAny (model C.prog C.w) Γ.A m K E s := by
 refine wpAny_mono (h s as F) (fun x s' q => ?_) (fun e s' q => ?_)
 ·obtain ⟨as', l, t, b, P, r, e⟩ := q
  refine un_0_3 (e) fun e369x0 e369x1 e369x2 => ?_; (try clear e); subst e369x0; subst e369x1; subst e369x2
  exact k x s' as' P r
 ·obtain ⟨_, _, _, _, _, _, hF⟩ := q
  exact hF.elim
theorem ux_2_3 {α β : Type} {P0 P1 P2 : α → β → Prop} {G : Prop} (h : Ex2 fun a0 a1 => P0 a0 a1 ∧ P1 a0 a1 ∧ P2 a0 a1) (q : ∀ a0 a1, P0 a0 a1 → P1 a0 a1 → P2 a0 a1 → G) : G := by
 cases h with | mk a0 a1 e => exact q a0 a1 e.1 e.2.1 e.2.2
theorem ux_3_4 {α β γ : Type} {P0 P1 P2 P3 : α → β → γ → Prop} {G : Prop} (h : Ex3 fun a0 a1 a2 => P0 a0 a1 a2 ∧ P1 a0 a1 a2 ∧ P2 a0 a1 a2 ∧ P3 a0 a1 a2) (q : ∀ a0 a1 a2, P0 a0 a1 a2 → P1 a0 a1 a2 → P2 a0 a1 a2 → P3 a0 a1 a2 → G) : G := by
 cases h with | mk a0 a1 a2 e => exact q a0 a1 a2 e.1 e.2.1 e.2.2.1 e.2.2.2
theorem ux_3_6 {α β γ : Type} {P0 P1 P2 P3 P4 P5 : α → β → γ → Prop} {G : Prop} (h : Ex3 fun a0 a1 a2 => P0 a0 a1 a2 ∧ P1 a0 a1 a2 ∧ P2 a0 a1 a2 ∧ P3 a0 a1 a2 ∧ P4 a0 a1 a2 ∧ P5 a0 a1 a2) (q : ∀ a0 a1 a2, P0 a0 a1 a2 → P1 a0 a1 a2 → P2 a0 a1 a2 → P3 a0 a1 a2 → P4 a0 a1 a2 → P5 a0 a1 a2 → G) : G := by
 cases h with | mk a0 a1 a2 e => exact q a0 a1 a2 e.1 e.2.1 e.2.2.1 e.2.2.2.1 e.2.2.2.2.1 e.2.2.2.2.2
theorem ux_4_1 {α β γ δ : Type} {P0 : α → β → γ → δ → Prop} {G : Prop} (h : Ex4 fun a0 a1 a2 a3 => P0 a0 a1 a2 a3) (q : ∀ a0 a1 a2 a3, P0 a0 a1 a2 a3 → G) : G := by
 cases h with | mk a0 a1 a2 a3 e => exact q a0 a1 a2 a3 e
theorem ux_4_2 {α β γ δ : Type} {P0 P1 : α → β → γ → δ → Prop} {G : Prop} (h : Ex4 fun a0 a1 a2 a3 => P0 a0 a1 a2 a3 ∧ P1 a0 a1 a2 a3) (q : ∀ a0 a1 a2 a3, P0 a0 a1 a2 a3 → P1 a0 a1 a2 a3 → G) : G := by
 cases h with | mk a0 a1 a2 a3 e => exact q a0 a1 a2 a3 e.1 e.2
theorem ux_4_5 {α β γ δ : Type} {P0 P1 P2 P3 P4 : α → β → γ → δ → Prop} {G : Prop} (h : Ex4 fun a0 a1 a2 a3 => P0 a0 a1 a2 a3 ∧ P1 a0 a1 a2 a3 ∧ P2 a0 a1 a2 a3 ∧ P3 a0 a1 a2 a3 ∧ P4 a0 a1 a2 a3) (q : ∀ a0 a1 a2 a3, P0 a0 a1 a2 a3 → P1 a0 a1 a2 a3 → P2 a0 a1 a2 a3 → P3 a0 a1 a2 a3 → P4 a0 a1 a2 a3 → G) : G := by
 cases h with | mk a0 a1 a2 a3 e => exact q a0 a1 a2 a3 e.1 e.2.1 e.2.2.1 e.2.2.2.1 e.2.2.2.2
theorem wl_hide {α β : Type} {C : Cst} {Γ : Fm} {loc : List (Option V)} {sto : List SO} {f : List Value → Sem α} {args : List V} {R : List Addr → Heap → β → α → Prop} {P : β → List (Option V) → List SO → Prop} {X : XV → List (Option V) → List SO → Prop}
  (h : ∀ Q, (∀ v l t, P v l t → Q v l t) → WL C Γ loc sto f args R Q X) : WL C Γ loc sto f args R P X := h P fun _ _ _ h => h
theorem ws_hide {C : Cst} {Γ : Fm} {loc : List (Option V)} {sto : List SO} {ss : List Stmt} {P : Out → List (Option V) → List SO → Prop} {X : XV → List (Option V) → List SO → Prop}
  (h : ∀ Q, (∀ v l t, P v l t → Q v l t) → WS C Γ loc sto ss Q X) : WS C Γ loc sto ss P X := h P fun _ _ _ h => h
theorem clos_env {scope S : Scope} {cl cs : List (Str × Addr)} {env : Env} (hs : env.scope = S) (hc : env.cells = cs) (h : ∀ e : Env, e.scope = S → e.cells = cs → closureFor scope e = pure cl) : closureFor scope env = pure cl := h env hs hc
theorem clos_all {scope : Scope} {cl : List (Str × Addr)} {env : Env} (h : ∀ e : Env, closureFor scope e = pure cl) : closureFor scope env = pure cl := h env
noncomputable abbrev Is {β : Type} (b : β) (l : List (Option V)) (t : List SO) : β → List (Option V) → List SO → Prop := fun b' l' t' => b' = b ∧ l' = l ∧ t' = t
noncomputable abbrev No : XV → List (Option V) → List SO → Prop := fun _ _ _ => False
section
variable {α β : Type} {C : Cst} {Γ : Fm} {loc loc1 loc2 loc3 loc4 loc5 : List (Option V)} {sto sto1 sto2 sto3 sto4 sto5 : List SO} {X : XV → List (Option V) → List SO → Prop}
theorem W.use {m : Sem α} {R : List Addr → Heap → β → α → Prop} {b : β} {Q : β → List (Option V) → List SO → Prop} (h : W C Γ loc sto m R (Is b loc1 sto1) No) (q : Q b loc1 sto1) : W C Γ loc sto m R Q X :=
 w_mono h (fun _ _ _ e => by obtain ⟨rfl, rfl, rfl⟩ := e; exact q) fun _ _ _ h => h.elim
theorem WL.use {f : List Value → Sem α} {args : List V} {R : List Addr → Heap → β → α → Prop} {b : β} {Q : β → List (Option V) → List SO → Prop} (h : WL C Γ loc sto f args R (Is b loc1 sto1) No) (q : Q b loc1 sto1) : WL C Γ loc sto f args R Q X := fun s as xs F r =>
 wpAny_mono (h s as xs F r) (fun _ _ ⟨a, b', c, d, e, f, g⟩ => by obtain ⟨rfl, rfl, rfl⟩ := g; exact ⟨a, _, _, _, e, f, q⟩) fun _ _ ⟨_, _, _, _, _, _, g⟩ => g.elim
noncomputable abbrev EE (C : Cst) (Γ : Fm) (loc : List (Option V)) (sto : List SO) (e : Expr) (v : V) (loc' : List (Option V)) (sto' : List SO) : Prop := WE C Γ loc sto e (Is v loc' sto') No
noncomputable abbrev ET (C : Cst) (Γ : Fm) (loc : List (Option V)) (sto : List SO) (e : Expr) (v : Bool) (loc' : List (Option V)) (sto' : List SO) : Prop := WT C Γ loc sto e (Is v loc' sto') No
noncomputable abbrev EL (C : Cst) (Γ : Fm) (loc : List (Option V)) (sto : List SO) (f : List Value → Sem Value) (args : List V) (v : V) (loc' : List (Option V)) (sto' : List SO) : Prop := WL C Γ loc sto f args VR (Is v loc' sto') No
noncomputable abbrev EB (C : Cst) (Γ : Fm) (loc : List (Option V)) (sto : List SO) (f : List Value → Sem Value) (args : List V) (v : Bool) (loc' : List (Option V)) (sto' : List SO) : Prop := WL C Γ loc sto f args RT' (Is v loc' sto') No
noncomputable abbrev EU (C : Cst) (Γ : Fm) (loc : List (Option V)) (sto : List SO) (f : List Value → Sem Unit) (args : List V) (loc' : List (Option V)) (sto' : List SO) : Prop := WL C Γ loc sto f args RU (Is () loc' sto') No
noncomputable abbrev EA (C : Cst) (Γ : Fm) (loc : List (Option V)) (sto : List SO) (pos : Pos) (es : List Expr) (vs : List V) (loc' : List (Option V)) (sto' : List SO) : Prop := W C Γ loc sto (spliced (backTo pos (starEach es Γ.env))) VRs (Is vs loc' sto') No
noncomputable abbrev E1 (C : Cst) (Γ : Fm) (loc : List (Option V)) (sto : List SO) (st : Stmt) (o : Out) (loc' : List (Option V)) (sto' : List SO) : Prop := W1 C Γ loc sto st (Is o loc' sto') No
noncomputable abbrev ES (C : Cst) (Γ : Fm) (loc : List (Option V)) (sto : List SO) (ss : List Stmt) (o : Out) (loc' : List (Option V)) (sto' : List SO) : Prop := WS C Γ loc sto ss (Is o loc' sto') No
theorem jO {l r : Expr} {op : Operator} {pos : Pos} {a b v : V} (h1 : EE C Γ loc sto l a loc1 sto1) (h2 : EE C Γ loc1 sto1 r b loc2 sto2) (h3 : EL C Γ loc2 sto2 (f2 (binaryOp op)) [a, b] v loc3 sto3) : EE C Γ loc sto (.BinOp l op r pos) v loc3 sto3 :=
 we_binop (h1.use (h2.use h3))
theorem ee_cmp {l r : Expr} {op : CmpOp} {pos : Pos} {a b : V} {v : Bool} (hm : behindInMarks op r = false) (h1 : EE C Γ loc sto l a loc1 sto1) (h2 : EE C Γ loc1 sto1 r b loc2 sto2) (h3 : EB C Γ loc2 sto2 (f2 (compareOp op)) [a, b] v loc3 sto3) : EE C Γ loc sto (.Compare l [op] [r] pos) (.bool v) loc3 sto3 :=
 we_cmp hm (h1.use (h2.use (wl_rt (h3.use ⟨rfl, rfl, rfl⟩))))
theorem jR {l r : Expr} {op : CmpOp} {pos : Pos} {a b : V} {v : Bool} (hm : behindInMarks op r = false) (h1 : EE C Γ loc sto l a loc1 sto1) (h2 : EE C Γ loc1 sto1 r b loc2 sto2) (h3 : EB C Γ loc2 sto2 (f2 (compareOp op)) [a, b] v loc3 sto3) : ET C Γ loc sto (.Compare l [op] [r] pos) v loc3 sto3 :=
 wt_cmp hm (h1.use (h2.use h3))
theorem et_plain {e : Expr} {v : V} {b : Bool} (he : ∀ env whole, isTrue e env whole = (do let v ← whole; standAt e.pos; holding [v] (truthy v))) (h1 : EE C Γ loc sto e v loc1 sto1) (h2 : WL C Γ loc1 sto1 (f1 truthy) [v] RT (Is b loc2 sto2) No) : ET C Γ loc sto e b loc2 sto2 :=
 wt_plain he (h1.use h2)
theorem et_not {e : Expr} {pos : Pos} {b : Bool} (h : ET C Γ loc sto e b loc1 sto1) : ET C Γ loc sto (.UnaryOp .Not e pos) (!b) loc1 sto1 := wt_not (h.use ⟨rfl, rfl, rfl⟩)
theorem et_andT {e : Expr} {rest : List Expr} {pos : Pos} {b : Bool} (h : ET C Γ loc sto e true loc1 sto1) (h2 : ET C Γ loc1 sto1 (.BoolOp .And rest pos) b loc2 sto2) : ET C Γ loc sto (.BoolOp .And (e :: rest) pos) b loc2 sto2 := wt_and (h.use h2)
theorem et_andF {e : Expr} {rest : List Expr} {pos : Pos} (h : ET C Γ loc sto e false loc1 sto1) : ET C Γ loc sto (.BoolOp .And (e :: rest) pos) false loc1 sto1 := wt_and (h.use ⟨rfl, rfl, rfl⟩)
theorem et_andN {pos : Pos} : ET C Γ loc sto (.BoolOp .And [] pos) true loc sto := wt_and_nil ⟨rfl, rfl, rfl⟩
theorem et_orF {e : Expr} {rest : List Expr} {pos : Pos} {b : Bool} (h : ET C Γ loc sto e false loc1 sto1) (h2 : ET C Γ loc1 sto1 (.BoolOp .Or rest pos) b loc2 sto2) : ET C Γ loc sto (.BoolOp .Or (e :: rest) pos) b loc2 sto2 := wt_or (h.use h2)
theorem et_orT {e : Expr} {rest : List Expr} {pos : Pos} (h : ET C Γ loc sto e true loc1 sto1) : ET C Γ loc sto (.BoolOp .Or (e :: rest) pos) true loc1 sto1 := wt_or (h.use ⟨rfl, rfl, rfl⟩)
theorem et_orN {pos : Pos} : ET C Γ loc sto (.BoolOp .Or [] pos) false loc sto := wt_or_nil ⟨rfl, rfl, rfl⟩
theorem ee_ifT {test body orelse : Expr} {pos : Pos} {v : V} (h : ET C Γ loc sto test true loc1 sto1) (h2 : EE C Γ loc1 sto1 body v loc2 sto2) : EE C Γ loc sto (.IfExp test body orelse pos) v loc2 sto2 := we_ifexp (h.use h2)
theorem ee_ifF {test body orelse : Expr} {pos : Pos} {v : V} (h : ET C Γ loc sto test false loc1 sto1) (h2 : EE C Γ loc1 sto1 orelse v loc2 sto2) : EE C Γ loc sto (.IfExp test body orelse pos) v loc2 sto2 := we_ifexp (h.use h2)
theorem ee_sub {value slice : Expr} {pos : Pos} {a b v : V} (h1 : EE C Γ loc sto value a loc1 sto1) (h2 : EE C Γ loc1 sto1 slice b loc2 sto2) (h3 : EL C Γ loc2 sto2 (f2 (subscriptTail value slice)) [a, b] v loc3 sto3) : EE C Γ loc sto (.Subscript value slice pos) v loc3 sto3 := we_sub (h1.use (h2.use h3))
noncomputable abbrev EO (C : Cst) (Γ : Fm) (loc : List (Option V)) (sto : List SO) (e : Option Expr) (v : V) (loc' : List (Option V)) (sto' : List SO) : Prop := WO C Γ loc sto e (Is v loc' sto') No
theorem jZ : EO C Γ loc sto none .none loc sto := wo_none ⟨rfl, rfl, rfl⟩
theorem jAA {e : Expr} {v : V} (h : EE C Γ loc sto e v loc1 sto1) : EO C Γ loc sto (some e) v loc1 sto1 := wo_some h
theorem jS {value : Expr} {lower upper step : Option Expr} {p pos : Pos} {a l u k v : V} (h1 : EE C Γ loc sto value a loc1 sto1) (h2 : EO C Γ loc1 sto1 lower l loc2 sto2) (h3 : EO C Γ loc2 sto2 upper u loc3 sto3) (h4 : EO C Γ loc3 sto3 step k loc4 sto4)
  (h5 : WSl C Γ loc4 sto4 value (.Slice lower upper step p) a l u k (Is v loc5 sto5) No) : EE C Γ loc sto (.Subscript value (.Slice lower upper step p) pos) v loc5 sto5 := we_sub_slice (h1.use (h2.use (h3.use (h4.use h5))))
theorem jP {pos : Pos} : EA C Γ loc sto pos [] [] loc sto := wa_nil ⟨rfl, rfl, rfl⟩
theorem jE {e : Expr} {es : List Expr} {pos : Pos} {v : V} {vs : List V} (he : starEach (e :: es) Γ.env = (false, eval e Γ.env) :: starEach es Γ.env) (h1 : EE C Γ loc sto e v loc1 sto1) (h2 : EA C Γ loc1 sto1 pos es vs loc2 sto2) : EA C Γ loc sto pos (e :: es) (v :: vs) loc2 sto2 :=
 wa_cons he (h1.use (h2.use ⟨rfl, rfl, rfl⟩))
theorem jT {es : List Expr} {k : Nat} {pos : Pos} {vs : List V} (h : EA C Γ loc sto pos es vs loc1 sto1) (hl : vs.length ≤ 1000 := by simp) : EE C Γ loc sto (.Tuple es k pos) (.tup vs) loc1 sto1 := we_tuple (h.use ⟨hl, rfl, rfl, rfl⟩)
theorem jEA {es : List Expr} {pos : Pos} {vs : List V} (h : EA C Γ loc sto pos es vs loc1 sto1) (hl : vs.length ≤ 1000 := by simp) : EE C Γ loc sto (.List es pos) (.lst sto1.length) loc1 (sto1 ++ [.list vs]) := we_list (h.use ⟨hl, rfl, rfl, rfl⟩)
theorem ee_call_m {x : Str} {p pos : Pos} {es : List Expr} {y : Value} {vs : List V} {v : V} (hp : Plain es) (hf : keeperOf y = pure .machine) (h1 : EE C Γ loc sto (.Name x p) (.raw y) loc sto) (h2 : EA C Γ loc sto pos es vs loc1 sto1) (h3 : EL C Γ loc1 sto1 (callF y) vs v loc2 sto2) : EE C Γ loc sto (.Call (.Name x p) es [] pos) v loc2 sto2 :=
 we_call_m hp hf (h1.use ⟨rfl, h2.use h3⟩)
theorem ee_call_f {x : Str} {p pos : Pos} {es : List Expr} {a : Addr} {o : Obj} {fd : FuncData} {vs : List V} {v : V} (hp : Plain es) (ho : C.h0.get? a = some o) (hd : o.data = .func fd) (h1 : EE C Γ loc sto (.Name x p) (.raw (.ref a)) loc sto) (h2 : EA C Γ loc sto pos es vs loc1 sto1) (h3 : EL C Γ loc1 sto1 (callF (.ref a)) vs v loc2 sto2) : EE C Γ loc sto (.Call (.Name x p) es [] pos) v loc2 sto2 :=
 we_call_f hp ho hd (h1.use ⟨rfl, h2.use h3⟩)
theorem ee_unary {op : UnaryOp} {e : Expr} {pos : Pos} {a v : V} (h1 : EE C Γ loc sto e a loc1 sto1) (h2 : EL C Γ loc1 sto1 (f1 (unaryOp op)) [a] v loc2 sto2) : EE C Γ loc sto (.UnaryOp op e pos) v loc2 sto2 := we_unary (h1.use h2)
theorem es_nil : ES C Γ loc sto [] .next loc sto := ws_nil ⟨rfl, rfl, rfl⟩
theorem es_next {st : Stmt} {rest : List Stmt} {o : Out} (h1 : E1 C Γ loc sto st .next loc1 sto1) (h2 : ES C Γ loc1 sto1 rest o loc2 sto2) : ES C Γ loc sto (st :: rest) o loc2 sto2 := jG (h1.use h2)
theorem es_ret {st : Stmt} {rest : List Stmt} {v : V} (h1 : E1 C Γ loc sto st (.ret v) loc1 sto1) : ES C Γ loc sto (st :: rest) (.ret v) loc1 sto1 := jG (h1.use ⟨rfl, rfl, rfl⟩)
theorem es_brk {st : Stmt} {rest : List Stmt} (h1 : E1 C Γ loc sto st .brk loc1 sto1) : ES C Γ loc sto (st :: rest) .brk loc1 sto1 := jG (h1.use ⟨rfl, rfl, rfl⟩)
theorem es_cont {st : Stmt} {rest : List Stmt} (h1 : E1 C Γ loc sto st .cont loc1 sto1) : ES C Γ loc sto (st :: rest) .cont loc1 sto1 := jG (h1.use ⟨rfl, rfl, rfl⟩)
theorem e1_ifT {test : Expr} {body orelse : List Stmt} {pos : Pos} {o : Out} (h : ET C Γ loc sto test true loc1 sto1) (h2 : ES C Γ loc1 sto1 body o loc2 sto2) : E1 C Γ loc sto (.If test body orelse pos) o loc2 sto2 := jGA (h.use h2)
theorem e1_ifF {test : Expr} {body orelse : List Stmt} {pos : Pos} {o : Out} (h : ET C Γ loc sto test false loc1 sto1) (h2 : ES C Γ loc1 sto1 orelse o loc2 sto2) : E1 C Γ loc sto (.If test body orelse pos) o loc2 sto2 := jGA (h.use h2)
theorem e1_ret {e : Expr} {pos : Pos} {v : V} (h : EE C Γ loc sto e v loc1 sto1) : E1 C Γ loc sto (.Return (some e) pos) (.ret v) loc1 sto1 := w1_ret (h.use ⟨rfl, rfl, rfl⟩)
theorem e1_brk {pos : Pos} : E1 C Γ loc sto (.Break pos) .brk loc sto := w1_brk ⟨rfl, rfl, rfl⟩
theorem e1_cont {pos : Pos} : E1 C Γ loc sto (.Continue pos) .cont loc sto := w1_cont ⟨rfl, rfl, rfl⟩
theorem jY {x : Str} {e : Expr} {pos' pos : Pos} {v : V} (hs : ∀ env, swapsWith e (some (.Name x pos')) pos.line env = pure false) (ho : ∀ c, (x, some c) ∈ Γ.sl → c ∈ Γ.own) (h : EE C Γ loc sto e v loc1 sto1) (q : SetSlot Γ.sl loc1 x v loc2) : E1 C Γ loc sto (.Assign [.Name x pos'] e pos) .next loc2 sto1 :=
 w1_assign hs ho (h.use ⟨_, q, rfl, rfl, rfl⟩)
theorem e1_aug {x : Str} {op : Operator} {e : Expr} {pos' pos : Pos} {v b r : V} (hv : Slot Γ.sl loc x v) (ho : ∀ c, (x, some c) ∈ Γ.sl → c ∈ Γ.own) (h1 : EE C Γ loc sto e b loc1 sto1) (h2 : EL C Γ loc1 sto1 (f2 (inplaceOp op)) [v, b] r loc2 sto2) (q : SetSlot Γ.sl loc2 x r loc3) : E1 C Γ loc sto (.AugAssign (.Name x pos') op e pos) .next loc3 sto2 :=
 w1_aug hv ho (h1.use (h2.use ⟨_, q, rfl, rfl, rfl⟩))
theorem e1_expr {e : Expr} {pos : Pos} {v : V} (hs : ∀ env : Env, swapsWith e none pos.line env = pure false) (h : EE C Γ loc sto e v loc1 sto1) : E1 C Γ loc sto (.Expr e pos) .next loc1 sto1 := w1_expr hs (h.use ⟨rfl, rfl, rfl⟩)
theorem e1_setitem {o i e : Expr} {pos' pos : Pos} {a b v : V} (hs : ∀ env, swapsWith e (some (.Subscript o i pos')) pos.line env = pure false) (h1 : EE C Γ loc sto e v loc1 sto1) (h2 : EE C Γ loc1 sto1 o a loc2 sto2) (h3 : EE C Γ loc2 sto2 i b loc3 sto3)
  (h4 : EU C Γ loc3 sto3 (f3 (fun o i v => setItem o i v)) [a, b, v] loc4 sto4) : E1 C Γ loc sto (.Assign [.Subscript o i pos'] e pos) .next loc4 sto4 := w1_setitem hs (h1.use (h2.use (h3.use (h4.use ⟨rfl, rfl, rfl⟩))))
theorem e1_assign_tuple {elts : List Expr} {k : Nat} {tpos pos : Pos} {e : Expr} {v : V} (hs : swapsWithSole [.Tuple elts k tpos] e pos.line Γ.env = pure false) (hw : swappedStores [.Tuple elts k tpos] e Γ.env = pure none)
  (h1 : EE C Γ loc sto e v loc1 sto1) (h2 : EU C Γ loc1 sto1 (f1 (assign (.Tuple elts k tpos) Γ.env)) [v] loc2 sto2) : E1 C Γ loc sto (.Assign [.Tuple elts k tpos] e pos) .next loc2 sto2 := w1_assign_tuple hs hw (h1.use (h2.use ⟨rfl, rfl, rfl⟩))
theorem e1_assign_swap {elts : List Expr} {k : Nat} {tpos pos : Pos} {e : Expr} {names : List Str} {vs : List V} (hs : swapsWithSole [.Tuple elts k tpos] e pos.line Γ.env = pure false) (hw : swappedStores [.Tuple elts k tpos] e Γ.env = pure (some names))
  (h1 : EE C Γ loc sto e (.tup vs) loc1 sto1) (hl : vs.length = names.length) (h2 : EU C Γ loc1 sto1 (inOrder (names.reverse.map fun n => bindName Γ.env n)) vs.reverse loc2 sto2) : E1 C Γ loc sto (.Assign [.Tuple elts k tpos] e pos) .next loc2 sto2 := w1_assign_swap hs hw (h1.use ⟨_, rfl, hl, h2.use ⟨rfl, rfl, rfl⟩⟩)
theorem eu_tuple {elts : List Expr} {k : Nat} {pos : Pos} {vs : List V} (hn : (assignEach elts Γ.env).length = vs.length) (hstar : (assignEach elts Γ.env).findIdx? (·.1) = none)
  (h : EU C Γ loc sto (inOrder ((assignEach elts Γ.env).map (·.2))) vs loc1 sto1) : EU C Γ loc sto (f1 (assign (.Tuple elts k pos) Γ.env)) [.tup vs] loc1 sto1 := wt_tuple hn hstar h
theorem eu_nil {ts : List (Value → Sem Unit)} (hts : ts = []) : EU C Γ loc sto (inOrder ts) [] loc sto := wt_nil hts ⟨rfl, rfl, rfl⟩
theorem eu_cons {t : Value → Sem Unit} {ts : List (Value → Sem Unit)} {v : V} {vs : List V} (h1 : EU C Γ loc sto (f1 t) [v] loc1 sto1) (h2 : EU C Γ loc1 sto1 (inOrder ts) vs loc2 sto2) : EU C Γ loc sto (inOrder (t :: ts)) (v :: vs) loc2 sto2 := wt_cons (h1.use h2)
theorem eu_name {x : Str} {pos : Pos} {v : V} (q : SetSlot Γ.sl loc x v loc1) (ho : ∀ c, (x, some c) ∈ Γ.sl → c ∈ Γ.own) : EU C Γ loc sto (f1 (assign (.Name x pos) Γ.env)) [v] loc1 sto := wt_name q ho ⟨rfl, rfl, rfl⟩
theorem eu_bind {x : Str} {v : V} (q : SetSlot Γ.sl loc x v loc1) (ho : ∀ c, (x, some c) ∈ Γ.sl → c ∈ Γ.own) : EU C Γ loc sto (f1 (bindName Γ.env x)) [v] loc1 sto := wt_bind q ho ⟨rfl, rfl, rfl⟩
theorem ee_meth {o : Expr} {name : Str} {apos pos : Pos} {es : List Expr} {T id : String} {v r : V} {vs : List V} (hp : Plain es) (hb : Base o name) (hn : es.length < 30) (hline : (apos.endLine == pos.line) = true)
  (pa : PlainAttrs T) (sl : PySem.Slot T name id) (ty : typeOf (.builtin id) = pure (.type "method_descriptor")) (h1 : EE C Γ loc sto o v loc1 sto1)
  (hT : ∀ as s x, RepF C Γ as loc1 sto1 s → VR as s.heap v x → s.TypeIs x T ∧ ∀ a, x = .ref a → ∃ ob, s.heap.get? a = some ob ∧ ob.dict = none)
  (h2 : EA C Γ loc1 sto1 pos es vs loc2 sto2) (h3 : EL C Γ loc2 sto2 (callF (.builtin id)) (v :: vs) r loc3 sto3) : EE C Γ loc sto (.Call (.Attribute o name apos) es [] pos) r loc3 sto3 :=
 jDA hp hb hn hline pa sl ty (h1.use ⟨hT, h2.use h3⟩)
end
end Mine
namespace Mine
open PySem PySem.W PyProof.Rows PySem.Calls
noncomputable def pw : Program := PySem.Challenge.rw_pe0286_01.row.prog
noncomputable def stB : Stmt → List Stmt | .FunctionDef _ _ b _ _ _ _ _ _ _ => b | _ => []
noncomputable def stS : Stmt → Scope | .FunctionDef _ _ _ _ _ _ s _ _ _ => s | _ => ⟨.module, [], false, false, default⟩
noncomputable def st (i : Nat) : Stmt := pw.main.body.getD i (.Pass ⟨0, 0, 0, 0⟩)
noncomputable def bd (i : Nat) : List Stmt := stB (st i)
noncomputable def sc (i : Nat) : Scope := stS (st i)
section
variable {env : Env} {es : List Expr}
theorem jB {c : Const} {k : Nat} {pos : Pos} : starEach (.Constant c k pos :: es) env = (false, eval (.Constant c k pos) env) :: starEach es env := rfl
theorem jA {x : Str} {pos : Pos} : starEach (.Name x pos :: es) env = (false, eval (.Name x pos) env) :: starEach es env := rfl
theorem jH {l r : Expr} {o : Operator} {pos : Pos} : starEach (.BinOp l o r pos :: es) env = (false, eval (.BinOp l o r pos) env) :: starEach es env := rfl
theorem jM {l : Expr} {o : UnaryOp} {pos : Pos} : starEach (.UnaryOp o l pos :: es) env = (false, eval (.UnaryOp o l pos) env) :: starEach es env := rfl
theorem jJ {f : Expr} {a : List Expr} {k : List Keyword} {pos : Pos} : starEach (.Call f a k pos :: es) env = (false, eval (.Call f a k pos) env) :: starEach es env := rfl
theorem jI {f a : Expr} {pos : Pos} : starEach (.Subscript f a pos :: es) env = (false, eval (.Subscript f a pos) env) :: starEach es env := rfl
theorem star_IfExp {a b c : Expr} {pos : Pos} : starEach (.IfExp a b c pos :: es) env = (false, eval (.IfExp a b c pos) env) :: starEach es env := rfl
theorem jK {a : List Expr} {k : Nat} {pos : Pos} : starEach (.Tuple a k pos :: es) env = (false, eval (.Tuple a k pos) env) :: starEach es env := rfl
theorem jL {a : List Expr} {pos : Pos} : starEach (.List a pos :: es) env = (false, eval (.List a pos) env) :: starEach es env := rfl
theorem star_ListComp {a : Expr} {g : List Comprehension} {s : Scope} {pos : Pos} : starEach (.ListComp a g s pos :: es) env = (false, eval (.ListComp a g s pos) env) :: starEach es env := rfl
end
theorem nsl_BinOp {l r : Expr} {o : Operator} {pos : Pos} : NoSlice (.BinOp l o r pos) := fun _ _ => rfl
theorem nsl_Name {x : Str} {pos : Pos} : NoSlice (.Name x pos) := fun _ _ => rfl
theorem nsl_Constant {c : Const} {k : Nat} {pos : Pos} : NoSlice (.Constant c k pos) := fun _ _ => rfl
theorem jN : Plain [] := fun _ _ => rfl
theorem jC {e : Expr} {es : List Expr} (h : ∀ env, starEach (e :: es) env = (false, eval e env) :: starEach es env) (hp : Plain es) : Plain (e :: es) := fun env pos => by
 rw [h]
 exact hp env pos
theorem jIA {sto : List SO} {so : SO} : (sto ++ [so])[sto.length]? = some so := by simp
noncomputable abbrev R3 {α : Sort _} {β : Sort _} {γ : Sort _} {a : α} {b : β} {c : γ} : a = a ∧ b = b ∧ c = c := ⟨rfl, rfl, rfl⟩
section
variable {C : Cst} {A : Around} {env : Env} {frs : List Env} {own : List Addr} {room : Nat} {sto : List SO} {X : XV → List (Option V) → List SO → Prop}
theorem b_mode {x : Int} {v : Int} (hv' : ([.int 8, .int 4, .int 8, .int 10, .int 8, .int 2, .int 6, .int 1, .int 12, .int 3] : List V)[((x.fdiv 54).fmod 10).toNat]? = some (.int v)) (h0 : 0 ≤ (x.fdiv 54).fmod 10) (h1 : (x.fdiv 54).fmod 10 < 2 ^ 62) :
  ES C ⟨A, env, [("x", none)], frs, own, room⟩ [some (.int x)] sto (bd 49) (.ret (.int (v * 4096 + (x.fdiv 540).fmod 4096))) [some (.int x)] (sto ++ [.list [.int 8, .int 4, .int 8, .int 10, .int 8, .int 2, .int 6, .int 1, .int 12, .int 3]]) := by
 refine es_ret ?_
 with_reducible exact (e1_ret (jO (jO (ee_sub
   (jEA (jE jB (jF R3) (jE jB (jF R3) (jE jB (jF R3) (jE jB (jF R3) (jE jB (jF R3) (jE jB (jF R3) (jE jB (jF R3) (jE jB (jF R3) (jE jB (jF R3) (jE jB (jF R3) jP)))))))))) (of_decide_eq_true rfl))
   (jO (jO (jD Slot.zero R3) (jF R3) (wl_fdiv (by decide) R3)) (jF R3) (wl_mod (by decide) R3))
   (jKA nsl_BinOp jIA h0 h1 hv' R3)) (jF R3) (wl_mul (by decide) R3))
   (jO (jO (jD Slot.zero R3) (jF R3) (wl_fdiv (by decide) R3)) (jF R3) (wl_mod (by decide) R3)) (wl_add R3)))
end
end Mine
namespace Mine
open PySem PySem.W PyProof.Rows PySem.Calls
structure Def (C : Cst) (a : Addr) (i : Nat) (ps rest : List Str) : Prop where
 fn : ∃ fd, FnAt C a fd (bd i) ps rest ∧ fd.scope = sc i ∧ ∀ (s : Shared) (xs : List Value), C.h0.StaysIn s.heap → xs.length = ps.length → BindsTo s fd ⟨xs, []⟩ (ps.zip xs)
section
variable {C : Cst} {Γ : Fm} {loc loc1 loc2 : List (Option V)} {sto sto1 sto2 : List SO} {X : XV → List (Option V) → List SO → Prop} {Q : V → List (Option V) → List SO → Prop}
theorem wl_def {a : Addr} {i : Nat} {ps rest : List Str} {args : List V} (D : Def C a i ps rest) (hroom : 1 ≤ Γ.room) (hl : ps.length = args.length)
  (h : ∀ A env frs own, env.scope = sc i → WS C ⟨A, env, ps.map (·, none) ++ rest.map (·, none), frs, own, Γ.room - 1⟩ (args.map some ++ rest.map fun _ => none) sto (bd i) (fun out _ t => ∃ v, out = .ret v ∧ Q v loc t) No) :
  WL C Γ loc sto (callF (.ref a)) args VR Q X := by
 obtain ⟨fd, f, hs, hb⟩ := D.fn
 refine wl_call (argv := args) f hroom hl (fun s as xs hk r => ⟨xs, r, hb s xs hk (r.length.trans hl.symm)⟩) fun L => ?_
 refine w_mono (h _ _ _ _ hs) (fun out l t q => ?_) fun _ _ _ h => h
 obtain ⟨v, rfl, q⟩ := q
 exact q
noncomputable abbrev ER (C : Cst) (Γ : Fm) (loc : List (Option V)) (sto : List SO) (ss : List Stmt) (v : V) (sto' : List SO) : Prop := WS C Γ loc sto ss (fun o _ t => o = .ret v ∧ t = sto') No
theorem er_ret {e : Expr} {pos : Pos} {v : V} {rest : List Stmt} (h : EE C Γ loc sto e v loc1 sto1) : ER C Γ loc sto (.Return (some e) pos :: rest) v sto1 := jG (w1_ret (h.use ⟨rfl, rfl⟩))
theorem er_next {st : Stmt} {rest : List Stmt} {v : V} (h1 : E1 C Γ loc sto st .next loc1 sto1) (h2 : ER C Γ loc1 sto1 rest v sto2) : ER C Γ loc sto (st :: rest) v sto2 := jG (h1.use h2)
theorem er_ifT {test : Expr} {body orelse rest : List Stmt} {pos : Pos} {v : V} (h : ET C Γ loc sto test true loc1 sto1) (h2 : ER C Γ loc1 sto1 body v sto2) : ER C Γ loc sto (.If test body orelse pos :: rest) v sto2 :=
 jG (jGA (h.use (w_mono h2 (fun o l t q => by obtain ⟨rfl, rfl⟩ := q; exact ⟨rfl, rfl⟩) fun _ _ _ h => h)))
theorem el_def {a : Addr} {i : Nat} {ps rest : List Str} {args : List V} {v : V} (sl : List (Str × Option Addr)) (l0 : List (Option V)) (D : Def C a i ps rest) (hroom : 1 ≤ Γ.room) (hl : ps.length = args.length)
  (h1 : ps.map (·, none) ++ rest.map (·, none) = sl) (h2 : (args.map some ++ rest.map fun _ => none) = l0)
  (h : ∀ A env frs own room, Γ.room = room + 1 → env.scope = sc i → ER C ⟨A, env, sl, frs, own, room⟩ l0 sto (bd i) v sto1) :
  EL C Γ loc sto (callF (.ref a)) args v loc sto1 :=
 wl_def D hroom hl fun A env frs own hs => by
  rw [h1, h2]
  exact w_mono (h A env frs own _ (by lia) hs) (fun o l t q => ⟨v, q.1, rfl, rfl, q.2⟩) fun _ _ _ h => h
theorem jU {i : Nat} {x : Str} {pos : Pos} {y : Value} {v : V} (hs : Γ.env.scope = sc i) (hk : (sc i).names.lookup x = some .globalImplicit) (hv : C.mg x = some y) (hr : VR [] C.h0 v y) (hd : (x == ("__debug__" : Str)) = false) : EE C Γ loc sto (.Name x pos) v loc sto :=
 we_glob (by unfold Env.kindOf; rw [hs]; exact hk) hv hr R3 hd
theorem jCA {i : Nat} {x : Str} {pos : Pos} {y : Value} (hs : Γ.env.scope = sc i) (hk : (sc i).names.lookup x = some .globalImplicit) (hm : C.mg x = none) (hv : bootBuiltins x = some y) (hn : x ≠ "__name__") (hd : (x == ("__debug__" : Str)) = false) : EE C Γ loc sto (.Name x pos) (.raw y) loc sto :=
 we_bltn (by unfold Env.kindOf; rw [hs]; exact hk) hm hv R3 hn hd
theorem jV {x : Str} {p pos : Pos} {es : List Expr} {a : Addr} {i : Nat} {ps rest : List Str} {vs : List V} {v : V} (D : Def C a i ps rest) (hp : Plain es) (h1 : EE C Γ loc sto (.Name x p) (.raw (.ref a)) loc sto) (h2 : EA C Γ loc sto pos es vs loc1 sto1) (h3 : EL C Γ loc1 sto1 (callF (.ref a)) vs v loc2 sto2) : EE C Γ loc sto (.Call (.Name x p) es [] pos) v loc2 sto2 := by
 refine un_1_2 (D.fn) fun fd f _ => ?_
 refine un_1_2 (f.at_) fun o ho hd => ?_
 exact ee_call_f hp ho hd h1 h2 h3
end
section
variable {C : Cst} {Γ : Fm} {loc : List (Option V)} {sto : List SO}
theorem c_ifmt {m : Int} (D : Def C 147 19 ["mode"] []) (hroom : 1 ≤ Γ.room) : EL C Γ loc sto (callF (.ref 147)) [.int m] (.int (Builtin.bitAnd m 61440)) loc sto := by
 refine el_def [("mode", none)] [some (.int m)] D hroom rfl rfl rfl fun A env frs own room hr hs => ?_
 refine er_ret (loc1 := [some (.int m)]) ?_
 with_reducible exact (jO (jD Slot.zero R3) (jF R3) (wl_band R3))
theorem n27a : (sc 27).names.lookup (Str.ofString "S_IFMT") = some .globalImplicit := by kernel_rfl
theorem n27b : (sc 27).names.lookup (Str.ofString "S_IFDIR") = some .globalImplicit := by kernel_rfl
theorem c_isdir {m : Int} {y : Value} (D : Def C 154 27 ["mode"] []) (D1 : Def C 147 19 ["mode"] []) (g1 : C.mg "S_IFMT" = some (.ref 147)) (g2 : C.mg "S_IFDIR" = some y) (g3 : VR [] C.h0 (.int 16384) y) (hroom : 2 ≤ Γ.room) :
  EL C Γ loc sto (callF (.ref 154)) [.int m] (.bool (Builtin.bitAnd m 61440 == 16384)) loc sto := by
 refine el_def [("mode", none)] [some (.int m)] D (by lia) rfl rfl rfl fun A env frs own room hr hs => ?_
 refine er_ret (loc1 := [some (.int m)]) ?_
 with_reducible exact (ee_cmp rfl (jV D1 (jC (fun _ => jA) jN) (jU hs n27a g1 jW (by decide)) (jE jA (jD Slot.zero R3) jP) (c_ifmt D1 (by show 1 ≤ room; lia)))
  (jU hs n27b g2 g3 (by decide)) (wl_eqI R3))
end
end Mine
namespace Mine
open PySem PySem.W PyProof.Rows PySem.Calls
section
variable {C : Cst} {Γ : Fm} {loc loc1 loc2 : List (Option V)} {sto sto1 sto2 : List SO} {X : XV → List (Option V) → List SO → Prop} {QS : Out → List (Option V) → List SO → Prop}
theorem w1_for_range {x f : Str} {px p pos fpos : Pos} {es : List Expr} {body orelse : List Stmt} {vs : List V} {a b c : Int} (hp : Plain es) (hn : EE C Γ loc sto (.Name f p) (.raw (.type "range")) loc sto) (hargs : EA C Γ loc sto pos es vs loc1 sto1) (ha : RangeArgs vs a b c) (hs : Small a b c) (ho : ∀ d, (x, some d) ∈ Γ.sl → d ∈ Γ.own)
  (Inv : Nat → List (Option V) → List SO → Prop) (i0 : Inv 0 loc1 sto1)
  (step : ∀ i l t, i < rsz a b c → Inv i l t → ∃ l2, SetSlot Γ.sl l x (.int (a + i * c)) l2 ∧ WS C Γ l2 t body (fun o l3 t3 => match o with
     | .next | .cont => Inv (i + 1) l3 t3
     | .brk => QS .next l3 t3
     | .ret v => QS (.ret v) l3 t3) No)
  (fin : ∀ l t, Inv (rsz a b c) l t → WS C Γ l t orelse QS No) : W1 C Γ loc sto (.For (.Name x px) (.Call (.Name f p) es [] pos) body orelse fpos) QS X :=
 w1_for (fun _ _ => rfl) (wit_range hp (hn.use ⟨rfl, hargs.use ⟨a, b, c, ha, hs, Inv, i0, fun _ _ _ _ _ => trivial, fun i l t hi hv => by
  refine un_1_2 (step i l t hi hv) fun l2 q h => ?_
  exact wt_name q ho h, fin⟩⟩))
theorem jFA {x : Str} {sl : List (Str × Option Addr)} {own : List Addr} (h : sl.all (fun p => p.2.isNone) = true) : ∀ d, (x, some d) ∈ sl → d ∈ own := fun d hd => by
 have := List.all_eq_true.mp h _ hd
 simp at this
end
theorem jLA {x : Str} {p : Pos} {name : Str} : Base (.Name x p) name := fun _ => rfl
theorem ee_dbl {C : Cst} {Γ : Fm} {loc loc1 : List (Option V)} {sto sto1 : List SO} {o : Expr} {k1 k2 : Nat} {p1 p2 apos pos : Pos} {x : List Nat} (hb : Base o "replace") (hline : (apos.endLine == pos.line) = true) (h : EE C Γ loc sto o (.str x) loc1 sto1) (hx : x.length ≤ 100000) :
  EE C Γ loc sto (.Call (.Attribute o (Str.ofString "replace") apos) [.Constant (.str (Str.ofString "\"")) k1 p1, .Constant (.str (Str.ofString "\"\"")) k2 p2] [] pos) (.str (StrLaws.dbl 34 x)) loc1 sto1 := by
 have e1 : (Str.ofString "\"").cps.toList = [34] := by decide
 have e2 : (Str.ofString "\"\"").cps.toList = [34, 34] := by decide
 refine we_replace (y := [34]) (z := [34, 34]) (jC (fun _ => jB) (jC (fun _ => jB) jN)) rfl hb hline rfl (by decide) (by decide) (h.use ⟨x, rfl, hx, e1 ▸ fresh_const, e2 ▸ fresh_const, ?_, rfl, rfl⟩)
 have := StrLaws.replace_double ⟨x.toArray⟩ 34
 exact congrArg V.str this
noncomputable def wr (core : List Nat) (d : Nat) (tail : List Nat) : Nat → List Nat
 | 0 => core
 | i + 1 => (Str.ofString "257 \"").cps.toList ++ StrLaws.dbl 34 (wr core d tail i) ++ (if i + 1 = d then tail else [34])
theorem q34 : (Str.ofString "\"").cps.toList = [34] := by decide
theorem q257 : (Str.ofString "257 \"").cps.toList = [50, 53, 55, 32, 34] := by decide
theorem dbl_le (c : Nat) : ∀ l : List Nat, (StrLaws.dbl c l).length ≤ 2 * l.length
 | [] => Nat.le_refl _
 | k :: r => by
  have := dbl_le c r
  unfold StrLaws.dbl
  split <;> simp only [List.length_cons] <;> lia
theorem wr_step {core tail : List Nat} {d i k : Nat} (ht : tail.length ≤ 10) (h : (wr core d tail i).length ≤ k) : (wr core d tail (i + 1)).length ≤ 2 * k + 15 := by
 have h1 := dbl_le 34 (wr core d tail i)
 have h2 : (if i + 1 = d then tail else [34]).length ≤ 10 := by split; exact ht; exact (by decide : 1 ≤ 10)
 unfold wr
 rw [q257, List.length_append, List.length_append, show ([50, 53, 55, 32, 34] : List Nat).length = 5 from rfl]
 lia
theorem wr_le {core tail : List Nat} {d : Nat} (ht : tail.length ≤ 10) (hc : core.length ≤ 100) : ∀ i, i ≤ 2 → (wr core d tail i).length ≤ 1000
 | 0, _ => Nat.le_trans hc (by decide)
 | 1, _ => Nat.le_trans (wr_step ht hc) (by decide)
 | 2, _ => Nat.le_trans (wr_step ht (wr_step ht hc)) (by decide)
 | n + 3, h => absurd h (by lia)
section
variable {C : Cst} {Γ : Fm} {loc : List (Option V)} {sto : List SO}
noncomputable abbrev sl52 : List (Str × Option Addr) := [("core", none), ("depth", none), ("tail", none), ("text", none), ("level", none)]
theorem n52a : (sc 52).names.lookup (Str.ofString "range") = some .globalImplicit := by kernel_rfl
theorem c_wrapped {core tail : List Nat} {d : Nat} (D : Def C 264 52 ["core", "depth", "tail"] ["text", "level"]) (g : C.mg "range" = none) (hroom : 1 ≤ Γ.room) (hd : d ≤ 2) (hc : core.length ≤ 100) (ht : tail.length ≤ 10) :
  EL C Γ loc sto (callF (.ref 264)) [.str core, .int d, .str tail] (.str (wr core d tail d)) loc sto := by
 refine el_def sl52 [some (.str core), some (.int d), some (.str tail), none, none] D hroom rfl rfl rfl fun A env frs own room hr hs => ?_
 refine er_next (loc1 := [some (.str core), some (.int d), some (.str tail), some (.str core), none]) (sto1 := sto) (jY (fun _ => rfl) (jFA rfl) (jD Slot.zero R3) .z3) ?_
 refine jG ?_
 with_reducible refine w1_for_range (jC (fun _ => jA) jN) (jCA hs n52a g PyProof.Rows.Boot.«range» (by decide) (by decide)) (jE jA (jD .z1 R3) jP) (.one d) ⟨by lia, by lia, .inl rfl⟩ (jFA (sl := sl52) rfl) (fun i l t => ∃ o, l = [some (.str core), some (.int d), some (.str tail), some (.str (wr core d tail i)), o] ∧ t = sto) ⟨none, rfl, rfl⟩ ?_ ?_
 ·intro i l t hi r215y4
  refine un_1_2 (r215y4) fun o e376x1 e376x2 => ?_; (try clear r215y4); subst e376x1; subst e376x2
  have hi2 : i < d := by rw [rsz_up] at hi; lia
  have hlen := wr_le (d := d) ht hc i (by lia)
  refine ⟨_, .succ .z3, ?_⟩
  have hdl := dbl_le 34 (wr core d tail i)
  have s1 : (Str.ofString "257 \"").cps.toList.length + (StrLaws.dbl 34 (wr core d tail i)).length ≤ 16777216 := by rw [q257]; show 5 + _ ≤ _; lia
  have e0 : (0 : Int) + (i : Int) * 1 = i := by lia
  rw [e0]
  by_cases hl : i + 1 = d
  ·have hq : ((i : Int) == (d : Int) - 1) = true := by rw [beq_iff_eq]; lia
   have s2 : ((Str.ofString "257 \"").cps.toList ++ StrLaws.dbl 34 (wr core d tail i)).length + tail.length ≤ 16777216 := by rw [q257, List.length_append]; show 5 + _ + _ ≤ _; lia
   have ew : wr core d tail (i + 1) = (Str.ofString "257 \"").cps.toList ++ StrLaws.dbl 34 (wr core d tail i) ++ tail := by rw [wr, if_pos hl]
   refine W.use (sto1 := t) (loc1 := [some (.str core), some (.int d), some (.str tail), some (.str ((Str.ofString "257 \"").cps.toList ++ StrLaws.dbl 34 (wr core d tail i) ++ tail)), some (.int i)]) (b := Out.next) ?_ ⟨_, by rw [ew], rfl⟩
   with_reducible exact es_next (jY (fun _ => rfl) (jFA (sl := sl52) rfl) (jO (jO (jQ R3) (ee_dbl jLA rfl (jD .z3 R3) (Nat.le_trans hlen (by decide))) (jNA s1 R3))
    (ee_ifT (jR rfl (jD .z4 R3) (jO (jD .z1 R3) (jF R3) (wl_sub R3)) (wl_eqI ⟨hq, rfl, rfl⟩)) (jD .z2 R3)) (jNA s2 R3)) .z3) es_nil
  ·have hq : ((i : Int) == (d : Int) - 1) = false := by rw [beq_eq_false_iff_ne]; lia
   have s2 : ((Str.ofString "257 \"").cps.toList ++ StrLaws.dbl 34 (wr core d tail i)).length + (Str.ofString "\"").cps.toList.length ≤ 16777216 := by rw [q257, q34, List.length_append]; show 5 + _ + 1 ≤ _; lia
   have ew : wr core d tail (i + 1) = (Str.ofString "257 \"").cps.toList ++ StrLaws.dbl 34 (wr core d tail i) ++ (Str.ofString "\"").cps.toList := by rw [wr, if_neg hl, q34]
   refine W.use (sto1 := t) (loc1 := [some (.str core), some (.int d), some (.str tail), some (.str ((Str.ofString "257 \"").cps.toList ++ StrLaws.dbl 34 (wr core d tail i) ++ (Str.ofString "\"").cps.toList)), some (.int i)]) (b := Out.next) ?_ ⟨_, by rw [ew], rfl⟩
   with_reducible exact es_next (jY (fun _ => rfl) (jFA (sl := sl52) rfl) (jO (jO (jQ R3) (ee_dbl jLA rfl (jD .z3 R3) (Nat.le_trans hlen (by decide))) (jNA s1 R3))
    (ee_ifF (jR rfl (jD .z4 R3) (jO (jD .z1 R3) (jF R3) (wl_sub R3)) (wl_eqI ⟨hq, rfl, rfl⟩)) (jQ R3)) (jNA s2 R3)) .z3) es_nil
 ·intro l t r216y2
  refine un_1_2 (r216y2) fun o e377x1 e377x2 => ?_; (try clear r216y2); subst e377x1; subst e377x2
  have e : rsz 0 d 1 = d := by rw [rsz_up]; lia
  rw [e]
  refine ws_nil ?_
  refine er_ret (loc1 := [some (.str core), some (.int d), some (.str tail), some (.str (wr core d tail d)), o]) ?_
  with_reducible exact jD .z3 R3
end
end Mine
namespace Mine
open PySem PySem.W PyProof.Rows PySem.Calls
noncomputable abbrev bI (m e : Int) : Int := (m.fdiv (2 ^ e.toNat)).fmod 2
noncomputable abbrev lSs : List Nat := (Str.ofString "Ss").cps.toList
noncomputable abbrev lTt : List Nat := (Str.ofString "Tt").cps.toList
noncomputable abbrev lrwx : List Nat := (Str.ofString "-rwx").cps.toList
noncomputable abbrev lkind : List Nat := (Str.ofString "?pc?d?b?-?l?s???").cps.toList
noncomputable abbrev ssT : List (List Nat) := [lSs, lSs, lTt]
noncomputable def sgStep (m : Int) (i : Nat) : List Nat :=
 if i % 3 = 2 ∧ bI m (11 - (i : Int).fdiv 3) = 1 then [(ssT.getD (i / 3) []).getD (bI m (8 - i)).toNat 0]
 else [lrwx.getD (((i : Int).fmod 3 + 1) * bI m (8 - i)).toNat 0]
noncomputable def sg (m : Int) : Nat → List Nat
 | 0 => [lkind.getD (m.fdiv 4096).toNat 0]
 | i + 1 => sg m i ++ sgStep m i
theorem sg_len (m : Int) : ∀ i, (sg m i).length = i + 1
 | 0 => rfl
 | i + 1 => by
  unfold sg sgStep
  rw [List.length_append, sg_len m i]
  split <;> rfl
theorem bI_cases (m e : Int) : bI m e = 0 ∨ bI m e = 1 := by
 unfold bI
 rw [Int.fmod_eq_emod_of_nonneg _ (by lia)]
 lia
theorem pow_small {e : Int} (h : 0 ≤ e ∧ e ≤ 11) : (0 : Int) < 2 ^ e.toNat ∧ (2 : Int) ^ e.toNat < 1073741824 := by
 have h1 : e.toNat ≤ 11 := by lia
 refine ⟨Int.pow_pos (by lia), ?_⟩
 have h2 : (2 : Nat) ^ e.toNat ≤ 2 ^ 11 := Nat.pow_le_pow_right (by lia) h1
 have h3 : ((2 : Nat) ^ e.toNat : Int) ≤ ((2 ^ 11 : Nat) : Int) := by exact_mod_cast h2
 have h4 : ((2 : Int) ^ e.toNat) = ((2 ^ e.toNat : Nat) : Int) := by push_cast; rfl
 lia
theorem ss_get : ∀ i : Fin 9, ssT[((i.val : Int).fdiv 3).toNat]? = some (ssT.getD (i.val / 3) []) ∧ (ssT.getD (i.val / 3) []).length = 2 := by decide +kernel
theorem fm3 : ∀ i : Fin 9, (i.val : Int).fmod 3 = ((i.val % 3 : Nat) : Int) ∧ 0 ≤ (i.val : Int).fdiv 3 ∧ (i.val : Int).fdiv 3 ≤ 2 := by decide +kernel
theorem get_of {l : List Nat} {j : Nat} (h : j < l.length) : l[j]? = some (l.getD j 0) := by simp [h]
section
variable {C : Cst} {Γ : Fm} {loc : List (Option V)} {sto : List SO}
noncomputable abbrev sl50 : List (Str × Option Addr) := [("mode", none), ("text", none), ("k", none), ("bit", none), ("set_bit", none)]
theorem n50a : (sc 50).names.lookup (Str.ofString "range") = some .globalImplicit := by kernel_rfl
theorem c_signs {m : Int} (D : Def C 250 50 ["mode"] ["text", "k", "bit", "set_bit"]) (g : C.mg "range" = none) (hroom : 1 ≤ Γ.room) (h0 : 0 ≤ m) (h1 : m < 65536) :
  WL C Γ loc sto (callF (.ref 250)) [.int m] VR (fun v l t => (v = .str (sg m 9) ∧ l = loc) ∧ ∃ g, t = sto ++ g) No := by
 refine wl_def D hroom rfl fun A env frs own hs => ?_
 have hm : 0 ≤ m.fdiv 4096 ∧ m.fdiv 4096 < 16 := by
  have e := Int.fdiv_eq_ediv_of_nonneg m (b := 4096) (by lia)
  lia
 have hk : lkind[(m.fdiv 4096).toNat]? = some (lkind.getD (m.fdiv 4096).toNat 0) := get_of (by rw [show lkind.length = 16 from by decide]; lia)
 show WS C ⟨A, env, sl50, frs, own, Γ.room - 1⟩ [some (.int m), none, none, none, none] sto (bd 50) _ No
 refine jG (W.use (loc1 := [some (.int m), some (.str (sg m 0)), none, none, none]) (sto1 := sto) (b := Out.next) ?_ ?_)
 ·with_reducible exact jY (fun _ => rfl) (jFA (sl := sl50) rfl) (ee_sub (jQ R3) (jO (jD .zero R3) (jF R3) (wl_fdiv (by decide) R3)) (wl_getS nsl_BinOp hm.1 (by lia) hk R3)) .z1
 ·refine jG ?_
  with_reducible refine w1_for_range (jC (fun _ => jB) jN) (jCA hs n50a g PyProof.Rows.Boot.«range» (by decide) (by decide)) (jE jB (jF R3) jP) (.one 9) ⟨by decide, by decide, .inl rfl⟩ (jFA (sl := sl50) rfl) (fun i l t => Ex4 fun o1 o2 o3 g => l = [some (.int m), some (.str (sg m i)), o1, o2, o3] ∧ t = sto ++ g) ⟨none, none, none, [], rfl, by simp⟩ ?_ ?_
  ·intro i l t hi r217y4
   refine ux_4_2 (r217y4) fun o1 o2 o3 gg e378x4 e378x5 => ?_; (try clear r217y4); subst e378x4; subst e378x5
   have hi2 : i < 9 := by rw [rsz_up] at hi; lia
   have e0 : (0 : Int) + (i : Int) * 1 = i := by lia
   rw [e0]
   refine ⟨_, .succ .z1, ?_⟩
   refine jG (W.use (loc1 := [some (.int m), some (.str (sg m i)), some (.int i), some (.int (bI m (8 - i))), some (.int (bI m (11 - (i : Int).fdiv 3)))]) (sto1 := sto ++ gg) (b := Out.next) ?_ ?_)
   ·refine un_0_3 (fm3 ⟨i, hi2⟩) fun f1 f2 f3 => ?_
    simp only at f1 f2 f3
    refine e1_assign_swap (names := ["bit", "set_bit"]) (vs := [.int (bI m (8 - i)), .int (bI m (11 - (i : Int).fdiv 3))]) (loc1 := [some (.int m), some (.str (sg m i)), some (.int i), o2, o3]) (sto1 := sto ++ gg) rfl ?_ ?_ rfl ?_
    ·unfold swappedStores Env.blockKind Env.kindOf
     rw [hs]
     kernel_rfl
    ·with_reducible exact jT (jE jH (jO (jO (jD .zero R3) (jO (jF R3) (jO (jF R3) (jD .z2 R3) (wl_sub R3)) (wl_pow (by decide) (by lia) R3)) (wl_fdiv (pow_small (by lia)) R3)) (jF R3) (wl_mod (by decide) R3))
      (jE jH (jO (jO (jD .zero R3) (jO (jF R3) (jO (jF R3) (jO (jD .z2 R3) (jF R3) (wl_fdiv (by decide) R3)) (wl_sub R3)) (wl_pow (by decide) (by lia) R3)) (wl_fdiv (pow_small (by lia)) R3)) (jF R3) (wl_mod (by decide) R3)) jP)) (Nat.le_of_ble_eq_true rfl)
    ·exact eu_cons (eu_bind .z4 (jFA (sl := sl50) rfl)) (eu_cons (eu_bind .z3 (jFA (sl := sl50) rfl)) (eu_nil rfl))
   ·refine un_0_3 (fm3 ⟨i, hi2⟩) fun f1 f2 f3 => ?_
    simp only at f1 f2 f3
    have hlen : ∀ c : Nat, (sg m i).length + [c].length ≤ 16777216 := fun c => by rw [sg_len]; show i + 1 + 1 ≤ _; lia
    have hb := bI_cases m (8 - i)
    by_cases hA : i % 3 = 2 ∧ bI m (11 - (i : Int).fdiv 3) = 1
    ·have q1 : ((i : Int).fmod 3 == 2) = true := by rw [beq_iff_eq]; lia
     have q2 : (bI m (11 - (i : Int).fdiv 3) == 1) = true := by rw [beq_iff_eq]; exact hA.2
     obtain ⟨g1, g2⟩ := ss_get ⟨i, hi2⟩
     have hss : ([V.str lSs, V.str lSs, V.str lTt] : List V)[((i : Int).fdiv 3).toNat]? = some (V.str (ssT.getD (i / 3) [])) := by
      show (ssT.map V.str)[((i : Int).fdiv 3).toNat]? = _
      rw [List.getElem?_map, g1]; rfl
     have hc : (ssT.getD (i / 3) [])[(bI m (8 - i)).toNat]? = some ((ssT.getD (i / 3) []).getD (bI m (8 - i)).toNat 0) := get_of (by rw [g2]; lia)
     have es : sg m (i + 1) = sg m i ++ [(ssT.getD (i / 3) []).getD (bI m (8 - i)).toNat 0] := by rw [sg, sgStep, if_pos hA]
     refine W.use (loc1 := [some (.int m), some (.str (sg m i ++ [(ssT.getD (i / 3) []).getD (bI m (8 - i)).toNat 0])), some (.int i), some (.int (bI m (8 - i))), some (.int (bI m (11 - (i : Int).fdiv 3)))]) (sto1 := sto ++ gg ++ [.list [.str lSs, .str lSs, .str lTt]]) (b := Out.next) ?_ ⟨_, _, _, gg ++ [.list [.str lSs, .str lSs, .str lTt]], by rw [es], by rw [List.append_assoc]⟩
     with_reducible exact es_next (e1_ifT (et_andT (jR rfl (jO (jD .z2 R3) (jF R3) (wl_mod (by decide) R3)) (jF R3) (wl_eqI ⟨q1, rfl, rfl⟩)) (et_andT (jR rfl (jD .z4 R3) (jF R3) (wl_eqI ⟨q2, rfl, rfl⟩)) et_andN))
      (es_next (jY (fun _ => rfl) (jFA (sl := sl50) rfl) (jO (jD .z1 R3) (ee_sub (ee_sub (jEA (jE jB (jQ R3) (jE jB (jQ R3) (jE jB (jQ R3) jP))) (Nat.le_of_ble_eq_true rfl)) (jO (jD .z2 R3) (jF R3) (wl_fdiv (by decide) R3)) (jKA nsl_BinOp jIA f2 (by lia) hss R3))
       (jD .z3 R3) (wl_getS nsl_Name (by lia) (by lia) hc R3)) (jNA (hlen _) R3)) .z1) es_nil)) es_nil
    ·have hix : 0 ≤ ((i : Int).fmod 3 + 1) * bI m (8 - i) ∧ ((i : Int).fmod 3 + 1) * bI m (8 - i) ≤ 3 := by
      rcases hb with hb | hb <;> rw [hb] <;> lia
     have hc : lrwx[(((i : Int).fmod 3 + 1) * bI m (8 - i)).toNat]? = some (lrwx.getD (((i : Int).fmod 3 + 1) * bI m (8 - i)).toNat 0) := get_of (by rw [show lrwx.length = 4 from by decide]; lia)
     have es : sg m (i + 1) = sg m i ++ [lrwx.getD (((i : Int).fmod 3 + 1) * bI m (8 - i)).toNat 0] := by rw [sg, sgStep, if_neg hA]
     refine W.use (loc1 := [some (.int m), some (.str (sg m i ++ [lrwx.getD (((i : Int).fmod 3 + 1) * bI m (8 - i)).toNat 0])), some (.int i), some (.int (bI m (8 - i))), some (.int (bI m (11 - (i : Int).fdiv 3)))]) (sto1 := sto ++ gg) (b := Out.next) ?_ ⟨_, _, _, gg, by rw [es], rfl⟩
     refine es_next (e1_ifF (loc1 := [some (.int m), some (.str (sg m i)), some (.int i), some (.int (bI m (8 - i))), some (.int (bI m (11 - (i : Int).fdiv 3)))]) (sto1 := sto ++ gg) ?_ ?_) es_nil
     ·by_cases h3 : i % 3 = 2
      ·have q1 : ((i : Int).fmod 3 == 2) = true := by rw [beq_iff_eq]; lia
       have q2 : (bI m (11 - (i : Int).fdiv 3) == 1) = false := by rw [beq_eq_false_iff_ne]; exact fun q => hA ⟨h3, q⟩
       with_reducible exact et_andT (jR rfl (jO (jD .z2 R3) (jF R3) (wl_mod (by decide) R3)) (jF R3) (wl_eqI ⟨q1, rfl, rfl⟩)) (et_andF (jR rfl (jD .z4 R3) (jF R3) (wl_eqI ⟨q2, rfl, rfl⟩)))
      ·have q1 : ((i : Int).fmod 3 == 2) = false := by rw [beq_eq_false_iff_ne]; lia
       with_reducible exact et_andF (jR rfl (jO (jD .z2 R3) (jF R3) (wl_mod (by decide) R3)) (jF R3) (wl_eqI ⟨q1, rfl, rfl⟩))
     ·with_reducible exact es_next (jY (fun _ => rfl) (jFA (sl := sl50) rfl) (jO (jD .z1 R3) (ee_sub (jQ R3) (jO (jO (jO (jD .z2 R3) (jF R3) (wl_mod (by decide) R3)) (jF R3) (wl_add R3)) (jD .z3 R3) (wl_mul (by lia) R3)) (wl_getS nsl_BinOp hix.1 (by lia) hc R3)) (jNA (hlen _) R3)) .z1) es_nil
  ·intro l t r220y2
   refine ux_4_2 (r220y2) fun o1 o2 o3 gg e381x4 e381x5 => ?_; (try clear r220y2); subst e381x4; subst e381x5
   refine ws_nil ?_
   refine w_mono (er_ret (loc1 := [some (.int m), some (.str (sg m 9)), o1, o2, o3]) (sto1 := sto ++ gg) (v := .str (sg m 9)) ?_) (fun o l t q => ⟨_, q.1, ⟨rfl, rfl⟩, gg, q.2⟩) (fun _ _ _ h => h)
   with_reducible exact jD .z1 R3
end
end Mine
namespace Mine
open PySem PySem.W PyProof.Rows PySem.Calls
section
variable {C : Cst} {Γ : Fm} {loc : List (Option V)} {sto : List SO}
theorem n28a : (sc 28).names.lookup (Str.ofString "S_IFMT") = some .globalImplicit := by kernel_rfl
theorem n28b : (sc 28).names.lookup (Str.ofString "S_IFCHR") = some .globalImplicit := by kernel_rfl
theorem c_ischr {m : Int} {y : Value} (D : Def C 161 28 ["mode"] []) (D1 : Def C 147 19 ["mode"] []) (g1 : C.mg "S_IFMT" = some (.ref 147)) (g2 : C.mg "S_IFCHR" = some y) (g3 : VR [] C.h0 (.int 8192) y) (hroom : 2 ≤ Γ.room) :
  EL C Γ loc sto (callF (.ref 161)) [.int m] (.bool (Builtin.bitAnd m 61440 == 8192)) loc sto := by
 refine el_def [("mode", none)] [some (.int m)] D (Nat.le_of_succ_le hroom) rfl rfl rfl fun A env frs own room hr hs => ?_
 refine er_ret (loc1 := [some (.int m)]) ?_
 with_reducible exact (ee_cmp rfl (jV D1 (jC (fun _ => jA) jN) (jU hs n28a g1 jW (by decide)) (jE jA (jD Slot.zero R3) jP) (c_ifmt D1 (by show 1 ≤ room; lia)))
  (jU hs n28b g2 g3 (by decide)) (wl_eqI R3))
theorem n29a : (sc 29).names.lookup (Str.ofString "S_IFMT") = some .globalImplicit := by kernel_rfl
theorem n29b : (sc 29).names.lookup (Str.ofString "S_IFBLK") = some .globalImplicit := by kernel_rfl
theorem c_isblk {m : Int} {y : Value} (D : Def C 168 29 ["mode"] []) (D1 : Def C 147 19 ["mode"] []) (g1 : C.mg "S_IFMT" = some (.ref 147)) (g2 : C.mg "S_IFBLK" = some y) (g3 : VR [] C.h0 (.int 24576) y) (hroom : 2 ≤ Γ.room) :
  EL C Γ loc sto (callF (.ref 168)) [.int m] (.bool (Builtin.bitAnd m 61440 == 24576)) loc sto := by
 refine el_def [("mode", none)] [some (.int m)] D (Nat.le_of_succ_le hroom) rfl rfl rfl fun A env frs own room hr hs => ?_
 refine er_ret (loc1 := [some (.int m)]) ?_
 with_reducible exact (ee_cmp rfl (jV D1 (jC (fun _ => jA) jN) (jU hs n29a g1 jW (by decide)) (jE jA (jD Slot.zero R3) jP) (c_ifmt D1 (by show 1 ≤ room; lia)))
  (jU hs n29b g2 g3 (by decide)) (wl_eqI R3))
theorem n30a : (sc 30).names.lookup (Str.ofString "S_IFMT") = some .globalImplicit := by kernel_rfl
theorem n30b : (sc 30).names.lookup (Str.ofString "S_IFREG") = some .globalImplicit := by kernel_rfl
theorem c_isreg {m : Int} {y : Value} (D : Def C 175 30 ["mode"] []) (D1 : Def C 147 19 ["mode"] []) (g1 : C.mg "S_IFMT" = some (.ref 147)) (g2 : C.mg "S_IFREG" = some y) (g3 : VR [] C.h0 (.int 32768) y) (hroom : 2 ≤ Γ.room) :
  EL C Γ loc sto (callF (.ref 175)) [.int m] (.bool (Builtin.bitAnd m 61440 == 32768)) loc sto := by
 refine el_def [("mode", none)] [some (.int m)] D (Nat.le_of_succ_le hroom) rfl rfl rfl fun A env frs own room hr hs => ?_
 refine er_ret (loc1 := [some (.int m)]) ?_
 with_reducible exact (ee_cmp rfl (jV D1 (jC (fun _ => jA) jN) (jU hs n30a g1 jW (by decide)) (jE jA (jD Slot.zero R3) jP) (c_ifmt D1 (by show 1 ≤ room; lia)))
  (jU hs n30b g2 g3 (by decide)) (wl_eqI R3))
theorem n31a : (sc 31).names.lookup (Str.ofString "S_IFMT") = some .globalImplicit := by kernel_rfl
theorem n31b : (sc 31).names.lookup (Str.ofString "S_IFIFO") = some .globalImplicit := by kernel_rfl
theorem c_isfifo {m : Int} {y : Value} (D : Def C 182 31 ["mode"] []) (D1 : Def C 147 19 ["mode"] []) (g1 : C.mg "S_IFMT" = some (.ref 147)) (g2 : C.mg "S_IFIFO" = some y) (g3 : VR [] C.h0 (.int 4096) y) (hroom : 2 ≤ Γ.room) :
  EL C Γ loc sto (callF (.ref 182)) [.int m] (.bool (Builtin.bitAnd m 61440 == 4096)) loc sto := by
 refine el_def [("mode", none)] [some (.int m)] D (Nat.le_of_succ_le hroom) rfl rfl rfl fun A env frs own room hr hs => ?_
 refine er_ret (loc1 := [some (.int m)]) ?_
 with_reducible exact (ee_cmp rfl (jV D1 (jC (fun _ => jA) jN) (jU hs n31a g1 jW (by decide)) (jE jA (jD Slot.zero R3) jP) (c_ifmt D1 (by show 1 ≤ room; lia)))
  (jU hs n31b g2 g3 (by decide)) (wl_eqI R3))
theorem n32a : (sc 32).names.lookup (Str.ofString "S_IFMT") = some .globalImplicit := by kernel_rfl
theorem n32b : (sc 32).names.lookup (Str.ofString "S_IFLNK") = some .globalImplicit := by kernel_rfl
theorem c_islnk {m : Int} {y : Value} (D : Def C 189 32 ["mode"] []) (D1 : Def C 147 19 ["mode"] []) (g1 : C.mg "S_IFMT" = some (.ref 147)) (g2 : C.mg "S_IFLNK" = some y) (g3 : VR [] C.h0 (.int 40960) y) (hroom : 2 ≤ Γ.room) :
  EL C Γ loc sto (callF (.ref 189)) [.int m] (.bool (Builtin.bitAnd m 61440 == 40960)) loc sto := by
 refine el_def [("mode", none)] [some (.int m)] D (Nat.le_of_succ_le hroom) rfl rfl rfl fun A env frs own room hr hs => ?_
 refine er_ret (loc1 := [some (.int m)]) ?_
 with_reducible exact (ee_cmp rfl (jV D1 (jC (fun _ => jA) jN) (jU hs n32a g1 jW (by decide)) (jE jA (jD Slot.zero R3) jP) (c_ifmt D1 (by show 1 ≤ room; lia)))
  (jU hs n32b g2 g3 (by decide)) (wl_eqI R3))
theorem n33a : (sc 33).names.lookup (Str.ofString "S_IFMT") = some .globalImplicit := by kernel_rfl
theorem n33b : (sc 33).names.lookup (Str.ofString "S_IFSOCK") = some .globalImplicit := by kernel_rfl
theorem c_issock {m : Int} {y : Value} (D : Def C 196 33 ["mode"] []) (D1 : Def C 147 19 ["mode"] []) (g1 : C.mg "S_IFMT" = some (.ref 147)) (g2 : C.mg "S_IFSOCK" = some y) (g3 : VR [] C.h0 (.int 49152) y) (hroom : 2 ≤ Γ.room) :
  EL C Γ loc sto (callF (.ref 196)) [.int m] (.bool (Builtin.bitAnd m 61440 == 49152)) loc sto := by
 refine el_def [("mode", none)] [some (.int m)] D (Nat.le_of_succ_le hroom) rfl rfl rfl fun A env frs own room hr hs => ?_
 refine er_ret (loc1 := [some (.int m)]) ?_
 with_reducible exact (ee_cmp rfl (jV D1 (jC (fun _ => jA) jN) (jU hs n33a g1 jW (by decide)) (jE jA (jD Slot.zero R3) jP) (c_ifmt D1 (by show 1 ≤ room; lia)))
  (jU hs n33b g2 g3 (by decide)) (wl_eqI R3))
end
end Mine
namespace Mine
open PySem PySem.W PyProof.Rows PySem.Calls
theorem clip_nat (n k : Nat) : clipAt n (k : Int) = min k n := by
 unfold clipAt
 rw [if_neg (Int.not_lt.mpr (Int.natCast_nonneg k))]
 rcases Nat.le_total k n with h | h
 ·rw [Int.min_eq_left (Int.ofNat_le.mpr h), Int.max_eq_right (Int.natCast_nonneg _), Int.toNat_natCast, Nat.min_eq_left h]
 ·rw [Int.min_eq_right (Int.ofNat_le.mpr h), Int.max_eq_right (Int.natCast_nonneg _), Int.toNat_natCast, Nat.min_eq_right h]
theorem slc_to {α : Type} (x : List α) (k : Nat) : slc x none (some (k : Int)) = x.take k := by
 unfold slc
 simp only [Option.elim_none, Option.elim_some, clip_nat, List.drop_zero, Nat.sub_zero]
 by_cases h : k ≤ x.length
 ·rw [Nat.min_eq_left h]
 ·rw [Nat.min_eq_right (by lia), List.take_of_length_le (Nat.le_refl _), List.take_of_length_le (by lia)]
theorem slc_mid {α : Type} (x : List α) (j k : Nat) (hj : j ≤ x.length) (hk : k ≤ x.length) : slc x (some (j : Int)) (some (k : Int)) = (x.drop j).take (k - j) := by
 unfold slc
 simp only [Option.elim_some, clip_nat, Nat.min_eq_left hj, Nat.min_eq_left hk]
noncomputable def unq : List Nat → List Nat
 | [] => []
 | [c] => if c = 34 then [] else [c]
 | c :: d :: r => if c = 34 then (if d = 34 then 34 :: unq r else []) else c :: unq (d :: r)
theorem unq_other {c : Nat} {r : List Nat} (h : c ≠ 34) : unq (c :: r) = c :: unq r := by
 cases r with
 | nil => simp [unq, h]
 | cons d r => rw [unq, if_neg h]
theorem unq_dbl {r : List Nat} : unq (34 :: 34 :: r) = 34 :: unq r := by rw [unq, if_pos rfl, if_pos rfl]
theorem unq_end : unq [34] = [] := by rw [unq, if_pos rfl]
theorem unq_stop {c : Nat} {r : List Nat} (h : c ≠ 34) : unq (34 :: c :: r) = [] := by rw [unq, if_pos rfl, if_neg h]
section
variable {C : Cst} {Γ : Fm} {loc : List (Option V)} {sto : List SO}
noncomputable abbrev sl5 : List (Str × Option Addr) := [("resp", none), ("dirname", none), ("i", none), ("n", none), ("c", none)]
theorem keep_len : keeperOf (.builtin "len") = pure .machine := by kernel_rfl
theorem n5a : (sc 5).names.lookup (Str.ofString "len") = some .globalImplicit := by kernel_rfl
noncomputable abbrev D257 (C : Cst) : Prop := Def C 65 5 ["resp"] ["dirname", "i", "n", "c"]
theorem c_p257 {x : List Nat} (D : D257 C) (g : C.mg "len" = none) (hroom : 1 ≤ Γ.room) (hl : x.length ≤ 1000) (h5 : 5 ≤ x.length) (h3 : x.take 3 = (Str.ofString "257").cps.toList) (hq : (x.drop 3).take 2 = (Str.ofString " \"").cps.toList) :
  EL C Γ loc sto (callF (.ref 65)) [.str x] (.str (unq (x.drop 5))) loc sto := by
 refine wl_def D hroom rfl fun A env frs own hs => ?_
 show WS C ⟨A, env, sl5, frs, own, Γ.room - 1⟩ [some (.str x), none, none, none, none] sto (bd 5) _ No
 have t1 : (slc x none (some 3) != (Str.ofString "257").cps.toList) = false := by rw [show (3 : Int) = ((3 : Nat) : Int) from rfl, slc_to, h3]; simp
 have t2 : (slc x (some 3) (some 5) != (Str.ofString " \"").cps.toList) = false := by
  rw [show (3 : Int) = ((3 : Nat) : Int) from rfl, show (5 : Int) = ((5 : Nat) : Int) from rfl, slc_mid x 3 5 (by lia) h5, hq]; simp
 refine jG (W.use (loc1 := [some (.str x), none, none, none, none]) (sto1 := sto) (b := Out.next) ?_ ?_)
 ·with_reducible exact e1_ifF (jR rfl (jS (jD .zero R3) jZ (jAA (jF R3)) jZ (wsl_str .none (.int 3) (Nat.le_trans hl (by decide)) R3)) (jQ R3) (wl_neS ⟨t1, rfl, rfl⟩)) es_nil
 refine jG (W.use (loc1 := [some (.str x), none, none, none, none]) (sto1 := sto) (b := Out.next) ?_ ?_)
 ·with_reducible exact e1_ifF (jR rfl (jS (jD .zero R3) (jAA (jF R3)) (jAA (jF R3)) jZ (wsl_str (.int 3) (.int 5) (Nat.le_trans hl (by decide)) R3)) (jQ R3) (wl_neS ⟨t2, rfl, rfl⟩)) es_nil
 refine jG (W.use (loc1 := [some (.str x), some (.str (Str.ofString "").cps.toList), none, none, none]) (sto1 := sto) (b := Out.next) ?_ ?_)
 ·with_reducible exact jY (fun _ => rfl) (jFA (sl := sl5) rfl) (jQ R3) .z1
 refine jG (W.use (loc1 := [some (.str x), some (.str (Str.ofString "").cps.toList), some (.int 5), none, none]) (sto1 := sto) (b := Out.next) ?_ ?_)
 ·with_reducible exact jY (fun _ => rfl) (jFA (sl := sl5) rfl) (jF R3) .z2
 refine jG (W.use (loc1 := [some (.str x), some (.str (Str.ofString "").cps.toList), some (.int 5), some (.int x.length), none]) (sto1 := sto) (b := Out.next) ?_ ?_)
 ·with_reducible exact jY (fun _ => rfl) (jFA (sl := sl5) rfl) (ee_call_m (jC (fun _ => jA) jN) keep_len (jCA hs n5a g PyProof.Rows.Boot.«len» (by decide) (by decide)) (jE jA (jD .zero R3) jP) (wl_lenS (Nat.le_trans hl (by decide)) R3)) .z3
 have hret : ∀ d i o, d = unq (x.drop 5) → WS C ⟨A, env, sl5, frs, own, Γ.room - 1⟩ [some (.str x), some (.str d), some (.int i), some (.int x.length), o] sto ((bd 5).drop 6) (fun out _ t => ∃ v, out = .ret v ∧ Is (.str (unq (x.drop 5))) loc sto v loc t) No := fun d i o hd => by
  subst hd
  refine w_mono (er_ret (loc1 := [some (.str x), some (.str (unq (x.drop 5))), some (.int i), some (.int x.length), o]) (sto1 := sto) (v := .str (unq (x.drop 5))) ?_) (fun o l t q => ⟨_, q.1, rfl, rfl, q.2⟩) (fun _ _ _ h => h)
  with_reducible exact jD .z1 R3
 refine jG ?_
 have e0 : (Str.ofString "").cps.toList = [] := by decide
 refine w1_while (fun m l t => Ex3 fun (j : Nat) (d : List Nat) (o : Option V) => l = [some (.str x), some (.str d), some (.int j), some (.int x.length), o] ∧ t = sto ∧ j ≤ x.length ∧ m = x.length - j ∧ d.length ≤ j ∧ d ++ unq (x.drop j) = unq (x.drop 5)) (x.length - 5) ⟨5, _, none, rfl, rfl, h5, rfl, by rw [e0]; exact Nat.zero_le _, by rw [e0]; rfl⟩ ?_
 intro m l t r221y3
 refine ux_3_6 (r221y3) fun j d o e382x3 e382x4 hj e382x6 hd hu => ?_; (try clear r221y3); subst e382x3; subst e382x4; subst e382x6
 by_cases hlt : j < x.length
 ·refine W.use (loc1 := [some (.str x), some (.str d), some (.int j), some (.int x.length), o]) (sto1 := t) (b := true) ?_ ?_
  ·have q : decide ((j : Int) < (x.length : Int)) = true := by rw [decide_eq_true_eq]; lia
   with_reducible exact jR rfl (jD .z2 R3) (jD .z3 R3) (wl_ltI ⟨q, rfl, rfl⟩)
  obtain ⟨c, hc⟩ : ∃ c, x[j]? = some c := ⟨_, List.getElem?_eq_getElem hlt⟩
  have hc0 : x[(j : Int).toNat]? = some c := hc
  have hdrop : x.drop j = c :: x.drop (j + 1) := by rw [List.drop_eq_getElem_cons hlt]; rw [List.getElem?_eq_getElem hlt] at hc; rw [Option.some.inj hc]
  refine jG (W.use (loc1 := [some (.str x), some (.str d), some (.int j), some (.int x.length), some (.str [c])]) (sto1 := t) (b := Out.next) ?_ ?_)
  ·with_reducible exact jY (fun _ => rfl) (jFA (sl := sl5) rfl) (ee_sub (jD .zero R3) (jD .z2 R3) (wl_getS nsl_Name (Int.natCast_nonneg _) (by lia) hc0 R3)) .z4
  refine jG (W.use (loc1 := [some (.str x), some (.str d), some (.int (j + 1)), some (.int x.length), some (.str [c])]) (sto1 := t) (b := Out.next) ?_ ?_)
  ·with_reducible exact jY (fun _ => rfl) (jFA (sl := sl5) rfl) (jO (jD .z2 R3) (jF R3) (wl_add R3)) .z2
  have hs2 : d.length + [c].length ≤ 16777216 := by show d.length + 1 ≤ _; lia
  by_cases hq34 : c = 34
  ·subst hq34
   have qt : ([34] == (Str.ofString "\"").cps.toList) = true := by rw [q34]; rfl
   by_cases hend : j + 1 < x.length
   ·obtain ⟨c2, hc2⟩ : ∃ c, x[j + 1]? = some c := ⟨_, List.getElem?_eq_getElem hend⟩
    have hdrop2 : x.drop (j + 1) = c2 :: x.drop (j + 2) := by rw [List.drop_eq_getElem_cons hend]; rw [List.getElem?_eq_getElem hend] at hc2; rw [Option.some.inj hc2]
    have qge : decide ((x.length : Int) ≤ (j : Int) + 1) = false := by rw [decide_eq_false_iff_not]; lia
    have hc2' : x[((j : Int) + 1).toNat]? = some c2 := by rw [show ((j : Int) + 1).toNat = j + 1 by lia]; exact hc2
    by_cases h34 : c2 = 34
    ·subst h34
     have qne : ([34] != (Str.ofString "\"").cps.toList) = false := by rw [q34]; rfl
     refine jG (W.use (loc1 := [some (.str x), some (.str d), some (.int (j + 1 + 1)), some (.int x.length), some (.str [34])]) (sto1 := t) (b := Out.next) ?_ ?_)
     ·with_reducible exact e1_ifT (jR rfl (jD .z4 R3) (jQ R3) (wl_eqS ⟨qt, rfl, rfl⟩)) (es_next (e1_ifF (et_orF (jR rfl (jD .z2 R3) (jD .z3 R3) (wl_geI ⟨qge, rfl, rfl⟩)) (et_orF (jR rfl (ee_sub (jD .zero R3) (jD .z2 R3) (wl_getS nsl_Name (by lia) (by lia) hc2' R3)) (jQ R3) (wl_neS ⟨qne, rfl, rfl⟩)) et_orN)) es_nil) (es_next (jY (fun _ => rfl) (jFA (sl := sl5) rfl) (jO (jD .z2 R3) (jF R3) (wl_add R3)) .z2) es_nil))
     refine W.use (loc1 := [some (.str x), some (.str (d ++ [34])), some (.int (j + 1 + 1)), some (.int x.length), some (.str [34])]) (sto1 := t) (b := Out.next) ?_ ⟨x.length - (j + 2), by lia, j + 2, d ++ [34], _, by push_cast; rw [Int.add_assoc], rfl, by lia, rfl, by rw [List.length_append]; show d.length + 1 ≤ _; lia, ?_⟩
     ·with_reducible exact es_next (jY (fun _ => rfl) (jFA (sl := sl5) rfl) (jO (jD .z1 R3) (jD .z4 R3) (jNA hs2 R3)) .z1) es_nil
     ·rw [← hu, hdrop, hdrop2, unq_dbl, List.append_assoc]; rfl
    ·have qne : ([c2] != (Str.ofString "\"").cps.toList) = true := by rw [q34]; simp [h34]
     refine jG (W.use (loc1 := [some (.str x), some (.str d), some (.int (j + 1)), some (.int x.length), some (.str [34])]) (sto1 := t) (b := Out.brk) ?_ ?_)
     ·with_reducible exact e1_ifT (jR rfl (jD .z4 R3) (jQ R3) (wl_eqS ⟨qt, rfl, rfl⟩)) (es_brk (e1_ifT (et_orF (jR rfl (jD .z2 R3) (jD .z3 R3) (wl_geI ⟨qge, rfl, rfl⟩)) (et_orT (jR rfl (ee_sub (jD .zero R3) (jD .z2 R3) (wl_getS nsl_Name (by lia) (by lia) hc2' R3)) (jQ R3) (wl_neS ⟨qne, rfl, rfl⟩)))) (es_brk e1_brk)))
     ·exact hret _ _ _ (by rw [← hu, hdrop, hdrop2, unq_stop h34, List.append_nil])
   ·have qge : decide ((x.length : Int) ≤ (j : Int) + 1) = true := by rw [decide_eq_true_eq]; lia
    refine jG (W.use (loc1 := [some (.str x), some (.str d), some (.int (j + 1)), some (.int x.length), some (.str [34])]) (sto1 := t) (b := Out.brk) ?_ ?_)
    ·with_reducible exact e1_ifT (jR rfl (jD .z4 R3) (jQ R3) (wl_eqS ⟨qt, rfl, rfl⟩)) (es_brk (e1_ifT (et_orT (jR rfl (jD .z2 R3) (jD .z3 R3) (wl_geI ⟨qge, rfl, rfl⟩))) (es_brk e1_brk)))
    ·exact hret _ _ _ (by rw [← hu, hdrop, List.drop_of_length_le (by lia), unq_end, List.append_nil])
  ·have qt : ([c] == (Str.ofString "\"").cps.toList) = false := by rw [q34]; simp [hq34]
   refine W.use (loc1 := [some (.str x), some (.str (d ++ [c])), some (.int (j + 1)), some (.int x.length), some (.str [c])]) (sto1 := t) (b := Out.next) ?_ ⟨x.length - (j + 1), by lia, j + 1, d ++ [c], _, rfl, rfl, hlt, rfl, by rw [List.length_append]; show d.length + 1 ≤ _; lia, ?_⟩
   ·with_reducible exact es_next (e1_ifF (jR rfl (jD .z4 R3) (jQ R3) (wl_eqS ⟨qt, rfl, rfl⟩)) es_nil) (es_next (jY (fun _ => rfl) (jFA (sl := sl5) rfl) (jO (jD .z1 R3) (jD .z4 R3) (jNA hs2 R3)) .z1) es_nil)
   ·rw [← hu, hdrop, unq_other hq34, List.append_assoc]; rfl
 ·refine W.use (loc1 := [some (.str x), some (.str d), some (.int j), some (.int x.length), o]) (sto1 := t) (b := false) ?_ ?_
  ·have q : decide ((j : Int) < (x.length : Int)) = false := by rw [decide_eq_false_iff_not]; lia
   with_reducible exact jR rfl (jD .z2 R3) (jD .z3 R3) (wl_ltI ⟨q, rfl, rfl⟩)
  ·exact ws_nil (hret _ _ _ (by rw [← hu, List.drop_of_length_le (by lia)]; rw [unq, List.append_nil]))
end
end Mine
namespace Mine
open PySem PySem.W PyProof.Rows PySem.Calls
section
variable {C : Cst} {Γ : Fm} {loc loc1 loc2 : List (Option V)} {sto sto1 sto2 : List SO} {X : XV → List (Option V) → List SO → Prop} {QS : Out → List (Option V) → List SO → Prop}
theorem lst_hT {as : List Addr} {s : Shared} {x : Value} {k : Nat} {items : List V} (F : RepF C Γ as loc sto s) (r : VR as s.heap (.lst k) x) (hk : sto[k]? = some (.list items)) : s.TypeIs x "list" ∧ ∀ a, x = .ref a → ∃ ob, s.heap.get? a = some ob ∧ ob.dict = none := by
 refine un_3_4 (lst_at F r hk) fun a its n e383x3 ea e ri => ?_; subst e383x3
 exact ⟨⟨_, e, rfl⟩, fun b q => by cases q; exact ⟨_, e, rfl⟩⟩
theorem e1_append {x name : Str} {p apos pos epos : Pos} {e : Expr} {k : Nat} {items : List V} {v : V} (hname : name = "append") (hline : (apos.endLine == pos.line) = true) (q : Slot Γ.sl loc x (.lst k)) (hp : ∀ env, starEach [e] env = [(false, eval e env)])
  (hs : ∀ env : Env, swapsWith (.Call (.Attribute (.Name x p) name apos) [e] [] pos) none epos.line env = pure false) (h : EE C Γ loc sto e v loc1 sto1) (hk0 : ∃ it0, sto[k]? = some (.list it0)) (hk : sto1[k]? = some (.list items)) (hl : items.length ≤ 10000) (hd : (x == ("__debug__" : Str)) = false := by decide) :
  E1 C Γ loc sto (.Expr (.Call (.Attribute (.Name x p) name apos) [e] [] pos) epos) .next loc1 (sto1.set k (.list (items ++ [v]))) := by
 subst hname
 obtain ⟨it0, hk0⟩ := hk0
 exact e1_expr hs (ee_meth (jC (fun env => hp env) jN) jLA (by decide : 1 < 30) hline F.plainAttrs_list F.slot_list_append F.type_list_append (jD (hd := hd) q R3) (fun as s x F r => lst_hT F r hk0) (jE (hp _) h jP) (jBA hk hl R3))
theorem eu_pair {x y : Str} {px py pos : Pos} {k : Nat} {a b : V} (q1 : SetSlot Γ.sl loc x a loc1) (q2 : SetSlot Γ.sl loc1 y b loc2) (h : Γ.sl.all (fun p => p.2.isNone) = true) : EU C Γ loc sto (f1 (assign (.Tuple [.Name x px, .Name y py] k pos) Γ.env)) [.tup [a, b]] loc2 sto :=
 eu_tuple rfl rfl (eu_cons (eu_name (pos := px) q1 (jFA h)) (eu_cons (eu_name (pos := py) q2 (jFA h)) (eu_nil rfl)))
end
end Mine
namespace Mine
open PySem PySem.W PyProof.Rows PySem.Calls
noncomputable def fmHit (m : Int) (i : Nat) (b : Int) : Bool := if i = 0 then Builtin.bitAnd m 61440 == b else Builtin.bitAnd m b == b
noncomputable def fmNo (i : Nat) : List Nat := if i = 0 then [63] else [45]
noncomputable def fmCh (m : Int) (i : Nat) (tb : List (Int × List Nat)) : List Nat := match tb.find? (fun p => fmHit m i p.1) with | some p => p.2 | none => fmNo i
noncomputable def ftab : List (List (Int × List Nat)) :=
 [[(40960, [108]), (49152, [115]), (32768, [45]), (24576, [98]), (16384, [100]), (8192, [99]), (4096, [112])],
  [(256, [114])], [(128, [119])], [(2112, [115]), (2048, [83]), (64, [120])],
  [(32, [114])], [(16, [119])], [(1032, [115]), (1024, [83]), (8, [120])],
  [(4, [114])], [(2, [119])], [(513, [116]), (512, [84]), (1, [120])]]
noncomputable def tbV (tb : List (Int × List Nat)) : V := .tup (tb.map fun p => .tup [.int p.1, .str p.2])
noncomputable def ftV : V := .tup (ftab.map tbV)
noncomputable def fmL (m : Int) (n : Nat) : List (List Nat) := (List.range n).map fun i => fmCh m i (ftab.getD i [])
theorem fmL_succ (m : Int) (n : Nat) : fmL m (n + 1) = fmL m n ++ [fmCh m n (ftab.getD n [])] := by
 unfold fmL; rw [List.range_succ, List.map_append]; rfl
theorem ft_get (i : Fin 10) : (ftab.map tbV)[i.val]? = some (tbV (ftab.getD i.val [])) := by
 have h : i.val < ftab.length := i.isLt
 rw [List.getElem?_map, List.getD_eq_getElem?_getD, List.getElem?_eq_getElem h]; rfl
theorem fmCh_hit {m : Int} {i j : Nat} {tb : List (Int × List Nat)} {p : Int × List Nat} (hp : tb[j]? = some p) (hno : ∀ q ∈ tb.take j, fmHit m i q.1 = false) (h : fmHit m i p.1 = true) : fmCh m i tb = p.2 := by
 have e : tb.find? (fun p => fmHit m i p.1) = some p := by
  have hlt := (List.getElem?_eq_some_iff.mp hp).1
  have hd : tb.drop j = p :: tb.drop (j + 1) := by rw [List.drop_eq_getElem_cons hlt, (List.getElem?_eq_some_iff.mp hp).2]
  rw [← List.take_append_drop j tb, List.find?_append, List.find?_eq_none.mpr (fun q hq => by rw [hno q hq]; simp), hd]
  simp [h]
 unfold fmCh; rw [e]
theorem fmCh_none {m : Int} {i : Nat} {tb : List (Int × List Nat)} (hno : ∀ q ∈ tb, fmHit m i q.1 = false) : fmCh m i tb = fmNo i := by
 unfold fmCh; rw [List.find?_eq_none.mpr (fun q hq => by rw [hno q hq]; simp)]
theorem take_no {m : Int} {i j : Nat} {tb : List (Int × List Nat)} {p : Int × List Nat} (hp : tb[j]? = some p) (hno : ∀ q ∈ tb.take j, fmHit m i q.1 = false) (h : fmHit m i p.1 = false) : ∀ q ∈ tb.take (j + 1), fmHit m i q.1 = false := by
 rw [List.take_add_one, hp]
 intro q hq
 rcases List.mem_append.mp hq with hq | hq
 ·exact hno q hq
 ·have : q = p := by simpa using hq
  rw [this]; exact h
theorem ft_one : ∀ i : Fin 10, ∀ p ∈ ftab.getD i.val [], p.2.length = 1 := by decide
theorem fmCh_one (m : Int) (i : Fin 10) : (fmCh m i.val (ftab.getD i.val [])).length = 1 := by
 unfold fmCh
 split
 ·next p hp => exact ft_one i p (List.mem_of_find?_eq_some hp)
 ·unfold fmNo; split <;> rfl
theorem fm_sum (m : Int) : ((fmL m 10).map List.length).sum ≤ 100000 := by
 have e : ∀ (l : List (List Nat)), (∀ x ∈ l, x.length = 1) → (l.map List.length).sum = l.length := fun l => by
  induction l with
  | nil => intro _; rfl
  | cons x l ih => intro h; rw [List.map_cons, List.sum_cons, ih fun y hy => h y (List.mem_cons_of_mem _ hy), h x List.mem_cons_self, List.length_cons, Nat.add_comm]
 rw [e _ fun x hx => by
  refine un_1_2 (List.mem_map.mp hx) fun i hi e384x2 => ?_; subst e384x2
  exact fmCh_one m ⟨i, List.mem_range.mp hi⟩]
 rw [fmL, List.length_map, List.length_range]; decide
theorem base_Const {c : Const} {k : Nat} {p : Pos} {name : Str} : Base (.Constant c k p) name := fun _ => rfl
theorem str_hT {as : List Addr} {s : Shared} {x : Value} {u : List Nat} (r : VR as s.heap (.str u) x) : s.TypeIs x "str" ∧ ∀ a, x = .ref a → ∃ ob, s.heap.get? a = some ob ∧ ob.dict = none := by
 obtain ⟨t, rfl⟩ := jRA r
 exact ⟨typeIs_str _ _ _, fun a q => by cases q⟩
section
variable {C : Cst} {Γ : Fm} {loc : List (Option V)} {sto : List SO}
noncomputable abbrev sl47 : List (Str × Option Addr) := [("mode", none), ("perm", none), ("index", none), ("table", none), ("bit", none), ("char", none)]
noncomputable abbrev l47 (m : Int) (k : Nat) (a b c d : Option V) : List (Option V) := [some (.int m), some (.lst k), a, b, c, d]
theorem n47a : (sc 47).names.lookup (Str.ofString "enumerate") = some .globalImplicit := by kernel_rfl
theorem n47b : (sc 47).names.lookup (Str.ofString "_filemode_table") = some .globalImplicit := by kernel_rfl
theorem n47c : (sc 47).names.lookup (Str.ofString "S_IFMT") = some .globalImplicit := by kernel_rfl
structure GFm (C : Cst) : Prop where
 D : Def C 236 47 ["mode"] ["perm", "index", "table", "bit", "char"]
 D1 : Def C 147 19 ["mode"] []
 g1 : C.mg "S_IFMT" = some (.ref 147)
 g2 : C.mg "enumerate" = none
 tab : ∃ y, C.mg "_filemode_table" = some y ∧ VR [] C.h0 ftV y
theorem c_filemode {m : Int} (G : GFm C) (hroom : 2 ≤ Γ.room) : EL C Γ loc sto (callF (.ref 236)) [.int m] (.str (fmL m 10).flatten) loc (sto ++ [SO.list ((fmL m 10).map V.str)]) := by
 refine el_def sl47 [some (.int m), none, none, none, none, none] G.D (by lia) rfl rfl rfl fun A env frs own room hr hs => ?_
 refine er_next (loc1 := l47 m sto.length none none none none) (sto1 := sto ++ [.list ((fmL m 0).map V.str)]) (jY (fun _ => rfl) (jFA rfl) (jEA jP (by decide)) .z1) ?_
 refine un_1_2 (G.tab) fun ty gt rt => ?_
 refine jG ?_
 with_reducible refine w1_for (fun _ _ => rfl) (wit_enum_tup (jC (fun _ => jA) jN) ((jCA hs n47a G.g2 PyProof.Rows.Boot.«enumerate» (by decide) (by decide)).use ⟨rfl, (jE jA (jU hs n47b gt rt (by decide)) jP).use ⟨_, rfl, fun i l t => Ex4 fun a b c d => l = l47 m sto.length a b c d ∧ t = sto ++ [.list ((fmL m i).map V.str)], ⟨none, none, none, none, rfl, rfl⟩, fun _ _ _ _ _ => trivial, ?_, ?_⟩⟩))
 ·intro i l t hi r225y4
  refine ux_4_2 (r225y4) fun a b c d e386x4 e386x5 => ?_; (try clear r225y4); subst e386x4; subst e386x5
  have hi2 : i < 10 := hi
  have hg := ft_get ⟨i, hi2⟩
  simp only at hg
  show WL C _ _ _ _ [V.tup [V.int i, (List.map tbV ftab)[i]?.getD V.none]] RU _ _
  rw [hg]
  generalize htb : ftab.getD i [] = tb
  have hsucc := fmL_succ m i
  rw [htb] at hsucc
  have hlen : ((fmL m i).map V.str).length ≤ 10000 := by rw [List.length_map, fmL, List.length_map, List.length_range]; lia
  refine WL.use (b := ()) (loc1 := l47 m sto.length (some (.int i)) (some (tbV tb)) c d) (sto1 := sto ++ [.list ((fmL m i).map V.str)]) ?_ ?_
  ·with_reducible exact eu_pair .z2 .z3 rfl
  have hfin : ∀ ch c' d' (o : Out), ch = fmCh m i tb → Ex4 fun a b c d => l47 m sto.length (some (.int i)) (some (tbV tb)) c' d' = l47 m sto.length a b c d ∧ (sto ++ [SO.list ((fmL m i).map V.str)]).set sto.length (SO.list ((fmL m i).map V.str ++ [V.str ch])) = sto ++ [.list ((fmL m (i + 1)).map V.str)] := fun ch c' d' o e => ⟨_, _, _, _, rfl, by
   rw [hsucc, List.map_append, e, List.set_append_right _ _ (Nat.le_refl _), Nat.sub_self]; rfl⟩
  refine jG ?_
  with_reducible refine w1_for (fun _ _ => rfl) (wit_of (jD .z3 (vit_tup ⟨fun j l t => (Ex2 fun c' d' => l = l47 m sto.length (some (.int i)) (some (tbV tb)) c' d' ∧ t = sto ++ [.list ((fmL m i).map V.str)]) ∧ ∀ q ∈ tb.take j, fmHit m i q.1 = false, ⟨⟨c, d, rfl, rfl⟩, fun q hq => absurd hq (by simp)⟩, fun _ _ _ _ _ => trivial, ?_, ?_⟩)))
  ·rintro j l t hj ⟨⟨c', d', rfl, rfl⟩, hno⟩
   obtain ⟨p, hp⟩ : ∃ p, tb[j]? = some p := ⟨_, List.getElem?_eq_getElem (by rw [List.length_map] at hj; exact hj)⟩
   have hp2 : (tb.map fun p => V.tup [.int p.1, .str p.2])[j]?.getD V.none = .tup [.int p.1, .str p.2] := by rw [List.getElem?_map, hp]; rfl
   have hnx := take_no hp hno
   have hhit := fmCh_hit hp hno
   show WL C _ _ _ _ [(tb.map fun p => V.tup [.int p.1, .str p.2])[j]?.getD V.none] RU _ _
   rw [hp2]
   refine WL.use (b := ()) (loc1 := l47 m sto.length (some (.int i)) (some (tbV tb)) (some (.int p.1)) (some (.str p.2))) (sto1 := sto ++ [.list ((fmL m i).map V.str)]) ?_ ?_
   ·with_reducible exact eu_pair .z4 .z5 rfl
   have hat : (sto ++ [SO.list ((fmL m i).map V.str)])[sto.length]? = some (.list ((fmL m i).map V.str)) := jIA
   by_cases h0 : i = 0
   ·have qi : ((i : Int) == 0) = true := by rw [beq_iff_eq]; lia
    have qh : fmHit m i p.1 = (Builtin.bitAnd m 61440 == p.1) := by unfold fmHit; rw [if_pos h0]
    rw [qh] at hnx hhit
    cases qq : (Builtin.bitAnd m 61440 == p.1)
    ·refine W.use (loc1 := l47 m sto.length (some (.int i)) (some (tbV tb)) (some (.int p.1)) (some (.str p.2))) (sto1 := sto ++ [.list ((fmL m i).map V.str)]) (b := Out.next) ?_ ⟨⟨_, _, rfl, rfl⟩, hnx qq⟩
     with_reducible exact es_next (e1_ifT (jR rfl (jD .z2 R3) (jF R3) (wl_eqI ⟨qi, rfl, rfl⟩)) (es_next (e1_ifF (jR rfl (jV G.D1 (jC (fun _ => jA) jN) (jU hs n47c G.g1 jW (by decide)) (jE jA (jD .zero R3) jP) (c_ifmt G.D1 (by show 1 ≤ room; lia))) (jD .z4 R3) (wl_eqI ⟨qq, rfl, rfl⟩)) es_nil) es_nil)) es_nil
    ·refine W.use (loc1 := l47 m sto.length (some (.int i)) (some (tbV tb)) (some (.int p.1)) (some (.str p.2))) (sto1 := (sto ++ [SO.list ((fmL m i).map V.str)]).set sto.length (SO.list ((fmL m i).map V.str ++ [V.str p.2]))) (b := Out.brk) ?_ (ws_nil (hfin p.2 _ _ .next (hhit qq).symm))
     with_reducible exact es_brk (e1_ifT (jR rfl (jD .z2 R3) (jF R3) (wl_eqI ⟨qi, rfl, rfl⟩)) (es_brk (e1_ifT (jR rfl (jV G.D1 (jC (fun _ => jA) jN) (jU hs n47c G.g1 jW (by decide)) (jE jA (jD .zero R3) jP) (c_ifmt G.D1 (by show 1 ≤ room; lia))) (jD .z4 R3) (wl_eqI ⟨qq, rfl, rfl⟩)) (es_next (e1_append rfl rfl .z1 (fun _ => jA) (fun _ => rfl) (jD .z5 R3) ⟨_, hat⟩ hat hlen) (es_brk e1_brk)))))
   ·have qi : ((i : Int) == 0) = false := by rw [beq_eq_false_iff_ne]; lia
    have qh : fmHit m i p.1 = (Builtin.bitAnd m p.1 == p.1) := by unfold fmHit; rw [if_neg h0]
    rw [qh] at hnx hhit
    cases qq : (Builtin.bitAnd m p.1 == p.1)
    ·refine W.use (loc1 := l47 m sto.length (some (.int i)) (some (tbV tb)) (some (.int p.1)) (some (.str p.2))) (sto1 := sto ++ [.list ((fmL m i).map V.str)]) (b := Out.next) ?_ ⟨⟨_, _, rfl, rfl⟩, hnx qq⟩
     with_reducible exact es_next (e1_ifF (jR rfl (jD .z2 R3) (jF R3) (wl_eqI ⟨qi, rfl, rfl⟩)) (es_next (e1_ifF (jR rfl (jO (jD .zero R3) (jD .z4 R3) (wl_band R3)) (jD .z4 R3) (wl_eqI ⟨qq, rfl, rfl⟩)) es_nil) es_nil)) es_nil
    ·refine W.use (loc1 := l47 m sto.length (some (.int i)) (some (tbV tb)) (some (.int p.1)) (some (.str p.2))) (sto1 := (sto ++ [SO.list ((fmL m i).map V.str)]).set sto.length (SO.list ((fmL m i).map V.str ++ [V.str p.2]))) (b := Out.brk) ?_ (ws_nil (hfin p.2 _ _ .next (hhit qq).symm))
     with_reducible exact es_brk (e1_ifF (jR rfl (jD .z2 R3) (jF R3) (wl_eqI ⟨qi, rfl, rfl⟩)) (es_brk (e1_ifT (jR rfl (jO (jD .zero R3) (jD .z4 R3) (wl_band R3)) (jD .z4 R3) (wl_eqI ⟨qq, rfl, rfl⟩)) (es_next (e1_append rfl rfl .z1 (fun _ => jA) (fun _ => rfl) (jD .z5 R3) ⟨_, hat⟩ hat hlen) (es_brk e1_brk)))))
  ·rintro l t ⟨⟨c', d', rfl, rfl⟩, hno⟩
   rw [List.length_map, List.take_of_length_le (Nat.le_refl _)] at hno
   have hno2 := fmCh_none hno
   have hat : (sto ++ [SO.list ((fmL m i).map V.str)])[sto.length]? = some (.list ((fmL m i).map V.str)) := jIA
   by_cases h0 : i = 0
   ·have qi : ((i : Int) == 0) = true := by rw [beq_iff_eq]; lia
    refine W.use (loc1 := l47 m sto.length (some (.int i)) (some (tbV tb)) c' d') (sto1 := (sto ++ [SO.list ((fmL m i).map V.str)]).set sto.length (SO.list ((fmL m i).map V.str ++ [V.str (Str.ofString "?").cps.toList]))) (b := Out.next) ?_ (ws_nil (hfin _ _ _ .next (by rw [hno2, fmNo, if_pos h0]; decide)))
    with_reducible exact es_next (e1_ifT (jR rfl (jD .z2 R3) (jF R3) (wl_eqI ⟨qi, rfl, rfl⟩)) (es_next (e1_append rfl rfl .z1 (fun _ => jB) (fun _ => rfl) (jQ R3) ⟨_, hat⟩ hat hlen) es_nil)) es_nil
   ·have qi : ((i : Int) == 0) = false := by rw [beq_eq_false_iff_ne]; lia
    refine W.use (loc1 := l47 m sto.length (some (.int i)) (some (tbV tb)) c' d') (sto1 := (sto ++ [SO.list ((fmL m i).map V.str)]).set sto.length (SO.list ((fmL m i).map V.str ++ [V.str (Str.ofString "-").cps.toList]))) (b := Out.next) ?_ (ws_nil (hfin _ _ _ .next (by rw [hno2, fmNo, if_neg h0]; decide)))
    with_reducible exact es_next (e1_ifF (jR rfl (jD .z2 R3) (jF R3) (wl_eqI ⟨qi, rfl, rfl⟩)) (es_next (e1_append rfl rfl .z1 (fun _ => jB) (fun _ => rfl) (jQ R3) ⟨_, hat⟩ hat hlen) es_nil)) es_nil
 ·intro l t r226y2
  refine ux_4_2 (r226y2) fun a b c d e387x4 e387x5 => ?_; (try clear r226y2); subst e387x4; subst e387x5
  have e10 : (ftab.map tbV).length = 10 := rfl
  rw [e10]
  refine ws_nil ?_
  refine er_ret (loc1 := l47 m sto.length a b c d) ?_
  have hsum : ((fmL m 10).map List.length).sum ≤ 100000 := fm_sum m
  have e0 : (Str.ofString "").cps.toList = [] := by decide
  with_reducible exact ee_meth (jC (fun _ => jA) jN) base_Const (by decide) rfl F.plainAttrs_str F.slot_str_join F.type_str_join (jQ R3) (fun as s x F r => str_hT r) (jE jA (jD .z1 R3) jP) (by rw [e0]; exact wl_join jIA hsum R3)
end
end Mine
namespace Mine
open PySem PySem.W PyProof.Rows PySem.Calls
noncomputable def mdTab : List Int := [8, 4, 8, 10, 8, 2, 6, 1, 12, 3]
noncomputable def mdI (x : Int) : Int := mdTab.getD ((x.fdiv 54).fmod 10).toNat 0 * 4096 + (x.fdiv 540).fmod 4096
theorem fmod_rng (a : Int) {b : Int} (h : 0 < b) : 0 ≤ a.fmod b ∧ a.fmod b < b := by
 rw [Int.fmod_eq_emod_of_nonneg _ (Int.le_of_lt h)]
 exact ⟨Int.emod_nonneg _ (by lia), Int.emod_lt_of_pos _ h⟩
noncomputable abbrev mdV : List V := [.int 8, .int 4, .int 8, .int 10, .int 8, .int 2, .int 6, .int 1, .int 12, .int 3]
theorem mdTab_get (i : Fin 10) : mdV[i.val]? = some (.int (mdTab.getD i.val 0)) := by
 have h : i.val < mdTab.length := i.isLt
 show (mdTab.map V.int)[i.val]? = _
 rw [List.getElem?_map, List.getD_eq_getElem?_getD, List.getElem?_eq_getElem h]; rfl
theorem mdTab_rng : ∀ i : Fin 10, 1 ≤ mdTab.getD i.val 0 ∧ mdTab.getD i.val 0 ≤ 12 := by decide
theorem mdI_rng (x : Int) : 4096 ≤ mdI x ∧ mdI x < 65536 := by
 have h := fmod_rng (x.fdiv 54) (b := 10) (by decide)
 have h2 := fmod_rng (x.fdiv 540) (b := 4096) (by decide)
 have h3 := mdTab_rng ⟨((x.fdiv 54).fmod 10).toNat, by lia⟩
 simp only at h3
 unfold mdI
 generalize mdTab.getD ((x.fdiv 54).fmod 10).toNat 0 = a at h3 ⊢
 generalize (x.fdiv 540).fmod 4096 = b at h2 ⊢
 have h4 := Int.mul_le_mul_of_nonneg_right h3.1 (show (0 : Int) ≤ 4096 by decide)
 have h5 := Int.mul_le_mul_of_nonneg_right h3.2 (show (0 : Int) ≤ 4096 by decide)
 exact ⟨Int.le_trans h4 (Int.le_add_of_nonneg_right h2.1), Int.lt_of_lt_of_le (Int.add_lt_add_of_le_of_lt h5 h2.2) (by decide)⟩
theorem md_idx (x : Int) : 0 ≤ (x.fdiv 54).fmod 10 ∧ (x.fdiv 54).fmod 10 < 2 ^ 62 := by
 have h := fmod_rng (x.fdiv 54) (b := 10) (by decide)
 lia
theorem md_get (x : Int) : mdV[((x.fdiv 54).fmod 10).toNat]? = some (.int (mdTab.getD ((x.fdiv 54).fmod 10).toNat 0)) := by
 have h := fmod_rng (x.fdiv 54) (b := 10) (by decide)
 exact mdTab_get ⟨((x.fdiv 54).fmod 10).toNat, by lia⟩
section
variable {C : Cst} {Γ : Fm} {loc : List (Option V)} {sto : List SO}
theorem c_mode {x : Int} (D : Def C 243 49 ["x"] []) (hroom : 1 ≤ Γ.room) : EL C Γ loc sto (callF (.ref 243)) [.int x] (.int (mdI x)) loc (sto ++ [.list mdV]) := by
 refine el_def [("x", none)] [some (.int x)] D hroom rfl rfl rfl fun A env frs own room hr hs => ?_
 have e : ∀ o : Out, o = .ret (.int (mdTab.getD ((x.fdiv 54).fmod 10).toNat 0 * 4096 + (x.fdiv 540).fmod 4096)) → o = .ret (.int (mdI x)) := fun o h => h
 with_reducible exact w_mono (b_mode (md_get x) (md_idx x).1 (md_idx x).2) (fun o l t q => ⟨e o q.1, q.2.2⟩) fun _ _ _ h => h
end
end Mine
namespace Mine
open PySem PySem.W PyProof.Rows PySem.Calls
theorem dig_eq {n : Int} (h : 0 ≤ n) : dig n = (Nat.toDigits 10 n.natAbs).map Char.toNat := by
 obtain ⟨m, rfl⟩ := Int.eq_ofNat_of_zero_le h
 show (Str.ofString (Nat.repr m)).cps.toList = _
 rw [Int.natAbs_natCast]
 rw [Str.ofString_eq_toList, Nat.toList_repr]
theorem dig_len {n : Int} (h : 0 ≤ n) (h1 : n < 65536) : (dig n).length ≤ 5 := by
 rw [dig_eq h, List.length_map]
 have e := (Nat.length_repr_le_iff (n := n.natAbs) (by decide : 0 < 5)).mpr (by lia)
 rwa [← String.length_toList, Nat.toList_repr] at e
theorem dig_chars {n : Int} (h : 0 ≤ n) : ∀ c ∈ dig n, 48 ≤ c ∧ c ≤ 57 := by
 rw [dig_eq h]
 intro c hc
 refine un_1_2 (List.mem_map.mp hc) fun d hd e388x2 => ?_; subst e388x2
 have := Nat.isDigit_of_mem_toDigits (by decide) (by decide) hd
 simp only [Char.isDigit, Bool.and_eq_true, decide_eq_true_eq] at this
 exact ⟨this.1, this.2⟩
end Mine
namespace Mine
open PySem PySem.W PyProof.Rows PySem.Calls
noncomputable abbrev lAbc : List Nat := (Str.ofString "abcdefghijklmno").cps.toList
noncomputable abbrev lMk : List Nat := (Str.ofString "|\"").cps.toList
noncomputable def mkC (k : Nat) : Nat := lMk.getD ((k : Int).fmod 2).toNat 0
noncomputable def nmC (k : Nat) : List Nat := rep (Str.ofString "\"").cps.toList ((k : Int).fmod 3) ++ [lAbc.getD k 0]
noncomputable def portC (k : Nat) (x : Int) : List Nat := (Str.ofString "229 (").cps.toList ++ rep [mkC k] 3 ++ dig (mdI x) ++ [mkC k] ++ (Str.ofString ")").cps.toList
noncomputable def spL (k : Nat) (p : List Nat) : List (List Nat) :=
 [slc p none (some (-1)), slc p none (some 4) ++ slc p (some 5) none, (PySem.Txt.replace ⟨p.toArray⟩ ⟨(rep [mkC k] 3).toArray⟩ ⟨(rep [mkC k] 2).toArray⟩).cps.toList, slc p none (some (-2)) ++ (Str.ofString "!)").cps.toList]
noncomputable def spC (k : Nat) (x : Int) : List Nat := (spL k (portC k x)).getD ((k : Int).fmod 4).toNat []
noncomputable def coL (k : Nat) (x : Int) (sg : List Nat) : List (List Nat) :=
 [sg ++ (Str.ofString " ").cps.toList ++ nmC k, sg ++ (Str.ofString " ").cps.toList ++ nmC k, portC k x, (Str.ofString "250 ").cps.toList ++ nmC k, (Str.ofString "257 is ").cps.toList ++ nmC k, spC k x]
noncomputable def coC (k : Nat) (x : Int) (sg : List Nat) : List Nat := (coL k x sg).getD ((x.fdiv 3).fmod 6).toNat []
end Mine
namespace Mine
open PySem PySem.W PyProof.Rows PySem.Calls
theorem mk_get (k : Nat) : lMk[((k : Int).fmod 2).toNat]? = some (mkC k) := by
 have h := fmod_rng (k : Int) (b := 2) (by decide)
 exact get_of (by rw [show lMk.length = 2 from by decide]; lia)
theorem k_idx (k : Nat) {b : Int} (h : 0 < b) (hb : b ≤ 100) : 0 ≤ (k : Int).fmod b ∧ (k : Int).fmod b < 2 ^ 62 ∧ (k : Int).fmod b ≤ 1000 := by
 have h := fmod_rng (k : Int) h
 have h2 := Int.lt_of_lt_of_le h.2 hb
 exact ⟨h.1, Int.lt_trans h2 (by decide), Int.le_of_lt (Int.lt_trans h2 (by decide))⟩
theorem abc_get {k : Nat} (h : k < 15) : lAbc[(k : Int).toNat]? = some (lAbc.getD k 0) := get_of (by rw [show lAbc.length = 15 from by decide]; exact h)
theorem k_three (k : Nat) : 0 ≤ (k : Int).fmod 3 ∧ (k : Int).fmod 3 ≤ 1000 := by
 have h := fmod_rng (k : Int) (b := 3) (by decide)
 lia
theorem k_lt {k : Nat} (h : k < 15) : (k : Int) < 2 ^ 62 := by lia
theorem rep_len (c : Nat) (n : Int) : (rep [c] n).length = n.toNat := by unfold rep; simp
theorem nm_len (k : Nat) : (rep (Str.ofString "\"").cps.toList ((k : Int).fmod 3)).length + [lAbc.getD k 0].length ≤ 16777216 := by
 have h := fmod_rng (k : Int) (b := 3) (by decide)
 rw [q34, rep_len]
 show _ + 1 ≤ _
 lia
theorem keep_str : keeperOf (.type "str") = pure .machine := by kernel_rfl
theorem n51a : (sc 51).names.lookup (Str.ofString "_law_mode") = some .globalImplicit := by kernel_rfl
theorem n51b : (sc 51).names.lookup (Str.ofString "str") = some .globalImplicit := by kernel_rfl
theorem md_str (x : Int) : 0 ≤ mdI x ∧ mdI x < 1000000 := by have := mdI_rng x; lia
theorem po_a (k : Nat) : ((Str.ofString "229 (").cps.toList ++ rep [mkC k] 3).length = 8 := by
 rw [List.length_append, rep_len]; decide
theorem po_b (k : Nat) (x : Int) : ((Str.ofString "229 (").cps.toList ++ rep [mkC k] 3 ++ dig (mdI x)).length ≤ 13 := by
 have h := mdI_rng x
 rw [List.length_append, po_a]
 have := dig_len (n := mdI x) (by lia) h.2
 lia
theorem po_1 (k : Nat) : (Str.ofString "229 (").cps.toList.length + (rep [mkC k] 3).length ≤ 16777216 := by rw [rep_len]; decide
theorem po_2 (k : Nat) (x : Int) : ((Str.ofString "229 (").cps.toList ++ rep [mkC k] 3).length + (dig (mdI x)).length ≤ 16777216 := by
 have := po_b k x
 rw [List.length_append] at this; lia
theorem po_3 (k : Nat) (x : Int) : ((Str.ofString "229 (").cps.toList ++ rep [mkC k] 3 ++ dig (mdI x)).length + [mkC k].length ≤ 16777216 := by
 have := po_b k x
 show _ + 1 ≤ _; lia
theorem po_4 (k : Nat) (x : Int) : ((Str.ofString "229 (").cps.toList ++ rep [mkC k] 3 ++ dig (mdI x) ++ [mkC k]).length + (Str.ofString ")").cps.toList.length ≤ 16777216 := by
 have := po_b k x
 rw [List.length_append]
 show _ + 1 + 1 ≤ _; lia
theorem room1 {n : Nat} (h : 2 ≤ n) : 1 ≤ n - 1 := by lia
theorem one_len {c : Nat} : [c].length ≤ 1000 := by show 1 ≤ 1000; decide
theorem slcLe {α : Type} (x : List α) (a b : Option Int) : (slc x a b).length ≤ x.length := by
 unfold slc; simp only [List.length_take, List.length_drop]; lia
theorem po_len (k : Nat) (x : Int) : (portC k x).length ≤ 15 := by
 have := po_b k x
 unfold portC
 rw [List.length_append, List.length_append]
 show _ + 1 + 1 ≤ _; lia
theorem po_s (k : Nat) (x : Int) (a b c d : Option Int) : (slc (portC k x) a b).length + (slc (portC k x) c d).length ≤ 16777216 := by
 have h := po_len k x
 have h1 := slcLe (portC k x) a b
 have h2 := slcLe (portC k x) c d
 lia
theorem po_t (k : Nat) (x : Int) (a b : Option Int) : (slc (portC k x) a b).length + (Str.ofString "!)").cps.toList.length ≤ 16777216 := by
 have h := po_len k x
 have h1 := slcLe (portC k x) a b
 rw [show (Str.ofString "!)").cps.toList.length = 2 by decide]
 lia
theorem po_u (k : Nat) (x : Int) : (portC k x).length ≤ 100000 ∧ (portC k x).length ≤ 16777216 := by
 have h := po_len k x; lia
theorem rep_ne (c : Nat) : rep [c] 3 ≠ rep [c] 2 := fun h => by
 have := congrArg List.length h
 rw [rep_len, rep_len] at this
 exact absurd this (by decide)
theorem rep_14 (c : Nat) : (rep [c] 2).length ≤ 14 := by rw [rep_len]; decide
theorem get_str {l : List (List Nat)} {i : Nat} (h : i < l.length) : (l.map V.str)[i]? = some (.str (l.getD i [])) := by
 rw [List.getElem?_map, List.getElem?_eq_getElem h]; simp [h]
noncomputable abbrev spV (k : Nat) (p : List Nat) : List V :=
 [.str (slc p none (some (-1))), .str (slc p none (some 4) ++ slc p (some 5) none), .str (PySem.Txt.replace ⟨p.toArray⟩ ⟨(rep [mkC k] 3).toArray⟩ ⟨(rep [mkC k] 2).toArray⟩).cps.toList, .str (slc p none (some (-2)) ++ (Str.ofString "!)").cps.toList)]
theorem sp_get (k : Nat) (x : Int) : (spV k (portC k x))[((k : Int).fmod 4).toNat]? = some (.str (spC k x)) := get_str (l := spL k (portC k x)) (by
 have h := fmod_rng (k : Int) (b := 4) (by decide)
 show _ < 4; lia)
noncomputable abbrev coV (k : Nat) (x : Int) (sg : List Nat) : List V := [.str (sg ++ (Str.ofString " ").cps.toList ++ nmC k), .str (sg ++ (Str.ofString " ").cps.toList ++ nmC k), .str (portC k x), .str ((Str.ofString "250 ").cps.toList ++ nmC k), .str ((Str.ofString "257 is ").cps.toList ++ nmC k), .str (spC k x)]
theorem co_get (k : Nat) (x : Int) (sg : List Nat) : (coV k x sg)[((x.fdiv 3).fmod 6).toNat]? = some (.str (coC k x sg)) := get_str (l := coL k x sg) (by
 have h := fmod_rng (x.fdiv 3) (b := 6) (by decide)
 show _ < 6; lia)
theorem co_idx (x : Int) : 0 ≤ (x.fdiv 3).fmod 6 ∧ (x.fdiv 3).fmod 6 < 2 ^ 62 := by
 have h := fmod_rng (x.fdiv 3) (b := 6) (by decide)
 lia
theorem nmC_len (k : Nat) : (nmC k).length ≤ 3 := by
 have h := fmod_rng (k : Int) (b := 3) (by decide)
 unfold nmC
 rw [q34, List.length_append, rep_len]
 show _ + 1 ≤ _
 lia
theorem co_a {sg : List Nat} (h : sg.length ≤ 20) : sg.length + (Str.ofString " ").cps.toList.length ≤ 16777216 := by
 rw [show (Str.ofString " ").cps.toList.length = 1 by decide]; lia
theorem co_b {sg : List Nat} (k : Nat) (h : sg.length ≤ 20) : (sg ++ (Str.ofString " ").cps.toList).length + (nmC k).length ≤ 16777216 := by
 have := nmC_len k
 rw [List.length_append, show (Str.ofString " ").cps.toList.length = 1 by decide]; lia
theorem co_c (k : Nat) : (Str.ofString "250 ").cps.toList.length + (nmC k).length ≤ 16777216 := by
 have := nmC_len k
 rw [show (Str.ofString "250 ").cps.toList.length = 4 by decide]; lia
theorem co_d (k : Nat) : (Str.ofString "257 is ").cps.toList.length + (nmC k).length ≤ 16777216 := by
 have := nmC_len k
 rw [show (Str.ofString "257 is ").cps.toList.length = 7 by decide]; lia
noncomputable abbrev sl51 : List (Str × Option Addr) := [("k", none), ("x", none), ("signs", none), ("name", none), ("mark", none), ("port", none), ("spoilt", none)]
structure GCo (C : Cst) : Prop where
 D : Def C 257 51 ["k", "x", "signs"] ["name", "mark", "port", "spoilt"]
 D1 : Def C 243 49 ["x"] []
 g1 : C.mg "_law_mode" = some (.ref 243)
 g2 : C.mg "str" = none
section
variable {C : Cst} {Γ : Fm} {loc : List (Option V)} {sto : List SO}
theorem c_core {k : Nat} {x : Int} {sg : List Nat} (G : GCo C) (hroom : 2 ≤ Γ.room) (hk : k < 15) (hs' : sg.length ≤ 20) :
  WL C Γ loc sto (callF (.ref 257)) [.int k, .int x, .str sg] VR (fun v l t => (v = .str (coC k x sg) ∧ l = loc) ∧ ∃ g, t = sto ++ g) No := by
 refine wl_def G.D (Nat.le_trans (by decide) hroom) rfl fun A env frs own hs => ?_
 show WS C ⟨A, env, sl51, frs, own, Γ.room - 1⟩ [some (.int k), some (.int x), some (.str sg), none, none, none, none] sto (bd 51) _ No
 refine jG (W.use (loc1 := [some (.int k), some (.int x), some (.str sg), some (.str (nmC k)), some (.str [mkC k]), none, none]) (sto1 := sto) (b := Out.next) ?_ ?_)
 ·refine e1_assign_swap (names := ["name", "mark"]) (vs := [.str (nmC k), .str [mkC k]]) (loc1 := [some (.int k), some (.int x), some (.str sg), none, none, none, none]) (sto1 := sto) rfl ?_ ?_ rfl ?_
  ·unfold swappedStores Env.blockKind Env.kindOf
   rw [hs]
   kernel_rfl
  ·with_reducible exact jT (jE jH (jO (jO (jQ R3) (jO (jD .zero R3) (jF R3) (wl_mod (by decide) R3)) (wl_mulS (k_three k) (by decide) R3)) (ee_sub (jQ R3) (jD .zero R3) (wl_getS nsl_Name (Int.natCast_nonneg _) (k_lt hk) (abc_get hk) R3)) (jNA (nm_len k) R3)) (jE jI (ee_sub (jQ R3) (jO (jD .zero R3) (jF R3) (wl_mod (by decide) R3)) (wl_getS nsl_BinOp (k_idx k (by decide) (by decide)).1 (k_idx k (by decide) (by decide)).2.1 (mk_get k) R3)) jP)) (Nat.le_of_ble_eq_true rfl)
  ·exact eu_cons (eu_bind .z4 (jFA (sl := sl51) rfl)) (eu_cons (eu_bind .z3 (jFA (sl := sl51) rfl)) (eu_nil rfl))
 refine jG (W.use (loc1 := [some (.int k), some (.int x), some (.str sg), some (.str (nmC k)), some (.str [mkC k]), some (.str (portC k x)), none]) (sto1 := sto ++ [.list mdV]) (b := Out.next) ?_ ?_)
 ·with_reducible exact jY (fun _ => rfl) (jFA (sl := sl51) rfl) (jO (jO (jO (jO (jQ R3) (jO (jD .z4 R3) (jF R3) (wl_mulS (by decide) one_len R3)) (jNA (po_1 k) R3)) (ee_call_m (jC (fun _ => jJ) jN) keep_str (jCA hs n51b G.g2 PyProof.Rows.Boot.«str» (by decide) (by decide)) (jE jJ (jV G.D1 (jC (fun _ => jA) jN) (jU hs n51a G.g1 jW (by decide)) (jE jA (jD .z1 R3) jP) (c_mode G.D1 (room1 hroom))) jP) (wl_str (md_str x) R3)) (jNA (po_2 k x) R3)) (jD .z4 R3) (jNA (po_3 k x) R3)) (jQ R3) (jNA (po_4 k x) R3)) .z5
 refine jG (W.use (loc1 := [some (.int k), some (.int x), some (.str sg), some (.str (nmC k)), some (.str [mkC k]), some (.str (portC k x)), some (.str (spC k x))]) (sto1 := sto ++ [.list mdV] ++ [.list (spV k (portC k x))]) (b := Out.next) ?_ ?_)
 ·with_reducible exact jY (fun _ => rfl) (jFA (sl := sl51) rfl) (ee_sub (jEA (jE jI (jS (jD .z5 R3) jZ (jAA (ee_unary (jF R3) (wl_usub R3))) jZ (wsl_str .none (.int (-1)) (po_u k x).2 R3)) (jE jH (jO (jS (jD .z5 R3) jZ (jAA (jF R3)) jZ (wsl_str .none (.int 4) (po_u k x).2 R3)) (jS (jD .z5 R3) (jAA (jF R3)) jZ jZ (wsl_str (.int 5) .none (po_u k x).2 R3)) (jNA (po_s k x _ _ _ _) R3)) (jE jJ (we_replace (y := rep [mkC k] 3) (z := rep [mkC k] 2) (jC (fun _ => jH) (jC (fun _ => jH) jN)) rfl jLA rfl rfl (rep_ne _) (rep_14 _) (W.use (jD .z5 R3) ⟨portC k x, rfl, (po_u k x).1, fresh_mul .z4 (by decide), fresh_mul .z4 (by decide), R3⟩)) (jE jH (jO (jS (jD .z5 R3) jZ (jAA (ee_unary (jF R3) (wl_usub R3))) jZ (wsl_str .none (.int (-2)) (po_u k x).2 R3)) (jQ R3) (jNA (po_t k x _ _) R3)) jP)))) (Nat.le_of_ble_eq_true rfl)) (jO (jD .zero R3) (jF R3) (wl_mod (by decide) R3)) (jKA nsl_BinOp jIA (k_idx k (by decide) (by decide)).1 (k_idx k (by decide) (by decide)).2.1 (sp_get k x) R3)) .z6
 ·refine w_mono (er_ret (loc1 := [some (.int k), some (.int x), some (.str sg), some (.str (nmC k)), some (.str [mkC k]), some (.str (portC k x)), some (.str (spC k x))]) (sto1 := sto ++ [.list mdV] ++ [.list (spV k (portC k x))] ++ [.list (coV k x sg)]) (v := .str (coC k x sg)) ?_) (fun o l t q => ⟨_, q.1, ⟨rfl, rfl⟩, _, q.2.trans (List.append_assoc _ _ _ |>.trans (List.append_assoc _ _ _))⟩) (fun _ _ _ h => h)
  with_reducible exact ee_sub (jEA (jE jH (jO (jO (jD .z2 R3) (jQ R3) (jNA (co_a hs') R3)) (jD .z3 R3) (jNA (co_b k hs') R3)) (jE jH (jO (jO (jD .z2 R3) (jQ R3) (jNA (co_a hs') R3)) (jD .z3 R3) (jNA (co_b k hs') R3)) (jE jA (jD .z5 R3) (jE jH (jO (jQ R3) (jD .z3 R3) (jNA (co_c k) R3)) (jE jH (jO (jQ R3) (jD .z3 R3) (jNA (co_d k) R3)) (jE jA (jD .z6 R3) jP)))))) (Nat.le_of_ble_eq_true rfl)) (jO (jO (jD .z1 R3) (jF R3) (wl_fdiv (by decide) R3)) (jF R3) (wl_mod (by decide) R3)) (jKA nsl_BinOp jIA (co_idx x).1 (co_idx x).2 (co_get k x sg) R3)
end
end Mine
namespace Mine
open PySem PySem.W PyProof.Rows PySem.Calls Builtin Builtin.Str Builtin.BaseException Builtin.Exceptions
noncomputable abbrev bmE : List Value := [.type "Exception", .type "BaseException", .type "object"]
inductive OwnObj (C : Cst) (Ca Eb : Addr) : Prop
 | mk (N : Addr) (nm q : Str) (bs : List Value) (hdct : Bool) (sn : List Str) (sub : List Value) (ab : Bool) (col : Option Bool) (dd : Option Addr) (k0 k1 k2 k3 k5 : Option Value) (mN : Str → Option Value)
  (hC : C.h0.get? Ca = some (excClassObj nm q Ca N bs (.ref Eb :: bmE) hdct sn sub ab col dd k0 k1 k2 k3 k5 "Exception.__new__")) (hN : C.h0.Ns N mN) (hi : mN "__init__" = none) (hs : mN "__str__" = none)
inductive OwnSup (C : Cst) (Eb : Addr) : Prop
 | mk (c0 : Value) (dd : Option Addr) (cd : ClassData) (sl : Array (Option Value)) (mA : Str → Option Value) (h : C.h0.get? Eb = some { cls := c0, dict := dd, data := .cls cd, slots := sl }) (hA : C.h0.Ns cd.ns mA) (hi : mA "__init__" = none) (hs : mA "__str__" = none)
structure OwnX (C : Cst) (x : Str) (Ca Eb : Addr) : Prop where
 bound : C.mg x = some (.ref Ca)
 obj : OwnObj C Ca Eb
 sup : OwnSup C Eb
section
variable {C : Cst} {x : Str} {Ca Eb : Addr} {A : Around} {E : Value → Shared → Prop} {s : Shared} {e t0 : Addr} {m : Str} {tk : Tok}
theorem own_isSub {T : String} {b : Bool} {M : Model} {P : Bool → Shared → Prop} (O : OwnX C x Ca Eb) (k : C.h0.StaysIn s.heap) (hb : bmE.contains (.type T) = b) (h : P b s) : wpAny M A (isSubtype (.ref Ca) (.type T)) P E s := by
 obtain ⟨N, nm, q, bs, hdct, sn, sub, ab, col, dd, k0, k1, k2, k3, k5, mN, hC, hN, _, _⟩ := O.obj
 obtain ⟨hp, g, d, tk, os⟩ := s
 refine wpAny_isSubtype_exc (k _ _ hC) ?_
 rw [show (Value.ref Ca :: .ref Eb :: bmE).contains (.type T) = b by rw [List.contains_cons, List.contains_cons, hb]; rfl]
 exact h
theorem own_str_look {M : Model} {P : Option Value → Shared → Prop} (O : OwnX C x Ca Eb) (k : C.h0.StaysIn s.heap) (h : P (some (.builtin "BaseException.__str__")) s) : wpAny M A (typeLookup (.ref Ca) "__str__") P E s := by
 obtain ⟨N, nm, q, bs, hdct, sn, sub, ab, col, dd, k0, k1, k2, k3, k5, mN, hC, hN, _, hs⟩ := O.obj
 obtain ⟨c0, dd', cd, sl, mA, hE, hA, _, hs'⟩ := O.sup
 obtain ⟨hp, g, d, tk, os⟩ := s
 rw [typeLookup_eq]
 refine wpAny_bind (wpAny_mroOf_exc (k _ _ hC) ?_)
 rw [lookupAlong_cons]
 refine wpAny_bind (wpAny_classOwn_exc (k _ _ hC) (hN.keeps k) ?_)
 rw [hs, lookupAlong_cons]
 refine wpAny_bind (wpAny_classOwn_cls (k _ _ hE) (hA.keeps k) ?_)
 rw [hs']
 have hB := F.excStr_Exception.str.lookup
 rw [typeLookup_eq, F.excBase_Exception.mroIs] at hB
 show wpAny M A (lookupAlong bmE "__str__") _ _ _
 rw [show lookupAlong bmE "__str__" = pure (some (.builtin "BaseException.__str__")) from hB]
 exact wpAny_pure h
theorem bexc_str_own {prog : Program} {w : World} {oe : Obj} {vs : Array Value} {Q : Fin → Shared → Prop} (he : s.heap.get? e = some oe) (hd : oe.data = .fields vs) (h0 : vs[0]? = some (.ref t0))
  (ht : s.heap.TupAt t0 [.str m tk]) (hq : Q (.done (.ret (.str m tk))) s) : wpAny (model prog w) A (Builtin.«BaseException.__str__» ⟨[.ref e], []⟩) Q E s := by
 have hb : ∀ {M : Model} {A : Around} {E : Value → Shared → Prop} {Q : Value × List Value → Shared → Prop}, Q (.ref t0, [.str m tk]) s → wpAny M A (bexcArgs (.ref e)) Q E s := fun {M A E Q} hq => by
  refine un_2_3 (ht) fun ot k hto _ htd => ?_; (try clear ht)
  unfold bexcArgs
  refine wpAny_bind (wpAny_field he hd h0 (wpAny_bind (wpAny_seqItems hto htd ?_)))
  exact wpAny_pure hq
 unfold Builtin.«BaseException.__str__»
 repeat (first | with_reducible refine hb ?_ | wp_step)
 exact hq
theorem check_slot {M : Model} {id owner n : String} {self : Value} {Q : Unit → Shared → Prop} (hsplit : splitId id = some (owner, n)) (hk : builtinKind id = some .slot)
  (hi : ∀ P : Bool → Shared → Prop, P true s → wpAny M A (isInstance self (.type owner)) P E s) (ha : argsOk id ⟨[self], []⟩) (hQ : Q () s) : wpAny M A (checkBuiltinCall id ⟨[self], []⟩) Q E s := by
 simp only [checkBuiltinCall, hk, hsplit]
 refine wpAny_bind (hi _ ?_)
 simp only [Bool.not_true, Bool.false_eq_true, if_false]
 cases hsig : Manifest.signature? id with
 | none => exact wpAny_pure hQ
 | some sig =>
  simp only [argsOk, hsig] at ha
  have h2 : Bind.checkArgs id sig ⟨[self], []⟩ = pure () := ha
  show wpAny M A (Bind.checkArgs id sig ⟨[self], []⟩) Q E s
  rw [h2]; exact wpAny_pure hQ
theorem own_str (O : OwnX C x Ca Eb) (k : C.h0.StaysIn s.heap) (hu : A.units + 2 < cLine) {Q : Value → Shared → Prop} {oe : Obj} {vs : Array Value} (he : s.heap.get? e = some oe) (hc : oe.cls = .ref Ca) (hd : oe.data = .fields vs) (h0 : vs[0]? = some (.ref t0))
  (ht : s.heap.TupAt t0 [.str m tk]) (h : Q (.str m tk) s) : wpAny (model C.prog C.w) A (call (.type "str") [.ref e]) Q E s := by
 refine callType_new F.called_str (by decide) (F.typeCall_str_1 _) (F.newCall_str_1 _) (fun obj => F.args_object_init_2 obj _) F.entry_str_new
  (meets_str_new (S := fun A' R s' => A'.units + 1 < cLine ∧ s = s' ∧ R (.ok (.ret (.str m tk))) s') ?_) ⟨hu, rfl, typeIs_str _ _ _, h⟩
 intro prog w A' R s' r229y5
 refine un_0_3 (r229y5) fun hu' e395x1 hq => ?_; (try clear r229y5); subst e395x1
 have hu2 : A'.in1.units < cLine := hu'
 have hsp : wpAny (model prog w) A'.in1 (callSpecial? (.ref e) "__str__") (fun v s' => v = some (.str m tk) ∧ s' = s) (fun e s' => R (.error e) s') s := by
  unfold callSpecial? specialOf
  refine wpAny_bind (wpAny_bind ?_)
  show wpAny _ _ (do return (← load e).cls) _ _ _
  refine wpAny_bind (wpAny_load he (wpAny_pure ?_))
  rw [hc]
  refine own_str_look O k ?_
  refine wpAny_holding ?_
  rw [F.excStr_Exception.str.bind]
  refine wpAny_bind (wpAny_pure ?_)
  refine wpAny_bind (wpAny_call (codeAny_call_builtin F.excStr_Exception.str.plain F.entry_bexc_str ?_))
  show wpAny (model prog w) A'.in1.in1 (checkBuiltinCall "BaseException.__str__" ⟨[.ref e], []⟩) _ _ _
  have c1 : splitId "BaseException.__str__" = some ("BaseException", "__str__") := by decide +kernel
  have c2 : builtinKind "BaseException.__str__" = some .slot := by decide +kernel
  have c3 := F.args_bexc_str (.ref e)
  with_reducible refine check_slot (id := "BaseException.__str__") (self := .ref e) (owner := "BaseException") (n := "__str__") c1 c2 ?_ c3 ?_
  ·intro P hP
   unfold isInstance
   refine wpAny_bind ?_
   show wpAny _ _ (do return (← load e).cls) _ _ _
   refine wpAny_bind (wpAny_load he (wpAny_pure ?_))
   rw [hc]
   exact own_isSub O k (b := true) (by decide) hP
  ·exact bexc_str_own he hd h0 ht (wpAny_pure ⟨rfl, rfl⟩)
 unfold Builtin.Str.strOf
 simp only [isExactStr, Bool.false_eq_true, if_false]
 refine wpAny_bind (wpAny_cRoomFor hu2 (wpAny_bind (wpAny_mono hsp ?_ fun _ _ q => q)))
 rintro v s' ⟨rfl, rfl⟩
 refine wpAny_bind (wpAny_pure ?_)
 rw [if_neg (by simp)]
 exact wpAny_pure hq
end
end Mine
namespace Mine
open PySem PySem.W PyProof.Rows PySem.Calls
section
variable {C : Cst} {Γ : Fm} {loc : List (Option V)} {sto : List SO} {X : XV → List (Option V) → List SO → Prop} {QS : Out → List (Option V) → List SO → Prop}
theorem w1_raise {x : Str} {Ca Eb : Addr} {np cpos pos : Pos} {e : Expr} {u : List Nat} {loc1 : List (Option V)} {sto1 : List SO} (O : OwnX C x Ca Eb) (hk : Γ.env.kindOf x = some .globalImplicit) (hd : (x == ("__debug__" : Str)) = false) (hp : Plain [e]) (he : starEach [e] Γ.env = [(false, eval e Γ.env)])
  (h : EE C Γ loc sto e (.str u) loc1 sto1) (q : X ⟨Ca, u, false⟩ loc1 sto1) : W1 C Γ loc sto (.Raise (some (.Call (.Name x np) [e] [] cpos)) none pos) QS X := fun s as F => by
 obtain ⟨N, nm, qn, bs, hdct, sn, sub, ab, col, dd, k0, k1, k2, k3, k5, mN, hC, hN, hni, _⟩ := O.obj
 obtain ⟨c0, dd', cd, sl, mA, hE, hA, hai, _⟩ := O.sup
 refine wpAny_Raise_call_subU (C := Ca) (nm := nm) (q := qn) (N := N) (bs := bs) (bm := .ref Eb :: bmE) (bmB := bmE) (hdct := hdct) (sn := sn) (sub := sub) (ab := ab) (col := col) (dd := dd) (k0 := k0) (k1 := k1) (k2 := k2) (k3 := k3) (k5 := k5)
  PySem.F.excBase_Exception (Bn := "Exception") (by decide) PySem.F.excBase_Exception (mN := mN) rfl F.ok.hand (hp _ _) hni
  (Name_function_global F.ok.kind hk (loadGlobal_global (by rw [F.ok.glob]; exact C.g.keeps F.g.keep) O.bound ⟨rfl, ?_⟩) hd)
 refine args_of hp (wpAny_mono ((jE (pos := cpos) he h jP) s as F) ?_ ?_)
 ·rintro xs s1 ⟨as1, l1, t1, vs, P1, r1, rfl, rfl, rfl⟩
  refine ⟨rfl, by rw [sizeLine16, r1.length]; show 1 ≤ 16777216; decide, P1.rep.g.keep _ _ hC, hN.keeps P1.rep.g.keep, .own (P1.rep.g.keep _ _ hE) (hA.keeps P1.rep.g.keep) hai .base, fun h' ex hm => ?_⟩
  refine un_1_3 (hm.there) fun t0 e0 e1 e2 => ?_
  refine un_1_2 (vrs1_inv r1) fun y e400x1 ry => ?_; subst e400x1
  obtain ⟨tk, rfl⟩ := jRA ry
  have P2 : Post C Γ as s as1 l1 t1 { s1 with heap := h', toks := s1.toks } := P1.trans (Post.ext P1.rep hm.keeps P1.rep.g.toks)
  refine ⟨as1, l1, t1, ⟨Ca, u, false⟩, ⟨P2.rep, P2.pre, P2.new, P2.keeps, P2.dom, ⟨ex, 0, P1.dom _ hm.new, (fun q => by cases q), _, _, t0, rfl, e0, rfl, rfl, rfl, ⟨_, 0, tk, e2, rfl, rfl⟩, rfl⟩⟩, trivial, q⟩
 ·rintro y s2 ⟨_, _, _, _, _, _, q⟩
  exact q.elim
end
end Mine
namespace Mine
open PySem PySem.W PyProof.Rows PySem.Calls
section
variable {C : Cst} {Γ : Fm} {as : List Addr} {loc : List (Option V)} {sto : List SO} {s : Shared}
theorem RepF.upX (R : RepF C Γ as loc sto s) {h' : Heap} {X : List Addr} (k0 : C.h0.StaysIn h') (K : Keeps X s.heap h')
  (hX : ∀ a ∈ X, a ∉ as ∧ a ∉ Γ.own ∧ (∀ x c, (x, some c) ∈ Γ.sl → a ≠ c) ∧ ∃ o vs, s.heap.get? a = some o ∧ o.data = .fields vs) : RepF C Γ as loc sto { s with heap := h' } := by
 have tk : TupKeeps s.heap h' := fun a o its n e hc hd => by
  obtain ⟨sl, q⟩ := K.up e fun q => by obtain ⟨_, _, _, o', vs, e', d'⟩ := hX a q; rw [e] at e'; cases e'; rw [hd] at d'; cases d'
  exact ⟨_, q, hc, hd⟩
 refine un_1_2 (R.ns) fun m n r => ?_
 refine un_3_3 (id n) fun oL es ep eL dL nL => ?_
 obtain ⟨slL, eL'⟩ := K.up eL fun q => (hX _ q).2.1 R.ok.loco
 refine ⟨⟨k0, R.g.len, fun i a so e1 e2 => (R.g.objs i a so e1 e2).mono List.prefix_rfl tk fun o e => ?_, R.g.nodup, R.g.fresh, R.g.gens, R.g.os, R.g.toks⟩, R.ok, ⟨m, ⟨_, es, ep, eL', dL, nL⟩, r.mono List.prefix_rfl tk fun x c hm ov ⟨o, e, d⟩ => ?_⟩, R.apart, fun a ha => ?_, R.frs.keeps fun b o es ep e hd => ?_⟩
 ·have hm := List.mem_of_getElem? e1
  exact K.exact e (fun z => (hX a z).1 hm) fun es ep z => R.g.mem_nodict hm e z
 ·obtain ⟨sl, e'⟩ := K.up e fun z => (hX c z).2.2.1 x c hm rfl
  exact ⟨_, e', d⟩
 ·refine un_1_2 (R.plain a ha) fun o e d => ?_
  obtain ⟨sl, e'⟩ := K.up e fun z => (hX a z).2.1 ha
  exact ⟨_, e', d⟩
 ·obtain ⟨sl, e'⟩ := K.up e fun z => by obtain ⟨_, _, _, o', vs, q, d'⟩ := hX b z; rw [e] at q; cases q; rw [hd] at d'; cases d'
  exact ⟨_, e', es, ep, hd⟩
theorem slots_none {as : List Addr} {h : Heap} {m : Str → Option Value} : ∀ {sl : List (Str × Option Addr)}, (∀ x c, (x, some c) ∉ sl) → SlotsR as h m sl (sl.map fun _ => none)
 | [], _ => rfl
 | (x, none) :: sl, hc => ⟨none, _, rfl, (fun v e => by cases e), slots_none fun x c hm => hc x c (.tail _ hm)⟩
 | (x, some c) :: sl, hc => absurd (.head _) (hc x c)
theorem keeper_str : keeperOf (.type "str") = pure .machine := by kernel_rfl
theorem run_handler {A' : Around} {x t0 : Addr} {X1 : Str} {Ca Eb : Addr} {u : List Nat} {tk : Tok} {oe : Obj} {vs : Array Value} {e0 pre n : Str} {k1 k2 k : Nat} {p1 p2 p3 p4 p5 p6 p7 p8 : Pos} {Q : Flow → Shared → Prop} {E : Value → Shared → Prop} {m : Str → Option Value}
  (F : RepF C Γ as loc sto s) (O : OwnX C X1 Ca Eb) (hu : A'.units + 2 < cLine) (hks : Γ.env.kindOf "str" = some .globalImplicit) (hms : C.mg "str" = none) (hkn : Γ.env.kindOf n = some .local) (hn : (n == ("__debug__" : Str)) = false)
  (ns : s.heap.Ns Γ.env.locals m) (hm : m n = some (.ref x)) (ex : s.heap.get? x = some oe) (cx : oe.cls = .ref Ca) (dx : oe.data = .fields vs) (v0 : vs[0]? = some (.ref t0)) (ht : s.heap.TupAt t0 [.str ⟨u.toArray⟩ tk]) (hl : pre.cps.toList.length + u.length ≤ 16777216)
  (hQ : ∀ s' y, Post C Γ as s as loc sto s' → VR as s'.heap (.tup [.str e0.cps.toList, .str (pre.cps.toList ++ u)]) y → Q (.ret y) s') :
  wpAny (model C.prog C.w) A' (execs [.Return (some (.Tuple [.Constant (.str e0) k1 p1, .BinOp (.Constant (.str pre) k2 p2) .Add (.Call (.Name "str" p3) [.Name n p4] [] p5) p6] k p7)) p8] Γ.env) Q E s := by
 refine wpAny_execs_cons (wpAny_Return_some (PyProof.Rows.Tuple_ ?_))
 show wpAny _ _ (spliced ((false, eval (.Constant (.str e0) k1 p1) Γ.env) :: (false, eval (.BinOp (.Constant (.str pre) k2 p2) .Add (.Call (.Name "str" p3) [.Name n p4] [] p5) p6) Γ.env) :: backTo p7 (starEach [] Γ.env))) _ _ _
 refine spliced_cons (wpAny_Constant_str (spliced_cons (wpAny_BinOp (wpAny_Constant_str (wpAny_Call_Name_kw (Name_function_global F.ok.kind hks
  (loadGlobal_builtin (by rw [F.ok.glob]; exact C.g.keeps F.g.keep) hms (by rw [F.ok.bts]; exact C.b.keeps F.g.keep) ((C.bb _ (by decide)).trans PyProof.Rows.Boot.«str») ?_)))))))
 refine callWith_machine (by rfl) keeper_str (args_of (fun _ _ => rfl) ?_)
 show wpAny _ _ (spliced ((false, eval (.Name n p4) Γ.env) :: backTo p5 (starEach [] Γ.env))) _ _ _
 refine spliced_cons (wpAny_Name (wpAny_loadName_local F.ok.kind hkn ns hm (spliced_nil ?_)) hn)
 refine own_str (s := { s with toks := s.toks + 1 + 1 }) O F.g.keep hu ex cx dx v0 ht ?_
 have e1 : pre = ⟨pre.cps.toList.toArray⟩ := (str_eta pre).symm
 generalize hpl : pre.cps.toList = pl at *
 subst e1
 refine add_any hl (Nat.succ_pos _) fun tk' n hn => spliced_nil ?_
 have F2 := (Post.tok F hn)
 obtain ⟨P3, r3⟩ := alloc_tup (P := fun _ _ => True) F2.rep (vrs2 (a := .str e0.cps.toList) (b := .str (pl ++ u)) (vr_str (x := e0) (t := s.toks)) (vr_str' (t := tk')))
 exact wpAny_newTuple (hQ _ _ (F2.trans P3) r3) (by rw [sizeLine16]; show 2 ≤ 16777216; decide)
end
end Mine
namespace Mine
open PySem PySem.W PyProof.Rows PySem.Calls
noncomputable def ExcSt (C : Cst) (Γ : Fm) (as0 : List Addr) (s0 : Shared) (as : List Addr) (l : List (Option V)) (t : List SO) (s : Shared) (b : XV) (x t0 : Addr) (tk : Tok) (base : Heap) : Prop :=
 Heap.FlyingW base Γ.frs x (.ref b.cls) (.ref t0) s.heap ∧ C.h0.StaysIn base ∧
 ∀ h, Heap.FlyingW base Γ.frs x (.ref b.cls) (.ref t0) h → s.heap.UpToSlots h → Post C Γ as0 s0 as l t { s with heap := h } ∧ h.TupAt t0 [.str ⟨b.msg.toArray⟩ tk]
theorem exc_state {C : Cst} {Γ : Fm} {as0 as : List Addr} {s0 s : Shared} {loc0 l : List (Option V)} {sto0 t : List SO} {b : XV} {e : Value} (R0 : RepF C Γ as0 loc0 sto0 s0) (P : PostK (some (b, e)) C Γ as0 s0 as l t s) (hb : b.tb = true) :
  ∃ x t0 tk base, e = .ref x ∧ ExcSt C Γ as0 s0 as l t s b x t0 tk base := by
 refine un_2_3 (P.exc) fun x T hx hT c405x => ?_; refine un_3_7 c405x fun oe vs t0 e405x7 ex cx dx v0 n405x12 v1 => ?_; clear c405x; subst e405x7; obtain ⟨ot, n, tk, et, ct, dt⟩ := n405x12
 rw [hb] at v1
 refine un_2_5 (v1) fun oT ts v1 hTx eT dT hts => ?_
 have hT := hT hb
 have R := P.rep
 have hfr : ∀ a ∈ Γ.frs.filterMap (·.frame), ∃ o es ep, s.heap.get? a = some o ∧ C.h0.get? a = none ∧ o.data = .dict es ep := fun a ha => by
  refine un_1_2 (List.mem_filterMap.mp ha) fun env he q => ?_
  refine un_0_2 (R.frs env he) fun _ c408x => ?_; refine un_4_4 c408x fun L' o es ep e1 e2 e3 e4 => ?_; clear c408x
  rw [e1] at q; cases q; exact ⟨o, es, ep, e3, e2, e4⟩
 have h0 : ∀ a, s0.heap.get? a = none → C.h0.get? a = none := fun a q => Ext.dom (fun b o q => R0.g.keep b o q) a q
 have hbase : ∀ a o, s.heap.get? a = some o → a ≠ x → a ≠ T → a ∉ Γ.frs.filterMap (·.frame) → (hideAll s.heap (x :: T :: Γ.frs.filterMap (·.frame))).get? a = some o := fun a o q n1 n2 n3 =>
  hideAll_get _ q fun z => by
   rcases List.mem_cons.mp z with w | z
   ·exact n1 w
   ·rcases List.mem_cons.mp z with w | z
    ·exact n2 w
    ·exact n3 z
 have hst : C.h0.StaysIn (hideAll s.heap (x :: T :: Γ.frs.filterMap (·.frame))) := fun a o q => hbase a o (R.g.keep a o q) (fun w => by rw [w, h0 x hx] at q; cases q) (fun w => by rw [w, h0 T hT] at q; cases q) fun w => by
  refine un_3_3 (hfr a w) fun _ _ _ _ w' _ => ?_
  rw [w'] at q; cases q
 refine ⟨x, t0, tk, hideAll s.heap (x :: T :: Γ.frs.filterMap (·.frame)), rfl, ⟨fun a o q => of_hideAll _ q, hideAll_none _ (.head _), FrsOk.fun fun env he => ?_, oe, vs, T, oT, ts, ex, ⟨cx, v0⟩, dx, v1, hideAll_none _ (.tail _ (.head _)), hTx, eT, dT, hts⟩, hst, fun h hf hu => ?_⟩
 ·refine un_0_2 (R.frs env he) fun hk c410x => ?_; refine un_4_4 c410x fun L' o es ep e1 _ e3 e4 => ?_; clear c410x
  exact ⟨hk, L', o, es, ep, e1, hideAll_none _ (.tail _ (.tail _ (List.mem_filterMap.mpr ⟨env, he, e1⟩))), e3, e4⟩
 ·have KX : Keeps [x, T] s.heap h := fun a o q hn => by
   by_cases hm : a ∈ Γ.frs.filterMap (·.frame)
   ·refine un_3_3 (hfr a hm) fun o' es ep q' _ d' => ?_
    rw [q] at q'; cases q'
    exact .inr ⟨⟨es, ep, d'⟩, hu a o q fun vs z => by rw [d'] at z; cases z⟩
   ·exact .inl (hf.1 a o (hbase a o q (fun z => hn (by rw [z]; exact .head _)) (fun z => hn (by rw [z]; exact .tail _ (.head _))) hm))
  have new : ∀ a ∈ [x, T], s0.heap.get? a = none := fun a ha => by
   rcases List.mem_cons.mp ha with w | w
   ·rw [w]; exact hx
   ·rw [List.mem_singleton.mp w]; exact hT
  have hXs : ∀ a ∈ [x, T], a ∉ as ∧ a ∉ Γ.own ∧ (∀ x c, (x, some c) ∈ Γ.sl → a ≠ c) ∧ ∃ o vs, s.heap.get? a = some o ∧ o.data = .fields vs := fun a ha => by
   refine ⟨?_, fun w => ?_, fun y c hm w => ?_, ?_⟩
   ·rcases List.mem_cons.mp ha with w | w
    ·rw [w]; intro z
     refine un_1_2 (R.g.mem_lt z) fun o q hc => ?_
     rw [ex] at q; cases q; rcases hc with hc | hc <;> rw [cx] at hc <;> cases hc
    ·rw [List.mem_singleton.mp w]
     exact R.g.big_not_mem eT dT (Nat.lt_of_succ_lt (Array.getElem?_eq_some_iff.mp hts).1)
   ·refine un_1_2 (R0.plain a w) fun o q _ => ?_
    rw [new a ha] at q; cases q
   ·refine un_1_2 (R0.ns) fun m _ r => ?_
    refine un_2_2 (r.cell hm) fun ov o q _ => ?_
    rw [← w, new a ha] at q; cases q
   ·rcases List.mem_cons.mp ha with w | w
    ·rw [w]; exact ⟨_, _, ex, dx⟩
    ·rw [List.mem_singleton.mp w]; exact ⟨_, _, eT, dT⟩
  have R' := R.upX (fun a o q => hf.1 a o (hst a o q)) KX hXs
  refine ⟨⟨R', P.pre, P.new, P.keeps.trans KX fun a ha => .inr (new a ha), fun a q => ?_, trivial⟩, ?_⟩
  ·by_cases w : a ∈ [x, T]
   ·exact new a w
   ·refine P.dom a ?_
    cases z : s.heap.get? a with
    | none => rfl
    | some o => obtain ⟨sl, z'⟩ := KX.up z w; rw [q] at z'; cases z'
  ·obtain ⟨sl, q⟩ := hu t0 ot et fun vs z => by rw [dt] at z; cases z
   exact ⟨_, n, q, ct, by rw [dt]⟩
section
variable {C : Cst} {Γ : Fm} {as0 as : List Addr} {s0 s : Shared} {l : List (Option V)} {t : List SO} {b : XV} {x t0 : Addr} {tk : Tok} {base : Heap} {Q : Flow → Shared → Prop} {E : Value → Shared → Prop}
theorem own_matches {X1 : Str} {Ca C1 Eb : Addr} {M : Model} {A : Around} {s : Shared} {oe : Obj} {P : Bool → Shared → Prop} {XA : Str} (O : OwnX C XA Ca Eb) (O1 : OwnX C X1 C1 Eb) (hne : C1 ≠ Eb) (k : C.h0.StaysIn s.heap) (he : s.heap.get? x = some oe) (hc : oe.cls = .ref Ca) (h : P (decide (Ca = C1)) s) :
  wpAny M A (excMatches (.ref x) (.ref C1)) P E s := by
 obtain ⟨N, nm, q, bs, hdct, sn, sub, ab, col, dd, k0, k1, k2, k3, k5, mN, hC, _⟩ := O.obj
 obtain ⟨N', nm', q', bs', hdct', sn', sub', ab', col', dd', k0', k1', k2', k3', k5', mN', hC1, _⟩ := O1.obj
 obtain ⟨hp, g, d, tk, os⟩ := s
 have hC := k _ _ hC
 have hC1 := k _ _ hC1
 by_cases e : Ca = C1
 ·subst e
  exact wpAny_excMatches_sub_self hC he hc (by rfl) (by simpa using h)
 ·have hcB : (Value.ref C1 :: .ref Eb :: bmE).contains (.type "BaseException") = true := rfl
  have hcC : (Value.ref Ca :: .ref Eb :: bmE).contains (.ref C1) = false := by simp [Ne.symm e, hne]
  have f := tc_notTuple
  rw [decide_eq_false e] at h
  unfold excMatches
  repeat (first | (with_reducible refine wpAny_loadPart_at he ?_; rw [hc]) | with_reducible refine wpAny_loadPart_at hC1 ?_ | (with_reducible refine wpAny_isSubtype_exc hC1 ?_; rw [hcB]) | (with_reducible refine wpAny_isSubtype_exc hC ?_; rw [hcC]) | wp_step)
  exact h
end
end Mine
namespace Mine
open PySem PySem.W PyProof.Rows PySem.Calls
section
variable {C : Cst} {Γ : Fm} {as0 as : List Addr} {s0 s : Shared} {l : List (Option V)} {t : List SO} {b : XV} {x t0 : Addr} {tk : Tok} {base : Heap} {Q : Flow → Shared → Prop} {E : Value → Shared → Prop}
structure HFrame (C : Cst) (Γ : Fm) (n : Str) : Prop where
 ks : Γ.env.kindOf "str" = some .globalImplicit
 ms : C.mg "str" = none
 kn : Γ.env.kindOf n = some .local
 nd : (n == ("__debug__" : Str)) = false
 nocell : ∀ x c, (x, some c) ∉ Γ.sl
 room : 1 ≤ Γ.room
 fr : Γ.env.frame = some Γ.env.locals
 frs : ∃ frs, Γ.frs = Γ.env :: frs
theorem handle_one {X1 XA n pre e0 : Str} {C1 Eb : Addr} {k1 k2 k : Nat} {np p1 p2 p3 p4 p5 p6 p7 p8 pos : Pos} {rest : List ExceptHandler} {h : Heap} (HF : HFrame C Γ n) (G : ExcSt C Γ as0 s0 as l t s b x t0 tk base) (hfl : Heap.FlyingW base Γ.frs x (.ref b.cls) (.ref t0) h) (hup : s.heap.UpToSlots h)
  (O : OwnX C XA b.cls Eb) (O1 : OwnX C X1 C1 Eb) (hne : C1 ≠ Eb) (hk1 : Γ.env.kindOf X1 = some .globalImplicit) (hd1 : (X1 == ("__debug__" : Str)) = false) (hl : pre.cps.toList.length + b.msg.length ≤ 16777216)
  (hQ : b.cls = C1 → ∀ s' y, Post C Γ as0 s0 as (Γ.sl.map fun _ => none) t s' → VR as s'.heap (.tup [.str e0.cps.toList, .str (pre.cps.toList ++ b.msg)]) y → Q (.ret y) s')
  (hR : b.cls ≠ C1 → wpAny (model C.prog C.w) Γ.A (handleBy (.ref x) Γ.env rest) Q E { s with heap := h }) :
  wpAny (model C.prog C.w) Γ.A (handleBy (.ref x) Γ.env (.ExceptHandler (some (.Name X1 np)) (some n) [.Return (some (.Tuple [.Constant (.str e0) k1 p1, .BinOp (.Constant (.str pre) k2 p2) .Add (.Call (.Name "str" p3) [.Name n p4] [] p5) p6] k p7)) p8] pos :: rest)) Q E { s with heap := h } := by
 refine un_0_3 (G) fun _ hst hgo => ?_; (try clear G)
 obtain ⟨P, _⟩ := hgo h hfl hup
 have F := P.rep
 have hu := F.ok.units
 have hroom := HF.room
 refine wpAny_handleBy_cons (codeAny_handlers_test (Name_function_global F.ok.kind hk1 (loadGlobal_global (by rw [F.ok.glob]; exact C.g.keeps F.g.keep) O1.bound ?_) hd1)) (by intro q; cases q)
 refine un_2_4 (hfl.first) fun oe vs ex cx dx v0 => ?_
 refine own_matches O O1 hne F.g.keep ex cx ?_
 by_cases hc : b.cls = C1
 ·rw [decide_eq_true hc]
  refine codeAny_handlers_suite_as ?_
  refine lands_againW hfl fun h6 hfl6 hup6 => ?_
  obtain ⟨P6, tup6⟩ := hgo h6 hfl6 (hup.trans hup6)
  have F6 := P6.rep
  refine un_2_4 (hfl6.first) fun oe6 vs6 ex6 cx6 dx6 v06 => ?_
  refine un_1_2 (F6.ns) fun m nm _ => ?_
  refine wpAny_storeName_local HF.kn nm (fun h7 n7 sb7 => ?_) (by rw [F6.ok.kind]; rfl)
  have P7 : Post C Γ as { s with heap := h6 } as (Γ.sl.map fun _ => none) t { s with heap := h7, toks := s.toks + 1 } := Post.setNs F6 ⟨_, n7⟩ sb7 (Nat.succ_pos _) fun _ _ _ _ => ⟨_, n7, slots_none HF.nocell⟩
  refine un_3_3 (nm) fun oL esL epL eL dL _ => ?_; (try clear nm)
  have xL : x ≠ Γ.env.locals := fun q => by rw [q, eL] at ex6; cases ex6; rw [dL] at dx6; cases dx6
  have tL : t0 ≠ Γ.env.locals := fun q => by obtain ⟨ot, nt, et, _, dt⟩ := tup6; rw [q, eL] at et; cases et; rw [dL] at dt; cases dt
  have P07 := P6.trans P7
  refine run_handler (A' := Γ.A.mark (some (.ref x))) (s := { s with heap := h7, toks := s.toks + 1 }) (vs := vs6) (oe := oe6) P7.rep O (show Γ.A.units + 2 < cLine by lia) HF.ks HF.ms HF.kn HF.nd n7 (by simp) ((sb7.2 x xL).trans ex6) cx6 dx6 v06 (tk := tk) (let ⟨ot, nt, et, r⟩ := tup6; ⟨ot, nt, (sb7.2 t0 tL).trans et, r⟩) hl fun s8 y P8 r8 => ?_
  have F8 := P8.rep
  refine un_1_2 (F8.ns) fun m8 n8 _ => ?_
  show wpAny _ _ (do bindName Γ.env n .none; unbindBehindTheSuite Γ.env n pos) _ _ _
  refine wpAny_nameGoes HF.kn n8 (by rw [F8.ok.kind]; rfl) fun h9 m9 n9 sb9 => ?_
  have P9 : Post C Γ as s8 as (Γ.sl.map fun _ => none) t { s8 with heap := h9, toks := s8.toks + 1 } := Post.setNs F8 ⟨_, n9⟩ sb9 (Nat.succ_pos _) fun _ _ _ _ => ⟨_, n9, slots_none HF.nocell⟩
  exact hQ hc _ _ ((P07.trans P8).trans P9) (P9.vr F8 r8)
 ·rw [decide_eq_false hc]
  exact hR hc
theorem w1_try {loc : List (Option V)} {sto : List SO} {QS : Out → List (Option V) → List SO → Prop} {X : XV → List (Option V) → List SO → Prop} {X1 X2 n pre1 pre2 e1 e2 : Str} {C1 C2 Eb : Addr} {k1 k2 k j1 j2 j : Nat} {np p1 p2 p3 p4 p5 p6 p7 p8 pos nq q1 q2 q3 q4 q5 q6 q7 q8 qos tpos : Pos} {body : List Stmt} {XB : XV → List (Option V) → List SO → Prop}
  (HF : HFrame C Γ n) (O1 : OwnX C X1 C1 Eb) (O2 : OwnX C X2 C2 Eb) (hne1 : C1 ≠ Eb) (hne2 : C2 ≠ Eb) (hk1 : Γ.env.kindOf X1 = some .globalImplicit) (hk2 : Γ.env.kindOf X2 = some .globalImplicit) (hd1 : (X1 == ("__debug__" : Str)) = false) (hd2 : (X2 == ("__debug__" : Str)) = false) (hl1 : pre1.cps.toList.length ≤ 100) (hl2 : pre2.cps.toList.length ≤ 100)
  (hb : WS C Γ loc sto body (fun o l t => ∃ v, o = .ret v ∧ ∀ l, QS (.ret v) l t) XB)
  (hx : ∀ b l t, XB b l t → b.tb = true ∧ b.msg.length ≤ 1000 ∧ ((b.cls = C1 ∧ ∀ l, QS (.ret (.tup [.str e1.cps.toList, .str (pre1.cps.toList ++ b.msg)])) l t) ∨ (b.cls = C2 ∧ C2 ≠ C1 ∧ ∀ l, QS (.ret (.tup [.str e2.cps.toList, .str (pre2.cps.toList ++ b.msg)])) l t))) :
  W1 C Γ loc sto (.Try body [.ExceptHandler (some (.Name X1 np)) (some n) [.Return (some (.Tuple [.Constant (.str e1) k1 p1, .BinOp (.Constant (.str pre1) k2 p2) .Add (.Call (.Name "str" p3) [.Name n p4] [] p5) p6] k p7)) p8] pos,
   .ExceptHandler (some (.Name X2 nq)) (some n) [.Return (some (.Tuple [.Constant (.str e2) j1 q1, .BinOp (.Constant (.str pre2) j2 q2) .Add (.Call (.Name "str" q3) [.Name n q4] [] q5) q6] j q7)) q8] qos] [] [] tpos) QS X := fun s0 as0 F0 => by
 refine wpAny_Try_except (wpAny_mono (hb s0 as0 F0) ?_ ?_)
 ·rintro f s ⟨as1, l1, t1, o, P, r, v, rfl, q⟩
  refine un_1_2 (r) fun y e426x1 ry => ?_; (try clear r); subst e426x1
  exact ⟨as1, l1, t1, .ret v, P, ⟨y, rfl, ry⟩, q _⟩
 ·rintro e s ⟨as1, l1, t1, b, P, _, q⟩
  refine un_0_3 (hx b l1 t1 q) fun htb hlen hq => ?_
  refine un_4_2 (exc_state F0 P htb) fun x t0 tk base e429x4 G => ?_; subst e429x4
  obtain ⟨frs, hfrs⟩ := HF.frs
  have hA : Γ.A.frames = some (Γ.env :: frs) := by rw [← hfrs]; exact P.rep.ok.frames
  refine wpAny_looks_onW hA HF.fr (by rw [← hfrs]; exact G.1) fun h4 hh4 hu4 => ?_
  refine wpAny_landsW hh4 fun h5 hf5 hu5 => ?_
  rw [← hfrs] at hf5
  rcases hq with ⟨hc, hq⟩ | ⟨hc, hcc, hq⟩
  ·exact handle_one (s := s) HF G hf5 (hu4.trans hu5) (hc ▸ O1) O1 hne1 hk1 hd1 (by lia) (fun _ s' y P' r' => ⟨as1, _, t1, .ret _, P', ⟨y, rfl, r'⟩, hq _⟩) fun k => absurd hc k
  ·exact handle_one (s := s) HF G hf5 (hu4.trans hu5) (hc ▸ O2) O1 hne1 hk1 hd1 (by lia) (fun k => absurd (hc.symm.trans k) hcc) fun _ =>
    handle_one (s := s) HF G hf5 (hu4.trans hu5) (hc ▸ O2) O2 hne2 hk2 hd2 (by lia) (fun _ s' y P' r' => ⟨as1, _, t1, .ret _, P', ⟨y, rfl, r'⟩, hq _⟩) fun k => absurd hc k
end
end Mine
namespace Mine
section
variable {α : Type}
structure Lin (lt : α → α → Bool) : Prop where
 tr : ∀ a b c, lt a b = true → lt b c = true → lt a c = true
 asym : ∀ a b, lt a b = true → lt b a = false
 tot : ∀ a b, lt a b = false → lt b a = false → a = b
variable {lt : α → α → Bool}
theorem Lin.le {a b c : α} (L : Lin lt) (h : lt b a = false) (k : lt c b = false) : lt c a = false := by
 cases e : lt c a with
 | false => rfl
 | true =>
  cases f : lt a b with
  | true => rw [L.tr c a b e f] at k; cases k
  | false => rw [L.tot a b f h] at e; rw [e] at k; cases k
theorem Lin.flip (L : Lin lt) : Lin (fun a b => lt b a) := ⟨fun a b c h k => L.tr c b a k h, fun a b h => L.asym b a h, fun a b h k => L.tot a b k h⟩
theorem gd {h : List α} {i : Nat} (x : α) (hi : i < h.length) : h.getD i x = h[i] := by rw [List.getD_eq_getElem?_getD, List.getElem?_eq_getElem hi]; rfl
theorem gs (h : List α) (i j : Nat) (v x : α) : (h.set i v).getD j x = if i = j ∧ j < h.length then v else h.getD j x := by
 rw [List.getD_eq_getElem?_getD, List.getD_eq_getElem?_getD, List.getElem?_set]
 by_cases e : i = j
 ·subst e
  by_cases k : i < h.length
  ·simp [k]
  ·simp [k]
 ·simp [e]
theorem gs_ne (h : List α) {i j : Nat} (v x : α) (e : i ≠ j) : (h.set i v).getD j x = h.getD j x := by rw [gs, if_neg fun q => e q.1]
theorem gs_eq (h : List α) {i : Nat} (v x : α) (e : i < h.length) : (h.set i v).getD i x = v := by rw [gs, if_pos ⟨rfl, e⟩]
theorem swap_perm (l : List α) (x : α) {i j : Nat} (hi : i < l.length) (hj : j < l.length) : ((l.set i (l.getD j x)).set j (l.getD i x)).Perm l := by
 have := Array.swap_perm (xs := l.toArray) (i := i) (j := j) hi hj
 rw [Array.perm_iff_toList_perm] at this
 refine List.Perm.trans (.of_eq ?_) this
 rw [gd _ hi, gd _ hj]
 simp [Array.swap, hi, hj]
variable (lt)
noncomputable def sdn (s : Nat) (x : α) : Nat → List α → Nat → List α
 | 0, h, p => h.set p x
 | n + 1, h, p => if s < p ∧ lt x (h.getD ((p - 1) / 2) x) = true then sdn s x n (h.set p (h.getD ((p - 1) / 2) x)) ((p - 1) / 2) else h.set p x
noncomputable def kid (h : List α) (p : Nat) (x : α) : Nat := if 2 * p + 2 < h.length ∧ lt (h.getD (2 * p + 1) x) (h.getD (2 * p + 2) x) = false then 2 * p + 2 else 2 * p + 1
noncomputable def sup (x : α) : Nat → List α → Nat → List α × Nat
 | 0, h, p => (h, p)
 | n + 1, h, p => if 2 * p + 1 < h.length then sup x n (h.set p (h.getD (kid lt h p x) x)) (kid lt h p x) else (h, p)
noncomputable def sft (h : List α) (p : Nat) (x : α) : List α := sdn lt p x (sup lt x h.length h p).2 ((sup lt x h.length h p).1.set (sup lt x h.length h p).2 x) (sup lt x h.length h p).2
noncomputable def Hp (x : α) (s : Nat) (h : List α) : Prop := ∀ i, 0 < i → i < h.length → s ≤ (i - 1) / 2 → lt (h.getD i x) (h.getD ((i - 1) / 2) x) = false
inductive Desc (s : Nat) : Nat → Prop
 | refl : Desc s s
 | kid {p c : Nat} : Desc s p → 0 < c → (c - 1) / 2 = p → Desc s c
theorem Desc.le {s p : Nat} (h : Desc s p) : s ≤ p := by
 induction h with
 | refl => exact Nat.le_refl _
 | kid _ h0 e ih => lia
theorem Desc.up {s p : Nat} (h : Desc s p) (k : s < p) : Desc s ((p - 1) / 2) := by
 cases h with
 | refl => exact absurd k (Nat.lt_irrefl _)
 | kid h h0 e => rw [e]; exact h
structure Hole (x : α) (s : Nat) (h : List α) (p : Nat) : Prop where
 desc : Desc s p
 inb : p < h.length
 rest : ∀ i, 0 < i → i < h.length → s ≤ (i - 1) / 2 → i ≠ p → (i - 1) / 2 ≠ p → lt (h.getD i x) (h.getD ((i - 1) / 2) x) = false
 grand : s < p → ∀ i, 0 < i → i < h.length → (i - 1) / 2 = p → lt (h.getD i x) (h.getD ((p - 1) / 2) x) = false
variable {lt}
theorem par_lt {i : Nat} (h : 0 < i) : (i - 1) / 2 < i := by lia
theorem hole_swap (l : List α) (v x : α) {p q : Nat} (hne : q ≠ p) (hp : p < l.length) (hq : q < l.length) : ((l.set p (l.getD q x)).set q v).Perm (l.set p v) := by
 have := swap_perm (l.set p v) x (i := p) (j := q) (by rw [List.length_set]; exact hp) (by rw [List.length_set]; exact hq)
 rw [gs_ne _ _ _ (Ne.symm hne), gs_eq _ _ _ hp, List.set_set] at this
 exact this
theorem Hole.fin {x : α} {s : Nat} {h : List α} {p : Nat} (H : Hole lt x s h p) (kids : ∀ i, 0 < i → i < h.length → (i - 1) / 2 = p → lt (h.getD i x) x = false)
  (up : s < p → lt x (h.getD ((p - 1) / 2) x) = false) : Hp lt x s (h.set p x) := fun i h0 hi hs => by
 rw [List.length_set] at hi
 have hlt := par_lt h0
 by_cases e : i = p
 ·subst e
  rw [gs_eq _ _ _ H.inb, gs_ne _ _ _ (Nat.ne_of_gt hlt)]
  exact up (Nat.lt_of_le_of_lt hs hlt)
 ·rw [gs_ne _ _ _ (Ne.symm e)]
  by_cases f : (i - 1) / 2 = p
  ·rw [f, gs_eq _ _ _ H.inb]; exact kids i h0 hi f
  ·rw [gs_ne _ _ _ (Ne.symm f)]; exact H.rest i h0 hi hs e f
theorem sdn_ok (L : Lin lt) {x : α} {s : Nat} : ∀ (n : Nat) {h : List α} {p : Nat}, p ≤ n → Hole lt x s h p → (∀ i, 0 < i → i < h.length → (i - 1) / 2 = p → lt (h.getD i x) x = false) →
  Hp lt x s (sdn lt s x n h p) ∧ (sdn lt s x n h p).Perm (h.set p x)
 | 0, h, p, hn, H, kids => ⟨H.fin kids fun k => absurd k (by lia), .refl _⟩
 | n + 1, h, p, hn, H, kids => by
  unfold sdn
  by_cases hc : s < p ∧ lt x (h.getD ((p - 1) / 2) x) = true
  ·rw [if_pos hc]
   have hlt : (p - 1) / 2 < p := par_lt (Nat.lt_of_le_of_lt (Nat.zero_le _) hc.1)
   have hD := H.desc.up hc.1
   have hup := fun i h0 hi (e : (i - 1) / 2 = (p - 1) / 2) (k : i ≠ p) => e ▸ H.rest i h0 hi (by rw [e]; exact hD.le) k (by rw [e]; exact Nat.ne_of_lt hlt)
   have H' : Hole lt x s (h.set p (h.getD ((p - 1) / 2) x)) ((p - 1) / 2) := by
    refine ⟨hD, by rw [List.length_set]; exact Nat.lt_trans hlt H.inb, fun i h0 hi hs k1 k2 => ?_, fun k i h0 hi e => ?_⟩
    ·rw [List.length_set] at hi
     have hip : i ≠ p := fun e => k2 (by rw [e])
     rw [gs_ne _ _ _ (Ne.symm hip)]
     by_cases f : (i - 1) / 2 = p
     ·rw [f, gs_eq _ _ _ H.inb]; exact H.grand hc.1 i h0 hi f
     ·rw [gs_ne _ _ _ (Ne.symm f)]; exact H.rest i h0 hi hs hip f
    ·rw [List.length_set] at hi
     have hg := par_lt (Nat.lt_of_le_of_lt (Nat.zero_le _) k)
     rw [gs_ne _ _ _ (by lia : p ≠ ((p - 1) / 2 - 1) / 2)]
     have hh := H.rest _ (Nat.lt_of_le_of_lt (Nat.zero_le _) k) (Nat.lt_trans hlt H.inb) (hD.up k).le (Nat.ne_of_lt hlt) (by lia)
     by_cases f : i = p
     ·rw [f, gs_eq _ _ _ H.inb]; exact hh
     ·rw [gs_ne _ _ _ (Ne.symm f)]; exact L.le hh (hup i h0 hi e f)
   have ih := sdn_ok L n (h := h.set p (h.getD ((p - 1) / 2) x)) (p := (p - 1) / 2) (by lia) H' fun i h0 hi e => by
    rw [List.length_set] at hi
    by_cases f : i = p
    ·rw [f, gs_eq _ _ _ H.inb]; exact L.asym _ _ hc.2
    ·rw [gs_ne _ _ _ (Ne.symm f)]; exact L.le (L.asym _ _ hc.2) (hup i h0 hi e f)
   exact ⟨ih.1, ih.2.trans (hole_swap h x x (Nat.ne_of_lt hlt) H.inb (Nat.lt_trans hlt H.inb))⟩
  ·rw [if_neg hc]
   refine ⟨H.fin kids fun k => ?_, .refl _⟩
   cases e : lt x (h.getD ((p - 1) / 2) x) with
   | false => rfl
   | true => exact absurd ⟨k, e⟩ hc
theorem kid_cases (lt : α → α → Bool) (h : List α) (p : Nat) (x : α) (hp : 2 * p + 1 < h.length) : (kid lt h p x = 2 * p + 1 ∨ kid lt h p x = 2 * p + 2) ∧ kid lt h p x < h.length := by
 unfold kid; split
 ·next e => exact ⟨.inr rfl, e.1⟩
 ·exact ⟨.inl rfl, hp⟩
theorem kid_min (L : Lin lt) (h : List α) (p : Nat) (x : α) : ∀ i, 0 < i → i < h.length → (i - 1) / 2 = p → lt (h.getD i x) (h.getD (kid lt h p x) x) = false := fun i h0 hi e => by
 have hi2 : i = 2 * p + 1 ∨ i = 2 * p + 2 := by lia
 have irr : ∀ a, lt a a = false := fun a => by
  cases q : lt a a with
  | false => rfl
  | true => exact (L.asym a a q).symm.trans q |>.symm
 unfold kid
 split
 ·next c =>
  rcases hi2 with rfl | rfl
  ·exact c.2
  ·exact irr _
 ·next c =>
  rcases hi2 with rfl | rfl
  ·exact irr _
  ·cases q : lt (h.getD (2 * p + 1) x) (h.getD (2 * p + 2) x) with
   | true => exact L.asym _ _ q
   | false => exact absurd ⟨hi, q⟩ c
theorem sup_ok (L : Lin lt) {x : α} {s : Nat} : ∀ (n : Nat) {h : List α} {p : Nat}, h.length ≤ p + n → Hole lt x s h p →
  Hole lt x s (sup lt x n h p).1 (sup lt x n h p).2 ∧ h.length ≤ 2 * (sup lt x n h p).2 + 1 ∧ (sup lt x n h p).1.length = h.length ∧ ((sup lt x n h p).1.set (sup lt x n h p).2 x).Perm (h.set p x)
 | 0, h, p, hn, H => absurd H.inb (by lia)
 | n + 1, h, p, hn, H => by
  unfold sup
  by_cases hc : 2 * p + 1 < h.length
  ·rw [if_pos hc]
   obtain ⟨k1, k2⟩ := kid_cases lt h p x hc
   have k3 := kid_min L h p x
   generalize kid lt h p x = c at k1 k2 k3
   have hpc : (c - 1) / 2 = p := by lia
   have hne : c ≠ p := by lia
   have H' : Hole lt x s (h.set p (h.getD c x)) c := by
    refine ⟨.kid H.desc (by lia) hpc, by rw [List.length_set]; exact k2, fun i h0 hi hs e1 e2 => ?_, fun k i h0 hi e => ?_⟩
    ·rw [List.length_set] at hi
     by_cases f : i = p
     ·subst f
      have hlt := par_lt h0
      rw [gs_eq _ _ _ H.inb, gs_ne _ _ _ (Nat.ne_of_gt hlt)]
      exact H.grand (Nat.lt_of_le_of_lt hs hlt) c (by lia) k2 hpc
     ·rw [gs_ne _ _ _ (Ne.symm f)]
      by_cases g : (i - 1) / 2 = p
      ·rw [g, gs_eq _ _ _ H.inb]; exact k3 i h0 hi g
      ·rw [gs_ne _ _ _ (Ne.symm g)]; exact H.rest i h0 hi hs f g
    ·rw [List.length_set] at hi
     rw [hpc, gs_eq _ _ _ H.inb, gs_ne _ _ _ (by lia : p ≠ i)]
     have := H.rest i h0 hi (by rw [e]; have := H.desc.le; lia) (by lia) (by rw [e]; exact hne)
     rwa [e] at this
   obtain ⟨i1, i2, i3, i4⟩ := sup_ok L n (h := h.set p (h.getD c x)) (p := c) (by rw [List.length_set]; lia) H'
   rw [List.length_set] at i2 i3
   exact ⟨i1, i2, i3, i4.trans (hole_swap h x x hne H.inb k2)⟩
  ·rw [if_neg hc]
   exact ⟨H, Nat.not_lt.mp hc, rfl, .refl _⟩
theorem sft_ok (L : Lin lt) {h : List α} {s : Nat} {x : α} (hs : s < h.length) (H : Hp lt x (s + 1) h) : Hp lt x s (sft lt h s x) ∧ (sft lt h s x).Perm (h.set s x) := by
 have H0 : Hole lt x s h s := ⟨.refl, hs, fun i h0 hi k e1 e2 => H i h0 hi (by lia), fun k => absurd k (Nat.lt_irrefl _)⟩
 obtain ⟨i1, i2, i3, i4⟩ := sup_ok L h.length (by lia) H0
 unfold sft
 generalize sup lt x h.length h s = r at i1 i2 i3 i4
 have hl : r.2 < r.1.length := i1.inb
 have none : ∀ i, 0 < i → i < (r.1.set r.2 x).length → (i - 1) / 2 = r.2 → False := fun i h0 hi e => by
  rw [List.length_set] at hi; lia
 have H1 : Hole lt x s (r.1.set r.2 x) r.2 := by
  refine ⟨i1.desc, by rw [List.length_set]; exact hl, fun i h0 hi hk e1 e2 => ?_, fun _ i h0 hi e => (none i h0 hi e).elim⟩
  rw [List.length_set] at hi
  rw [gs_ne _ _ _ (Ne.symm e1), gs_ne _ _ _ (Ne.symm e2)]
  exact i1.rest i h0 hi hk e1 e2
 obtain ⟨j1, j2⟩ := sdn_ok L r.2 (Nat.le_refl _) H1 fun i h0 hi e => (none i h0 hi e).elim
 exact ⟨j1, j2.trans ((List.Perm.of_eq (List.set_set _)).trans i4)⟩
theorem Hp.dflt {x y : α} {s : Nat} {h : List α} (H : Hp lt x s h) : Hp lt y s h := fun i h0 hi hs => by
 have hp : (i - 1) / 2 < h.length := by lia
 have := H i h0 hi hs
 rw [gd _ hi, gd _ hp] at this ⊢
 exact this
variable (lt)
noncomputable def hpf (x : α) : Nat → List α → List α
 | 0, h => h
 | i + 1, h => hpf x i (sft lt h i (h.getD i x))
variable {lt}
theorem hpf_ok (L : Lin lt) {x : α} : ∀ (i : Nat) {h : List α}, i ≤ h.length → Hp lt x i h → Hp lt x 0 (hpf lt x i h) ∧ (hpf lt x i h).Perm h
 | 0, h, _, H => ⟨H, .refl _⟩
 | i + 1, h, hi, H => by
  obtain ⟨j1, j2⟩ := sft_ok L (x := h.getD i x) hi H.dflt
  have e : h.set i (h.getD i x) = h := by rw [gd _ hi]; exact List.set_getElem_self hi
  rw [e] at j2
  obtain ⟨k1, k2⟩ := hpf_ok L i (h := sft lt h i (h.getD i x)) (by rw [j2.length_eq]; exact Nat.le_of_succ_le hi) j1.dflt
  exact ⟨k1, k2.trans j2⟩
theorem heapify_ok (L : Lin lt) {x : α} {h : List α} : Hp lt x 0 (hpf lt x (h.length / 2) h) ∧ (hpf lt x (h.length / 2) h).Perm h :=
 hpf_ok L _ (by lia) fun i h0 hi hs => absurd hs (by lia)
theorem Hp.top (L : Lin lt) {x : α} {h : List α} (H : Hp lt x 0 h) : ∀ (n i : Nat), i ≤ n → i < h.length → lt (h.getD i x) (h.getD 0 x) = false
 | 0, i, hn, hi => by
  have : i = 0 := by lia
  subst this
  cases q : lt (h.getD 0 x) (h.getD 0 x) with
  | false => rfl
  | true => have := L.asym _ _ q; rw [q] at this; cases this
 | n + 1, i, hn, hi => by
  by_cases e : i = 0
  ·exact Hp.top L H n i (by lia) hi
  ·exact L.le (Hp.top L H n ((i - 1) / 2) (by lia) (by lia)) (H i (by lia) hi (Nat.zero_le _))
theorem Hp.min (L : Lin lt) {x v : α} {tl : List α} (H : Hp lt x 0 (v :: tl)) : ∀ y ∈ tl, lt y v = false := fun y hy => by
 obtain ⟨i, hi, e⟩ := List.getElem_of_mem hy
 have := Hp.top L H (i + 1) (i + 1) (Nat.le_refl _) (Nat.succ_lt_succ hi)
 rw [List.getD_cons_succ, gd _ hi, e] at this
 exact this
theorem ga {l r : List α} {i : Nat} (x : α) (hi : i < l.length) : (l ++ r).getD i x = l.getD i x := by rw [List.getD_eq_getElem?_getD, List.getD_eq_getElem?_getD, List.getElem?_append_left hi]
theorem Hp.shift {x v w : α} {tl r : List α} (H : Hp lt x 0 (v :: tl ++ r)) : Hp lt x 1 (w :: tl) := fun i h0 hi hs => by
 obtain ⟨j, rfl⟩ : ∃ j, i = j + 1 := ⟨i - 1, by lia⟩
 obtain ⟨k, hk⟩ : ∃ k, (j + 1 - 1) / 2 = k + 1 := ⟨(j + 1 - 1) / 2 - 1, by lia⟩
 have hj : j < tl.length := Nat.lt_of_succ_lt_succ hi
 have hk2 : k < tl.length := by lia
 have := H (j + 1) h0 (by rw [List.length_append]; exact Nat.lt_of_lt_of_le hi (Nat.le_add_right _ _)) (Nat.zero_le _)
 rw [hk] at this ⊢
 rw [List.cons_append, List.getD_cons_succ, List.getD_cons_succ, ga _ hj, ga _ hk2] at this
 rw [List.getD_cons_succ, List.getD_cons_succ]
 exact this
theorem replace_ok (L : Lin lt) {x v w : α} {tl : List α} (H : Hp lt x 0 (v :: tl)) : Hp lt x 0 (sft lt (w :: tl) 0 w) ∧ (sft lt (w :: tl) 0 w).Perm (w :: tl) := by
 have := sft_ok L (h := w :: tl) (s := 0) (x := w) (Nat.succ_pos _) (Hp.dflt (Hp.shift (r := []) (by rw [List.append_nil]; exact H)))
 exact ⟨this.1.dflt, this.2⟩
theorem pop_ok (L : Lin lt) {x v w : α} {tl : List α} (H : Hp lt x 0 (v :: tl ++ [w])) : Hp lt x 0 (sft lt (w :: tl) 0 w) ∧ (sft lt (w :: tl) 0 w).Perm (w :: tl) := by
 have := sft_ok L (h := w :: tl) (s := 0) (x := w) (Nat.succ_pos _) (Hp.dflt (Hp.shift H))
 exact ⟨this.1.dflt, this.2⟩
end
end Mine
namespace Mine
open PySem PySem.W PyProof.Rows PySem.Calls
section
variable {C : Cst} {Γ : Fm} {loc loc1 loc2 : List (Option V)} {sto sto1 sto2 : List SO}
theorem el_proc {a : Addr} {i : Nat} {ps rest : List Str} {args : List V} (sl : List (Str × Option Addr)) (l0 : List (Option V)) (D : Def C a i ps rest) (hroom : 1 ≤ Γ.room) (hl : ps.length = args.length)
  (h1 : ps.map (·, none) ++ rest.map (·, none) = sl) (h2 : (args.map some ++ rest.map fun _ => none) = l0)
  (h : ∀ A env frs own room, Γ.room = room + 1 → env.scope = sc i → WS C ⟨A, env, sl, frs, own, room⟩ l0 sto (bd i) (fun o _ t => o = .next ∧ t = sto1) No) :
  EL C Γ loc sto (callF (.ref a)) args .none loc sto1 := by
 refine un_1_3 (D.fn) fun fd f hs hb => ?_
 refine wl_call (argv := args) f hroom hl (fun s as xs hk r => ⟨xs, r, hb s xs hk (r.length.trans hl.symm)⟩) fun L => ?_
 rw [h1, h2]
 refine w_mono (h _ _ _ _ (Γ.room - 1) (by lia) hs) (fun out l t q => ?_) fun _ _ _ h => h
 obtain ⟨rfl, rfl⟩ := q
 exact R3
noncomputable abbrev EP (C : Cst) (Γ : Fm) (loc : List (Option V)) (sto : List SO) (ss : List Stmt) (sto' : List SO) : Prop := WS C Γ loc sto ss (fun o _ t => o = .next ∧ t = sto') No
theorem ep_nil : EP C Γ loc sto [] sto := ws_nil ⟨rfl, rfl⟩
theorem ep_next {st : Stmt} {rest : List Stmt} (h1 : E1 C Γ loc sto st .next loc1 sto1) (h2 : EP C Γ loc1 sto1 rest sto2) : EP C Γ loc sto (st :: rest) sto2 := jG (h1.use h2)
structure HOrd (C : Cst) {α : Type} (f : α → V) (lt : α → α → Bool) : Prop where
 cmp : ∀ {Γ : Fm} {loc : List (Option V)} {sto : List SO} (a b : α), EB C Γ loc sto (f2 (compareOp .Lt)) [f a, f b] (lt a b) loc sto
structure HOrdM (C : Cst) {α : Type} (f : α → V) (lt : α → α → Bool) : Prop where
 cmp : ∀ {Γ : Fm} {loc : List (Option V)} {sto : List SO} (a b : α), EB C Γ loc sto (f2 (compareOp .Lt)) [f b, f a] (lt a b) loc sto
theorem HOrdM.is {α : Type} {f : α → V} {lt : α → α → Bool} (O : HOrdM C f lt) {a b : α} {c : Bool} (h : lt a b = c) : EB C Γ loc sto (f2 (compareOp .Lt)) [f b, f a] c loc sto := h ▸ O.cmp a b
theorem HOrd.is {α : Type} {f : α → V} {lt : α → α → Bool} (O : HOrd C f lt) {a b : α} {c : Bool} (h : lt a b = c) : EB C Γ loc sto (f2 (compareOp .Lt)) [f a, f b] c loc sto := h ▸ O.cmp a b
section
variable {α : Type} {f : α → V} {lt : α → α → Bool} {k : Nat} {g : List α}
noncomputable abbrev jJA (sto : List SO) (k : Nat) (f : α → V) (g : List α) : List SO := sto.set k (.list (g.map f))
theorem hs_get (hk : k < sto.length) : (jJA sto k f g)[k]? = some (.list (g.map f)) := by rw [List.getElem?_set_self hk]
theorem hs_set (g' : List α) : (jJA sto k f g).set k (.list (g'.map f)) = jJA sto k f g' := List.set_set _
theorem el_hget {value slice : Expr} {q : Nat} {y : α} (hs : NoSlice slice) (hk : k < sto.length) (hq : g[q]? = some y) (hl : g.length ≤ 100000) : EL C Γ loc (jJA sto k f g) (f2 (subscriptTail value slice)) [.lst k, .int q] (f y) loc (jJA sto k f g) :=
 jKA hs (hs_get hk) (Int.natCast_nonneg _) (by have := (List.getElem?_eq_some_iff.mp hq).1; lia) (by rw [Int.toNat_natCast, List.getElem?_map, hq]; rfl) R3
theorem eu_hset {q : Nat} {y : α} (hk : k < sto.length) (hq : q < g.length) (hl : g.length ≤ 100000) : EU C Γ loc (jJA sto k f g) (f3 (fun o i v => setItem o i v)) [.lst k, .int q, f y] loc (jJA sto k f (g.set q y)) := by
 have e : jJA sto k f (g.set q y) = (jJA sto k f g).set k (.list ((g.map f).set ((q : Int)).toNat (f y))) := by rw [Int.toNat_natCast, ← List.map_set, hs_set]
 rw [e]
 exact wl_setL (hs_get hk) (Int.natCast_nonneg _) (by lia) (by rw [Int.toNat_natCast, List.length_map]; exact hq) R3
theorem el_half {q : Nat} (hq : 0 < q) : EL C Γ loc sto (f2 (binaryOp .RShift)) [.int ((q : Int) - 1), .int 1] (.int ((q - 1) / 2 : Nat)) loc sto := by
 have e : (((q - 1) / 2 : Nat) : Int) = ((q : Int) - 1).fdiv (2 ^ (1 : Int).toNat) := by
  rw [show ((2 : Int) ^ (1 : Int).toNat) = 2 by decide, Int.fdiv_eq_ediv_of_nonneg _ (by decide)]; lia
 rw [e]
 exact wl_rsh (by decide) R3
theorem el_dbl {q : Nat} (hq : q ≤ 100000) : EL C Γ loc sto (f2 (binaryOp .Mult)) [.int 2, .int q] (.int (2 * q : Nat)) loc sto := by
 have e : ((2 * q : Nat) : Int) = 2 * (q : Int) := rfl
 rw [e]; exact wl_mul (by lia) R3
theorem el_inc {q : Nat} : EL C Γ loc sto (f2 (binaryOp .Add)) [.int q, .int 1] (.int (q + 1 : Nat)) loc sto := by
 have e : ((q + 1 : Nat) : Int) = (q : Int) + 1 := rfl
 rw [e]; exact wl_add R3
theorem eb_gt {a b : Nat} {c : Bool} (h : decide (b < a) = c) : EB C Γ loc sto (f2 (compareOp .Gt)) [.int a, .int b] c loc sto := wl_gtI ⟨by rw [← h]; simp, rfl, rfl⟩
theorem eb_lt {a b : Nat} {c : Bool} (h : decide (a < b) = c) : EB C Γ loc sto (f2 (compareOp .Lt)) [.int a, .int b] c loc sto := wl_ltI ⟨by rw [← h]; simp, rfl, rfl⟩
variable {x : α} {s p : Nat}
noncomputable abbrev Ld (k s q : Nat) (v : V) (o1 o2 : Option V) : List (Option V) := [some (.lst k), some (.int s), some (.int q), some v, o1, o2]
inductive SdI {α : Type} (f : α → V) (lt : α → α → Bool) (x : α) (k s : Nat) (sto : List SO) (h R : List α) (n : Nat) (l : List (Option V)) (t : List SO) : Prop
 | mk (g : List α) (q : Nat) (o1 o2 : Option V) (hl : l = Ld k s q (f x) o1 o2) (ht : t = jJA sto k f g) (h1 : g.length = h.length) (h2 : q < g.length) (h3 : q ≤ n) (h4 : sdn lt s x n g q = R)
theorem w1_sdn {test : Expr} {body : List Stmt} {pos : Pos} {h R : List α} (hR : sdn lt s x p h p = R) (hk : k < sto.length) (hp : p < h.length)
  (ht : ∀ (g : List α) q o1 o2, ET C Γ (Ld k s q (f x) o1 o2) (jJA sto k f g) test (decide (s < q)) (Ld k s q (f x) o1 o2) (jJA sto k f g))
  (hb1 : ∀ (g : List α) q o1 o2 y, g.length = h.length → s < q → q < g.length → g[(q - 1) / 2]? = some y → lt x y = true → ES C Γ (Ld k s q (f x) o1 o2) (jJA sto k f g) body .cont (Ld k s ((q - 1) / 2) (f x) (some (.int ((q - 1) / 2 : Nat))) (some (f y))) (jJA sto k f (g.set q y)))
  (hb2 : ∀ (g : List α) q o1 o2 y, g.length = h.length → s < q → q < g.length → g[(q - 1) / 2]? = some y → lt x y = false → ES C Γ (Ld k s q (f x) o1 o2) (jJA sto k f g) body .brk (Ld k s q (f x) (some (.int ((q - 1) / 2 : Nat))) (some (f y))) (jJA sto k f g)) :
  W1 C Γ (Ld k s p (f x) none none) (jJA sto k f h) (.While test body [] pos) (fun o l t => o = .next ∧ Ex4 fun q o1 o2 g => l = Ld k s q (f x) o1 o2 ∧ t = jJA sto k f g ∧ g.length = h.length ∧ q < g.length ∧ g.set q x = R) No := by
 refine w1_while (SdI f lt x k s sto h R) p ⟨h, p, none, none, rfl, rfl, rfl, hp, Nat.le_refl _, hR⟩ ?_
 clear hR
 rintro n l t ⟨g, q, o1, o2, rfl, rfl, hg, hq, hn, hR⟩
 refine (ht g q o1 o2).use ?_
 by_cases hsq : s < q
 ·rw [decide_eq_true hsq]
  have hpar : (q - 1) / 2 < g.length := by lia
  obtain ⟨y, hy⟩ : ∃ y, g[(q - 1) / 2]? = some y := ⟨_, List.getElem?_eq_getElem hpar⟩
  have hy2 : g.getD ((q - 1) / 2) x = y := by rw [List.getD_eq_getElem?_getD, hy]; rfl
  obtain ⟨n, rfl⟩ : ∃ m, n = m + 1 := ⟨n - 1, by lia⟩
  unfold sdn at hR
  rw [hy2] at hR
  cases hc : lt x y with
  | true =>
   rw [if_pos ⟨hsq, hc⟩] at hR
   exact (hb1 g q o1 o2 y hg hsq hq hy hc).use ⟨n, Nat.lt_succ_self n, g.set q y, (q - 1) / 2, _, _, rfl, rfl, by rw [List.length_set]; exact hg, by rw [List.length_set]; exact hpar, by lia, hR⟩
  | false =>
   rw [if_neg fun c => by rw [hc] at c; exact absurd c.2 (by decide)] at hR
   exact (hb2 g q o1 o2 y hg hsq hq hy hc).use ⟨rfl, q, _, _, g, rfl, rfl, hg, hq, hR⟩
 ·rw [decide_eq_false hsq]
  refine ws_nil ⟨rfl, q, o1, o2, g, rfl, rfl, hg, hq, ?_⟩
  rw [← hR]
  cases n with
  | zero => rfl
  | succ n => unfold sdn; rw [if_neg fun c => hsq c.1]
section
variable {h : List α}
noncomputable abbrev sl12 : List (Str × Option Addr) := [("heap", none), ("startpos", none), ("pos", none), ("newitem", none), ("parentpos", none), ("parent", none)]
noncomputable abbrev D12 (C : Cst) : Prop := Def C 107 12 ["heap", "startpos", "pos"] ["newitem", "parentpos", "parent"]
noncomputable abbrev D14 (C : Cst) : Prop := Def C 121 14 ["heap", "startpos", "pos"] ["newitem", "parentpos", "parent"]
theorem c_siftdown (O : HOrd C f lt) (D : D12 C) (hroom : 1 ≤ Γ.room) (hk : k < sto.length) (hx : h[p]? = some x) (hl : h.length ≤ 1000) :
  EL C Γ loc (jJA sto k f h) (callF (.ref 107)) [.lst k, .int s, .int p] .none loc (jJA sto k f (sdn lt s x p h p)) := by
 refine el_proc sl12 [some (.lst k), some (.int s), some (.int p), none, none, none] D hroom rfl rfl rfl fun A env frs own room hr hs => ?_
 have hp := (List.getElem?_eq_some_iff.mp hx).1
 have hl2 : h.length ≤ 100000 := Nat.le_trans hl (by decide)
 refine ep_next (loc1 := Ld k s p (f x) none none) (sto1 := jJA sto k f h) ?_ ?_
 ·with_reducible exact jY (fun _ => rfl) (jFA (sl := sl12) rfl) (ee_sub (jD .zero R3) (jD .z2 R3) (el_hget nsl_Name hk hx hl2)) .z3
 refine jG (w_mono (w1_sdn (lt := lt) rfl hk hp (fun g q o1 o2 => ?_) (fun g q o1 o2 y hg h1 h2 hy hc => ?_) (fun g q o1 o2 y hg h1 h2 hy hc => ?_)) ?_ fun _ _ _ h => h)
 ·with_reducible exact jR rfl (jD .z2 R3) (jD .z1 R3) (eb_gt rfl)
 ·have hl3 : g.length ≤ 100000 := hg ▸ hl2
  with_reducible exact es_next (jY (fun _ => rfl) (jFA (sl := sl12) rfl) (jO (jO (jD .z2 R3) (jF R3) (wl_sub R3)) (jF R3) (el_half (Nat.zero_lt_of_lt h1))) .z4) (es_next (jY (fun _ => rfl) (jFA (sl := sl12) rfl) (ee_sub (jD .zero R3) (jD .z4 R3) (el_hget nsl_Name hk hy hl3)) .z5)
   (es_cont (e1_ifT (jR rfl (jD .z3 R3) (jD .z5 R3) (O.is hc)) (es_next (e1_setitem (fun _ => rfl) (jD .z5 R3) (jD .zero R3) (jD .z2 R3) (eu_hset hk h2 hl3)) (es_next (jY (fun _ => rfl) (jFA (sl := sl12) rfl) (jD .z4 R3) .z2) (es_cont e1_cont))))))
 ·have hl3 : g.length ≤ 100000 := hg ▸ hl2
  with_reducible exact es_next (jY (fun _ => rfl) (jFA (sl := sl12) rfl) (jO (jO (jD .z2 R3) (jF R3) (wl_sub R3)) (jF R3) (el_half (Nat.zero_lt_of_lt h1))) .z4) (es_next (jY (fun _ => rfl) (jFA (sl := sl12) rfl) (ee_sub (jD .zero R3) (jD .z4 R3) (el_hget nsl_Name hk hy hl3)) .z5)
   (es_next (e1_ifF (jR rfl (jD .z3 R3) (jD .z5 R3) (O.is hc)) es_nil) (es_brk e1_brk)))
 ·intro o l t r256y3
  refine un_0_2 (r256y3) fun e433x0 c433x => ?_; (try clear r256y3); refine ux_4_5 c433x fun q o1 o2 g e433x5 e433x6 hg hq e => ?_; clear c433x; subst e433x0; subst e433x5; subst e433x6
  rw [← e]
  have hl3 : g.length ≤ 100000 := hg ▸ hl2
  with_reducible exact ep_next (e1_setitem (fun _ => rfl) (jD .z3 R3) (jD .zero R3) (jD .z2 R3) (eu_hset hk hq hl3)) ep_nil
theorem c_siftdown_max (O : HOrdM C f lt) (D : D14 C) (hroom : 1 ≤ Γ.room) (hk : k < sto.length) (hx : h[p]? = some x) (hl : h.length ≤ 1000) :
  EL C Γ loc (jJA sto k f h) (callF (.ref 121)) [.lst k, .int s, .int p] .none loc (jJA sto k f (sdn lt s x p h p)) := by
 refine el_proc sl12 [some (.lst k), some (.int s), some (.int p), none, none, none] D hroom rfl rfl rfl fun A env frs own room hr hs => ?_
 have hp := (List.getElem?_eq_some_iff.mp hx).1
 have hl2 : h.length ≤ 100000 := Nat.le_trans hl (by decide)
 refine ep_next (loc1 := Ld k s p (f x) none none) (sto1 := jJA sto k f h) ?_ ?_
 ·with_reducible exact jY (fun _ => rfl) (jFA (sl := sl12) rfl) (ee_sub (jD .zero R3) (jD .z2 R3) (el_hget nsl_Name hk hx hl2)) .z3
 refine jG (w_mono (w1_sdn (lt := lt) rfl hk hp (fun g q o1 o2 => ?_) (fun g q o1 o2 y hg h1 h2 hy hc => ?_) (fun g q o1 o2 y hg h1 h2 hy hc => ?_)) ?_ fun _ _ _ h => h)
 ·with_reducible exact jR rfl (jD .z2 R3) (jD .z1 R3) (eb_gt rfl)
 ·have hl3 : g.length ≤ 100000 := hg ▸ hl2
  with_reducible exact es_next (jY (fun _ => rfl) (jFA (sl := sl12) rfl) (jO (jO (jD .z2 R3) (jF R3) (wl_sub R3)) (jF R3) (el_half (Nat.zero_lt_of_lt h1))) .z4) (es_next (jY (fun _ => rfl) (jFA (sl := sl12) rfl) (ee_sub (jD .zero R3) (jD .z4 R3) (el_hget nsl_Name hk hy hl3)) .z5)
   (es_cont (e1_ifT (jR rfl (jD .z5 R3) (jD .z3 R3) (O.is hc)) (es_next (e1_setitem (fun _ => rfl) (jD .z5 R3) (jD .zero R3) (jD .z2 R3) (eu_hset hk h2 hl3)) (es_next (jY (fun _ => rfl) (jFA (sl := sl12) rfl) (jD .z4 R3) .z2) (es_cont e1_cont))))))
 ·have hl3 : g.length ≤ 100000 := hg ▸ hl2
  with_reducible exact es_next (jY (fun _ => rfl) (jFA (sl := sl12) rfl) (jO (jO (jD .z2 R3) (jF R3) (wl_sub R3)) (jF R3) (el_half (Nat.zero_lt_of_lt h1))) .z4) (es_next (jY (fun _ => rfl) (jFA (sl := sl12) rfl) (ee_sub (jD .zero R3) (jD .z4 R3) (el_hget nsl_Name hk hy hl3)) .z5)
   (es_next (e1_ifF (jR rfl (jD .z5 R3) (jD .z3 R3) (O.is hc)) es_nil) (es_brk e1_brk)))
 ·intro o l t r257y3
  refine un_0_2 (r257y3) fun e434x0 c434x => ?_; (try clear r257y3); refine ux_4_5 c434x fun q o1 o2 g e434x5 e434x6 hg hq e => ?_; clear c434x; subst e434x0; subst e434x5; subst e434x6
  rw [← e]
  have hl3 : g.length ≤ 100000 := hg ▸ hl2
  with_reducible exact ep_next (e1_setitem (fun _ => rfl) (jD .z3 R3) (jD .zero R3) (jD .z2 R3) (eu_hset hk hq hl3)) ep_nil
end
end
end
end Mine
namespace Mine
open PySem PySem.W PyProof.Rows PySem.Calls
section
variable {C : Cst} {Γ : Fm} {loc loc1 loc2 : List (Option V)} {sto sto1 sto2 : List SO} {α : Type} {f : α → V} {lt : α → α → Bool} {k : Nat} {x : α} {s p : Nat} {h : List α}
noncomputable abbrev Lu (k q n s : Nat) (v : V) (c : Nat) (o : Option V) : List (Option V) := [some (.lst k), some (.int q), some (.int n), some (.int s), some v, some (.int c), o]
inductive SuI {α : Type} (f : α → V) (lt : α → α → Bool) (x : α) (k s : Nat) (sto : List SO) (h : List α) (R : List α × Nat) (n : Nat) (l : List (Option V)) (t : List SO) : Prop
 | mk (g : List α) (q : Nat) (o : Option V) (hl : l = Lu k q h.length s (f x) (2 * q + 1) o) (ht : t = jJA sto k f g) (h1 : g.length = h.length) (h2 : q < g.length) (h3 : g.length ≤ q + n) (h4 : sup lt x n g q = R)
theorem w1_sup {test : Expr} {body : List Stmt} {pos : Pos} {R : List α × Nat} (hR : sup lt x h.length h p = R) (hk : k < sto.length) (hp : p < h.length)
  (ht : ∀ (g : List α) q o c, ET C Γ (Lu k q h.length s (f x) c o) (jJA sto k f g) test (decide (c < h.length)) (Lu k q h.length s (f x) c o) (jJA sto k f g))
  (hb : ∀ (g : List α) q o, g.length = h.length → 2 * q + 1 < g.length → q < g.length → ∃ o', ES C Γ (Lu k q h.length s (f x) (2 * q + 1) o) (jJA sto k f g) body .next (Lu k (kid lt g q x) h.length s (f x) (2 * kid lt g q x + 1) o') (jJA sto k f (g.set q (g.getD (kid lt g q x) x)))) :
  W1 C Γ (Lu k p h.length s (f x) (2 * p + 1) none) (jJA sto k f h) (.While test body [] pos) (fun o l t => o = .next ∧ ∃ o', l = Lu k R.2 h.length s (f x) (2 * R.2 + 1) o' ∧ t = jJA sto k f R.1 ∧ R.1.length = h.length ∧ R.2 < h.length) No := by
 refine w1_while (SuI f lt x k s sto h R) h.length ⟨h, p, none, rfl, rfl, rfl, hp, Nat.le_add_left _ _, hR⟩ ?_
 clear hR
 rintro n l t ⟨g, q, o, rfl, rfl, hg, hq, hn, hR⟩
 refine (ht g q o _).use ?_
 by_cases hc : 2 * q + 1 < h.length
 ·rw [decide_eq_true hc]
  rw [← hg] at hc
  obtain ⟨o', hb⟩ := hb g q o hg hc hq
  obtain ⟨n, rfl⟩ : ∃ m, n = m + 1 := ⟨n - 1, by lia⟩
  unfold sup at hR
  rw [if_pos hc] at hR
  have hk2 := kid_cases lt g q x hc
  exact hb.use ⟨n, Nat.lt_succ_self n, _, _, o', rfl, rfl, by rw [List.length_set]; exact hg, by rw [List.length_set]; exact hk2.2, by rw [List.length_set]; lia, hR⟩
 ·rw [decide_eq_false hc]
  rw [← hg] at hc
  have e : R = (g, q) := by
   rw [← hR]
   cases n with
   | zero => rfl
   | succ n => unfold sup; rw [if_neg hc]
  subst e
  exact ws_nil ⟨rfl, o, rfl, rfl, hg, hg ▸ hq⟩
theorem getD_some {g : List α} {q : Nat} (hq : q < g.length) : g[q]? = some (g.getD q x) := by rw [List.getElem?_eq_getElem hq, gd x hq]
noncomputable abbrev sl13 : List (Str × Option Addr) := [("heap", none), ("pos", none), ("endpos", none), ("startpos", none), ("newitem", none), ("childpos", none), ("rightpos", none)]
noncomputable abbrev D13 (C : Cst) : Prop := Def C 114 13 ["heap", "pos"] ["endpos", "startpos", "newitem", "childpos", "rightpos"]
noncomputable abbrev D15 (C : Cst) : Prop := Def C 128 15 ["heap", "pos"] ["endpos", "startpos", "newitem", "childpos", "rightpos"]
theorem n13a : (sc 13).names.lookup (Str.ofString "len") = some .globalImplicit := by kernel_rfl
theorem n13b : (sc 13).names.lookup (Str.ofString "_siftdown") = some .globalImplicit := by kernel_rfl
theorem n15a : (sc 15).names.lookup (Str.ofString "len") = some .globalImplicit := by kernel_rfl
theorem n15b : (sc 15).names.lookup (Str.ofString "_siftdown_max") = some .globalImplicit := by kernel_rfl
theorem c_siftup (O : HOrd C f lt) (D : D13 C) (D1 : D12 C) (g1 : C.mg "len" = none) (g2 : C.mg "_siftdown" = some (.ref 107)) (hroom : 2 ≤ Γ.room) (hk : k < sto.length) (hx : h[p]? = some x) (hl : h.length ≤ 1000) :
  EL C Γ loc (jJA sto k f h) (callF (.ref 114)) [.lst k, .int p] .none loc (jJA sto k f (sft lt h p x)) := by
 refine el_proc sl13 [some (.lst k), some (.int p), none, none, none, none, none] D (Nat.le_of_succ_le hroom) rfl rfl rfl fun A env frs own room hr hs => ?_
 have hp := (List.getElem?_eq_some_iff.mp hx).1
 have hl2 : h.length ≤ 100000 := Nat.le_trans hl (by decide)
 have hp2 : p ≤ 100000 := Nat.le_trans (Nat.le_of_lt hp) hl2
 have hr1 : 1 ≤ room := by rw [hr] at hroom; exact Nat.le_of_succ_le_succ hroom
 have hlm : (h.map f).length ≤ 100000 := by rw [List.length_map]; exact hl2
 have hlen : EL C ⟨A, env, sl13, frs, own, room⟩ [some (.lst k), some (.int p), none, none, none, none, none] (jJA sto k f h) (callF (.builtin "len")) [.lst k] (.int h.length) [some (.lst k), some (.int p), none, none, none, none, none] (jJA sto k f h) := by
  have := wl_lenL (C := C) (Γ := ⟨A, env, sl13, frs, own, room⟩) (loc := [some (.lst k), some (.int p), none, none, none, none, none]) (X := No) (Q := Is (.int (h.map f).length) _ _) (hs_get (f := f) (g := h) hk) hlm R3
  rwa [List.length_map] at this
 refine ep_next (loc1 := [some (.lst k), some (.int p), some (.int h.length), none, none, none, none]) (sto1 := jJA sto k f h) ?_ ?_
 ·with_reducible exact jY (fun _ => rfl) (jFA (sl := sl13) rfl) (ee_call_m (jC (fun _ => jA) jN) keep_len (jCA hs n13a g1 PyProof.Rows.Boot.«len» (by decide) (by decide)) (jE jA (jD .zero R3) jP) hlen) .z2
 refine ep_next (loc1 := [some (.lst k), some (.int p), some (.int h.length), some (.int p), none, none, none]) (sto1 := jJA sto k f h) ?_ ?_
 ·with_reducible exact jY (fun _ => rfl) (jFA (sl := sl13) rfl) (jD .z1 R3) .z3
 refine ep_next (loc1 := [some (.lst k), some (.int p), some (.int h.length), some (.int p), some (f x), none, none]) (sto1 := jJA sto k f h) ?_ ?_
 ·with_reducible exact jY (fun _ => rfl) (jFA (sl := sl13) rfl) (ee_sub (jD .zero R3) (jD .z1 R3) (el_hget nsl_Name hk hx hl2)) .z4
 refine ep_next (loc1 := Lu k p h.length p (f x) (2 * p + 1) none) (sto1 := jJA sto k f h) ?_ ?_
 ·with_reducible exact jY (fun _ => rfl) (jFA (sl := sl13) rfl) (jO (jO (jF R3) (jD .z1 R3) (el_dbl hp2)) (jF R3) el_inc) .z5
 refine jG (w_mono (w1_sup (lt := lt) rfl hk hp (fun g q o c => ?_) (fun g q o hg hc hq => ?_)) ?_ fun _ _ _ h => h)
 ·with_reducible exact jR rfl (jD .z5 R3) (jD .z2 R3) (eb_lt rfl)
 ·have hl3 : g.length ≤ 100000 := hg ▸ hl2
  have hkc := kid_cases lt g q x hc
  have hkl : kid lt g q x ≤ 100000 := Nat.le_trans (Nat.le_of_lt hkc.2) hl3
  refine ⟨some (.int (2 * q + 1 + 1 : Nat)), es_next (loc1 := Lu k q h.length p (f x) (2 * q + 1) (some (.int (2 * q + 1 + 1 : Nat)))) (sto1 := jJA sto k f g) ?_ (es_next (loc1 := Lu k q h.length p (f x) (kid lt g q x) (some (.int (2 * q + 1 + 1 : Nat)))) (sto1 := jJA sto k f g) ?_ ?_)⟩
  ·with_reducible exact jY (fun _ => rfl) (jFA (sl := sl13) rfl) (jO (jD .z5 R3) (jF R3) el_inc) .z6
  ·by_cases hr : 2 * q + 2 < g.length
   ·have q1 : decide (2 * q + 1 + 1 < h.length) = true := decide_eq_true (hg ▸ hr)
    cases hc2 : lt (g.getD (2 * q + 1) x) (g.getD (2 * q + 2) x) with
    | true =>
     have e : kid lt g q x = 2 * q + 1 := if_neg fun c => by rw [hc2] at c; exact absurd c.2 (by decide)
     rw [e]
     with_reducible exact e1_ifF (et_andT (jR rfl (jD .z6 R3) (jD .z2 R3) (eb_lt q1)) (et_andF (et_not (jR rfl (ee_sub (jD .zero R3) (jD .z5 R3) (el_hget nsl_Name hk (getD_some hc) hl3)) (ee_sub (jD .zero R3) (jD .z6 R3) (el_hget nsl_Name hk (getD_some hr) hl3)) (O.is hc2))))) es_nil
    | false =>
     have e : kid lt g q x = 2 * q + 2 := if_pos ⟨hr, hc2⟩
     rw [e]
     with_reducible exact e1_ifT (et_andT (jR rfl (jD .z6 R3) (jD .z2 R3) (eb_lt q1)) (et_andT (et_not (jR rfl (ee_sub (jD .zero R3) (jD .z5 R3) (el_hget nsl_Name hk (getD_some hc) hl3)) (ee_sub (jD .zero R3) (jD .z6 R3) (el_hget nsl_Name hk (getD_some hr) hl3)) (O.is hc2))) et_andN)) (es_next (jY (fun _ => rfl) (jFA (sl := sl13) rfl) (jD .z6 R3) .z5) es_nil)
   ·have q1 : decide (2 * q + 1 + 1 < h.length) = false := decide_eq_false (hg ▸ hr)
    have e : kid lt g q x = 2 * q + 1 := if_neg fun c => hr c.1
    rw [e]
    with_reducible exact e1_ifF (et_andF (jR rfl (jD .z6 R3) (jD .z2 R3) (eb_lt q1))) es_nil
  ·with_reducible exact es_next (e1_setitem (fun _ => rfl) (ee_sub (jD .zero R3) (jD .z5 R3) (el_hget nsl_Name hk (getD_some hkc.2) hl3)) (jD .zero R3) (jD .z1 R3) (eu_hset hk hq hl3)) (es_next (jY (fun _ => rfl) (jFA (sl := sl13) rfl) (jD .z5 R3) .z1) (es_next (jY (fun _ => rfl) (jFA (sl := sl13) rfl) (jO (jO (jF R3) (jD .z1 R3) (el_dbl hkl)) (jF R3) el_inc) .z5) es_nil))
 ·intro o l t r258y3
  refine un_0_2 (r258y3) fun e436x0 c436x => ?_; (try clear r258y3); refine un_1_4 c436x fun o' e436x2 e436x3 hg hq => ?_; clear c436x; subst e436x0; subst e436x2; subst e436x3
  unfold sft
  generalize sup lt x h.length h p = r at hg hq ⊢
  have hl3 : r.1.length ≤ 100000 := hg ▸ hl2
  have hx2 : (r.1.set r.2 x)[r.2]? = some x := by rw [List.getElem?_set_self (hg ▸ hq)]
  have hl4 : (r.1.set r.2 x).length ≤ 1000 := by rw [List.length_set, hg]; exact hl
  with_reducible exact ep_next (e1_setitem (fun _ => rfl) (jD .z4 R3) (jD .zero R3) (jD .z1 R3) (eu_hset hk (hg ▸ hq) hl3)) (ep_next (e1_expr (fun _ => rfl) (jV D1 (jC (fun _ => jA) (jC (fun _ => jA) (jC (fun _ => jA) jN))) (jU hs n13b g2 jW (by decide)) (jE jA (jD .zero R3) (jE jA (jD .z3 R3) (jE jA (jD .z1 R3) jP))) (c_siftdown O D1 hr1 hk hx2 hl4))) ep_nil)
theorem c_siftup_max (O : HOrdM C f lt) (D : D15 C) (D1 : D14 C) (g1 : C.mg "len" = none) (g2 : C.mg "_siftdown_max" = some (.ref 121)) (hroom : 2 ≤ Γ.room) (hk : k < sto.length) (hx : h[p]? = some x) (hl : h.length ≤ 1000) :
  EL C Γ loc (jJA sto k f h) (callF (.ref 128)) [.lst k, .int p] .none loc (jJA sto k f (sft lt h p x)) := by
 refine el_proc sl13 [some (.lst k), some (.int p), none, none, none, none, none] D (Nat.le_of_succ_le hroom) rfl rfl rfl fun A env frs own room hr hs => ?_
 have hp := (List.getElem?_eq_some_iff.mp hx).1
 have hl2 : h.length ≤ 100000 := Nat.le_trans hl (by decide)
 have hp2 : p ≤ 100000 := Nat.le_trans (Nat.le_of_lt hp) hl2
 have hr1 : 1 ≤ room := by rw [hr] at hroom; exact Nat.le_of_succ_le_succ hroom
 have hlm : (h.map f).length ≤ 100000 := by rw [List.length_map]; exact hl2
 have hlen : EL C ⟨A, env, sl13, frs, own, room⟩ [some (.lst k), some (.int p), none, none, none, none, none] (jJA sto k f h) (callF (.builtin "len")) [.lst k] (.int h.length) [some (.lst k), some (.int p), none, none, none, none, none] (jJA sto k f h) := by
  have := wl_lenL (C := C) (Γ := ⟨A, env, sl13, frs, own, room⟩) (loc := [some (.lst k), some (.int p), none, none, none, none, none]) (X := No) (Q := Is (.int (h.map f).length) _ _) (hs_get (f := f) (g := h) hk) hlm R3
  rwa [List.length_map] at this
 refine ep_next (loc1 := [some (.lst k), some (.int p), some (.int h.length), none, none, none, none]) (sto1 := jJA sto k f h) ?_ ?_
 ·with_reducible exact jY (fun _ => rfl) (jFA (sl := sl13) rfl) (ee_call_m (jC (fun _ => jA) jN) keep_len (jCA hs n15a g1 PyProof.Rows.Boot.«len» (by decide) (by decide)) (jE jA (jD .zero R3) jP) hlen) .z2
 refine ep_next (loc1 := [some (.lst k), some (.int p), some (.int h.length), some (.int p), none, none, none]) (sto1 := jJA sto k f h) ?_ ?_
 ·with_reducible exact jY (fun _ => rfl) (jFA (sl := sl13) rfl) (jD .z1 R3) .z3
 refine ep_next (loc1 := [some (.lst k), some (.int p), some (.int h.length), some (.int p), some (f x), none, none]) (sto1 := jJA sto k f h) ?_ ?_
 ·with_reducible exact jY (fun _ => rfl) (jFA (sl := sl13) rfl) (ee_sub (jD .zero R3) (jD .z1 R3) (el_hget nsl_Name hk hx hl2)) .z4
 refine ep_next (loc1 := Lu k p h.length p (f x) (2 * p + 1) none) (sto1 := jJA sto k f h) ?_ ?_
 ·with_reducible exact jY (fun _ => rfl) (jFA (sl := sl13) rfl) (jO (jO (jF R3) (jD .z1 R3) (el_dbl hp2)) (jF R3) el_inc) .z5
 refine jG (w_mono (w1_sup (lt := lt) rfl hk hp (fun g q o c => ?_) (fun g q o hg hc hq => ?_)) ?_ fun _ _ _ h => h)
 ·with_reducible exact jR rfl (jD .z5 R3) (jD .z2 R3) (eb_lt rfl)
 ·have hl3 : g.length ≤ 100000 := hg ▸ hl2
  have hkc := kid_cases lt g q x hc
  have hkl : kid lt g q x ≤ 100000 := Nat.le_trans (Nat.le_of_lt hkc.2) hl3
  refine ⟨some (.int (2 * q + 1 + 1 : Nat)), es_next (loc1 := Lu k q h.length p (f x) (2 * q + 1) (some (.int (2 * q + 1 + 1 : Nat)))) (sto1 := jJA sto k f g) ?_ (es_next (loc1 := Lu k q h.length p (f x) (kid lt g q x) (some (.int (2 * q + 1 + 1 : Nat)))) (sto1 := jJA sto k f g) ?_ ?_)⟩
  ·with_reducible exact jY (fun _ => rfl) (jFA (sl := sl13) rfl) (jO (jD .z5 R3) (jF R3) el_inc) .z6
  ·by_cases hr : 2 * q + 2 < g.length
   ·have q1 : decide (2 * q + 1 + 1 < h.length) = true := decide_eq_true (hg ▸ hr)
    cases hc2 : lt (g.getD (2 * q + 1) x) (g.getD (2 * q + 2) x) with
    | true =>
     have e : kid lt g q x = 2 * q + 1 := if_neg fun c => by rw [hc2] at c; exact absurd c.2 (by decide)
     rw [e]
     with_reducible exact e1_ifF (et_andT (jR rfl (jD .z6 R3) (jD .z2 R3) (eb_lt q1)) (et_andF (et_not (jR rfl (ee_sub (jD .zero R3) (jD .z6 R3) (el_hget nsl_Name hk (getD_some hr) hl3)) (ee_sub (jD .zero R3) (jD .z5 R3) (el_hget nsl_Name hk (getD_some hc) hl3)) (O.is hc2))))) es_nil
    | false =>
     have e : kid lt g q x = 2 * q + 2 := if_pos ⟨hr, hc2⟩
     rw [e]
     with_reducible exact e1_ifT (et_andT (jR rfl (jD .z6 R3) (jD .z2 R3) (eb_lt q1)) (et_andT (et_not (jR rfl (ee_sub (jD .zero R3) (jD .z6 R3) (el_hget nsl_Name hk (getD_some hr) hl3)) (ee_sub (jD .zero R3) (jD .z5 R3) (el_hget nsl_Name hk (getD_some hc) hl3)) (O.is hc2))) et_andN)) (es_next (jY (fun _ => rfl) (jFA (sl := sl13) rfl) (jD .z6 R3) .z5) es_nil)
   ·have q1 : decide (2 * q + 1 + 1 < h.length) = false := decide_eq_false (hg ▸ hr)
    have e : kid lt g q x = 2 * q + 1 := if_neg fun c => hr c.1
    rw [e]
    with_reducible exact e1_ifF (et_andF (jR rfl (jD .z6 R3) (jD .z2 R3) (eb_lt q1))) es_nil
  ·with_reducible exact es_next (e1_setitem (fun _ => rfl) (ee_sub (jD .zero R3) (jD .z5 R3) (el_hget nsl_Name hk (getD_some hkc.2) hl3)) (jD .zero R3) (jD .z1 R3) (eu_hset hk hq hl3)) (es_next (jY (fun _ => rfl) (jFA (sl := sl13) rfl) (jD .z5 R3) .z1) (es_next (jY (fun _ => rfl) (jFA (sl := sl13) rfl) (jO (jO (jF R3) (jD .z1 R3) (el_dbl hkl)) (jF R3) el_inc) .z5) es_nil))
 ·intro o l t r259y3
  refine un_0_2 (r259y3) fun e437x0 c437x => ?_; (try clear r259y3); refine un_1_4 c437x fun o' e437x2 e437x3 hg hq => ?_; clear c437x; subst e437x0; subst e437x2; subst e437x3
  unfold sft
  generalize sup lt x h.length h p = r at hg hq ⊢
  have hl3 : r.1.length ≤ 100000 := hg ▸ hl2
  have hx2 : (r.1.set r.2 x)[r.2]? = some x := by rw [List.getElem?_set_self (hg ▸ hq)]
  have hl4 : (r.1.set r.2 x).length ≤ 1000 := by rw [List.length_set, hg]; exact hl
  with_reducible exact ep_next (e1_setitem (fun _ => rfl) (jD .z4 R3) (jD .zero R3) (jD .z1 R3) (eu_hset hk (hg ▸ hq) hl3)) (ep_next (e1_expr (fun _ => rfl) (jV D1 (jC (fun _ => jA) (jC (fun _ => jA) (jC (fun _ => jA) jN))) (jU hs n15b g2 jW (by decide)) (jE jA (jD .zero R3) (jE jA (jD .z3 R3) (jE jA (jD .z1 R3) jP))) (c_siftdown_max O D1 hr1 hk hx2 hl4))) ep_nil)
end
end Mine
namespace Mine
open PySem PySem.W PyProof.Rows PySem.Calls
section
variable {C : Cst} {Γ : Fm} {loc loc1 loc2 : List (Option V)} {sto sto1 sto2 : List SO} {X : XV → List (Option V) → List SO → Prop} {QS : Out → List (Option V) → List SO → Prop}
theorem w1_for_rev {x r f : Str} {px p p2 pos pos2 fpos : Pos} {es : List Expr} {body orelse : List Stmt} {vs : List V} {a b : Int} (hp : Plain es) (hr : EE C Γ loc sto (.Name r p) (.raw (.type "reversed")) loc sto) (hn : EE C Γ loc sto (.Name f p2) (.raw (.type "range")) loc sto) (hargs : EA C Γ loc sto pos2 es vs loc1 sto1) (ha : RangeArgs vs a b 1) (hs : Small a b 1) (hab : a ≤ b) (ho : ∀ d, (x, some d) ∈ Γ.sl → d ∈ Γ.own)
  (Inv : Nat → List (Option V) → List SO → Prop) (i0 : Inv 0 loc1 sto1)
  (step : ∀ i l t, i < (b - a).toNat → Inv i l t → ∃ l2, SetSlot Γ.sl l x (.int (b - 1 - i)) l2 ∧ WS C Γ l2 t body (fun o l3 t3 => match o with
     | .next | .cont => Inv (i + 1) l3 t3
     | .brk => QS .next l3 t3
     | .ret v => QS (.ret v) l3 t3) No)
  (fin : ∀ l t, Inv (b - a).toNat l t → WS C Γ l t orelse QS No) : W1 C Γ loc sto (.For (.Name x px) (.Call (.Name r p) [.Call (.Name f p2) es [] pos2] [] pos) body orelse fpos) QS X :=
 w1_for (fun _ _ => rfl) (wit_reversed hp (jC (fun _ => jJ) jN) jJ (hr.use ⟨rfl, hn.use ⟨rfl, hargs.use ⟨a, b, ha, hs, hab, Inv, i0, fun _ _ _ _ _ => trivial, fun i l t hi hv => by
  refine un_1_2 (step i l t hi hv) fun l2 q h => ?_
  exact wt_name q ho h, fin⟩⟩⟩))
end
section
variable {C : Cst} {Γ : Fm} {loc loc1 loc2 : List (Option V)} {sto sto1 sto2 : List SO} {α : Type} {f : α → V} {lt : α → α → Bool} {k : Nat} {x y v w : α} {s p : Nat} {h tl : List α}
theorem el_lenH (hk : k < sto.length) (hl : h.length ≤ 100000) : EL C Γ loc (jJA sto k f h) (callF (.builtin "len")) [.lst k] (.int h.length) loc (jJA sto k f h) := by
 have := wl_lenL (C := C) (Γ := Γ) (loc := loc) (X := No) (Q := Is (.int (h.map f).length) _ _) (hs_get (f := f) (g := h) hk) (by rw [List.length_map]; exact hl) R3
 rwa [List.length_map] at this
theorem el_half2 {q : Nat} : EL C Γ loc sto (f2 (binaryOp .FloorDiv)) [.int q, .int 2] (.int (q / 2 : Nat)) loc sto := by
 have e : ((q / 2 : Nat) : Int) = (q : Int).fdiv 2 := by rw [Int.fdiv_eq_ediv_of_nonneg _ (by decide)]; rfl
 rw [e]; exact wl_fdiv (by decide) R3
noncomputable abbrev sl9 : List (Str × Option Addr) := [("x", none), ("n", none), ("i", none)]
noncomputable abbrev D9 (C : Cst) : Prop := Def C 86 9 ["x"] ["n", "i"]
noncomputable abbrev D11 (C : Cst) : Prop := Def C 100 11 ["x"] ["n", "i"]
theorem n9a : (sc 9).names.lookup (Str.ofString "len") = some .globalImplicit := by kernel_rfl
theorem n9b : (sc 9).names.lookup (Str.ofString "reversed") = some .globalImplicit := by kernel_rfl
theorem n9c : (sc 9).names.lookup (Str.ofString "range") = some .globalImplicit := by kernel_rfl
theorem n9d : (sc 9).names.lookup (Str.ofString "_siftup") = some .globalImplicit := by kernel_rfl
theorem n11a : (sc 11).names.lookup (Str.ofString "len") = some .globalImplicit := by kernel_rfl
theorem n11b : (sc 11).names.lookup (Str.ofString "reversed") = some .globalImplicit := by kernel_rfl
theorem n11c : (sc 11).names.lookup (Str.ofString "range") = some .globalImplicit := by kernel_rfl
theorem n11d : (sc 11).names.lookup (Str.ofString "_siftup_max") = some .globalImplicit := by kernel_rfl
structure GHp (C : Cst) : Prop where
 d9 : D9 C
 d12 : D12 C
 d13 : D13 C
 d11 : D11 C
 d14 : D14 C
 d15 : D15 C
 len : C.mg "len" = none
 rev : C.mg "reversed" = none
 rng : C.mg "range" = none
 g12 : C.mg "_siftdown" = some (.ref 107)
 g13 : C.mg "_siftup" = some (.ref 114)
 g14 : C.mg "_siftdown_max" = some (.ref 121)
 g15 : C.mg "_siftup_max" = some (.ref 128)
theorem c_heapify {R : List α} (O : HOrd C f lt) (G : GHp C) (L : Lin lt) (hR : hpf lt x (h.length / 2) h = R) (hroom : 3 ≤ Γ.room) (hk : k < sto.length) (hl : h.length ≤ 1000) :
  EL C Γ loc (jJA sto k f h) (callF (.ref 86)) [.lst k] .none loc (jJA sto k f R) := by
 refine el_proc sl9 [some (.lst k), none, none] G.d9 (Nat.le_trans (by decide) hroom) rfl rfl rfl fun A env frs own room hr hs => ?_
 have hr1 : 2 ≤ room := by rw [hr] at hroom; exact Nat.le_of_succ_le_succ hroom
 have hl2 : h.length ≤ 100000 := Nat.le_trans hl (by decide)
 refine ep_next (loc1 := [some (.lst k), some (.int h.length), none]) (sto1 := jJA sto k f h) ?_ (jG ?_)
 ·with_reducible exact jY (fun _ => rfl) (jFA (sl := sl9) rfl) (ee_call_m (jC (fun _ => jA) jN) keep_len (jCA hs n9a G.len PyProof.Rows.Boot.«len» (by decide) (by decide)) (jE jA (jD .zero R3) jP) (el_lenH hk hl2)) .z1
 have hH0 : Hp lt x (h.length / 2 - 0) h := fun i h0 hi hs => absurd hs (by lia)
 have hR0 : hpf lt x (h.length / 2 - 0) h = R := hR
 have em : (((h.length / 2 : Nat) : Int) - 0).toNat = h.length / 2 := by lia
 with_reducible refine w1_for_rev (b := (h.length / 2 : Nat)) (a := 0) (vs := [.int (h.length / 2 : Nat)]) (loc1 := [some (.lst k), some (.int h.length), none]) (sto1 := jJA sto k f h) (jC (fun _ => jH) jN) (jCA hs n9b G.rev PyProof.Rows.Boot.«reversed» (by decide) (by decide)) (jCA hs n9c G.rng PyProof.Rows.Boot.«range» (by decide) (by decide)) ?_ (.one _) ⟨by lia, by lia, .inl rfl⟩ (by lia) (jFA (sl := sl9) rfl) (fun i l t => ∃ (g : List α) (o : Option V), l = [some (.lst k), some (.int h.length), o] ∧ t = jJA sto k f g ∧ g.length = h.length ∧ Hp lt x (h.length / 2 - i) g ∧ hpf lt x (h.length / 2 - i) g = R) ⟨h, none, rfl, rfl, rfl, hH0, hR0⟩ ?_ ?_
 ·with_reducible exact jE jH (jO (jD .z1 R3) (jF R3) el_half2) jP
 ·rw [em]
  intro i l t hi r261y4
  refine un_2_5 (r261y4) fun g o e439x2 e439x3 hg hH hgR => ?_; (try clear r261y4); subst e439x2; subst e439x3
  obtain ⟨m, hm⟩ : ∃ m, h.length / 2 - i = m + 1 := ⟨h.length / 2 - i - 1, by lia⟩
  have e0 : ((h.length / 2 : Nat) : Int) - 1 - (i : Int) = (m : Int) := by lia
  have hmg : m < g.length := by lia
  rw [e0]
  rw [hm] at hH hgR
  refine ⟨_, .z2, ?_⟩
  obtain ⟨j1, j2⟩ := sft_ok L (x := g.getD m x) hmg hH.dflt
  have hm2 : h.length / 2 - (i + 1) = m := by lia
  refine W.use (loc1 := [some (.lst k), some (.int h.length), some (.int m)]) (sto1 := jJA sto k f (sft lt g m (g.getD m x))) (b := Out.next) ?_ ⟨_, _, rfl, rfl, by rw [j2.length_eq, List.length_set]; exact hg, by rw [hm2]; exact j1.dflt, by rw [hm2]; exact hgR⟩
  with_reducible exact es_next (e1_expr (fun _ => rfl) (jV G.d13 (jC (fun _ => jA) (jC (fun _ => jA) jN)) (jU hs n9d G.g13 jW (by decide)) (jE jA (jD .zero R3) (jE jA (jD .z2 R3) jP)) (c_siftup O G.d13 G.d12 G.len G.g12 hr1 hk (getD_some hmg) (hg ▸ hl)))) es_nil
 ·rw [em]
  intro l t r262y2
  refine un_2_5 (r262y2) fun g o e440x2 e440x3 hg hH hgR => ?_; (try clear r262y2); subst e440x2; subst e440x3
  rw [Nat.sub_self] at hgR
  exact ws_nil (ws_nil ⟨rfl, by rw [← hgR]; rfl⟩)
theorem c_heapify_max {R : List α} (O : HOrdM C f lt) (G : GHp C) (L : Lin lt) (hR : hpf lt x (h.length / 2) h = R) (hroom : 3 ≤ Γ.room) (hk : k < sto.length) (hl : h.length ≤ 1000) :
  EL C Γ loc (jJA sto k f h) (callF (.ref 100)) [.lst k] .none loc (jJA sto k f R) := by
 refine el_proc sl9 [some (.lst k), none, none] G.d11 (Nat.le_trans (by decide) hroom) rfl rfl rfl fun A env frs own room hr hs => ?_
 have hr1 : 2 ≤ room := by rw [hr] at hroom; exact Nat.le_of_succ_le_succ hroom
 have hl2 : h.length ≤ 100000 := Nat.le_trans hl (by decide)
 refine ep_next (loc1 := [some (.lst k), some (.int h.length), none]) (sto1 := jJA sto k f h) ?_ (jG ?_)
 ·with_reducible exact jY (fun _ => rfl) (jFA (sl := sl9) rfl) (ee_call_m (jC (fun _ => jA) jN) keep_len (jCA hs n11a G.len PyProof.Rows.Boot.«len» (by decide) (by decide)) (jE jA (jD .zero R3) jP) (el_lenH hk hl2)) .z1
 have hH0 : Hp lt x (h.length / 2 - 0) h := fun i h0 hi hs => absurd hs (by lia)
 have hR0 : hpf lt x (h.length / 2 - 0) h = R := hR
 have em : (((h.length / 2 : Nat) : Int) - 0).toNat = h.length / 2 := by lia
 with_reducible refine w1_for_rev (b := (h.length / 2 : Nat)) (a := 0) (vs := [.int (h.length / 2 : Nat)]) (loc1 := [some (.lst k), some (.int h.length), none]) (sto1 := jJA sto k f h) (jC (fun _ => jH) jN) (jCA hs n11b G.rev PyProof.Rows.Boot.«reversed» (by decide) (by decide)) (jCA hs n11c G.rng PyProof.Rows.Boot.«range» (by decide) (by decide)) ?_ (.one _) ⟨by lia, by lia, .inl rfl⟩ (by lia) (jFA (sl := sl9) rfl) (fun i l t => ∃ (g : List α) (o : Option V), l = [some (.lst k), some (.int h.length), o] ∧ t = jJA sto k f g ∧ g.length = h.length ∧ Hp lt x (h.length / 2 - i) g ∧ hpf lt x (h.length / 2 - i) g = R) ⟨h, none, rfl, rfl, rfl, hH0, hR0⟩ ?_ ?_
 ·with_reducible exact jE jH (jO (jD .z1 R3) (jF R3) el_half2) jP
 ·rw [em]
  intro i l t hi r263y4
  refine un_2_5 (r263y4) fun g o e441x2 e441x3 hg hH hgR => ?_; (try clear r263y4); subst e441x2; subst e441x3
  obtain ⟨m, hm⟩ : ∃ m, h.length / 2 - i = m + 1 := ⟨h.length / 2 - i - 1, by lia⟩
  have e0 : ((h.length / 2 : Nat) : Int) - 1 - (i : Int) = (m : Int) := by lia
  have hmg : m < g.length := by lia
  rw [e0]
  rw [hm] at hH hgR
  refine ⟨_, .z2, ?_⟩
  obtain ⟨j1, j2⟩ := sft_ok L (x := g.getD m x) hmg hH.dflt
  have hm2 : h.length / 2 - (i + 1) = m := by lia
  refine W.use (loc1 := [some (.lst k), some (.int h.length), some (.int m)]) (sto1 := jJA sto k f (sft lt g m (g.getD m x))) (b := Out.next) ?_ ⟨_, _, rfl, rfl, by rw [j2.length_eq, List.length_set]; exact hg, by rw [hm2]; exact j1.dflt, by rw [hm2]; exact hgR⟩
  with_reducible exact es_next (e1_expr (fun _ => rfl) (jV G.d15 (jC (fun _ => jA) (jC (fun _ => jA) jN)) (jU hs n11d G.g15 jW (by decide)) (jE jA (jD .zero R3) (jE jA (jD .z2 R3) jP)) (c_siftup_max O G.d15 G.d14 G.len G.g14 hr1 hk (getD_some hmg) (hg ▸ hl)))) es_nil
 ·rw [em]
  intro l t r264y2
  refine un_2_5 (r264y2) fun g o e442x2 e442x3 hg hH hgR => ?_; (try clear r264y2); subst e442x2; subst e442x3
  rw [Nat.sub_self] at hgR
  exact ws_nil (ws_nil ⟨rfl, by rw [← hgR]; rfl⟩)
noncomputable abbrev sl8 : List (Str × Option Addr) := [("heap", none), ("item", none), ("returnitem", none)]
noncomputable abbrev D8 (C : Cst) : Prop := Def C 79 8 ["heap", "item"] ["returnitem"]
noncomputable abbrev D10 (C : Cst) : Prop := Def C 93 10 ["heap", "item"] ["returnitem"]
theorem n8a : (sc 8).names.lookup (Str.ofString "_siftup") = some .globalImplicit := by kernel_rfl
theorem n10a : (sc 10).names.lookup (Str.ofString "_siftup_max") = some .globalImplicit := by kernel_rfl
theorem c_heapreplace (O : HOrd C f lt) (G : GHp C) (D : D8 C) (hroom : 3 ≤ Γ.room) (hk : k < sto.length) (hl : (v :: tl).length ≤ 1000) :
  EL C Γ loc (jJA sto k f (v :: tl)) (callF (.ref 79)) [.lst k, f w] (f v) loc (jJA sto k f (sft lt (w :: tl) 0 w)) := by
 refine el_def sl8 [some (.lst k), some (f w), none] D (Nat.le_trans (by decide) hroom) rfl rfl rfl fun A env frs own room hr hs => ?_
 have hr1 : 2 ≤ room := by rw [hr] at hroom; exact Nat.le_of_succ_le_succ hroom
 have hl2 : (v :: tl).length ≤ 100000 := Nat.le_trans hl (by decide)
 have h0 : (v :: tl)[0]? = some v := rfl
 have h0' : (0 : Nat) < (v :: tl).length := Nat.succ_pos _
 have hl3 : (w :: tl).length ≤ 1000 := hl
 refine er_next (loc1 := [some (.lst k), some (f w), some (f v)]) (sto1 := jJA sto k f (v :: tl)) ?_ (er_next (loc1 := [some (.lst k), some (f w), some (f v)]) (sto1 := jJA sto k f (w :: tl)) ?_ ?_)
 ·with_reducible exact jY (fun _ => rfl) (jFA (sl := sl8) rfl) (ee_sub (jD .zero R3) (jF R3) (el_hget (q := 0) nsl_Constant hk h0 hl2)) .z2
 ·with_reducible exact e1_setitem (fun _ => rfl) (jD .z1 R3) (jD .zero R3) (jF R3) (eu_hset (q := 0) hk h0' hl2)
 ·with_reducible exact er_next (e1_expr (fun _ => rfl) (jV G.d13 (jC (fun _ => jA) (jC (fun _ => jB) jN)) (jU hs n8a G.g13 jW (by decide)) (jE jA (jD .zero R3) (jE jB (jF R3) jP)) (c_siftup (p := 0) (x := w) (h := w :: tl) O G.d13 G.d12 G.len G.g12 hr1 hk rfl hl3))) (er_ret (jD .z2 R3))
theorem c_heapreplace_max (O : HOrdM C f lt) (G : GHp C) (D : D10 C) (hroom : 3 ≤ Γ.room) (hk : k < sto.length) (hl : (v :: tl).length ≤ 1000) :
  EL C Γ loc (jJA sto k f (v :: tl)) (callF (.ref 93)) [.lst k, f w] (f v) loc (jJA sto k f (sft lt (w :: tl) 0 w)) := by
 refine el_def sl8 [some (.lst k), some (f w), none] D (Nat.le_trans (by decide) hroom) rfl rfl rfl fun A env frs own room hr hs => ?_
 have hr1 : 2 ≤ room := by rw [hr] at hroom; exact Nat.le_of_succ_le_succ hroom
 have hl2 : (v :: tl).length ≤ 100000 := Nat.le_trans hl (by decide)
 have h0 : (v :: tl)[0]? = some v := rfl
 have h0' : (0 : Nat) < (v :: tl).length := Nat.succ_pos _
 have hl3 : (w :: tl).length ≤ 1000 := hl
 refine er_next (loc1 := [some (.lst k), some (f w), some (f v)]) (sto1 := jJA sto k f (v :: tl)) ?_ (er_next (loc1 := [some (.lst k), some (f w), some (f v)]) (sto1 := jJA sto k f (w :: tl)) ?_ ?_)
 ·with_reducible exact jY (fun _ => rfl) (jFA (sl := sl8) rfl) (ee_sub (jD .zero R3) (jF R3) (el_hget (q := 0) nsl_Constant hk h0 hl2)) .z2
 ·with_reducible exact e1_setitem (fun _ => rfl) (jD .z1 R3) (jD .zero R3) (jF R3) (eu_hset (q := 0) hk h0' hl2)
 ·with_reducible exact er_next (e1_expr (fun _ => rfl) (jV G.d15 (jC (fun _ => jA) (jC (fun _ => jB) jN)) (jU hs n10a G.g15 jW (by decide)) (jE jA (jD .zero R3) (jE jB (jF R3) jP)) (c_siftup_max (p := 0) (x := w) (h := w :: tl) O G.d15 G.d14 G.len G.g14 hr1 hk rfl hl3))) (er_ret (jD .z2 R3))
noncomputable abbrev sl7 : List (Str × Option Addr) := [("heap", none), ("lastelt", none), ("returnitem", none)]
noncomputable abbrev D7 (C : Cst) : Prop := Def C 72 7 ["heap"] ["lastelt", "returnitem"]
theorem n7a : (sc 7).names.lookup (Str.ofString "_siftup") = some .globalImplicit := by kernel_rfl
theorem slot_list_pop : PySem.Slot "list" "pop" "list.pop" :=
 .of (owner := "list") (n := "pop") (by rw [typeLookup_type, builtinLookup_eq_fast]; kernel_rfl) (by decide +kernel) (by decide +kernel) (by decide +kernel) (by first | exact .inl (by decide +kernel) | exact .inr (by decide +kernel)) (by rw [isSubtype_type]; kernel_rfl)
theorem type_list_pop : typeOf (.builtin "list.pop") = pure (.type "method_descriptor") := by show builtinType _ = _; rw [builtinType_eq_fast]; kernel_rfl
theorem e1_popH {p apos cpos : Pos} {hx : Str} {loc0 : List (Option V)} {l : List α} (hk : k < sto.length) (hl : l.length ≤ 1000) (hline : (apos.endLine == cpos.line) = true) (q : Slot Γ.sl loc0 hx (.lst k)) (hd : (hx == ("__debug__" : Str)) = false := by decide) :
  EE C Γ loc0 (jJA sto k f (l ++ [w])) (.Call (.Attribute (.Name hx p) "pop" apos) [] [] cpos) (f w) loc0 (jJA sto k f l) := by
 have e : (jJA sto k f (l ++ [w]))[k]? = some (.list (l.map f ++ [f w])) := by rw [hs_get hk, List.map_append]; rfl
 have e2 : jJA sto k f l = (jJA sto k f (l ++ [w])).set k (.list (l.map f)) := (hs_set l).symm
 rw [e2]
 exact ee_meth jN jLA (by decide) hline F.plainAttrs_list slot_list_pop type_list_pop (jD (hd := hd) q R3) (fun as s x F r => lst_hT F r e) jP (wl_pop e (by rw [List.length_map]; exact Nat.le_trans hl (by decide)) R3)
theorem truthH {l : List α} {b : Bool} (hk : k < sto.length) (hl : l.length ≤ 1000) (hb : (!l.isEmpty) = b) : WL C Γ loc (jJA sto k f l) (f1 truthy) [.lst k] RT (Is b loc (jJA sto k f l)) No := by
 have := wl_truthL (C := C) (Γ := Γ) (loc := loc) (X := No) (QB := Is (!(l.map f).isEmpty) loc (jJA sto k f l)) (hs_get (f := f) (g := l) hk) (by rw [List.length_map]; exact Nat.le_trans hl (by decide)) R3
 rwa [List.isEmpty_map, hb] at this
theorem c_heappop1 (D : D7 C) (hroom : 1 ≤ Γ.room) (hk : k < sto.length) : EL C Γ loc (jJA sto k f [w]) (callF (.ref 72)) [.lst k] (f w) loc (jJA sto k f []) := by
 refine el_def sl7 [some (.lst k), none, none] D hroom rfl rfl rfl fun A env frs own room hr hs => ?_
 have hl : ([] : List α).length ≤ 1000 := Nat.zero_le _
 refine er_next (loc1 := [some (.lst k), some (f w), none]) (sto1 := jJA sto k f ([] : List α)) ?_ ?_
 ·with_reducible exact jY (fun _ => rfl) (jFA (sl := sl7) rfl) (e1_popH (l := []) hk hl rfl .zero) .z1
 ·with_reducible exact (er_next (e1_ifF (et_plain (fun _ _ => rfl) (jD .zero R3) (truthH hk hl rfl)) es_nil) (er_ret (jD .z1 R3)))
theorem c_heappop (O : HOrd C f lt) (G : GHp C) (D : D7 C) (hroom : 3 ≤ Γ.room) (hk : k < sto.length) (hl : (v :: tl).length ≤ 1000) :
  EL C Γ loc (jJA sto k f (v :: tl ++ [w])) (callF (.ref 72)) [.lst k] (f v) loc (jJA sto k f (sft lt (w :: tl) 0 w)) := by
 refine el_def sl7 [some (.lst k), none, none] D (Nat.le_trans (by decide) hroom) rfl rfl rfl fun A env frs own room hr hs => ?_
 have hr1 : 2 ≤ room := by rw [hr] at hroom; exact Nat.le_of_succ_le_succ hroom
 have hl2 : (v :: tl).length ≤ 100000 := Nat.le_trans hl (by decide)
 have h0 : (v :: tl)[0]? = some v := rfl
 have h0' : (0 : Nat) < (v :: tl).length := Nat.succ_pos _
 have hl3 : (w :: tl).length ≤ 1000 := hl
 refine er_next (loc1 := [some (.lst k), some (f w), none]) (sto1 := jJA sto k f (v :: tl)) ?_ ?_
 ·with_reducible exact jY (fun _ => rfl) (jFA (sl := sl7) rfl) (e1_popH hk hl rfl .zero) .z1
 refine er_ifT (et_plain (fun _ _ => rfl) (jD .zero R3) (truthH hk hl rfl)) (er_next (loc1 := [some (.lst k), some (f w), some (f v)]) (sto1 := jJA sto k f (v :: tl)) ?_ (er_next (loc1 := [some (.lst k), some (f w), some (f v)]) (sto1 := jJA sto k f (w :: tl)) ?_ ?_))
 ·with_reducible exact jY (fun _ => rfl) (jFA (sl := sl7) rfl) (ee_sub (jD .zero R3) (jF R3) (el_hget (q := 0) nsl_Constant hk h0 hl2)) .z2
 ·with_reducible exact e1_setitem (fun _ => rfl) (jD .z1 R3) (jD .zero R3) (jF R3) (eu_hset (q := 0) hk h0' hl2)
 ·with_reducible exact er_next (e1_expr (fun _ => rfl) (jV G.d13 (jC (fun _ => jA) (jC (fun _ => jB) jN)) (jU hs n7a G.g13 jW (by decide)) (jE jA (jD .zero R3) (jE jB (jF R3) jP)) (c_siftup (p := 0) (x := w) (h := w :: tl) O G.d13 G.d12 G.len G.g12 hr1 hk rfl hl3))) (er_ret (jD .z2 R3))
end
end Mine
namespace Mine
open PySem
noncomputable def lx : List Nat → List Nat → Bool
 | x :: a, y :: b => decide (x < y) || (x == y && lx a b)
 | _, _ => false
noncomputable def Lx (a b : List Nat) : Prop := lx a b = true
theorem Lx.no1 {b : List Nat} {P : Prop} (h : Lx [] b) : P := by unfold Lx lx at h; cases h
theorem Lx.no2 {a : List Nat} {P : Prop} (h : Lx a []) : P := by cases a <;> (unfold Lx lx at h; cases h)
theorem Lx.cons {x y : Nat} {a b : List Nat} : Lx (x :: a) (y :: b) ↔ x < y ∨ x = y ∧ Lx a b := by simp [Lx, lx]
theorem Lx.app (r s : List Nat) : ∀ {a b : List Nat}, Lx a b → Lx (a ++ r) (b ++ s)
 | [], _, h => h.no1
 | _ :: _, [], h => h.no2
 | x :: a, y :: b, h => Lx.cons.mpr ((Lx.cons.mp h).imp id fun q => ⟨q.1, Lx.app r s q.2⟩)
theorem Lx.pre {a b : List Nat} (h : Lx a b) : ∀ p : List Nat, Lx (p ++ a) (p ++ b)
 | [] => h
 | x :: p => Lx.cons.mpr (.inr ⟨rfl, h.pre p⟩)
theorem Lx.lt : ∀ {a b : List Nat}, Lx a b → a < b
 | [], _, h => h.no1
 | _ :: _, [], h => h.no2
 | x :: a, y :: b, h => List.cons_lt_cons_iff.mpr ((Lx.cons.mp h).imp id fun q => ⟨q.1, q.2.lt⟩)
theorem Lx.trans : ∀ {a b c : List Nat}, Lx a b → Lx b c → Lx a c
 | [], _, _, h, _ => h.no1
 | _ :: _, [], _, h, _ => h.no2
 | _ :: _, _ :: _, [], _, h => h.no2
 | x :: a, y :: b, z :: c, h, k => by
  rcases Lx.cons.mp h with h1 | ⟨e1, h1⟩ <;> rcases Lx.cons.mp k with k1 | ⟨e2, k1⟩
  ·exact Lx.cons.mpr (.inl (Nat.lt_trans h1 k1))
  ·exact Lx.cons.mpr (.inl (e2 ▸ h1))
  ·exact Lx.cons.mpr (.inl (e1 ▸ k1))
  ·exact Lx.cons.mpr (.inr ⟨e1.trans e2, h1.trans k1⟩)
theorem dbl_cons (k : Nat) (r : List Nat) : ∃ s, StrLaws.dbl 34 (k :: r) = k :: s := by
 unfold StrLaws.dbl; split <;> exact ⟨_, rfl⟩
theorem Lx.dbl : ∀ {a b : List Nat}, Lx a b → Lx (StrLaws.dbl 34 a) (StrLaws.dbl 34 b)
 | [], _, h => h.no1
 | _ :: _, [], h => h.no2
 | x :: a, y :: b, h => by
  rcases Lx.cons.mp h with h1 | ⟨e1, h1⟩
  ·obtain ⟨s, e⟩ := dbl_cons x a
   obtain ⟨t, f⟩ := dbl_cons y b
   rw [e, f]; exact Lx.cons.mpr (.inl h1)
  ·rw [← e1]
   unfold StrLaws.dbl
   split
   ·exact Lx.cons.mpr (.inr ⟨rfl, Lx.cons.mpr (.inr ⟨rfl, h1.dbl⟩)⟩)
   ·exact Lx.cons.mpr (.inr ⟨rfl, h1.dbl⟩)
theorem Lx.nlt {a b : List Nat} (h : Lx a b) : ¬ b < a := fun k => List.lt_irrefl _ (List.lt_trans h.lt k)
theorem not_app_lt : ∀ (a r : List Nat), ¬ (a ++ r) < a
 | [], r => List.not_lt_nil _
 | x :: a, r => fun h => (List.cons_lt_cons_iff.mp h).elim (Nat.lt_irrefl _) fun q => not_app_lt a r q.2
theorem not_app_lt_app : ∀ (a : List Nat) {r s : List Nat}, ¬ s < r → ¬ (a ++ s) < (a ++ r)
 | [], _, _, h => h
 | x :: a, _, _, h => fun k => (List.cons_lt_cons_iff.mp k).elim (Nat.lt_irrefl _) fun q => not_app_lt_app a h q.2
noncomputable abbrev qq : List Nat := [50, 53, 55, 32, 34]
noncomputable def Tl (t : List Nat) : Prop := t = [] ∨ ∃ r, t = 34 :: r ∧ ∀ c ∈ r.head?, c ≠ 34
theorem Tl.one : Tl [34] := .inr ⟨[], rfl, fun c h => by cases h⟩
theorem wr_succ (c t : List Nat) (d i : Nat) : wr c d t (i + 1) = qq ++ StrLaws.dbl 34 (wr c d t i) ++ (if i + 1 = d then t else [34]) := by
 rw [wr, q257]
theorem unq_back : ∀ (u : List Nat) {t : List Nat}, Tl t → unq (StrLaws.dbl 34 u ++ t) = u
 | [], t, h => by
  rcases h with rfl | ⟨r, rfl, h⟩
  ·rfl
  ·cases r with
   | nil => exact unq_end
   | cons c r => exact unq_stop (h c rfl)
 | k :: u, t, h => by
  unfold StrLaws.dbl
  split
  ·next e => subst e; rw [List.cons_append, List.cons_append, unq_dbl, unq_back u h]
  ·next e => rw [List.cons_append, unq_other e, unq_back u h]
noncomputable def Nx (c c' : List Nat) : Prop := Lx c c' ∨ ∃ b r, c' = c ++ b :: r ∧ 34 < b
section
variable {c c' t t' : List Nat} {d d' : Nat}
theorem wr_Lx (h : Lx c c') : ∀ l, Lx (wr c d t l) (wr c' d' t' l)
 | 0 => h
 | l + 1 => by rw [wr_succ, wr_succ]; exact ((wr_Lx h l).dbl.pre qq).app _ _
theorem wr_early (h : Lx c qq) : ∀ {l l' : Nat}, l < l' → Lx (wr c d t l) (wr c' d' t' l')
 | 0, l' + 1, _ => by rw [wr_succ, List.append_assoc]; exact List.append_nil c ▸ h.app [] _
 | l + 1, l' + 1, k => by rw [wr_succ, wr_succ]; exact ((wr_early h (Nat.lt_of_succ_lt_succ k)).dbl.pre qq).app _ _
theorem wr_late (h : Lx qq c') : ∀ {l l' : Nat}, l' < l → Lx (wr c d t l) (wr c' d' t' l')
 | l + 1, 0, _ => by rw [wr_succ, List.append_assoc]; exact List.append_nil (wr c' d' t' 0) ▸ h.app _ []
 | l + 1, l' + 1, k => by rw [wr_succ, wr_succ]; exact ((wr_late h (Nat.lt_of_succ_lt_succ k)).dbl.pre qq).app _ _
theorem wr_both (h : Lx c qq) (h' : Lx qq c') : ∀ (l l' : Nat), Lx (wr c d t l) (wr c' d' t' l')
 | 0, 0 => h.trans h'
 | 0, l' + 1 => wr_early h (Nat.succ_pos _)
 | l + 1, 0 => wr_late h' (Nat.succ_pos _)
 | l + 1, l' + 1 => by rw [wr_succ, wr_succ]; exact ((wr_both h h' l l').dbl.pre qq).app _ _
theorem wr_core (h : Nx c c') (ht : Tl t) (l : Nat) : l ≤ d → l ≤ d' → (0 < l → l < d → Lx (wr c d t l) (wr c' d' t' l)) ∧ ¬ wr c' d' t' l < wr c d t l := by
 rcases h with h | ⟨b, r, rfl, hb⟩
 ·exact fun _ _ => ⟨fun _ _ => wr_Lx h _, (wr_Lx h _).nlt⟩
 induction l with
 | zero => exact fun _ _ => ⟨fun k => absurd k (Nat.lt_irrefl _), not_app_lt _ _⟩
 | succ l ih =>
  intro h1 h2
  rw [wr_succ, wr_succ]
  by_cases hl : 0 < l
  ·have := (((ih (Nat.le_of_succ_le h1) (Nat.le_of_succ_le h2)).1 hl h1).dbl.pre qq).app (if l + 1 = d then t else [34]) (if l + 1 = d' then t' else [34])
   exact ⟨fun _ _ => this, this.nlt⟩
  ·have hl0 : l = 0 := Nat.eq_zero_of_not_pos hl
   subst hl0
   obtain ⟨s, e⟩ := dbl_cons b r
   have e2 : ∀ z, qq ++ StrLaws.dbl 34 (wr (c ++ b :: r) d' t' 0) ++ z = qq ++ StrLaws.dbl 34 c ++ (b :: s ++ z) := fun z => by
    show qq ++ StrLaws.dbl 34 (c ++ b :: r) ++ z = _
    rw [StrLaws.dbl_append, e, ← List.append_assoc qq, List.append_assoc (qq ++ StrLaws.dbl 34 c)]
   rw [e2]
   show _ ∧ ¬ _ < qq ++ StrLaws.dbl 34 c ++ _
   have key : ∀ u z : List Nat, Lx (34 :: u) (b :: s ++ z) := fun u z => Lx.cons.mpr (.inl hb)
   refine ⟨fun _ k => ?_, ?_⟩
   ·rw [if_neg (Nat.ne_of_lt k)]; exact (key [] _).pre _
   ·by_cases hd : 0 + 1 = d
    ·rw [if_pos hd]
     rcases ht with rfl | ⟨u, rfl, _⟩
     ·rw [List.append_nil]; exact not_app_lt _ _
     ·exact ((key u _).pre _).nlt
    ·rw [if_neg hd]; exact ((key [] _).pre _).nlt
theorem wr_same (c t t' : List Nat) (d : Nat) : ∀ l, l < d → wr c d t l = wr c d t' l
 | 0, _ => rfl
 | l + 1, h => by rw [wr_succ, wr_succ, if_neg (Nat.ne_of_lt h), if_neg (Nat.ne_of_lt h), wr_same c t t' d l (Nat.lt_of_succ_lt h)]
theorem wr_tail (h : ¬ t' < t) : ∀ l, l ≤ d → ¬ wr c d t' l < wr c d t l
 | 0, _ => List.lt_irrefl _
 | l + 1, k => by
  rw [wr_succ, wr_succ, wr_same c t' t d l k]
  split
  ·exact not_app_lt_app _ h
  ·exact List.lt_irrefl _
end
end Mine
namespace Mine
open PySem
structure It where
 d : Nat
 c : List Nat
 t : List Nat
 told : List Nat
noncomputable def It.tx (i : It) (l : Nat) : List Nat := wr i.c i.d i.t l
noncomputable def It.full (i : It) : List Nat := i.tx i.d
noncomputable abbrev rpl : List Nat := (Str.ofString "reply: ").cps.toList
noncomputable abbrev prt : List Nat := (Str.ofString "proto: ").cps.toList
inductive Nx1 : List Nat → List (List Nat) → List (List Nat) → Prop
 | row {x : List Nat} (h : x.take 1 ≠ [50]) : Nx1 x [] []
 | quo {u e : List Nat} (he : Tl e) : Nx1 (qq ++ StrLaws.dbl 34 u ++ e) [u] []
 | pla {y : List Nat} (h : y.take 2 ≠ [32, 34]) : Nx1 (50 :: 53 :: 55 :: y) [[]] []
 | port {k : Nat} {x : Int} (hk : k < 15) : Nx1 (portC k x) [sg (mdI x) 9 ++ [32, 104]] []
 | rep {y : List Nat} : Nx1 (50 :: 53 :: 48 :: y) [] [rpl ++ 50 :: 53 :: 48 :: y]
 | pro {k : Nat} {x : Int} (hk : k < 15) : Nx1 (spC k x) [] [prt ++ spC k x]
inductive Runs : List (List Nat) → List (List Nat) → List (List Nat) → Prop
 | nil : Runs [] [] []
 | step {H R out rf log ref : List (List Nat)} {top : List Nat} (hp : H.Perm (top :: R)) (hl : top.length ≤ 1000) (hm : ∀ y ∈ R, ¬ y < top) (hn : Nx1 top out rf) (hr : Runs (out ++ R) log ref) : Runs H (top :: log) (rf ++ ref)
theorem Runs.perm {H H' log ref : List (List Nat)} (h : Runs H' log ref) (hp : H.Perm H') : Runs H log ref := by
 cases h with
 | nil => rw [hp.eq_nil]; exact .nil
 | step p l m n r => exact .step (hp.trans p) l m n r
theorem Runs.go {R log ref out : List (List Nat)} {top : List Nat} (hl : top.length ≤ 1000) (hm : ∀ y ∈ R, ¬ y < top) (hn : Nx1 top out []) (hr : Runs (out ++ R) log ref) : Runs (top :: R) (top :: log) ref := .step (.refl _) hl hm hn hr
noncomputable def toldE (i : It) : Bool := i.told.take 1 == [45]
noncomputable def latE (i : It) : List It := if toldE i then [] else if i.told == [] then [] else [⟨0, i.told, [], []⟩]
noncomputable def downs (i : It) : Nat → List (List Nat)
 | 0 => [i.tx 0]
 | l + 1 => i.tx (l + 1) :: downs i l
noncomputable def logE (i : It) : List (List Nat) := downs i i.d ++ if toldE i then [i.told] else []
noncomputable def refE (i : It) : List (List Nat) := if toldE i then [] else if i.told == [] then (if i.c.take 1 == [45] then [] else [(if i.c.take 3 == [50, 53, 48] then rpl else prt) ++ i.c]) else []
structure Ok0 (i : It) : Prop where
 d2 : i.d ≤ 2
 tl : Tl i.t
 tn : i.t.length ≤ 10
 cn : i.c.length ≤ 100
inductive EarlyI (i : It) : Prop
 | row (h : i.c.take 1 = [45]) (ht : i.told = [])
 | rep {y : List Nat} (h : i.c = 50 :: 53 :: 48 :: y) (ht : i.told = [])
 | pro (h : Nx1 i.c [] [prt ++ i.c]) (h1 : i.c.take 1 = [50]) (h3 : i.c.take 3 ≠ [50, 53, 48]) (ht : i.told = [])
 | port (h : Nx1 i.c [i.told] []) (h1 : i.c.take 1 = [50]) (hn : i.told.length ≤ 100) (ht : i.told.take 1 = [45] ∨ (i.told.take 1 ≠ [50] ∧ i.told.take 1 ≠ [45] ∧ Lx qq i.told))
inductive LateI (i : It) : Prop
 | row (h : i.c.take 1 ≠ [50])
 | is {y : List Nat} (h : i.c = 50 :: 53 :: 55 :: y) (hy : y.take 2 ≠ [32, 34])
theorem Ok0.len {i : It} (o : Ok0 i) {l : Nat} (h : l ≤ i.d) : (i.tx l).length ≤ 1000 := wr_le o.tn o.cn l (Nat.le_trans h o.d2)
theorem Ok0.read {i : It} (o : Ok0 i) (l : Nat) : Nx1 (i.tx (l + 1)) [i.tx l] [] := by
 show Nx1 (wr i.c i.d i.t (l + 1)) [wr i.c i.d i.t l] []
 rw [wr_succ]
 exact .quo (by split; exact o.tl; exact Tl.one)
theorem take1 {c : List Nat} {a : Nat} (h : c.take 1 = [a]) : ∃ r, c = a :: r := by
 cases c with
 | nil => cases h
 | cons b r => exact ⟨r, by have := List.cons.inj h; rw [this.1]⟩
theorem run_early {i : It} (o : Ok0 i) (e : EarlyI i) {R log ref : List (List Nat)} (hR : ∀ y ∈ R, ∀ l, l ≤ i.d → ¬ y < i.tx l) (ht : toldE i = true → ∀ y ∈ R, ¬ y < i.told) (h : Runs ((latE i).map It.full ++ R) log ref) :
  ∀ l, l ≤ i.d → Runs (i.tx l :: R) (downs i l ++ ((if toldE i then [i.told] else []) ++ log)) (refE i ++ ref)
 | l + 1, hl => .go (o.len hl) (fun y hy => hR y hy _ hl) (o.read l) (run_early o e hR ht h l (Nat.le_of_succ_le hl))
 | 0, hl => by
  have hc : i.tx 0 = i.c := rfl
  have hl := o.len hl
  have hm := fun y hy => hR y hy 0 (Nat.zero_le _)
  show Runs _ (i.tx 0 :: ((if toldE i then [i.told] else []) ++ log)) _
  rw [hc] at hl hm ⊢
  cases e with
  | row h1 h2 =>
   rw [show latE i = [] by simp [latE, toldE, h2]] at h
   rw [show toldE i = false by simp [toldE, h2], show refE i = [] by simp [refE, toldE, h2, h1]]
   exact .go hl hm (.row (by rw [h1]; decide)) h
  | rep h1 h2 =>
   rw [show latE i = [] by simp [latE, toldE, h2]] at h
   rw [show toldE i = false by simp [toldE, h2], show refE i = [rpl ++ i.c] by simp [refE, toldE, h2, h1]]
   rw [h1] at hl hm ⊢
   exact .step (.refl _) hl hm .rep h
  | pro h1 h2 h3 h4 =>
   rw [show latE i = [] by simp [latE, toldE, h4]] at h
   rw [show toldE i = false by simp [toldE, h4], show refE i = [prt ++ i.c] by simp [refE, toldE, h4, h2, h3]]
   exact .step (.refl _) hl hm h1 h
  | port h1 h2 hn h3 =>
   have n0 : i.told ≠ [] := fun q => by
    rcases h3 with h3 | h3
    ·rw [q] at h3; cases h3
    ·rw [q] at h3; exact Lx.no2 h3.2.2
   cases t : toldE i with
   | true =>
    rw [show latE i = [] by simp [latE, t]] at h
    rw [show refE i = [] by simp [refE, t]]
    refine .go hl hm h1 (.go (Nat.le_trans hn (by decide)) (ht t) (.row ?_) h)
    rw [show i.told.take 1 = [45] from by unfold toldE at t; exact eq_of_beq t]; decide
   | false =>
    rw [show latE i = [⟨0, i.told, [], []⟩] by simp [latE, t, n0]] at h
    rw [show refE i = [] by simp [refE, t, n0]]
    exact .go hl hm h1 h
end Mine
namespace Mine
open PySem PySem.W PyProof.Rows PySem.Calls
section
variable {prog : Program} {w : World} {A : Around} {E : Value → Shared → Prop} {s : Shared}
theorem nx_rng_item {it : Addr} {x left step : Int} {Q : Value → Shared → Prop} (hit : IsRangeIter s.heap it x left step) (hleft : 0 < left)
  (hQ : ∀ h', IsRangeIter h' it (x + step) (left - 1) step → Heap.SameBut it s.heap h' → Q (.int x s.toks) { s with heap := h', toks := s.toks + 1 }) :
  wpAny (model prog w) A (Builtin.SmallTypes.nextOf (.ref it)) Q E s := by
 have hT : s.TypeIs (.ref it) "range_iterator" := ⟨_, hit, rfl⟩
 unfold Builtin.SmallTypes.nextOf
 refine wpAny_bind (wpAny_callSpecial?_slot (name := Str.ofString "__next__") hT F.slot_range_iterator_next
  (call_meets F.slot_range_iterator_next hT F.entry_range_iterator_next (F.args_range_iterator_next_1 _) (AutoRange.range_iterator___next___range_iterator_1 it x left step (by lia)) ⟨hit, ?_⟩))
 exact wpAny_pure (hQ _ (Heap.get?_update_self _ (Heap.get?_update_self _ hit rfl) rfl) ((Heap.SameBut.update ..).trans (Heap.SameBut.update ..)))
theorem nx_rng_end {it : Addr} {x left step : Int} {Q : Value → Shared → Prop} (hh : A.handled = none) (hit : IsRangeIter s.heap it x left step) (hleft : left ≤ 0)
  (hE : ∀ h' e, Heap.ExtBut it s.heap h' → (∃ o, h'.get? e = some o ∧ o.cls = .type "StopIteration") → E (.ref e) { s with heap := h' }) : wpAny (model prog w) A (Builtin.SmallTypes.nextOf (.ref it)) Q E s := by
 have hT : s.TypeIs (.ref it) "range_iterator" := ⟨_, hit, rfl⟩
 unfold Builtin.SmallTypes.nextOf
 refine wpAny_bind (wpAny_callSpecial?_slot (name := Str.ofString "__next__") hT F.slot_range_iterator_next
  (wpAny_call_entry F.slot_range_iterator_next hT F.entry_range_iterator_next ?_ (F.args_range_iterator_next_1 _)))
 show wpAny _ _ (field (.ref it) 0 >>= _) _ _ s
 refine wpAny_bind (wpAny_field hit rfl (x := rawInt x) rfl ?_)
 show wpAny _ _ (field (.ref it) 1 >>= _) _ _ s
 refine wpAny_bind (wpAny_field hit rfl (x := rawInt left) rfl ?_)
 show wpAny _ _ (field (.ref it) 2 >>= _) _ _ s
 refine wpAny_bind (wpAny_field hit rfl (x := rawInt step) rfl ?_)
 show wpAny _ _ (if left ≤ 0 then _ else _) _ _ s
 rw [if_pos hleft]
 refine wpAny_bind (wpAny_rule ?_)
 refine wpAny_bind ?_
 show wpAny _ _ (newExc (.type "StopIteration") [] >>= _) _ _ _
 refine wpAny_bind ?_
 simp only [newExc, newTuple]
 refine wpAny_bind (wpAny_newObj_type ?_ (by size_fits))
 refine wpAny_bind (m := firstArgMember _ _) (wpAny_of_eq (a := Value.none) (by first | rfl | (simp only [firstArgMember]; rfl)) ?_)
 refine wpAny_newObj_type ?_ (by size_fits)
 simp only [raiseNew]
 refine wpAny_bind (wpAny_handled ?_)
 rw [show A.in1.handled = none from hh]
 exact wpAny_bind (wpAny_pure (wpAny_throw (hE _ _ (((Heap.ExtBut.refl it s.heap).push _).push _) ⟨_, Heap.get?_push_size _ rfl, rfl⟩)))
structure ZA (z TI TO i1 i2 l2 : Addr) : Prop where
 TIz : TI ≠ z
 TOz : TO ≠ z
 i1z : i1 ≠ z
 i2z : i2 ≠ z
 TIO : TI ≠ TO
 TI1 : TI ≠ i1
 TI2 : TI ≠ i2
 TO1 : TO ≠ i1
 TO2 : TO ≠ i2
 i12 : i1 ≠ i2
 lz : l2 ≠ z
 lO : l2 ≠ TO
 l1 : l2 ≠ i1
 l2 : l2 ≠ i2
theorem z_item {z TI TO i1 i2 l2 : Addr} {x left step : Int} {k2 : Nat} {ys : Array Value} {y a b : Value} {Q : Option Value → Shared → Prop} (D : ZA z TI TO i1 i2 l2)
  (hz : IsZip s.heap z TI TO .none) (hTI : IsPair s.heap TI (.ref i1) (.ref i2)) (hTO : IsPair s.heap TO a b)
  (h1 : IsRangeIter s.heap i1 x left step) (hleft : 0 < left) (h2 : s.heap.IsListIter i2 l2 k2) (hl2 : s.heap.IsList l2 ys) (hy : ys[k2]? = some y)
  (hQ : ∀ h', IsZip h' z TI TO (rawInt s.heap.objs.size) → IsPair h' TO (.int x s.toks) y → IsRangeIter h' i1 (x + step) (left - 1) step → h'.IsListIter i2 l2 (k2 + 1) → IsPair h' s.heap.objs.size (.int x s.toks) y →
   (∀ c o, c ≠ z → c ≠ TO → c ≠ i1 → c ≠ i2 → s.heap.get? c = some o → h'.get? c = some o) → Q (some (.ref s.heap.objs.size)) { s with heap := h', toks := s.toks + 1 }) :
  wpAny (model prog w) A (pyNext (.ref z)) Q E s := by
 have hT : s.TypeIs (.ref z) "zip" := ⟨_, hz, rfl⟩
 unfold pyNext
 refine wpAny_bind (wpAny_attempt (wpAny_callSpecial?_slot (name := Str.ofString "__next__") hT F.slot_zip_next
  (wpAny_call_entry F.slot_zip_next hT F.entry_zip_next ?_ (F.args_zip_next_1 _))))
 show wpAny _ _ (field (.ref z) 2 >>= _) _ _ _
 refine wpAny_bind (wpAny_field hz rfl (x := .bool false) rfl ?_)
 show wpAny _ _ (field (.ref z) 3 >>= _) _ _ _
 refine wpAny_bind (wpAny_field hz rfl (x := .ref TI) rfl ?_)
 refine wpAny_bind (wpAny_seqItems hTI rfl ?_)
 show wpAny _ _ (Builtin.SmallTypes.ownedTupleIsFree (.ref z) >>= _) _ _ _
 refine wpAny_bind ?_
 unfold Builtin.SmallTypes.ownedTupleIsFree
 refine wpAny_bind (wpAny_field hz rfl (x := .none) rfl (wpAny_pure ?_))
 simp only [if_true]
 refine wpAny_bind (wpAny_rule ?_)
 refine wpAny_bind (wpAny_field hz rfl (x := .ref TO) rfl ?_)
 refine wpAny_bind (wpAny_setField_rec hz (by simp) fun g1 hz1 hs1 => ?_)
 replace hz1 : IsZip g1 z TI TO .ellipsis := hz1
 refine wpAny_bind ?_
 simp only [List.zipIdx_cons, List.zipIdx_nil, List.forIn_cons, List.forIn_nil]
 refine wpAny_bind (wpAny_bind (wpAny_onRaise ?_))
 show wpAny _ _ (Builtin.SmallTypes.nextOf (.ref i1) >>= _) _ _ _
 refine wpAny_bind (nx_rng_item (hs1.extBut _ _ D.i1z h1) hleft fun g2 h12 hs2 => wpAny_pure ?_)
 have hTO2 : IsPair g2 TO a b := hs2.extBut _ _ D.TO1 (hs1.extBut _ _ D.TOz hTO)
 refine wpAny_bind (wpAny_seqItems hTO2 rfl ?_)
 refine wpAny_bind (wpAny_updateSeq_pair hTO2 fun g3 hTO3 hs3 => ?_)
 replace hTO3 : IsPair g3 TO (.int x s.toks) b := hTO3
 refine wpAny_bind (wpAny_letGo (wpAny_pure ?_))
 refine wpAny_bind (wpAny_bind (wpAny_onRaise ?_))
 show wpAny _ _ (Builtin.SmallTypes.nextOf (.ref i2) >>= _) _ _ _
 refine wpAny_bind (wpAny_nextOf_list_item (((h2.extBut hs1.extBut D.i2z).extBut hs2.extBut D.i12.symm).extBut hs3.extBut D.TO2.symm)
  (((hl2.extBut hs1.extBut D.lz).extBut hs2.extBut D.l1).extBut hs3.extBut D.lO) hy fun g4 h24 hs4 => wpAny_pure ?_)
 have hTO4 : IsPair g4 TO (.int x s.toks) b := hs4.extBut _ _ D.TO2 hTO3
 refine wpAny_bind (wpAny_seqItems hTO4 rfl ?_)
 refine wpAny_bind (wpAny_updateSeq_pair hTO4 fun g5 hTO5 hs5 => ?_)
 replace hTO5 : IsPair g5 TO (.int x s.toks) y := hTO5
 refine wpAny_bind (wpAny_letGo (wpAny_pure (wpAny_pure ?_)))
 refine wpAny_bind (wpAny_seqItems hTO5 rfl ?_)
 refine wpAny_bind (wpAny_newTuple ?_)
 have hsz : g5.objs.size = s.heap.objs.size := by rw [hs5.1, hs4.1, hs3.1, hs2.1, hs1.1]
 have up5 : ∀ c o, c ≠ z → c ≠ TO → c ≠ i1 → c ≠ i2 → s.heap.get? c = some o → g5.get? c = some o := fun c o c1 c2 c3 c4 e =>
  hs5.extBut _ _ c2 (hs4.extBut _ _ c4 (hs3.extBut _ _ c2 (hs2.extBut _ _ c3 (hs1.extBut _ _ c1 e))))
 have hz5 : IsZip g5 z TI TO .ellipsis := hs5.extBut _ _ D.TOz.symm (hs4.extBut _ _ D.i2z.symm (hs3.extBut _ _ D.TOz.symm (hs2.extBut _ _ D.i1z.symm hz1)))
 have h15 : IsRangeIter g5 i1 (x + step) (left - 1) step := hs5.extBut _ _ D.TO1.symm (hs4.extBut _ _ D.i12 (hs3.extBut _ _ D.TO1.symm h12))
 have h25 : g5.IsListIter i2 l2 (k2 + 1) := h24.extBut hs5.extBut D.TO2.symm
 have hzlt : z < g5.objs.size := Heap.lt_size hz5
 show wpAny _ _ (Builtin.SmallTypes.ownedTupleHandOut (.ref z) (.ref g5.objs.size) >>= _) _ _ _
 refine wpAny_bind ?_
 unfold Builtin.SmallTypes.ownedTupleHandOut
 have hz6 : IsZip (g5.push { cls := .type "tuple", data := .seq #[.int x s.toks, y] }) z TI TO .ellipsis := Heap.get?_push_of_some _ hz5
 refine wpAny_bind (wpAny_setField_rec hz6 (by simp) fun g7 hz7 hs7 => ?_)
 replace hz7 : IsZip g7 z TI TO (rawInt g5.objs.size) := hz7
 refine wpAny_setField_rec hz7 (by simp) fun g8 hz8 hs8 => ?_
 replace hz8 : IsZip g8 z TI TO (rawInt g5.objs.size) := hz8
 have up : ∀ c o, c ≠ z → g5.get? c = some o → g8.get? c = some o := fun c o c1 e => hs8.extBut _ _ c1 (hs7.extBut _ _ c1 (Heap.get?_push_of_some _ e))
 have hT8 : IsPair g8 g5.objs.size (.int x s.toks) y := hs8.extBut _ _ (Nat.ne_of_gt hzlt) (hs7.extBut _ _ (Nat.ne_of_gt hzlt) (Heap.get?_push_size _ rfl))
 rw [hsz] at hz8 hT8
 refine wpAny_pure ⟨_, rfl, wpAny_pure ?_⟩
 show Q (some (.ref g5.objs.size)) _
 rw [hsz]
 exact hQ g8 hz8 (up _ _ D.TOz hTO5) (up _ _ D.i1z h15) (h25.at fun o e => up _ o D.i2z e) hT8 fun c o c1 c2 c3 c4 e => up c o c1 (up5 c o c1 c2 c3 c4 e)
theorem z_end {z TI TO i1 i2 l2 : Addr} {x left step : Int} {Q : Option Value → Shared → Prop} (hh : A.handled = none) (D : ZA z TI TO i1 i2 l2)
  (hz : IsZip s.heap z TI TO .none) (hTI : IsPair s.heap TI (.ref i1) (.ref i2))
  (h1 : IsRangeIter s.heap i1 x left step) (hleft : left ≤ 0)
  (hQ : ∀ h', (∀ c o, c ≠ z → c ≠ i1 → s.heap.get? c = some o → h'.get? c = some o) → Q none { s with heap := h' }) :
  wpAny (model prog w) A (pyNext (.ref z)) Q E s := by
 have hT : s.TypeIs (.ref z) "zip" := ⟨_, hz, rfl⟩
 unfold pyNext
 refine wpAny_bind (wpAny_attempt (wpAny_callSpecial?_slot (name := Str.ofString "__next__") hT F.slot_zip_next
  (wpAny_call_entry F.slot_zip_next hT F.entry_zip_next ?_ (F.args_zip_next_1 _))))
 show wpAny _ _ (field (.ref z) 2 >>= _) _ _ _
 refine wpAny_bind (wpAny_field hz rfl (x := .bool false) rfl ?_)
 show wpAny _ _ (field (.ref z) 3 >>= _) _ _ _
 refine wpAny_bind (wpAny_field hz rfl (x := .ref TI) rfl ?_)
 refine wpAny_bind (wpAny_seqItems hTI rfl ?_)
 show wpAny _ _ (Builtin.SmallTypes.ownedTupleIsFree (.ref z) >>= _) _ _ _
 refine wpAny_bind ?_
 unfold Builtin.SmallTypes.ownedTupleIsFree
 refine wpAny_bind (wpAny_field hz rfl (x := .none) rfl (wpAny_pure ?_))
 simp only [if_true]
 refine wpAny_bind (wpAny_rule ?_)
 refine wpAny_bind (wpAny_field hz rfl (x := .ref TO) rfl ?_)
 refine wpAny_bind (wpAny_setField_rec hz (by simp) fun g1 hz1 hs1 => ?_)
 replace hz1 : IsZip g1 z TI TO .ellipsis := hz1
 refine wpAny_bind ?_
 simp only [List.zipIdx_cons, List.zipIdx_nil, List.forIn_cons, List.forIn_nil]
 refine wpAny_bind (wpAny_bind (wpAny_onRaise ?_))
 show wpAny _ _ (Builtin.SmallTypes.nextOf (.ref i1) >>= _) _ _ _
 refine wpAny_bind (nx_rng_end hh (hs1.extBut _ _ D.i1z h1) hleft fun g2 e hs2 he => ?_)
 refine un_1_2 (he) fun oe hoe hce => ?_; (try clear he)
 have hz2 : IsZip g2 z TI TO .ellipsis := hs2 _ _ D.i1z.symm hz1
 have hez : e ≠ z := fun x => by subst x; rw [hz2] at hoe; cases hoe; simp at hce
 refine wpAny_setField_rec hz2 (by simp) fun g3 _ hs3 => ?_
 refine wpAny_bind (wpAny_isInstance (T := "StopIteration") (b := true) ⟨oe, hs3.extBut _ _ hez hoe, hce⟩ isSubtype_stop ?_)
 exact wpAny_pure (hQ _ fun c o c1 c3 x => hs3.extBut _ _ c1 (hs2 _ _ c3 (hs1.extBut _ _ c1 x)))
end
end Mine
namespace Mine
open PySem PySem.W PyProof.Rows PySem.Calls
noncomputable abbrev zR (h : Heap) (a b c : Int) : Heap := h.push { cls := .type "range_iterator", data := .fields #[rawInt a, rawInt (Builtin.Range.rangeSize a b c), rawInt c] }
noncomputable abbrev zI (h : Heap) (a b c : Int) (ita : Addr) : Heap := (zR h a b c).push { cls := .type "tuple", data := .seq #[.ref h.objs.size, .ref ita] }
noncomputable abbrev zO (h : Heap) (a b c : Int) (ita : Addr) : Heap := (zI h a b c ita).push { cls := .type "tuple", data := .seq #[.none, .none] }
noncomputable abbrev zZ (h : Heap) (a b c : Int) (ita : Addr) : Heap := (zO h a b c ita).push { cls := .type "zip", data := .fields #[.none, .bool false, .bool false, .ref (zR h a b c).objs.size, .ref (zI h a b c ita).objs.size] }
theorem meets_zip_rl (r ita l : Addr) (a b c : Int) (t u v : Tok) (k : Nat) (hs : Builtin.Range.small a b c = true) :
  Meets (Builtin.«zip.__new__» ⟨[.type "zip", .ref r, .ref ita], []⟩) (fun _ R s => IsRange s.heap r a b c t u v ∧ s.heap.IsListIter ita l k ∧
   R (.ok (.ret (.ref (zO s.heap a b c ita).objs.size))) { s with heap := zZ s.heap a b c ita }) :=
 .of_wp fun prog w A R s h => by
  obtain ⟨hp, g, d, tk, os⟩ := s; obtain ⟨hr, hi, h⟩ := h
  have hsub := sub_zip
  have hR : IsRange (Shared.heap ⟨hp, g, d, tk, os⟩) r a b c t u v := hr
  have hI : Heap.IsListIter (Shared.heap ⟨zR hp a b c, g, d, tk, os⟩) ita l k := by
   obtain ⟨o, e, q⟩ := hi; exact ⟨o, Heap.get?_push_of_some _ e, q⟩
  wp_walk using wpAny_pyIter_range hR hs, wpAny_pyIter_listiter hI
  exact ⟨_, rfl, h⟩
section
variable {prog : Program} {w : World} {A : Around} {E : Value → Shared → Prop} {s : Shared}
theorem call_zip_rl {r ita l : Addr} {a b c : Int} {t u v : Tok} {k : Nat} {Q : Value → Shared → Prop} (hs : Builtin.Range.small a b c = true) (hr : IsRange s.heap r a b c t u v) (hi : s.heap.IsListIter ita l k)
  (h : ∀ h' z TI TO i1, s.heap.get? z = none → s.heap.get? TI = none → s.heap.get? TO = none → s.heap.get? i1 = none → TI ≠ z → TO ≠ z → i1 ≠ z → TI ≠ TO → TI ≠ i1 → TO ≠ i1 → IsZip h' z TI TO .none → IsPair h' TI (.ref i1) (.ref ita) → IsPair h' TO .none .none → IsRangeIter h' i1 a (Builtin.Range.rangeSize a b c) c →
   (∀ c o, s.heap.get? c = some o → h'.get? c = some o) → Q (.ref z) { s with heap := h' }) :
  wpAny (model prog w) A (call (.type "zip") [.ref r, .ref ita]) Q E s := by
 refine callType_new F.called_zip (by decide) (F.typeCall_zip_2 _ _) (F.newCall_zip_2 _ _) (fun obj => F.args_object_init_3 obj _ _) F.entry_zip_new (meets_zip_rl r ita l a b c t u v k hs) ⟨hr, hi, ?_⟩
 have z1 : (zR s.heap a b c).objs.size = s.heap.objs.size + 1 := Heap.size_push ..
 have z2 : (zI s.heap a b c ita).objs.size = s.heap.objs.size + 2 := by rw [Heap.size_push, z1]
 have z3 : (zO s.heap a b c ita).objs.size = s.heap.objs.size + 3 := by rw [Heap.size_push, z2]
 have g5 : (zZ s.heap a b c ita).get? (zO s.heap a b c ita).objs.size = some _ := Heap.get?_push_size _ rfl
 have g4 : (zZ s.heap a b c ita).get? (zI s.heap a b c ita).objs.size = some _ := Heap.get?_push_of_some _ (Heap.get?_push_size _ rfl)
 have g3 : (zZ s.heap a b c ita).get? (zR s.heap a b c).objs.size = some _ := Heap.get?_push_of_some _ (Heap.get?_push_of_some _ (Heap.get?_push_size _ rfl))
 have g1 : (zZ s.heap a b c ita).get? s.heap.objs.size = some _ := Heap.get?_push_of_some _ (Heap.get?_push_of_some _ (Heap.get?_push_of_some _ (Heap.get?_push_size _ rfl)))
 have nw : ∀ k, s.heap.get? (s.heap.objs.size + k) = none := fun k => Heap.get?_none_of_le (Nat.le_add_right _ k)
 show _ ∧ _
 refine ⟨⟨_, g5, rfl⟩, h _ _ _ _ s.heap.objs.size (by rw [z3]; exact nw 3) (by rw [z1]; exact nw 1) (by rw [z2]; exact nw 2) (nw 0) ?_ ?_ ?_ ?_ ?_ ?_ g5 g3 g4 g1 fun c o x =>
  Heap.get?_push_of_some _ (Heap.get?_push_of_some _ (Heap.get?_push_of_some _ (Heap.get?_push_of_some _ x)))⟩
 all_goals (try rw [z1]); (try rw [z2]); (try rw [z3])
 all_goals lia
end
end Mine
namespace Mine
open PySem PySem.W PyProof.Rows PySem.Calls
noncomputable def UpX (X : List Addr) (h h' : Heap) : Prop := ∀ b o, b ∉ X → h.get? b = some o → h'.get? b = some o
theorem UpX.trans {X : List Addr} {h h' h'' : Heap} (x : UpX X h h') (y : UpX X h' h'') : UpX X h h'' := fun b o n e => y b o n (x b o n e)
theorem UpX.mono {X Y : List Addr} {h h' : Heap} (x : UpX X h h') (k : ∀ a ∈ X, a ∈ Y) : UpX Y h h' := fun b o n e => x b o (fun q => n (k b q)) e
theorem UpX.same {X : List Addr} {h h' : Heap} {a : Addr} (x : Heap.SameBut a h h') (k : a ∈ X) : UpX X h h' := fun b o n e => (x.2 b fun q => n (q ▸ k)).trans e
theorem UpX.ext {X : List Addr} {h h' : Heap} (x : Ext h h') : UpX X h h' := fun b o _ e => x b o e
noncomputable abbrev pairsZ (a c : Int) (ws : List (List Nat)) (i : Nat) : List V := (List.range i).map fun j => .tup [.str (ws.getD j []), .int (a + j * c)]
structure ZI (g : Heap) (z TI TO i1 ita la Cl D : Addr) (a c : Int) (n : Nat) (ws : List (List Nat)) (i : Nat) (h : Heap) : Prop where
 old : UpX [ita] g h
 hz : IsZip h z TI TO .none
 ti : IsPair h TI (.ref i1) (.ref ita)
 to : ∃ x y, IsPair h TO x y
 rg : IsRangeIter h i1 (a + i * c) (n - i) c
 it : h.IsListIter ita la i
 ns : ∃ m, h.Ns Cl m
 ds : ∃ ys k, h.get? D = some { cls := .type "list", data := .seq ys k } ∧ VRs [] (hideAll h [TO]) (pairsZ a c ws i) ys.toList
structure ZF (g : Heap) (z TI TO i1 ita la Cl D : Addr) : Prop where
 za : ZA z TI TO i1 ita la
 new : ∀ b ∈ [z, TI, TO, i1, Cl, D], g.get? b = none
 cz : Cl ∉ [z, TI, TO, i1]
 dz : D ∉ [z, TI, TO, i1, Cl]
section
variable {prog : Program} {w : World} {A : Around} {s : Shared} {env : Env} {g : Heap} {z TI TO i1 ita la Cl D : Addr} {a c : Int} {n i : Nat} {ws : List (List Nat)}
theorem zip_turn {xi xe : Str} {p1 p2 p3 p4 pt pe : Pos} {kt ke : Nat} {its0 : Array Value} {n0 : Nat} {Q : Shared → Prop} (hh : A.handled = none) (hk : env.scope.kind = .function) (hl : env.locals = Cl) (ki : env.kindOf xi = some .local) (kx : env.kindOf xe = some .local) (hne : xi ≠ xe)
  (d1 : (xi == ("__debug__" : Str)) = false) (d2 : (xe == ("__debug__" : Str)) = false) (Fz : ZF g z TI TO i1 ita la Cl D) (hla : g.get? la = some { cls := .type "list", data := .seq its0 n0 }) (hita : ∃ o, g.get? ita = some o) (hws : VRs [] g (ws.map V.str) its0.toList) (hn : n ≤ ws.length) (hn1 : n ≤ 1000) (hi : i < n)
  (Z : ZI g z TI TO i1 ita la Cl D a c n ws i s.heap) (ht : 0 < s.toks) (hQ : ∀ h' tk, 0 < tk → ZI g z TI TO i1 ita la Cl D a c n ws (i + 1) h' → Q { s with heap := h', toks := tk }) :
  wpAny (model prog w) A (pyNext (.ref z)) (fun r s₁ => ∃ v, r = some v ∧ wpAny (model prog w) A (letOwnedTupleGo (.Tuple [.Name xi p1, .Name xe p2] kt pt) (.ref z) v) (fun _ s0 => wpAny (model prog w) A (assign (.Tuple [.Name xi p1, .Name xe p2] kt pt) env v) (fun _ s₂ =>
    wpAny (model prog w) A (compT [] env) (fun ok s₃ => if ok = true then wpAny (model prog w) A (eval (.Tuple [.Name xe p3, .Name xi p4] ke pe) env) (fun x s₄ => wpAny (model prog w) A (call (.builtin "list.append") [.ref D, x]) (fun _ s₅ => Q s₅) (fun _ _ => False) s₄) (fun _ _ => False) s₃ else Q s₃) (fun _ _ => False) s₂) (fun _ _ => False) s0) (fun _ _ => False) s₁) (fun _ _ => False) s := by
 obtain ⟨old, hz, ti, ⟨x0, y0, to⟩, rg, it, ⟨m, ns⟩, ys, dn, hd, hv⟩ := Z
 have hit : i < ws.length := Nat.lt_of_lt_of_le hi hn
 obtain ⟨oita, eita⟩ := hita
 have nin : ∀ {b o}, g.get? b = some o → b ∉ [z, TI, TO, i1, Cl, D] := fun e q => by rw [Fz.new _ q] at e; cases e
 have lne : la ≠ ita := Fz.za.l2
 have hla1 : s.heap.get? la = some { cls := .type "list", data := .seq its0 n0 } := old _ _ (by simpa using lne) hla
 obtain ⟨y, ey, ry⟩ := hws.get (i := i) (v := .str (ws.getD i [])) (by rw [List.getElem?_map, List.getElem?_eq_getElem hit]; simp [hit])
 rw [Array.getElem?_toList] at ey
 obtain ⟨ty, rfl⟩ := jRA ry
 refine z_item Fz.za hz ti to rg (by lia) it ⟨_, hla1, rfl, n0, rfl⟩ ey fun h2 a1 a2 a3 a4 a5 up2 => ⟨_, rfl, ?_⟩
 refine wpAny_letOwnedTupleGo_zip a1 fun h3 hz3 hs3 => ?_
 have cz : Cl ≠ z ∧ Cl ≠ TI ∧ Cl ≠ TO ∧ Cl ≠ i1 := by have := Fz.cz; simp at this; exact this
 have dz : D ≠ z ∧ D ≠ TI ∧ D ≠ TO ∧ D ≠ i1 ∧ D ≠ Cl := by have := Fz.dz; simp at this; exact this
 have ci : Cl ≠ ita := fun q => nin eita (by simp [← q])
 have di : D ≠ ita := fun q => nin eita (by simp [← q])
 have up3 : UpX [z, TO, i1, ita] s.heap h3 := UpX.trans (fun b o hb e => by simp at hb; exact up2 b o hb.1 hb.2.1 hb.2.2.1 hb.2.2.2 e) (.same hs3 (by simp))
 have hT0 : IsPair h3 s.heap.objs.size (.int (a + i * c) s.toks) (.str ⟨(ws.getD i []).toArray⟩ ty) := (hs3.2 _ (Nat.ne_of_gt (Heap.lt_size hz))).trans a5
 have d3 : h3.get? D = some { cls := .type "list", data := .seq ys dn } := up3 _ _ (by simp [dz, di]) hd
 refine un_3_2 (ns) fun oc ec pc nc rc => ?_; (try clear ns)
 have n3 : h3.Ns Cl m := ⟨oc, ec, pc, up3 _ _ (by simp [cz, ci]) nc, rc⟩
 refine assign_Tuple_tuple hh ⟨_, hT0, rfl, 0, rfl⟩ rfl rfl fun h4 he4 => ?_
 have x4 : Ext h3 h4 := Ext.of_extBut he4
 show wpAny _ _ (do holding [Value.str ⟨(ws.getD i []).toArray⟩ ty] (assign (.Name xi p1) env (.int (a + i * c) s.toks)); assignInOrder [assign (.Name xe p2) env] [.str ⟨(ws.getD i []).toArray⟩ ty]) _ _ _
 have hp : (env.scope.kind == .class || (env.scope.kind == .module && env.locals != env.globals)) = false := by rw [hk]; rfl
 refine wpAny_bind (wpAny_holding (wpAny_assign_Name (wpAny_storeName_local ki (by rw [hl]; exact n3.keeps x4) (fun h5 n5 sb5 => ?_) hp)))
 show wpAny _ _ (do holding [] (assign (.Name xe p2) env (.str ⟨(ws.getD i []).toArray⟩ ty)); assignInOrder [] []) _ _ _
 refine wpAny_bind (wpAny_holding (wpAny_assign_Name (wpAny_storeName_local kx n5 (fun h6 n6 sb6 => ?_) hp)))
 refine wpAny_pure ?_
 refine wpAny_pure (a := true) ?_
 rw [if_pos rfl]
 rw [hl] at sb5 sb6 n6
 refine PyProof.Rows.Tuple_ ?_
 show wpAny _ _ (spliced ((false, eval (.Name xe p3) env) :: (false, eval (.Name xi p4) env) :: backTo pe (starEach [] env))) _ _ _
 refine spliced_cons (wpAny_Name (wpAny_loadName_local hk kx (by rw [hl]; exact n6) (v := .str ⟨(ws.getD i []).toArray⟩ ty) (by simp) (spliced_cons (wpAny_Name (wpAny_loadName_local hk ki (by rw [hl]; exact n6) (v := .int (a + i * c) s.toks) (by simp [hne]) (spliced_nil (wpAny_newTuple ?_ (by rw [sizeLine16]; show 2 ≤ 16777216; decide)))) d1))) d2)
 have up6 : UpX [Cl] h3 h6 := (UpX.ext x4).trans ((UpX.same sb5 (by simp)).trans (.same sb6 (by simp)))
 have T1 := Heap.get?_push_size h6 (o := { cls := .type "tuple", data := .seq #[.str ⟨(ws.getD i []).toArray⟩ ty, .int (a + i * c) s.toks] }) rfl
 have d7 : (h6.push { cls := .type "tuple", data := .seq #[.str ⟨(ws.getD i []).toArray⟩ ty, .int (a + i * c) s.toks] }).get? D = some { cls := .type "list", data := .seq ys dn } := Heap.get?_push_of_some _ (up6 _ _ (by simp [dz]) d3)
 have hsz : ys.size = i := by have := hv.length; simpa using this
 have hbig : ys.size ≤ sizeLine := by rw [sizeLine16, hsz]; lia
 refine append_at d7 (fun h8 sb8 e8 => hQ h8 _ (Nat.succ_pos _) ?_) hbig
 have up8 : UpX [Cl, D] h3 h8 := (up6.mono (by simp)).trans (UpX.trans (.ext (Ext.push _ _)) (.same sb8 (by simp)))
 have za := Fz.za
 have to2 : IsPair h3 TO (.int (a + i * c) s.toks) (.str ⟨(ws.getD i []).toArray⟩ ty) := (hs3.2 _ za.TOz).trans a2
 have tneT : h6.objs.size ≠ TO := fun q => by
  have e := up6 _ _ (by simp [Ne.symm cz.2.2.1]) to2
  have := Heap.lt_size e
  rw [q] at this; exact Nat.lt_irrefl _ this
 have tneD : h6.objs.size ≠ D := fun q => by
  have e := up6 _ _ (by simp [dz]) d3
  have := Heap.lt_size e
  rw [q] at this; exact Nat.lt_irrefl _ this
 refine ⟨fun b o hb e => ?_, up8 _ _ (by simp [Ne.symm cz.1, Ne.symm dz.1]) hz3, up8 _ _ (by simp [Ne.symm cz.2.1, Ne.symm dz.2.1]) (up3 _ _ (by simp [za.TIz, za.TIO, za.TI1, za.TI2]) ti), ⟨_, _, up8 _ _ (by simp [Ne.symm cz.2.2.1, Ne.symm dz.2.2.1]) to2⟩, ?_, ?_, ?_, ?_⟩
 ·have hnb := nin e
  simp at hnb
  simp at hb
  exact up8 _ _ (by simp [hnb]) (up3 _ _ (by simp [hnb, hb]) (old _ _ (by simp [hb]) e))
 ·have e1 : a + ((i + 1 : Nat) : Int) * c = a + (i : Int) * c + c := by push_cast; rw [Int.add_mul, Int.one_mul, Int.add_assoc]
  have e2 : (n : Int) - ((i + 1 : Nat) : Int) = (n : Int) - i - 1 := by lia
  rw [e1, e2]
  exact up8 _ _ (by simp [Ne.symm cz.2.2.2, Ne.symm dz.2.2.2.1]) ((hs3.2 _ za.i1z).trans a3)
 ·refine un_1_2 (a4) fun o e q => ?_; (try clear a4)
  exact ⟨o, up8 _ _ (by simp [Ne.symm ci, Ne.symm di]) ((hs3.2 _ za.i2z).trans e), q⟩
 ·refine un_3_2 (n6) fun o es ep e q => ?_; (try clear n6)
  exact ⟨_, o, es, ep, (sb8.2 _ (Ne.symm dz.2.2.2.2)).trans (Heap.get?_push_of_some _ e), q⟩
 ·refine ⟨_, _, e8, ?_⟩
  have tk : TupKeeps (hideAll s.heap [TO]) (hideAll h8 [TO]) := fun b o its k e hc hd' => by
   have e0 := of_hideAll _ e
   have nt : ∀ (b' : Addr) (o' : Obj), s.heap.get? b' = some o' → o'.cls ≠ .type "tuple" → b ≠ b' := fun b' o' q w q2 => by rw [← q2, e0] at q; cases q; exact w hc
   have b1 : b ≠ TO := fun q => by rw [q, hideAll_none _ (by simp)] at e; cases e
   refine un_1_3 (it) fun oi ei ki' _ => ?_; (try clear it)
   have b2 := nt _ _ hz (by simp)
   have b3 := nt _ _ rg (by simp)
   have b4 := nt _ _ ei (by rw [ki']; simp)
   have b5 : b ≠ Cl := fun q => by rw [← q, e0] at nc; cases nc; rw [rc.1] at hd'; cases hd'
   have b6 := nt _ _ hd (by simp)
   exact ⟨o, hideAll_get _ (up8 _ _ (by simp [b5, b6]) (up3 _ _ (by simp [b1, b2, b3, b4]) e0)) (by simpa using b1), hc, hd'⟩
  have ep : pairsZ a c ws (i + 1) = pairsZ a c ws i ++ [.tup [.str (ws.getD i []), .int (a + i * c)]] := by
   unfold pairsZ; rw [List.range_succ, List.map_append]; rfl
  rw [ep, Array.toList_push]
  exact VRs.append (VRs.mono List.prefix_rfl tk _ _ hv) (vrs1 (vr_tup ⟨_, hideAll_get _ ((sb8.2 _ tneD).trans T1) (by simpa using tneT), rfl, 0, rfl⟩ (vrs2 vr_str' vr_int)))
end
end Mine
namespace Mine
open PySem PySem.W PyProof.Rows PySem.Calls
section
variable {C : Cst} {Γ : Fm} {loc : List (Option V)} {sto : List SO}
structure ZC (C : Cst) (Γ : Fm) (loc : List (Option V)) (sto : List SO) (xi xe zn rn itn : Str) (pz pr prc pit : Pos) (es : List Expr) (scope : Scope) (ki kl : Nat) (a b c : Int) (n : Nat) (ws : List (List Nat)) : Prop where
 clos : closureFor scope Γ.env = pure []
 nocell : ∀ y ∈ scope.names, y.2 ≠ .cell
 kind : scope.kind = .function
 nam : ∀ y ∈ scope.names, y.2 = .local → scope.names.lookup y.1 = some .local
 li : scope.names.lookup xi = some .local
 lx : scope.names.lookup xe = some .local
 ne : xi ≠ xe
 d1 : (xi == ("__debug__" : Str)) = false
 d2 : (xe == ("__debug__" : Str)) = false
 hz : EE C Γ loc sto (.Name zn pz) (.raw (.type "zip")) loc sto
 hr : EE C Γ loc sto (.Name rn pr) (.raw (.type "range")) loc sto
 plain : Plain es
 args : ∃ vs, EA C Γ loc sto prc es vs loc sto ∧ RangeArgs vs a b c
 small : Small a b c
 size : rsz a b c = n
 hit : EE C Γ loc sto (.Name itn pit) (.lst ki) loc sto
 ki : sto[ki]? = some (.iter kl 0)
 kl : sto[kl]? = some (.list (ws.map V.str))
 nl : n ≤ ws.length
 n1 : n ≤ 1000
theorem VRs_strs {as : List Addr} {h h' : Heap} : ∀ {ws : List (List Nat)} {xs : List Value}, VRs as h (ws.map V.str) xs → VRs [] h' (ws.map V.str) xs
 | [], _, e => by unfold VRs at e ⊢; exact e
 | w :: ws, _, e => by
  unfold VRs at e ⊢
  refine un_2_3 (e) fun y ys e449x2 r r2 => ?_; (try clear e); subst e449x2
  exact ⟨y, ys, rfl, by unfold VR at r ⊢; exact r, VRs_strs r2⟩
theorem zip_core {xi xe zn rn itn : Str} {p1 p2 p3 p4 pt pe pz pr prc pit pzc pos p0 : Pos} {kt ke : Nat} {es : List Expr} {scope : Scope} {ki kl : Nat} {a b c : Int} {n : Nat} {ws : List (List Nat)} {use : Option (Value → Sem Unit)} {K E : Value → Shared → Prop} {s : Shared} {as : List Addr}
  (F : RepF C Γ as loc sto s) (Y : ZC C Γ loc sto xi xe zn rn itn pz pr prc pit es scope ki kl a b c n ws)
  (hK : ∀ Cl k l' t' as' s', Post C Γ as s as' l' t' s' → VR as' s'.heap (.lst k) (.ref (as'[k]?.getD 0)) → s.heap.get? Cl = none → Cl ∉ as' → (∃ m, s'.heap.Ns Cl m) → (k = sto.length ∧ l' = loc ∧ t' = sto.set ki (.iter kl n) ++ [.list (pairsZ a c ws n)]) → compPost (model C.prog C.w) Γ.A E use K (.ref (as'[k]?.getD 0)) Cl (.ok .next) s') :
  wpAny (model C.prog C.w) Γ.A (comprehension (.ListComp (.Tuple [.Name xe p3, .Name xi p4] ke pe) [⟨.Tuple [.Name xi p1, .Name xe p2] kt pt, .Call (.Name zn pz) [.Call (.Name rn pr) es [] prc, .Name itn pit] [] pzc, [], 0⟩] scope pos) scope Γ.env p0 (newList []) false (eval (.Call (.Name zn pz) [.Call (.Name rn pr) es [] prc, .Name itn pit] [] pzc) Γ.env) use) K E s := by
 refine un_1_2 (Y.args) fun vs hargs hra => ?_
 refine wpAny_comprehension_free rfl (fun _ => rfl) Y.clos Y.kind Y.nam ?_
 refine wpAny_Call_Name_kw (mono_is Y.hz F fun f s1 as1 P1 r1 => ?_)
 obtain rfl := jSA r1
 refine callWith_machine (by rfl) (by rfl) (args_of (fun _ _ => rfl) ?_)
 show wpAny _ _ (spliced ((false, eval (.Call (.Name rn pr) es [] prc) Γ.env) :: (false, eval (.Name itn pit) Γ.env) :: backTo pzc (starEach [] Γ.env))) _ _ _
 refine spliced_cons (wpAny_Call_Name_kw (mono_is Y.hr P1.rep fun f s2 as2 P2 r2 => ?_))
 obtain rfl := jSA r2
 refine callWith_machine (Y.plain _ _) (by rfl) (args_of Y.plain (mono_is hargs P2.rep fun xs s3 as3 P3 r3 => ?_))
 refine made_range P3.rep r3 hra fun t u v tk htk => ?_
 have P4 := Post.ext (t := tk) P3.rep (Ext.push s3.heap { cls := .type "range", data := .fields #[.int a t, .int b u, .int c v] }) htk
 have hr4 := Heap.get?_push_size s3.heap (o := { cls := .type "range", data := .fields #[.int a t, .int b u, .int c v] }) rfl
 have hn4 : s3.heap.objs.size ∉ Γ.own ++ as3 := fun q => by
  rcases List.mem_append.mp q with q | q
  ·obtain ⟨o, e, _⟩ := P3.rep.plain _ q; rw [get_size_none] at e; cases e
  ·obtain ⟨o, e, _⟩ := P3.rep.g.mem_lt q; rw [get_size_none] at e; cases e
 refine spliced_cons (mono_is Y.hit P4.rep fun x s5 as5 P5 r5 => ?_)
 refine un_1_2 (jUA r5) fun ita e451x1 ei => ?_; subst e451x1
 have F5 := P5.rep
 refine un_1_2 (F5.g.objs _ _ _ ei Y.ki) fun la el hita => ?_
 refine un_2_2 (F5.g.objs _ _ _ el Y.kl) fun its n0 hla hws => ?_
 have hr5 : IsRange s5.heap s3.heap.objs.size a b c t u v := P5.keeps.exact hr4 hn4 (fun es ep q => by cases q)
 have PP := P1.trans (P2.trans (P3.trans (P4.trans P5)))
 refine spliced_nil (call_zip_rl Y.small.small hr5 hita fun h6 z TI TO i1 nz nTI nTO n1 e1 e2 e3 e4 e5 e6 hz hTI hTO hi1 x6 => wpAny_pyIter_zip hz ?_)
 refine un_1_3 (id hita) fun oi eoi coi doi => ?_
 have hne : ∀ {q : Addr}, s5.heap.get? q = none → q ≠ ita ∧ q ≠ la := fun hq => ⟨(fun w => by rw [w, eoi] at hq; cases hq), fun w => by rw [w, hla] at hq; cases hq⟩
 have hil : la ≠ ita := fun w => by rw [w, eoi] at hla; cases hla; cases doi
 have za : ZA z TI TO i1 ita la := ⟨e1, e2, e3, (hne nz).1.symm, e4, e5, (hne nTI).1, e6, (hne nTO).1, (hne n1).1, (hne nz).2.symm, (hne nTO).2.symm, (hne n1).2.symm, hil⟩
 refine wpAny_newObj_type (wpAny_newFunctionEnv Y.nocell (by intro y hy; simp at hy) (fun h₁ hns₁ hsb₁ => ?_) Y.kind) (hd := by size_fits)
 dsimp only at hns₁ hsb₁ ⊢
 have hD := Heap.get?_push_size h6 (o := { cls := .type "list", dict := none, data := .seq ([] : List Value).toArray }) rfl
 have xH : Ext h6 (h6.push { cls := .type "list", dict := none, data := .seq ([] : List Value).toArray }) := Ext.push _ _
 revert hns₁ hsb₁ hD xH
 generalize hD0 : h6.objs.size = D
 generalize h6.push { cls := .type "list", dict := none, data := .seq ([] : List Value).toArray } = H2
 intro hns₁ hsb₁ hD xH
 have hk1 : Ext H2 h₁ := fun b o e => hsb₁.extBut b o (Nat.ne_of_lt (Heap.lt_size e)) (Heap.get?_push_of_some _ e)
 have hCl0 : H2.get? H2.objs.size = none := get_size_none _
 have nD : h6.get? D = none := by rw [← hD0]; exact get_size_none _
 revert hns₁ hCl0
 generalize H2.objs.size = Cl
 intro hns₁ hCl0
 have x1 : Ext h6 h₁ := xH.trans hk1
 have n5 : ∀ {q : Addr}, h6.get? q = none → s5.heap.get? q = none := fun {q} h => Ext.dom x6 q h
 have nC6 : h6.get? Cl = none := Ext.dom xH _ hCl0
 have ndif : ∀ {q : Addr} {o : Obj}, h6.get? q = some o → q ≠ D ∧ q ≠ Cl := fun e => ⟨(fun w => by rw [w, nD] at e; cases e), fun w => by rw [w, nC6] at e; cases e⟩
 have DC : D ≠ Cl := fun w => by rw [← w, hD] at hCl0; cases hCl0
 have zf : ZF s5.heap z TI TO i1 ita la Cl D := by
  refine ⟨za, fun b hb => ?_, ?_, ?_⟩
  ·simp at hb
   rcases hb with rfl | rfl | rfl | rfl | rfl | rfl
   ·exact nz
   ·exact nTI
   ·exact nTO
   ·exact n1
   ·exact n5 nC6
   ·exact n5 nD
  ·simp [(ndif hz).2.symm, (ndif hTI).2.symm, (ndif hTO).2.symm, (ndif hi1).2.symm]
  ·simp [(ndif hz).1.symm, (ndif hTI).1.symm, (ndif hTO).1.symm, (ndif hi1).1.symm, DC]
 have hsz : Builtin.Range.rangeSize a b c = (n : Int) := by
  have h0 := Y.small.size.1
  have := Y.size
  unfold rsz at this; lia
 have z0 : ZI s5.heap z TI TO i1 ita la Cl D a c n ws 0 h₁ := by
  refine ⟨fun q o _ e => x1 _ _ (x6 _ _ e), x1 _ _ hz, x1 _ _ hTI, ⟨_, _, x1 _ _ hTO⟩, ?_, ⟨oi, x1 _ _ (x6 _ _ eoi), coi, doi⟩, ⟨_, hns₁⟩, ⟨_, _, hk1 _ _ hD, VRs.nil⟩⟩
  have := x1 _ _ hi1
  rw [hsz] at this
  simpa using this
 have hkind : (compEnvC scope [] Cl Γ.env).scope.kind = .function := Y.kind
 have kki : (compEnvC scope [] Cl Γ.env).kindOf xi = some .local := lookup_relabel_local Y.li
 have kkx : (compEnvC scope [] Cl Γ.env).kindOf xe = some .local := lookup_relabel_local Y.lx
 have loop : codeAny (model C.prog C.w) Γ.A (.compLoop (.ListComp (.Tuple [.Name xe p3, .Name xi p4] ke pe) [⟨.Tuple [.Name xi p1, .Name xe p2] kt pt, .Call (.Name zn pz) [.Call (.Name rn pr) es [] prc, .Name itn pit] [] pzc, [], 0⟩] scope pos) 0 (.ref z) (.ref D) (compEnvC scope [] Cl Γ.env))
   (compPost (model C.prog C.w) Γ.A E use K (.ref D) Cl) { s5 with heap := h₁, toks := s5.toks + 0 } := by
  refine codeAny_comp (fun m s6 => ∃ i h tk, i ≤ n ∧ m = n - i ∧ s6 = { s5 with heap := h, toks := tk } ∧ 0 < tk ∧ ZI s5.heap z TI TO i1 ita la Cl D a c n ws i h) ?_ n ⟨0, h₁, s5.toks, Nat.zero_le _, rfl, rfl, F5.g.toks, z0⟩
  intro m s6 r276y2
  refine un_3_5 (r276y2) fun i h tk hi e455x4 e455x5 htk Z => ?_; (try clear r276y2); subst e455x4; subst e455x5
  by_cases hlt : i < n
  ·refine wpAny_mono (zip_turn (p1 := p1) (p2 := p2) (p3 := p3) (p4 := p4) (pt := pt) (pe := pe) (kt := kt) (ke := ke) (s := { s5 with heap := h, toks := tk }) (Q := fun s6 => ∃ m, m < n - i ∧ ∃ i h tk, i ≤ n ∧ m = n - i ∧ s6 = { s5 with heap := h, toks := tk } ∧ 0 < tk ∧ ZI s5.heap z TI TO i1 ita la Cl D a c n ws i h) F5.ok.hand hkind rfl kki kkx Y.ne Y.d1 Y.d2 zf hla ⟨oi, eoi⟩ (VRs_strs hws) Y.nl Y.n1 hlt Z htk fun h' tk' ht' Z' => ⟨n - (i + 1), by lia, i + 1, h', tk', hlt, rfl, rfl, ht', Z'⟩) ?_ fun _ _ h => h
   intro r s7 r277y2
   refine un_1_2 (r277y2) fun v e456x1 h7 => ?_; (try clear r277y2); subst e456x1
   exact h7
  ·have hin : i = n := by lia
   subst hin
   refine z_end (s := { s5 with heap := h, toks := tk }) F5.ok.hand za Z.hz Z.ti Z.rg (by lia) fun h' up => ?_
   obtain ⟨old, Zz, _, _, Zrg, ⟨oit, eit, qit⟩, ⟨m, on, es', ep', en, qn⟩, ys, dk, ed, vd⟩ := Z
   have ndif5 : ∀ {q : Addr} {o : Obj}, s5.heap.get? q = some o → q ∉ [z, i1, D] := fun e q => by
    simp at q
    rcases q with rfl | rfl | rfl
    ·rw [nz] at e; cases e
    ·rw [n1] at e; cases e
    ·rw [n5 nD] at e; cases e
   have upF : ∀ q o, q ≠ ita → s5.heap.get? q = some o → h'.get? q = some o := fun q o hq e => by
    have := ndif5 e
    simp at this
    exact up q o this.1 this.2.1 (old q o (by simpa using hq) e)
   have eD : h'.get? D = some { cls := .type "list", data := .seq ys dk } := up _ _ ((ndif hz).1.symm) ((ndif hi1).1.symm) ed
   have eI : h'.get? ita = some oit := up _ _ (hne nz).1.symm (hne n1).1.symm eit
   have PA : Post C Γ as5 s5 as5 loc (sto.set ki (.iter kl i)) { s5 with heap := hideAll h' [D], toks := tk } := Post.updK F5 ei (fun q o hq e => hideAll_get _ (upF q o hq e) (by have := ndif5 e; simp at this ⊢; exact this.2.2)) htk fun _ => ⟨la, el, oit, hideAll_get _ eI (by simp; exact (hne (n5 nD)).1.symm), qit⟩
   have PB := Post.alloc (h' := h') (t := tk) (a := D) (so := .list (pairsZ a c ws i)) PA.rep (fun q o e => of_hideAll _ e) htk (hideAll_none _ (by simp)) ⟨ys, dk, eD, VRs.mono (List.nil_prefix) (fun q o its k e hc hd => by
    have e0 := of_hideAll _ e
    refine ⟨o, up _ _ (fun w => ?_) (fun w => ?_) e0, hc, hd⟩
    ·rw [w, Zz] at e0; cases e0; cases hd
    ·rw [w, Zrg] at e0; cases e0; cases hd) _ _ vd⟩
   have hlen : as5.length = sto.length := F5.g.len
   have hk : (as5 ++ [D])[sto.length]? = some D := by rw [← hlen, List.getElem?_append_right (Nat.le_refl _)]; simp
   have hfin := hK Cl sto.length loc _ (as5 ++ [D]) { s5 with heap := h', toks := tk } (PP.trans (PA.trans PB)) (by rw [hk]; exact vr_lst hk) (PP.dom _ (n5 nC6)) (fun q => ?_) ⟨m, on, es', ep', up _ _ ((ndif hz).2.symm) ((ndif hi1).2.symm) en, qn⟩ ⟨rfl, rfl, rfl⟩
   ·rw [hk] at hfin; exact hfin
   ·rcases List.mem_append.mp q with q | q
    ·obtain ⟨o, e, _⟩ := F5.g.mem_lt q; rw [n5 nC6] at e; cases e
    ·exact DC (List.mem_singleton.mp q).symm
 exact codeAny_compStart_list loop (wpAny_pyIter_zip (x1 _ _ hz) loop)
end
end Mine
namespace Mine
open PySem PySem.W PyProof.Rows PySem.Calls
noncomputable def csOf (names : List (Str × NameKind)) (L : Addr) : List (Str × Addr) := cellsFrom (L + 1) names []
noncomputable def slC (names : List (Str × NameKind)) (L : Addr) (xs : List Str) : List (Str × Option Addr) := xs.map fun x => (x, (csOf names L).lookup x)
noncomputable def calleeC (Γ : Fm) (fd : FuncData) (L a : Addr) (xs : List Str) : Fm :=
 { A := Γ.A.deeper (callEnvC fd L a), env := callEnvC fd L a, sl := slC fd.scope.names L xs, frs := callEnvC fd L a :: Γ.frs, own := L :: (csOf fd.scope.names L).map (·.2), room := Γ.room - 1 }
structure FnAtC (C : Cst) (a : Addr) (fd : FuncData) (body : List Stmt) (ps rest : List Str) : Prop where
 at_ : ∃ o, C.h0.get? a = some o ∧ o.data = .func fd
 rec_ : C.h0.CodeRec fd.code fd.qualname
 body_ : fd.body = .stmts body
 clo : fd.closure = []
 kind : fd.scope.kind = .function
 co : fd.scope.isCoroutine = false
 gen : fd.scope.isGenerator = false
 glob : fd.globals = mainGlobals
 bts : fd.builtins = builtinsNs
 nodup : (ps ++ rest).Nodup
 cnd : ((cellsFrom 0 fd.scope.names []).map (·.1)).Nodup
 loc : ∀ L, ∀ x ∈ ps ++ rest, (fd.scope.names.lookup x = some .local ∧ (csOf fd.scope.names L).lookup x = none) ∨ (fd.scope.names.lookup x = some .cell ∧ ((csOf fd.scope.names L).lookup x).isSome = true)
theorem bind_none {k : Str → Option NameKind} {x : Str} : ∀ {binds : List (Str × Value)} {m cm : Str → Option Value}, x ∉ binds.map (·.1) → bindL k binds m x = m x ∧ bindC k binds cm x = cm x
 | [], _, _, _ => ⟨rfl, rfl⟩
 | (n, v) :: r, m, cm, h => by
  have hn : x ≠ n := fun e => h (by rw [e]; exact .head _)
  have hr : x ∉ r.map (·.1) := fun e => h (.tail _ e)
  unfold bindL bindC
  constructor
  ·rw [(bind_none (cm := cm) hr).1]; split <;> simp [hn]
  ·rw [(bind_none (m := m) hr).2]; split <;> simp [hn]
theorem bind_at {k : Str → Option NameKind} {x : Str} {y : Value} : ∀ {binds : List (Str × Value)} {m cm : Str → Option Value}, (binds.map (·.1)).Nodup → (x, y) ∈ binds → (k x = some .local → bindL k binds m x = some y) ∧ (k x ≠ some .local → bindC k binds cm x = some y)
 | [], _, _, _, h => by cases h
 | (n, v) :: r, m, cm, hn, h => by
  have hn := List.nodup_cons.mp hn
  unfold bindL bindC
  rcases List.mem_cons.mp h with e | e
  ·cases e
   refine ⟨fun q => ?_, fun q => ?_⟩
   ·rw [(bind_none (cm := cm) hn.1).1, if_pos q]; simp
   ·rw [(bind_none (m := m) hn.1).2, if_neg q]; simp
  ·exact bind_at hn.2 e
theorem slots_cells {as : List Addr} {h : Heap} {m cm : Str → Option Value} {cs : List (Str × Addr)} (hc : ∀ n c, cs.lookup n = some c → h.IsCell c (cm n)) : ∀ {xs : List Str} {loc : List (Option V)}, xs.length = loc.length →
  (∀ p ∈ xs.zip loc, ∀ v, p.2 = some v → ∃ y, VR as h v y ∧ (cs.lookup p.1 = none → m p.1 = some y) ∧ ((cs.lookup p.1).isSome = true → cm p.1 = some y)) → SlotsR as h m (xs.map fun x => (x, cs.lookup x)) loc
 | [], [], _, _ => rfl
 | x :: xs, o :: loc, hl, hv => by
  refine ⟨o, loc, rfl, ?_, slots_cells hc (Nat.succ.inj hl) fun p hp => hv p (.tail _ hp)⟩
  have h0 := hv (x, o) (.head _)
  show SlotR as h m x (cs.lookup x) o
  cases e : cs.lookup x with
  | none => exact fun v q => let ⟨y, r, k, _⟩ := h0 v q; ⟨y, k e, r⟩
  | some c => exact ⟨_, hc x c e, fun v q => let ⟨y, r, _, k⟩ := h0 v q; ⟨y, k (by rw [e]; rfl), r⟩⟩
theorem cell_lt {names : List (Str × NameKind)} {h : Heap} {L : Addr} (hL : h.objs.size = L) : ∀ c ∈ (csOf names L).map (·.2), L < c := fun c hc => by
 refine un_1_2 (List.mem_map.mp hc) fun p hp e458x2 => ?_; subst e458x2
 have ok := cellsFrom_ok names (h.push { cls := .type "frame", data := .dict #[] }) (L + 1) [] ⟨fun _ _ hm => (nomatch hm), List.Pairwise.nil⟩ (by rw [Heap.size_push, hL]; exact Nat.le_refl _)
 rw [Heap.size_push, hL] at ok
 exact (ok.empty p.1 p.2 hp).2
theorem slC_nodup {names : List (Str × NameKind)} {L : Addr} (ap : (csOf names L).Pairwise fun x y => x.2 ≠ y.2) {xs : List Str} (h : xs.Nodup) : ((slC names L xs).filterMap (·.2)).Nodup := by
 unfold slC
 rw [List.filterMap_map]
 exact List.pairwise_filterMap.mpr (h.imp fun hne b hb b' hb' e => hne (name_of_addr ap (mem_of_lookup hb) (by rw [e]; exact mem_of_lookup hb')))
noncomputable def EnvOk (C : Cst) (A : Around) (fd : FuncData) (a : Addr) (binds : List (Str × Value)) (s : Shared) : Prop := ∀ (Q : Env → Shared → Prop) (E : Value → Shared → Prop),
 (∀ env, env = callEnvC fd s.heap.objs.size a → ∀ s', InCallC s env.locals (bindL env.kindOf binds fun _ => none) env.cells (bindC env.kindOf binds fun _ => none) s' → 0 < s'.toks → Q env s') →
  wpAny (model C.prog C.w) A.in1 (newFunctionEnv fd.scope fd.globals [] binds (fd.qualname ++ Str.ofString ".<locals>.") (some a) fd.code none fd.builtins) Q E s
section
variable {C : Cst} {Γ : Fm} {loc : List (Option V)} {sto : List SO} {Q : V → List (Option V) → List SO → Prop} {X : XV → List (Option V) → List SO → Prop}
theorem FnAtC.kinds {a : Addr} {fd : FuncData} {body : List Stmt} {ps rest : List Str} (f : FnAtC C a fd body ps rest) (ys : List Value) (L : Addr) : ∀ x ∈ ps.zip ys, fd.scope.names.lookup x.1 = some .local ∨ (fd.scope.names.lookup x.1 = some .cell ∧ ((csOf fd.scope.names L).lookup x.1).isSome = true) :=
 fun x hx => (f.loc L x.1 (List.mem_append_left _ (List.of_mem_zip hx).1)).imp (·.1) id
theorem env_one {A : Around} {fd : FuncData} {a : Addr} {n : Str} {v : Value} {s : Shared} (hk : fd.scope.kind = .function) (hl : fd.scope.names.lookup n = some .local) : EnvOk C A fd a [(n, v)] s := fun Q E hQ => by
 simp only [newFunctionEnv, Option.isSome_none, Bool.false_eq_true, if_false]
 refine wpAny_bind (wpAny_alloc (wpAny_bind (wpAny_layCells _ (fun name kind cells => by cases hkc : kind == NameKind.cell <;> simp [hkc]) _ _ _ _ ?_)))
 have hsz := Heap.size_push s.heap { cls := .type "frame", data := .dict #[] }
 have ok := cellsFrom_ok fd.scope.names (s.heap.push { cls := .type "frame", data := .dict #[] }) (s.heap.objs.size + 1) [] ⟨fun _ _ hm => (nomatch hm), List.Pairwise.nil⟩ (by rw [hsz]; exact Nat.le_refl _)
 rw [hsz] at ok
 rw [show ({ s with heap := s.heap.push { cls := .type "frame", data := .dict #[] } } : Shared).heap.objs.size = s.heap.objs.size + 1 from hsz]
 rw [List.forIn_cons]
 refine wpAny_bind (wpAny_bind (wpAny_bind ?_))
 refine wpAny_storeName_local (env := callEnvC fd s.heap.objs.size a) hl ((Heap.Ns.new s.heap (.type "frame")).keeps (pushCells_keeps _ _)) (fun h' hn hs' => ?_) (by show (fd.scope.kind == _ || fd.scope.kind == _ && _) = false; rw [hk]; rfl)
 refine wpAny_pure ?_
 show wpAny _ _ (forIn [] PUnit.unit _) _ _ _
 rw [List.forIn_nil]
 have hl2 : (callEnvC fd s.heap.objs.size a).kindOf n = some .local := hl
 have hb1 : (bindL (callEnvC fd s.heap.objs.size a).kindOf [(n, v)] fun _ => none) = fun x => if x = n then some v else none := by unfold bindL; rw [if_pos hl2]; rfl
 have hb2 : (bindC (callEnvC fd s.heap.objs.size a).kindOf [(n, v)] fun _ => none) = fun _ => none := by unfold bindC; rw [if_pos hl2]; rfl
 refine wpAny_pure (wpAny_pure (hQ _ rfl _ ⟨⟨⟨_, _, rfl⟩, by rw [hb1]; exact hn, fun b o e => ?_, Nat.le_refl _⟩, fun x c hc => ?_, ok.apart, fun x c hm => (ok.empty x c hm).2⟩ (Nat.succ_pos _)))
 ·exact hs'.extBut b o (Nat.ne_of_lt (Heap.lt_size e)) (pushCells_keeps _ _ b o (Heap.get?_push_of_some _ e))
 ·rw [hb2]
  exact (ok.empty x c (mem_of_lookup hc)).1.sameBut hs' (Nat.ne_of_gt (ok.empty x c (mem_of_lookup hc)).2)
theorem callC_core {as : List Addr} {s : Shared} {a : Addr} {fd : FuncData} {body : List Stmt} {ps rest : List Str} {argv : List V} {xs ys : List Value} {K E : Value → Shared → Prop} (f : FnAtC C a fd body ps rest) (hroom : 1 ≤ Γ.room) (hlen : ps.length = argv.length)
  (Fg : RepG C as sto { s with toks := 1 }) (he : EnvOk C Γ.A fd a (ps.zip ys) s) (hA : Γ.A.handled = none) (hfr : Γ.A.frames = some Γ.frs) (hFr : FrsOk C.h0 s.heap Γ.frs) (hnd : Γ.A.depth + Γ.room < recursionLimit) (hu : Γ.A.units + 8 * Γ.room < cLine)
  (ry : VRs as s.heap argv ys) (hb : BindsTo s fd ⟨xs, []⟩ (ps.zip ys))
  (h : ∀ L h1 tk, RepF C (calleeC Γ fd L a (ps ++ rest)) as (argv.map some ++ rest.map fun _ => none) sto { s with heap := h1, toks := tk } → (∀ b o, s.heap.get? b = some o → h1.get? b = some o) → (∀ b ∈ (calleeC Γ fd L a (ps ++ rest)).own, s.heap.get? b = none) →
   wpAny (model C.prog C.w) (Γ.A.deeper (callEnvC fd L a)) (execs body (callEnvC fd L a)) (fun fl s' => ∃ v, fl = .ret v ∧ K v s') (fun _ _ => False) { s with heap := h1, toks := tk }) :
  wpAny (model C.prog C.w) Γ.A (callF (.ref a) xs) K E s := by
 refine un_1_2 (f.at_) fun o ho hd => ?_
 have hlim : s.heap.NoLimit := C.nolimit.keeps Fg.keep
 have hly : ps.length = ys.length := hlen.trans ry.length.symm
 have hpn : ((ps.zip ys).map (·.1)) = ps := List.map_fst_zip (Nat.le_of_eq hly)
 refine wpAny_call (codeAny_call_function (by lia) (Fg.keep _ _ ho) hd f.co f.gen f.body_ ?_ (hb _ _ _ _ ?_))
 ·refine un_4_4 (f.rec_) fun c oc vs t e1 e2 e3 e4 => ?_
  exact ⟨c, oc, vs, t, e1, Fg.keep _ _ e2, e3, e4⟩
 rw [f.clo]
 refine he _ _ fun env he s' x htk => ?_
 subst he
 refine ⟨hlim.keeps x.toInCall.keep, codeAny_func ?_⟩
 refine un_2_2 (x.done) fun h1 tk e461x2 hk => ?_; subst e461x2
 have hL0 : s.heap.get? s.heap.objs.size = none := get_size_none _
 have lts := cell_lt (names := fd.scope.names) (h := s.heap) rfl
 have hownN : ∀ b ∈ (calleeC Γ fd s.heap.objs.size a (ps ++ rest)).own, s.heap.get? b = none := fun b hb => by
  rcases List.mem_cons.mp hb with rfl | hb
  ·exact hL0
  ·exact Heap.get?_none_of_le (Nat.le_of_lt (lts b hb))
 have kl : ∀ y ∈ ps ++ rest, ∀ c, (csOf fd.scope.names s.heap.objs.size).lookup y = some c → fd.scope.names.lookup y = some .cell := fun y hy c e => by
  rcases f.loc s.heap.objs.size y hy with q | q
  ·rw [q.2] at e; cases e
  ·exact q.1
 have hsl : ∀ y c, (y, some c) ∈ slC fd.scope.names s.heap.objs.size (ps ++ rest) → y ∈ ps ++ rest ∧ (csOf fd.scope.names s.heap.objs.size).lookup y = some c := fun y c hm => by
  refine un_1_2 (List.mem_map.mp hm) fun z hz e => ?_
  injection e with e1 e2
  exact ⟨e1 ▸ hz, e1 ▸ e2⟩
 have F1 : RepF C (calleeC Γ fd s.heap.objs.size a (ps ++ rest)) as (argv.map some ++ rest.map fun _ => none) sto { s with heap := h1, toks := tk } := by
  refine ⟨Fg.ext hk htk, ⟨f.kind, f.glob, f.bts, ?_, ?_, ?_, ?_, hA, Around.frames_deeper hfr, ?_, ?_, .head _, fun b hb => Ext.dom Fg.keep _ (hownN b hb)⟩, ⟨_, x.toInCall.ns, ?_⟩, ?_, ?_, ?_⟩
  ·intro y hy
   refine un_1_2 (List.mem_map.mp hy) fun z hz e => ?_
   injection e with e1 e2
   subst e1
   rcases f.loc s.heap.objs.size z hz with q | q
   ·exact q.1
   ·rw [e2] at q; cases q.2
  ·intro y c hy
   obtain ⟨hz, e⟩ := hsl y c hy
   refine ⟨kl y hz c e, e, fun w => ?_⟩
   have := lts c (List.mem_map_of_mem (f := (·.2)) (mem_of_lookup e))
   rw [w] at this; exact Nat.lt_irrefl _ this
  ·show ((slC fd.scope.names s.heap.objs.size (ps ++ rest)).map (·.1)).Nodup
   have : (slC fd.scope.names s.heap.objs.size (ps ++ rest)).map (·.1) = ps ++ rest := by unfold slC; rw [List.map_map]; exact List.map_id _
   rw [this]; exact f.nodup
  ·show ((slC fd.scope.names s.heap.objs.size (ps ++ rest)).filterMap (·.2)).Nodup
   exact slC_nodup x.apart f.nodup
  ·show Γ.A.depth + 1 + (Γ.room - 1) < recursionLimit
   lia
  ·show Γ.A.units + 3 + 8 * (Γ.room - 1) < cLine
   lia
  ·refine slots_cells (cm := bindC (callEnvC fd s.heap.objs.size a).kindOf (ps.zip ys) fun _ => none) (fun n c e => x.cell n c e) (by simp [hlen]) fun p hp v hv => ?_
   have hz : (ps ++ rest).zip (argv.map some ++ rest.map fun _ => none) = (ps.zip (argv.map some)) ++ rest.zip (rest.map fun _ => none) := List.zip_append (by simp [hlen])
   rw [hz] at hp
   rcases List.mem_append.mp hp with hp | hp
   ·obtain ⟨j, hj, e⟩ := List.getElem_of_mem hp
    simp only [List.length_zip, List.length_map] at hj
    have e2 := e
    rw [List.getElem_zip] at e2
    have hja : j < argv.length := by lia
    have hjp : j < ps.length := by lia
    have ev : argv[j]? = some v := by
     rw [← e2] at hv
     simp only [List.getElem_map, Option.some.injEq] at hv
     rw [List.getElem?_eq_getElem hja, hv]
    refine un_1_2 (ry.get ev) fun y ey ry' => ?_
    have hm : (p.1, y) ∈ ps.zip ys := by
     have hjy : j < ys.length := (List.getElem?_eq_some_iff.mp ey).1
     have : (ps.zip ys)[j]'(by rw [List.length_zip]; exact Nat.lt_min.mpr ⟨hjp, hjy⟩) = (p.1, y) := by
      rw [List.getElem_zip, ← e2]
      rw [List.getElem?_eq_getElem hjy] at ey
      rw [Option.some.inj ey]
     exact this ▸ List.getElem_mem _
    have hmem : p.1 ∈ ps ++ rest := List.mem_append_left _ (List.of_mem_zip hm).1
    have hb := bind_at (k := (callEnvC fd s.heap.objs.size a).kindOf) (m := fun _ => none) (cm := fun _ => none) (by rw [hpn]; exact (List.nodup_append.mp f.nodup).1) hm
    refine ⟨y, VR.mono List.prefix_rfl (.of_ext hk) _ _ ry', fun q => hb.1 ?_, fun q => hb.2 ?_⟩
    ·rcases f.loc s.heap.objs.size p.1 hmem with w | w
     ·exact w.1
     ·have w2 := w.2; unfold csOf at w2; rw [show (cellsFrom (s.heap.objs.size + 1) fd.scope.names []).lookup p.1 = none from q] at w2; cases w2
    ·rcases f.loc s.heap.objs.size p.1 hmem with w | w
     ·have w2 := w.2; unfold csOf at w2; have q2 : ((cellsFrom (s.heap.objs.size + 1) fd.scope.names []).lookup p.1).isSome = true := q
      rw [show (cellsFrom (s.heap.objs.size + 1) fd.scope.names []).lookup p.1 = none from w2] at q2; cases q2
     ·show fd.scope.names.lookup p.1 ≠ some .local
      rw [w.1]; decide
   ·obtain ⟨j, hj, e⟩ := List.getElem_of_mem hp
    rw [List.getElem_zip] at e
    rw [← e] at hv
    simp at hv
  ·intro b hb
   refine un_1_2 (Fg.mem_lt hb) fun ob eb _ => ?_
   refine ⟨fun w => ?_, fun y c hy w => ?_⟩
   ·rw [hownN b w] at eb; cases eb
   ·obtain ⟨hz, e⟩ := hsl y c hy
    rw [w, hownN c (.tail _ (List.mem_map_of_mem (f := (·.2)) (mem_of_lookup e)))] at eb; cases eb
  ·intro b hb
   rcases List.mem_cons.mp hb with rfl | hb
   ·refine un_3_3 (x.toInCall.ns) fun o es ep e1 e2 _ => ?_
    exact ⟨o, e1, fun its n q => by rw [e2] at q; cases q⟩
   ·refine un_1_2 (List.mem_map.mp hb) fun p hp e469x2 => ?_; subst e469x2
    refine un_1_2 (x.cell p.1 p.2 (lookup_of_mem_nodup (cellsFrom_names fd.scope.names 0 (s.heap.objs.size + 1) [] [] rfl ▸ f.cnd) hp)) fun o e1 e2 => ?_
    exact ⟨o, e1, fun its n q => by rw [e2] at q; cases q⟩
  ·intro env he
   rcases List.mem_cons.mp he with rfl | he
   ·refine un_3_3 (x.toInCall.ns) fun o es ep e1 e2 _ => ?_
    exact ⟨by show fd.scope.kind ≠ .module; rw [f.kind]; decide, _, o, es, ep, rfl, Ext.dom Fg.keep _ hL0, e1, e2⟩
   ·exact hFr.ext hk env he
 refine wpAny_mono (h s.heap.objs.size h1 tk F1 hk hownN) ?_ ?_
 ·intro fl s' r290y2
  refine un_1_2 (r290y2) fun v e472x1 q => ?_; (try clear r290y2); subst e472x1
  exact q
 ·rintro e s' q
  exact q.elim
theorem wl_callC {a : Addr} {fd : FuncData} {body : List Stmt} {ps rest : List Str} {args argv : List V} (f : FnAtC C a fd body ps rest) (hroom : 1 ≤ Γ.room) (hlen : ps.length = argv.length)
  (hbind : ∀ (s : Shared) (as : List Addr) (xs : List Value), C.h0.StaysIn s.heap → VRs as s.heap args xs → ∃ ys, VRs as s.heap argv ys ∧ BindsTo s fd ⟨xs, []⟩ (ps.zip ys))
  (h : ∀ L, WS C (calleeC Γ fd L a (ps ++ rest)) (argv.map some ++ rest.map fun _ => none) sto body (fun out _ sto2 => match out with | .ret v => Q v loc sto2 | _ => False) No) :
  WL C Γ loc sto (callF (.ref a)) args VR Q X := fun s as xs F r => by
 refine un_1_2 (hbind s as xs F.g.keep r) fun ys ry hb => ?_
 refine callC_core f hroom hlen (F.g.ext (h' := s.heap) (t := 1) (fun _ _ e => e) Nat.one_pos) (fun Q E hQ => ?_) F.ok.hand F.ok.frames F.frs F.ok.depth F.ok.units ry hb fun L h1 tk F1 hk hownN => ?_
 ·exact wpAny_with_toks (n := s.toks) (Nat.le_refl _) (wpAny_newFunctionEnv_cells f.kind (f.kinds ys _) fun env he s' x htk => hQ env he s' x (Nat.lt_of_lt_of_le F.g.toks htk))
 refine wpAny_mono (h L _ as F1) ?_ ?_
 ·rintro fl s' ⟨as', loc', sto', out, P, r', q⟩
  cases out with
  | ret v => obtain ⟨y, rfl, ry⟩ := r'; exact ⟨y, rfl, as', loc, sto', v, Post.back (s1 := { s with heap := h1, toks := tk }) (Γ' := calleeC Γ fd L a (ps ++ rest)) F hk hownN P, ry, q⟩
  | _ => exact q.elim
 ·rintro e s' ⟨as', loc', sto', b, P, r', q⟩
  exact q.elim
end
end Mine
namespace Mine
open PySem PySem.W PyProof.Rows PySem.Calls
structure DefC (C : Cst) (a : Addr) (i : Nat) (ps rest : List Str) (nd : Nat) : Prop where
 fn : ∃ fd, FnAtC C a fd (bd i) ps rest ∧ fd.scope = sc i ∧ ∀ (s : Shared) (xs : List Value), C.h0.StaysIn s.heap → xs.length + nd = ps.length → BindsTo s fd ⟨xs, []⟩ (ps.zip (xs ++ List.replicate nd Value.none))
theorem vrs_nones {as : List Addr} {h : Heap} : ∀ n, VRs as h (List.replicate n V.none) (List.replicate n Value.none)
 | 0 => VRs.nil
 | n + 1 => VRs.cons vr_none (vrs_nones n)
section
variable {C : Cst} {Γ : Fm} {loc loc1 loc2 : List (Option V)} {sto sto1 sto2 : List SO} {X : XV → List (Option V) → List SO → Prop} {QS : Out → List (Option V) → List SO → Prop} {Q : V → List (Option V) → List SO → Prop}
theorem wl_defC {a : Addr} {i nd : Nat} {ps rest : List Str} {args : List V} (sl : Addr → List (Str × Option Addr)) (l0 : List (Option V)) (D : DefC C a i ps rest nd) (hroom : 1 ≤ Γ.room) (hl : ps.length = args.length + nd)
  (h1 : ∀ L, slC (sc i).names L (ps ++ rest) = sl L) (h2 : ((args ++ List.replicate nd V.none).map some ++ rest.map fun _ => none) = l0)
  (h : ∀ A env frs L own room, Γ.room = room + 1 → env.scope = sc i → env.cells = csOf (sc i).names L → (∀ x c, (x, some c) ∈ sl L → c ∈ own) → WS C ⟨A, env, sl L, frs, own, room⟩ l0 sto (bd i) (fun o _ t => ∃ v, o = .ret v ∧ Q v loc t) No) :
  WL C Γ loc sto (callF (.ref a)) args VR Q X := by
 obtain ⟨fd, f, hs, hb⟩ := D.fn
 refine wl_callC (argv := args ++ List.replicate nd V.none) f hroom (by rw [List.length_append, List.length_replicate]; exact hl) (fun s as xs hk r => ⟨xs ++ List.replicate nd Value.none, VRs.append r (vrs_nones nd), hb s xs hk (by rw [r.length]; exact hl.symm)⟩) fun L => ?_
 have := h (Γ.A.deeper (callEnvC fd L a)) (callEnvC fd L a) (callEnvC fd L a :: Γ.frs) L (L :: (csOf (sc i).names L).map (·.2)) (Γ.room - 1) (by lia) hs (show cellsFrom _ fd.scope.names [] = _ by rw [hs]; rfl) fun x c hx => by
  rw [← h1 L] at hx
  obtain ⟨z, _, e⟩ := List.mem_map.mp hx
  injection e with e1 e2
  exact .tail _ (List.mem_map_of_mem (f := (·.2)) (mem_of_lookup e2))
 rw [← h1 L, ← h2, ← hs] at this
 refine w_mono this (fun out l t q => ?_) fun _ _ _ h => h
 obtain ⟨v, rfl, q⟩ := q
 exact q
theorem ee_callC {x : Str} {p pos : Pos} {es : List Expr} {a : Addr} {i nd : Nat} {ps rest : List Str} {vs : List V} (D : DefC C a i ps rest nd) (hp : Plain es) (h1 : EE C Γ loc sto (.Name x p) (.raw (.ref a)) loc sto) (h2 : EA C Γ loc sto pos es vs loc1 sto1) (h3 : WL C Γ loc1 sto1 (callF (.ref a)) vs VR Q X) : WE C Γ loc sto (.Call (.Name x p) es [] pos) Q X := by
 refine un_1_2 (D.fn) fun fd f _ => ?_
 refine un_1_2 (f.at_) fun o ho hd => ?_
 exact we_call_f hp ho hd (h1.use ⟨rfl, h2.use h3⟩)
theorem w1_try_ok {body orelse : List Stmt} {h0 : ExceptHandler} {hs : List ExceptHandler} {pos : Pos} (h1 : ES C Γ loc sto body .next loc1 sto1) (h2 : WS C Γ loc1 sto1 orelse QS X) : W1 C Γ loc sto (.Try body (h0 :: hs) orelse [] pos) QS X := fun s as F => by
 refine wpAny_Try_except (wpAny_mono (h1 s as F) ?_ fun _ _ ⟨_, _, _, _, _, _, hF⟩ => hF.elim)
 rintro f s1 ⟨as1, l1, t1, o, P, r, rfl, rfl, rfl⟩
 have : f = .next := r
 subst this
 refine wpAny_mono (h2 s1 as1 P.rep) ?_ ?_
 ·rintro f s2 ⟨as2, l2, t2, o, P2, r2, q⟩
  exact ⟨as2, l2, t2, o, P.trans P2, r2, q⟩
 ·rintro e s2 ⟨as2, l2, t2, b, P2, r2, q⟩
  exact ⟨as2, l2, t2, b, P.trans P2, r2, q⟩
noncomputable def CompK (C : Cst) (Γ : Fm) (loc : List (Option V)) (sto : List SO) (elt : Expr) (gens : List Comprehension) (scope : Scope) (pos : Pos) (it : Sem Value) (fin : Nat → List (Option V) → List SO → Prop) : Prop :=
 ∀ (use : Option (Value → Sem Unit)) (K E : Value → Shared → Prop) (s : Shared) (as : List Addr) (p0 : Pos), RepF C Γ as loc sto s →
  (∀ Cl k l' t' as' s', Post C Γ as s as' l' t' s' → VR as' s'.heap (.lst k) (.ref (as'[k]?.getD 0)) → s.heap.get? Cl = none → Cl ∉ as' → (∃ m, s'.heap.Ns Cl m) → fin k l' t' → compPost (model C.prog C.w) Γ.A E use K (.ref (as'[k]?.getD 0)) Cl (.ok .next) s') →
  wpAny (model C.prog C.w) Γ.A (comprehension (.ListComp elt gens scope pos) scope Γ.env p0 (newList []) false it use) K E s
theorem w1_assign_core {x : Str} {pos' : Pos} {elt target iter : Expr} {ifs : List Expr} {scope : Scope} {pos apos : Pos}
  (hsw : swapsWith (.ListComp elt [⟨target, iter, ifs, 0⟩] scope pos) (some (.Name x pos')) apos.line Γ.env = pure true) (ho : ∀ c, (x, some c) ∈ Γ.sl → c ∈ Γ.own)
  (h : CompK C Γ loc sto elt [⟨target, iter, ifs, 0⟩] scope pos (eval iter Γ.env) (fun k l t => ∃ l2, SetSlot Γ.sl l x (.lst k) l2 ∧ QS .next l2 t)) :
  W1 C Γ loc sto (.Assign [.Name x pos'] (.ListComp elt [⟨target, iter, ifs, 0⟩] scope pos) apos) QS X := fun s as F => by
 rw [exec_Assign_Name_used _ _ _ _ hsw]
 refine wpAny_bind (wpAny_standAt (wpAny_bind ?_))
 show wpAny _ Γ.A (do let _ ← comprehension (.ListComp elt [⟨target, iter, ifs, 0⟩] scope pos) scope Γ.env _ (newList []) false (eval iter Γ.env) (some (assign (.Name x pos') Γ.env))) _ _ s
 refine wpAny_bind (wpAny_mono (h (some (assign (.Name x pos') Γ.env)) (fun _ s' => OkP C Γ as s RFl QS .next s') (ErP C Γ as s X) s as _ F fun Cl k l' t' as' s' P r hCl hm hn q => ?_) (fun _ s' hq => wpAny_pure (wpAny_pure hq)) fun _ _ e => e)
 refine un_1_2 (q) fun l2 q2 q3 => ?_; (try clear q)
 show wpAny _ _ (assign (.Name x pos') Γ.env _) _ _ _
 refine wpAny_mono (wt_name (C := C) (Γ := Γ) (X := X) (QU := fun _ l t => l = l2 ∧ t = t') q2 ho ⟨rfl, rfl⟩ s' as' [.ref (as'[k]?.getD 0)] P.rep (vrs1 r)) ?_ ?_
 ·rintro _ s2 ⟨as2, loc2, sto2, b, P2, _, rfl, rfl⟩
  obtain ⟨m, n⟩ := hn
  refine un_3_3 (id n) fun o es ep e1 e2 e3 => ?_
  have nown : Cl ∉ Γ.own ++ as' := fun w => (List.mem_append.mp w).elim (fun w => by obtain ⟨o, e, _⟩ := F.plain Cl w; rw [hCl] at e; cases e) hm
  obtain ⟨sl, e1'⟩ := P2.keeps.up e1 nown
  refine ⟨m, ⟨_, es, ep, e1', e2, e3⟩, fun h' hs => ?_⟩
  have hm2 : Cl ∉ as2 := fun w => (P2.new Cl w).elim hm fun w => by rw [e1] at w; cases w
  exact ⟨as2, _, _, .next, Post.retouch F (P.trans P2) hCl hm2 ⟨_, e1', fun its n q => by rw [show (_ : Obj).data = _ from e2] at q; cases q⟩ hs, rfl, q3⟩
 ·rintro e s2 ⟨as2, loc2, sto2, b, P2, _, q⟩
  exact ⟨as2, loc2, sto2, b, P.trans P2, trivial, q⟩
end
end Mine
namespace Mine
section
variable {β : Type} {l : β → β → Bool}
noncomputable def Sel (l : β → β → Bool) (R P : List β) : Prop := ∃ D, (R ++ D).Perm P ∧ ∀ d ∈ D, ∀ r ∈ R, l d r = false
theorem Sel.start {P : List β} : Sel l P P := ⟨[], by rw [List.append_nil], fun _ h => absurd h List.not_mem_nil⟩
theorem Sel.perm {R R' P : List β} (h : Sel l R P) (p : R'.Perm R) : Sel l R' P := by
 refine un_1_2 (h) fun D h1 h2 => ?_; (try clear h)
 exact ⟨D, (p.append_right D).trans h1, fun d hd r hr => h2 d hd r (p.mem_iff.mp hr)⟩
theorem Sel.keep {R P : List β} {e : β} (h : Sel l R P) (k : ∀ r ∈ R, l e r = false) : Sel l R (P ++ [e]) := by
 refine un_1_2 (h) fun D h1 h2 => ?_; (try clear h)
 refine ⟨D ++ [e], by rw [← List.append_assoc]; exact h1.append_right _, fun d hd r hr => ?_⟩
 rcases List.mem_append.mp hd with q | q
 ·exact h2 d q r hr
 ·rw [List.mem_singleton.mp q]; exact k r hr
theorem Sel.turn (L : Lin l) {v e : β} {t R' P : List β} (h : Sel l (v :: t) P) (he : l e v = true) (k : ∀ r ∈ t, l v r = false) (p : R'.Perm (e :: t)) : Sel l R' (P ++ [e]) := by
 refine un_1_2 (h) fun D h1 h2 => ?_; (try clear h)
 refine Sel.perm ⟨v :: D, ?_, fun d hd r hr => ?_⟩ p
 ·have q1 : (e :: (v :: t ++ D)).Perm (P ++ [e]) := (h1.cons e).trans (List.perm_append_comm (l₁ := [e]))
  have q2 : (e :: t ++ v :: D).Perm (e :: (v :: t ++ D)) := List.Perm.cons e List.perm_middle
  exact q2.trans q1
 ·rcases List.mem_cons.mp hd with rfl | hd <;> rcases List.mem_cons.mp hr with rfl | hr
  ·exact L.asym _ _ he
  ·exact k r hr
  ·exact L.le (L.asym _ _ he) (h2 d hd v (.head _))
  ·exact h2 d hd r (.tail _ hr)
theorem Lin.irr (L : Lin l) (a : β) : l a a = false := by
 cases q : l a a with
 | false => rfl
 | true => have := L.asym a a q; rw [q] at this; cases this
theorem Lin.uniq (L : Lin l) {a b : List β} (p : a.Perm b) (ha : a.Pairwise fun x y => l y x = false) (hb : b.Pairwise fun x y => l y x = false) : a = b :=
 List.Perm.eq_of_pairwise (fun x y _ _ h k => L.tot x y k h) ha hb p
theorem Sel.fin (L : Lin l) {R P out order : List β} (h : Sel l R P) (p : out.Perm R) (ho : out.Pairwise fun x y => l y x = false) (q : order.Perm P) (hq : order.Pairwise fun x y => l y x = false) : out = order.take out.length := by
 refine un_1_2 (h.perm p) fun D h1 h2 => ?_
 have hs := List.pairwise_mergeSort (le := fun x y => !l y x) (fun a b c h k => by
  rw [Bool.not_eq_true'] at h k ⊢; exact L.le h k) (fun a b => by
   cases e : l b a with
   | false => rfl
   | true => rw [L.asym _ _ e]; rfl) D
 have hp := List.mergeSort_perm D (fun x y => !l y x)
 generalize D.mergeSort (fun x y => !l y x) = E at hs hp
 have e : out ++ E = order := L.uniq ((hp.append_left out).trans (h1.trans q.symm)) (List.pairwise_append.mpr ⟨ho, hs.imp fun h => by rwa [Bool.not_eq_true'] at h, fun x hx y hy => h2 y (hp.mem_iff.mp hy) x hx⟩) hq
 rw [← e, List.take_left]
end
end Mine
namespace Mine
open PySem PySem.W PyProof.Rows PySem.Calls
noncomputable abbrev PT := List Nat × Int
noncomputable abbrev pL (p : PT) : List V := [.str p.1, .int p.2]
noncomputable abbrev pF (p : PT) : V := .tup (pL p)
noncomputable def pLt (a b : PT) : Bool := tLt (pL a) (pL b)
theorem pSh (a b : PT) : Sh (pL a) (pL b) := .cons (.str _ _) (.cons (.int _ _) .nil)
theorem pLin : Lin pLt := ⟨fun a b c => tLt_trans (pSh a b) (pSh b c), fun a b => tLt_asym (pSh a b), fun a b h k => by
 have := tLt_total (pSh a b) h k
 injection this with h1 h2
 injection h2 with h2 _
 injection h1 with h1
 injection h2 with h2
 exact Prod.ext h1 h2⟩
noncomputable abbrev sL (a b : List Nat) : Bool := decide (a < b)
theorem sLin : Lin sL := ⟨fun a b c h k => decide_eq_true (List.lt_trans (of_decide_eq_true h) (of_decide_eq_true k)), fun a b h => decide_eq_false (List.lt_asymm (of_decide_eq_true h)), fun a b h k => List.le_antisymm (List.not_lt.mp (of_decide_eq_false k)) (List.not_lt.mp (of_decide_eq_false h))⟩
theorem pLt_fst {a b : PT} (h : pLt a b = false) : sL a.1 b.1 = false := by
 unfold pLt pL at h
 rw [tLt] at h
 by_cases e : a.1 = b.1
 ·rw [e]; exact sLin.irr _
 ·rw [if_neg (by unfold sEq; simpa using e)] at h; exact h
theorem perm_map {α β : Type} {f : α → β} : ∀ {R : List α} {out : List β}, out.Perm (R.map f) → ∃ R' : List α, R'.Perm R ∧ out = R'.map f
 | [], out, h => ⟨[], .refl _, List.Perm.eq_nil h⟩
 | r :: R, out, h => by
  refine un_2_1 (List.append_of_mem (h.mem_iff.mpr (.head _))) fun s t e492x2 => ?_; subst e492x2
  refine un_1_2 (perm_map (R := R) (out := s ++ t) ((List.perm_cons (f r)).mp (List.perm_middle.symm.trans h))) fun R' p e => ?_
  refine un_2_3 (List.map_eq_append_iff.mp e.symm) fun a b e494x2 e494x3 e494x4 => ?_; subst e494x2; subst e494x3; subst e494x4
  exact ⟨a ++ r :: b, List.perm_middle.trans (p.cons r), by rw [List.map_append, List.map_cons]⟩
theorem pRowy (R : List PT) : Rowy (R.map pL) := by
 refine ⟨fun l hl m hm => ?_, fun l hl => ?_⟩
 ·refine un_1_2 (List.mem_map.mp hl) fun a _ e495x2 => ?_; subst e495x2
  refine un_1_2 (List.mem_map.mp hm) fun b _ e496x2 => ?_; subst e496x2
  exact pSh a b
 ·refine un_1_2 (List.mem_map.mp hl) fun a _ e497x2 => ?_; subst e497x2
  exact List.cons_ne_nil _ _
noncomputable abbrev pZ (a c : Int) (ws : List (List Nat)) (n : Nat) : List PT := (List.range n).map fun j => (ws.getD j [], a + (j : Int) * c)
theorem pZ_eq (a c : Int) (ws : List (List Nat)) (n : Nat) : pairsZ a c ws n = (pZ a c ws n).map pF := by rw [List.map_map]; rfl
theorem pZ_fst (a c : Int) (ws : List (List Nat)) {n : Nat} (hn : n ≤ ws.length) : (pZ a c ws n).map (·.1) = ws.take n := by
 rw [List.map_map]
 refine List.ext_getElem (by simp [hn]) fun i h1 h2 => ?_
 rw [List.getElem_map, List.getElem_range, List.getElem_take]
 exact gd [] (by simp at h1; lia)
section
variable {C : Cst} {Γ : Fm} {loc : List (Option V)} {sto : List SO}
theorem pOrd : HOrd C pF pLt := ⟨fun a b => wl_ltT (pSh a b) R3⟩
theorem pOrdM : HOrdM C pF (fun a b => pLt b a) := ⟨fun a b => wl_ltT (pSh b a) R3⟩
theorem ee_fst {xe xo rn : Str} {p1 p2 p3 pt pr pos : Pos} {kt k : Nat} {scope : Scope} {R : List PT} (ok : CompOk C Γ scope [] [(xe, none), (xo, none)]) (hn : EE C Γ loc sto (.Name rn pr) (.lst k) loc sto) (hk : sto[k]? = some (.list (R.map pF))) (hl : R.length ≤ 1000) (hd : (xe == ("__debug__" : Str)) = false := by decide) :
  EE C Γ loc sto (.ListComp (.Name xe p3) [⟨.Tuple [.Name xe p1, .Name xo p2] kt pt, .Name rn pr, [], 0⟩] scope pos) (.lst sto.length) loc (sto ++ [.list (R.map fun p => V.str p.1)]) := by
 refine we_comp (fun _ _ => rfl) ok (wit_of (hn.use (vit_list hk ⟨[none, none], fun i l t => (∃ o1 o2, l = [o1, o2]) ∧ t = sto ++ [.list ((R.take i).map fun p => V.str p.1)], .loc (.loc .nil), ⟨⟨none, none, rfl⟩, rfl⟩, fun i l t hi h => ?_, ?_, ?_⟩)))
 ·rw [h.2]
  show (sto ++ _)[k]? = _
  rw [List.getElem?_append_left (List.getElem?_eq_some_iff.mp hk).1]; exact hk
 ·rintro Cl i l t hi ⟨⟨o1, o2, rfl⟩, rfl⟩
  rw [List.length_map] at hi
  have e0 : (R.map pF)[i]?.getD .none = pF R[i] := by rw [List.getElem?_map, List.getElem?_eq_getElem hi]; rfl
  show WL C _ _ _ _ [(R.map pF)[i]?.getD .none] RU _ _
  rw [e0]
  refine WL.use (b := ()) (loc1 := [some (.str R[i].1), some (.int R[i].2)]) (sto1 := sto ++ [.list ((R.take i).map fun p => V.str p.1)]) (eu_pair .zero .z1 rfl) (wct_nil (jD .zero ?_ hd))
  refine ⟨_, jIA, by rw [List.length_map, List.length_take]; lia, ⟨_, _, rfl⟩, ?_⟩
  rw [List.set_append_right _ _ (Nat.le_refl _), Nat.sub_self, List.take_add_one, List.getElem?_eq_getElem hi, List.map_append]
  rfl
 ·rintro l t ⟨⟨o1, o2, rfl⟩, rfl⟩
  rw [List.length_map, List.take_length]
  exact ⟨rfl, rfl, rfl⟩
end
end Mine
namespace Mine
open PySem PySem.W PyProof.Rows PySem.Calls
section
variable {C : Cst} {Γ : Fm} {loc loc1 loc2 : List (Option V)} {sto sto1 sto2 : List SO}
theorem keep_iter : keeperOf (.builtin "iter") = pure .machine := by kernel_rfl
theorem hset2 {α : Type} {f : α → V} {a b : SO} {g : List α} : jJA (sto ++ [a, b]) (sto.length + 1) f g = sto ++ [a, .list (g.map f)] := by
 unfold jJA
 rw [List.set_append_right _ _ (Nat.le_succ _), show sto.length + 1 - sto.length = 1 by lia]; rfl
theorem set2 {a b c : SO} : (sto ++ [a, b]).set sto.length c = sto ++ [c, b] := by
 rw [List.set_append_right _ _ (Nat.le_refl _), Nat.sub_self]; rfl
theorem el_len {ws : List (List Nat)} {k : Nat} (hk : sto[k]? = some (.list (ws.map V.str))) (hl : ws.length ≤ 1000) : EL C Γ loc sto (callF (.builtin "len")) [.lst k] (.int ws.length) loc sto :=
 wl_lenL hk (by rw [List.length_map]; exact Nat.le_trans hl (by decide)) ⟨by rw [List.length_map], rfl, rfl⟩
theorem eu_pair2 {x y : Str} {px py pos : Pos} {k : Nat} {a b : V} (q1 : SetSlot Γ.sl loc x a loc1) (q2 : SetSlot Γ.sl loc1 y b loc2) (h : ∀ x c, (x, some c) ∈ Γ.sl → c ∈ Γ.own) : EU C Γ loc sto (f1 (assign (.Tuple [.Name x px, .Name y py] k pos) Γ.env)) [.tup [a, b]] loc2 sto :=
 eu_tuple rfl rfl (eu_cons (eu_name (pos := px) q1 (h x)) (eu_cons (eu_name (pos := py) q2 (h y)) (eu_nil rfl)))
theorem jMA {l : List (Str × NameKind)} (h : l.all (fun y => !decide (y.2 = .cell)) = true) : ∀ y ∈ l, y.2 ≠ .cell := fun y hy e => by
 have := List.all_eq_true.mp h y hy
 rw [decide_eq_true e] at this; cases this
theorem nam_of {l : List (Str × NameKind)} (h : l.all (fun y => !decide (y.2 = .local) || decide (l.lookup y.1 = some .local)) = true) : ∀ y ∈ l, y.2 = .local → l.lookup y.1 = some .local := fun y hy e => by
 have := List.all_eq_true.mp h y hy
 rw [decide_eq_true e] at this
 exact of_decide_eq_true this
theorem CompOk.plain {scope : Scope} {sl0 : List (Str × Option Addr)} (clos : ∀ env, closureFor scope env = pure []) (h1 : scope.names.all (fun y => !decide (y.2 = .cell)) = true) (kind : scope.kind = .function) (h2 : scope.names.all (fun y => !decide (y.2 = .local) || decide (scope.names.lookup y.1 = some .local)) = true)
  (h3 : sl0.all (fun p => p.2.isNone && decide (scope.names.lookup p.1 = some .local)) = true) (h4 : (sl0.map (·.1)).Nodup) : CompOk C Γ scope [] sl0 := by
 have key : ∀ p ∈ sl0, p.2 = none ∧ scope.names.lookup p.1 = some .local := fun p hp => by
  have := Bool.and_eq_true_iff.mp (List.all_eq_true.mp h3 p hp)
  exact ⟨Option.isNone_iff_eq_none.mp this.1, of_decide_eq_true this.2⟩
 refine ⟨clos _, jMA h1, kind, nam_of h2, fun x hx => (key _ hx).2, fun x c hx => (by have := (key _ hx).1; cases this), h4, ?_⟩
 have : sl0.filterMap (·.2) = [] := List.filterMap_eq_nil_iff.mpr fun p hp => (key p hp).1
 rw [this]; exact List.nodup_nil
theorem el_sort {k : Nat} {R : List PT} {Q : V → List (Option V) → List SO → Prop} {X : XV → List (Option V) → List SO → Prop} (hk : sto[k]? = some (.list (R.map pF))) (h64 : R.length < 64)
  (h : ∀ R' : List PT, R'.Perm R → R'.Pairwise (fun a b => pLt b a = false) → Q .none loc (sto.set k (.list (R'.map pF)))) : WL C Γ loc sto (callF (.builtin "list.sort")) [.lst k] VR Q X := by
 refine wl_sort (ts := R.map pL) (by rw [List.map_map]; exact hk) (pRowy R) (by rw [List.length_map]; exact h64) fun out hp ho => ?_
 refine un_1_2 (perm_map hp) fun R' p e498x2 => ?_; subst e498x2
 rw [List.map_map]
 refine h R' p ?_
 unfold Ord at ho
 rw [List.pairwise_map] at ho
 exact ho
noncomputable abbrev ps16 : List Str := ["n", "iterable", "key"]
noncomputable abbrev rs16 : List Str := ["it", "result", "size", "elem", "top", "order", "_heapreplace", "_order"]
noncomputable abbrev sl16 (L : Addr) : List (Str × Option Addr) := [("n", none), ("iterable", none), ("key", some (L + 1)), ("it", none), ("result", none), ("size", none), ("elem", none), ("top", none), ("order", none), ("_heapreplace", none), ("_order", none)]
theorem n16a : (sc 16).names.lookup (Str.ofString "len") = some .globalImplicit := by kernel_rfl
theorem n16b : (sc 16).names.lookup (Str.ofString "iter") = some .globalImplicit := by kernel_rfl
theorem n16c : (sc 16).names.lookup (Str.ofString "zip") = some .globalImplicit := by kernel_rfl
theorem n16d : (sc 16).names.lookup (Str.ofString "range") = some .globalImplicit := by kernel_rfl
theorem n16e : (sc 16).names.lookup (Str.ofString "_heapify_max") = some .globalImplicit := by kernel_rfl
theorem n16f : (sc 16).names.lookup (Str.ofString "_heapreplace_max") = some .globalImplicit := by kernel_rfl
structure GNs (C : Cst) : Prop where
 d : DefC C 134 16 ps16 rs16 1
 hp : GHp C
 d10 : D10 C
 gh : C.mg "_heapify_max" = some (.ref 100)
 gr : C.mg "_heapreplace_max" = some (.ref 93)
 iter : C.mg "iter" = none
 zip : C.mg "zip" = none
theorem sl16_eq (L : Addr) : slC (sc 16).names L (ps16 ++ rs16) = sl16 L := by kernel_rfl
noncomputable abbrev l16 (kt ki n : Nat) (top elem : Option V) (order : Option V) (f o : Option V) : List (Option V) := [some (.int 5), some (.lst kt), some .none, some (.lst ki), some (.lst (ki + 1)), some (.int n), elem, top, order, f, o]
theorem five_ge {n : Nat} (h : 5 < n) : decide ((n : Int) ≤ 5) = false := decide_eq_false (by lia)
inductive NsI (sto : List SO) (kt ad : Nat) (lt : PT → PT → Bool) (sl : List Nat → List Nat → Bool) (ws : List (List Nat)) (i : Nat) (l : List (Option V)) (t : List SO) : Prop
 | mk (v : PT) (tl : List PT) (o1 o2 : Option V) (j : Int) (hl : l = l16 kt sto.length ws.length (some (.str v.1)) o1 (some (.int j)) (some (.raw (.ref ad))) o2) (ht : t = jJA (sto ++ [.iter kt (5 + i), .list []]) (sto.length + 1) pF (v :: tl)) (htl : tl.length = 4) (hH : Hp lt ([], 0) 0 (v :: tl)) (hS : Sel sl ((v :: tl).map (·.1)) (ws.take (5 + i)))
theorem c_nsmallest {ws order : List (List Nat)} {kt : Nat} (G : GNs C) (hroom : 5 ≤ Γ.room) (hk : sto[kt]? = some (.list (ws.map V.str))) (h5 : 5 < ws.length) (hl : ws.length ≤ 1000) (hp : order.Perm ws) (ho : order.Pairwise fun x y => sL y x = false) :
  WL C Γ loc sto (callF (.ref 134)) [.int 5, .lst kt] VR (fun v l t => l = loc ∧ Ex2 fun j g => v = .lst j ∧ t = sto ++ g ∧ t[j]? = some (.list ((order.take 5).map V.str))) No := by
 refine wl_hide fun Q hQ => ?_
 refine wl_defC sl16 [some (.int 5), some (.lst kt), some .none, none, none, none, none, none, none, none, none] G.d (Nat.le_trans (by decide) hroom) rfl sl16_eq rfl fun A env frs L own room hr hs hc how => ?_
 have hr4 : 4 ≤ room := by rw [hr] at hroom; exact Nat.le_of_succ_le_succ hroom
 refine jG (W.use (b := Out.next) (loc1 := [some (.int 5), some (.lst kt), some .none, none, none, none, none, none, none, none, none]) (sto1 := sto) ?_ (jG (w1_try_ok (loc1 := [some (.int 5), some (.lst kt), some .none, none, none, some (.int ws.length), none, none, none, none, none]) (sto1 := sto) ?_ ?_)))
 ·with_reducible exact e1_ifF (jR rfl (jD .zero R3) (jF R3) (wl_eqI ⟨by decide, rfl, rfl⟩)) es_nil
 ·with_reducible exact es_next (jY (fun _ => rfl) (how _) (ee_call_m (jC (fun _ => jA) jN) keep_len (jCA hs n16a G.hp.len PyProof.Rows.Boot.«len» (by decide) (by decide)) (jE jA (jD .z1 R3) jP) (el_len hk hl)) .z5) es_nil
 refine jG (W.use (b := Out.next) (loc1 := [some (.int 5), some (.lst kt), some .none, none, none, some (.int ws.length), none, none, none, none, none]) (sto1 := sto) ?_ (ws_nil ?_))
 ·with_reducible exact e1_ifF (jR rfl (jD .zero R3) (jD .z5 R3) (wl_geI ⟨five_ge h5, rfl, rfl⟩)) es_nil
 refine jG (jGA ((jR rfl (jD .z2 R3) (we_noneC R3) (wl_isNone R3)).use ?_))
 refine jG (W.use (b := Out.next) (loc1 := [some (.int 5), some (.lst kt), some .none, some (.lst sto.length), none, some (.int ws.length), none, none, none, none, none]) (sto1 := sto ++ [.iter kt 0]) ?_ ?_)
 ·with_reducible exact jY (fun _ => rfl) (how _) (ee_call_m (jC (fun _ => jA) jN) keep_iter (jCA hs n16b G.iter PyProof.Rows.Boot.«iter» (by decide) (by decide)) (jE jA (jD .z1 R3) jP) (wl_iter hk R3)) .z3
 have hklt : kt < sto.length := (List.getElem?_eq_some_iff.mp hk).1
 refine jG (w1_assign_core ?_ (how _) fun use K E s as p0 F hK => zip_core (a := 0) (b := 5) (c := 1) (n := 5) (ws := ws) (ki := sto.length) (kl := kt) F ⟨?_, ?_, ?_, ?_, ?_, ?_, ?_, ?_, ?_, ?_, ?_, ?_, ?_, ?_, ?_, ?_, ?_, ?_, ?_, ?_⟩ fun Cl k l' t' as' s' P r e1 e2 e3 e4 => hK Cl k l' t' as' s' P r e1 e2 e3 ?_)
 ·unfold swapsWith Env.blockKind Env.kindOf
  simp only [hs]
  kernel_rfl
 ·refine clos_all fun env => ?_
  obtain ⟨sc0, _, _, _, _, _, _, _, _⟩ := env
  kernel_rfl
 ·exact jMA (by kernel_rfl)
 ·kernel_rfl
 ·exact nam_of (by kernel_rfl)
 ·kernel_rfl
 ·kernel_rfl
 ·decide
 ·decide
 ·decide
 ·with_reducible exact jCA hs n16c G.zip PyProof.Rows.Boot.«zip» (by decide) (by decide)
 ·with_reducible exact jCA hs n16d G.hp.rng PyProof.Rows.Boot.«range» (by decide) (by decide)
 ·exact jC (fun _ => jA) jN
 ·exact ⟨_, jE jA (jD .zero R3) jP, .one 5⟩
 ·exact ⟨by decide, by decide, .inl rfl⟩
 ·rw [rsz_up]; rfl
 ·with_reducible exact (jD .z3 R3)
 ·exact jIA
 ·rw [List.getElem?_append_left hklt]; exact hk
 ·exact Nat.le_of_lt h5
 ·decide
 refine un_0_3 (e4) fun e500x0 e500x1 e500x2 => ?_; (try clear e4); subst e500x0; subst e500x1; subst e500x2
 have hlast : (sto ++ [SO.iter kt 0]).length = sto.length + 1 := by rw [List.length_append]; rfl
 rw [hlast, List.set_append_right _ _ (Nat.le_refl _), Nat.sub_self]
 refine ⟨_, .z4, ?_⟩
 have e0 : sto ++ ([SO.iter kt 0].set 0 (.iter kt 5)) ++ [SO.list (pairsZ 0 1 ws 5)] = jJA (sto ++ [.iter kt (5 + 0), .list []]) (sto.length + 1) pF (pZ 0 1 ws 5) := by
  rw [hset2, pZ_eq, List.append_assoc]; rfl
 rw [e0]
 have hkr : ∀ a b : SO, sto.length + 1 < (sto ++ [a, b]).length := fun a b => by rw [List.length_append]; exact Nat.lt_succ_self _
 have hz : (pZ 0 1 ws 5).length = 5 := by rw [List.length_map, List.length_range]
 have sel0 : Sel sL ((pZ 0 1 ws 5).map (·.1)) (ws.take (5 + 0)) := by rw [pZ_fst _ _ _ (Nat.le_of_lt h5)]; exact .start
 have hhp := heapify_ok pLin.flip (x := (([], 0) : PT)) (h := pZ 0 1 ws 5)
 have hkg : ∀ a b : SO, kt < sto.length → (sto ++ [a, b])[kt]? = some (.list (ws.map V.str)) := fun a b h => by rw [List.getElem?_append_left h]; exact hk
 have hl5 : (pZ 0 1 ws 5).length ≤ 1000 := by rw [hz]; decide
 have hne : (!(pZ 0 1 ws 5).isEmpty) = true := rfl
 revert hz sel0 hhp hl5 hne
 generalize pZ 0 1 ws 5 = R0
 intro hz sel0 hhp hl5 hne
 obtain ⟨R, hR⟩ : ∃ R, hpf (fun a b => pLt b a) ([], 0) (R0.length / 2) R0 = R := ⟨_, rfl⟩
 rw [hR] at hhp
 have hRl : R.length = 5 := hhp.2.length_eq.trans hz
 obtain ⟨v, tl, rfl⟩ : Ex2 fun v tl => R = v :: tl := by
  cases R with
  | nil => cases hRl
  | cons v tl => exact ⟨v, tl, rfl⟩
 have htl : tl.length = 4 := Nat.succ.inj hRl
 have hl6 : (v :: tl).length ≤ 100000 := by rw [hRl]; decide
 have hv0 : (v :: tl)[0]? = some v := rfl
 refine jG (W.use (b := Out.next) (loc1 := l16 kt sto.length ws.length none none none none none) (sto1 := jJA (sto ++ [.iter kt (5 + 0), .list []]) (sto.length + 1) pF R0) ?_ (jG (W.use (b := Out.next) (loc1 := l16 kt sto.length ws.length none none none none none) (sto1 := jJA (sto ++ [.iter kt (5 + 0), .list []]) (sto.length + 1) pF (v :: tl)) ?_ (jG (W.use (b := Out.next) (loc1 := l16 kt sto.length ws.length (some (.str v.1)) none none none none) (sto1 := jJA (sto ++ [.iter kt (5 + 0), .list []]) (sto.length + 1) pF (v :: tl)) ?_ ?_)))))
 ·with_reducible exact e1_ifF (et_not (et_plain (fun _ _ => rfl) (jD .z4 R3) (truthH (hkr _ _) hl5 hne))) es_nil
 ·with_reducible exact e1_expr (fun _ => rfl) (jV G.hp.d11 (jC (fun _ => jA) jN) (jU hs n16e G.gh jW (by decide)) (jE jA (jD .z4 R3) jP) (c_heapify_max pOrdM G.hp pLin.flip hR (Nat.le_trans (by decide) hr4) (hkr _ _) hl5))
 ·with_reducible exact jY (fun _ => rfl) (how _) (ee_sub (ee_sub (jD .z4 R3) (jF R3) (el_hget (q := 0) nsl_Constant (hkr _ _) hv0 hl6)) (jF R3) (wl_getT nsl_Constant (by decide) (by decide) rfl R3)) .z7
 refine jG (W.use (b := Out.next) (loc1 := l16 kt sto.length ws.length (some (.str v.1)) none (some (.int 5)) none none) (sto1 := jJA (sto ++ [.iter kt (5 + 0), .list []]) (sto.length + 1) pF (v :: tl)) ?_ (jG (W.use (b := Out.next) (loc1 := l16 kt sto.length ws.length (some (.str v.1)) none (some (.int 5)) (some (.raw (.ref 93))) none) (sto1 := jJA (sto ++ [.iter kt (5 + 0), .list []]) (sto.length + 1) pF (v :: tl)) ?_ (jG ?_))))
 ·with_reducible exact jY (fun _ => rfl) (how _) (jD .zero R3) .z8
 ·with_reducible exact jY (fun _ => rfl) (how _) (jU hs n16f G.gr jW (by decide)) .z9
 have hsel : Sel sL ((v :: tl).map (·.1)) (ws.take (5 + 0)) := sel0.perm (hhp.2.map _)
 have hlst : ∀ i R, (jJA (sto ++ [.iter kt i, .list []]) (sto.length + 1) pF R)[kt]? = some (.list (ws.map V.str)) := fun i R => by rw [hset2]; exact hkg _ _ hklt
 have hit : ∀ i R, (jJA (sto ++ [.iter kt i, .list []]) (sto.length + 1) pF R)[sto.length]? = some (.iter kt i) := fun i R => by rw [hset2, List.getElem?_append_right (Nat.le_refl _), Nat.sub_self]; rfl
 with_reducible refine w1_for (fun _ _ => rfl) (wit_of (jD .z3 (vit_iter (i0 := 5) (hit _ _) (hlst _ _) (by rw [List.length_map]; exact Nat.le_of_lt h5) ⟨NsI sto kt 93 (fun a b => pLt b a) sL ws, ⟨v, tl, none, none, 5, rfl, rfl, htl, hhp.1, hsel⟩, ?_, ?_, ?_⟩)))
 ·rintro i l t hi ⟨v, tl, o1, o2, j, rfl, rfl, _⟩
  exact ⟨hit _ _, hlst _ _⟩
 ·rintro i l t hi ⟨v, tl, o1, o2, j, rfl, rfl, htl, hH, hS⟩
  rw [List.length_map] at hi
  have hi5 : 5 + i < ws.length := by lia
  have hv : (v :: tl)[0]? = some v := rfl
  have hl6 : (v :: tl).length ≤ 100000 := by rw [List.length_cons, htl]; decide
  have hl7 : (v :: tl).length ≤ 1000 := by rw [List.length_cons, htl]; decide
  have ev : (ws.map V.str)[5 + i]?.getD .none = .str ws[5 + i] := by rw [List.getElem?_map, List.getElem?_eq_getElem hi5]; rfl
  have ea : ∀ R, (if i = (ws.map V.str).length - 5 then (jJA (sto ++ [SO.iter kt (5 + i), .list []]) (sto.length + 1) pF R).set sto.length SO.dead else (jJA (sto ++ [.iter kt (5 + i), .list []]) (sto.length + 1) pF R).set sto.length (SO.iter kt (5 + i + 1))) = jJA (sto ++ [.iter kt (5 + (i + 1)), .list []]) (sto.length + 1) pF R := fun R => by
   rw [if_neg (by rw [List.length_map]; lia), hset2, hset2, set2]; rfl
  have et : ws.take (5 + (i + 1)) = ws.take (5 + i) ++ [ws[5 + i]] := by rw [← Nat.add_assoc, List.take_add_one, List.getElem?_eq_getElem hi5]; rfl
  show WL C _ _ (if i = (ws.map V.str).length - 5 then _ else _) _ [(ws.map V.str)[5 + i]?.getD .none] RU _ _
  rw [ev, ea]
  revert et
  generalize ws[5 + i] = e
  intro et
  refine wt_name (loc' := l16 kt sto.length ws.length (some (.str v.1)) (some (.str e)) (some (.int j)) (some (.raw (.ref 93))) o2) .z6 (how _) ?_
  cases hlt : decide (e < v.1) with
  | false =>
   refine W.use (b := Out.next) (loc1 := l16 kt sto.length ws.length (some (.str v.1)) (some (.str e)) (some (.int j)) (some (.raw (.ref 93))) o2) (sto1 := jJA (sto ++ [.iter kt (5 + (i + 1)), .list []]) (sto.length + 1) pF (v :: tl)) ?_ ⟨v, tl, _, _, _, rfl, rfl, htl, hH, ?_⟩
   ·with_reducible exact es_next (e1_ifF (jR rfl (jD .z6 R3) (jD .z7 R3) (wl_ltS ⟨hlt, rfl, rfl⟩)) es_nil) es_nil
   ·rw [et]
    refine hS.keep fun r hr => ?_
    refine un_1_2 (List.mem_map.mp hr) fun y hy e503x2 => ?_; subst e503x2
    rcases List.mem_cons.mp hy with rfl | hy
    ·exact hlt
    ·exact sLin.le (pLt_fst (Hp.min pLin.flip hH y hy)) hlt
  | true =>
   obtain ⟨k1, k2⟩ := replace_ok pLin.flip (w := (e, j)) (Hp.dflt (y := (e, j)) hH)
   obtain ⟨R, hR⟩ : ∃ R, sft (fun a b => pLt b a) ((e, j) :: tl) 0 (e, j) = R := ⟨_, rfl⟩
   have cR := c_heapreplace_max (C := C) (Γ := ⟨A, env, sl16 L, frs, own, room⟩) (loc := l16 kt sto.length ws.length (some (.str v.1)) (some (.str e)) (some (.int j)) (some (.raw (.ref 93))) o2) (w := ((e, j) : PT)) pOrdM G.hp G.d10 (Nat.le_trans (by decide) hr4) (hkr (.iter kt (5 + (i + 1))) (.list [])) hl7
   rw [hR] at k1 k2 cR
   have hRl := k2.length_eq
   obtain ⟨u, tu, rfl⟩ : Ex2 fun u tu => R = u :: tu := by
    cases R with
    | nil => cases hRl
    | cons v tl => exact ⟨v, tl, rfl⟩
   have hu : (u :: tu)[0]? = some u := rfl
   have htu : tu.length = 4 := (Nat.succ.inj hRl).trans htl
   have hl8 : (u :: tu).length ≤ 100000 := by rw [List.length_cons, htu]; decide
   refine W.use (b := Out.next) (loc1 := l16 kt sto.length ws.length (some (.str u.1)) (some (.str e)) (some (.int (j + 1))) (some (.raw (.ref 93))) (some (.int u.2))) (sto1 := jJA (sto ++ [.iter kt (5 + (i + 1)), .list []]) (sto.length + 1) pF (u :: tu)) ?_ ⟨u, tu, _, _, _, rfl, rfl, htu, Hp.dflt k1, ?_⟩
   ·refine es_next (e1_ifT (jR rfl (jD .z6 R3) (jD .z7 R3) (wl_ltS ⟨hlt, rfl, rfl⟩)) (es_next (loc1 := l16 kt sto.length ws.length (some (.str v.1)) (some (.str e)) (some (.int j)) (some (.raw (.ref 93))) o2) (sto1 := jJA (sto ++ [.iter kt (5 + (i + 1)), .list []]) (sto.length + 1) pF (u :: tu)) ?_ (es_next (loc1 := l16 kt sto.length ws.length (some (.str u.1)) (some (.str e)) (some (.int j)) (some (.raw (.ref 93))) (some (.int u.2))) (sto1 := jJA (sto ++ [.iter kt (5 + (i + 1)), .list []]) (sto.length + 1) pF (u :: tu)) ?_ (es_next ?_ es_nil)))) es_nil
    ·with_reducible exact e1_expr (fun _ => rfl) (jV G.d10 (jC (fun _ => jA) (jC (fun _ => jK) jN)) (jD .z9 R3) (jE jA (jD .z4 R3) (jE jK (jT (jE jA (jD .z6 R3) (jE jA (jD .z8 R3) jP)) (Nat.le_of_ble_eq_true rfl)) jP)) cR)
    ·refine e1_assign_tuple rfl ?_ (v := pF u) (loc1 := l16 kt sto.length ws.length (some (.str v.1)) (some (.str e)) (some (.int j)) (some (.raw (.ref 93))) o2) (sto1 := jJA (sto ++ [.iter kt (5 + (i + 1)), .list []]) (sto.length + 1) pF (u :: tu)) ?_ ?_
     ·rfl
     ·with_reducible exact ee_sub (jD .z4 R3) (jF R3) (el_hget (q := 0) nsl_Constant (hkr _ _) hu hl8)
     ·with_reducible exact eu_pair2 .z7 .z10 how
    ·with_reducible exact e1_aug .z8 (how _) (jF R3) (wl_iadd R3) .z8
   ·rw [et]
    refine hS.turn sLin hlt (fun r hr => ?_) (k2.map _)
    refine un_1_2 (List.mem_map.mp hr) fun y hy e504x2 => ?_; subst e504x2
    exact pLt_fst (Hp.min pLin.flip hH y hy)
 ·rintro l t ⟨v, tl, o1, o2, j, rfl, rfl, htl, hH, hS⟩
  have hn : 5 + ((ws.map V.str).length - 5) = ws.length := by rw [List.length_map]; lia
  rw [hn, List.take_length] at hS
  have hl7 : (v :: tl).length ≤ 63 := by rw [List.length_cons, htl]; decide
  have ea : ∀ i R, (if (ws.map V.str).length - 5 = (ws.map V.str).length - 5 then (jJA (sto ++ [SO.iter kt i, .list []]) (sto.length + 1) pF R).set sto.length SO.dead else (jJA (sto ++ [SO.iter kt i, .list []]) (sto.length + 1) pF R).set sto.length (SO.iter kt (i + 1))) = jJA (sto ++ [.dead, .list []]) (sto.length + 1) pF R := fun i R => by
   rw [if_pos rfl, hset2, hset2, set2]
  show WS C _ _ (if (ws.map V.str).length - 5 = _ then _ else _) _ _ _
  rw [ea]
  refine ws_nil (jG (w1_expr (fun _ => rfl) (jDA jN jLA (by decide) rfl PySem.F.plainAttrs_list slot_list_sort PySem.F.type_list_sort (jD .z4 ⟨fun as s x F r => lst_hT F r (hs_get (hkr _ _)), wa_nil (el_sort (hs_get (hkr _ _)) (Nat.lt_succ_of_le hl7) fun R' p hR' => ?_)⟩))))
  rw [hs_set]
  have hR5 : R'.length = 5 := p.length_eq.trans (by rw [List.length_cons, htl])
  have hfin := hS.fin sLin (p.map (·.1)) (List.pairwise_map.mpr (hR'.imp pLt_fst)) hp ho
  rw [List.length_map, hR5] at hfin
  refine jG (w1_ret ((ee_fst ?_ (jD .z4 R3) (hs_get (hkr _ _)) (by rw [hR5]; decide)).use ⟨_, rfl, hQ _ _ _ ⟨rfl, _, [.dead, .list (R'.map pF), .list (R'.map fun p => V.str p.1)], rfl, by rw [hset2, List.append_assoc]; rfl, ?_⟩⟩))
  ·exact CompOk.plain (fun e => by cases e; kernel_rfl) (by kernel_rfl) (by kernel_rfl) (by kernel_rfl) (by kernel_rfl) (by decide)
  ·rw [jIA, ← hfin, List.map_map]; rfl
end
end Mine
namespace Mine
open PySem PySem.W PyProof.Rows PySem.Calls
noncomputable abbrev gL (a b : List Nat) : Bool := decide (b < a)
theorem gLin : Lin gL := sLin.flip
theorem gLt_fst {a b : PT} (h : pLt b a = false) : gL a.1 b.1 = false := pLt_fst h
section
variable {C : Cst} {Γ : Fm} {loc loc1 loc2 : List (Option V)} {sto sto1 sto2 : List SO}
theorem ww_sort_rev {o : Expr} {name kn : Str} {apos pos kp cp : Pos} {ck k : Nat} {R : List PT} {Q : V → List (Option V) → List SO → Prop} {X : XV → List (Option V) → List SO → Prop} (hb : Base o "sort") (hline : (apos.endLine == pos.line) = true) (h1 : EE C Γ loc sto o (.lst k) loc sto) (hk : sto[k]? = some (.list (R.map pF))) (h64 : R.length < 64)
  (h : ∀ R' : List PT, R'.Perm R → R'.Pairwise (fun a b => pLt a b = false) → Q .none loc (sto.set k (.list (R'.map pF)))) (hname : name = "sort" := by rfl) (hkn : kn = "reverse" := by rfl) :
  WE C Γ loc sto (.Call (.Attribute o name apos) [] [⟨some kn, .Constant (.bool true) ck cp, kp⟩] pos) Q X := by
 refine we_sort_rev hname hkn (by rw [hname]; exact hb) hline (h1.use ⟨k, R.map pL, rfl, by rw [List.map_map]; exact hk, pRowy R, by rw [List.length_map]; exact h64, fun out hp ho => ?_⟩)
 refine un_1_2 (perm_map hp) fun R' p e506x2 => ?_; subst e506x2
 rw [List.map_map]
 refine h R' p ?_
 unfold Ord at ho
 rw [List.pairwise_map] at ho
 exact ho
theorem n17a : (sc 17).names.lookup (Str.ofString "len") = some .globalImplicit := by kernel_rfl
theorem n17b : (sc 17).names.lookup (Str.ofString "iter") = some .globalImplicit := by kernel_rfl
theorem n17c : (sc 17).names.lookup (Str.ofString "zip") = some .globalImplicit := by kernel_rfl
theorem n17d : (sc 17).names.lookup (Str.ofString "range") = some .globalImplicit := by kernel_rfl
theorem n17e : (sc 17).names.lookup (Str.ofString "heapify") = some .globalImplicit := by kernel_rfl
theorem n17f : (sc 17).names.lookup (Str.ofString "heapreplace") = some .globalImplicit := by kernel_rfl
structure GNl (C : Cst) : Prop where
 d : DefC C 140 17 ps16 rs16 1
 hp : GHp C
 d8 : D8 C
 gh : C.mg "heapify" = some (.ref 86)
 gr : C.mg "heapreplace" = some (.ref 79)
 iter : C.mg "iter" = none
 zip : C.mg "zip" = none
theorem sl17_eq (L : Addr) : slC (sc 17).names L (ps16 ++ rs16) = sl16 L := by kernel_rfl
theorem c_nlargest {ws order : List (List Nat)} {kt : Nat} (G : GNl C) (hroom : 5 ≤ Γ.room) (hk : sto[kt]? = some (.list (ws.map V.str))) (h5 : 5 < ws.length) (hl : ws.length ≤ 1000) (hp : order.Perm ws) (ho : order.Pairwise fun x y => sL x y = false) :
  WL C Γ loc sto (callF (.ref 140)) [.int 5, .lst kt] VR (fun v l t => l = loc ∧ Ex2 fun j g => v = .lst j ∧ t = sto ++ g ∧ t[j]? = some (.list ((order.take 5).map V.str))) No := by
 refine wl_hide fun Q hQ => ?_
 refine wl_defC sl16 [some (.int 5), some (.lst kt), some .none, none, none, none, none, none, none, none, none] G.d (Nat.le_trans (by decide) hroom) rfl sl17_eq rfl fun A env frs L own room hr hs hc how => ?_
 have hr4 : 4 ≤ room := by rw [hr] at hroom; exact Nat.le_of_succ_le_succ hroom
 refine jG (W.use (b := Out.next) (loc1 := [some (.int 5), some (.lst kt), some .none, none, none, none, none, none, none, none, none]) (sto1 := sto) ?_ (jG (w1_try_ok (loc1 := [some (.int 5), some (.lst kt), some .none, none, none, some (.int ws.length), none, none, none, none, none]) (sto1 := sto) ?_ ?_)))
 ·with_reducible exact e1_ifF (jR rfl (jD .zero R3) (jF R3) (wl_eqI ⟨by decide, rfl, rfl⟩)) es_nil
 ·with_reducible exact es_next (jY (fun _ => rfl) (how _) (ee_call_m (jC (fun _ => jA) jN) keep_len (jCA hs n17a G.hp.len PyProof.Rows.Boot.«len» (by decide) (by decide)) (jE jA (jD .z1 R3) jP) (el_len hk hl)) .z5) es_nil
 refine jG (W.use (b := Out.next) (loc1 := [some (.int 5), some (.lst kt), some .none, none, none, some (.int ws.length), none, none, none, none, none]) (sto1 := sto) ?_ (ws_nil ?_))
 ·with_reducible exact e1_ifF (jR rfl (jD .zero R3) (jD .z5 R3) (wl_geI ⟨five_ge h5, rfl, rfl⟩)) es_nil
 refine jG (jGA ((jR rfl (jD .z2 R3) (we_noneC R3) (wl_isNone R3)).use ?_))
 refine jG (W.use (b := Out.next) (loc1 := [some (.int 5), some (.lst kt), some .none, some (.lst sto.length), none, some (.int ws.length), none, none, none, none, none]) (sto1 := sto ++ [.iter kt 0]) ?_ ?_)
 ·with_reducible exact jY (fun _ => rfl) (how _) (ee_call_m (jC (fun _ => jA) jN) keep_iter (jCA hs n17b G.iter PyProof.Rows.Boot.«iter» (by decide) (by decide)) (jE jA (jD .z1 R3) jP) (wl_iter hk R3)) .z3
 have hklt : kt < sto.length := (List.getElem?_eq_some_iff.mp hk).1
 refine jG (w1_assign_core ?_ (how _) fun use K E s as p0 F hK => zip_core (a := 0) (b := -5) (c := -1) (n := 5) (ws := ws) (ki := sto.length) (kl := kt) F ⟨?_, ?_, ?_, ?_, ?_, ?_, ?_, ?_, ?_, ?_, ?_, ?_, ?_, ?_, ?_, ?_, ?_, ?_, ?_, ?_⟩ fun Cl k l' t' as' s' P r e1 e2 e3 e4 => hK Cl k l' t' as' s' P r e1 e2 e3 ?_)
 ·unfold swapsWith Env.blockKind Env.kindOf
  simp only [hs]
  kernel_rfl
 ·refine clos_all fun env => ?_
  obtain ⟨sc0, _, _, _, _, _, _, _, _⟩ := env
  kernel_rfl
 ·exact jMA (by kernel_rfl)
 ·kernel_rfl
 ·exact nam_of (by kernel_rfl)
 ·kernel_rfl
 ·kernel_rfl
 ·decide
 ·decide
 ·decide
 ·with_reducible exact jCA hs n17c G.zip PyProof.Rows.Boot.«zip» (by decide) (by decide)
 ·with_reducible exact jCA hs n17d G.hp.rng PyProof.Rows.Boot.«range» (by decide) (by decide)
 ·exact jC (fun _ => jB) (jC (fun _ => jM) (jC (fun _ => jM) jN))
 ·exact ⟨_, jE jB (jF R3) (jE jM (ee_unary (jD .zero R3) (wl_usub R3)) (jE jM (ee_unary (jF R3) (wl_usub R3)) jP)), .three 0 (-5) (-1) (by decide) (by decide) (by decide)⟩
 ·exact ⟨by decide, by decide, .inr rfl⟩
 ·rw [rsz_down]; rfl
 ·with_reducible exact (jD .z3 R3)
 ·exact jIA
 ·rw [List.getElem?_append_left hklt]; exact hk
 ·exact Nat.le_of_lt h5
 ·decide
 refine un_0_3 (e4) fun e508x0 e508x1 e508x2 => ?_; (try clear e4); subst e508x0; subst e508x1; subst e508x2
 have hlast : (sto ++ [SO.iter kt 0]).length = sto.length + 1 := by rw [List.length_append]; rfl
 rw [hlast, List.set_append_right _ _ (Nat.le_refl _), Nat.sub_self]
 refine ⟨_, .z4, ?_⟩
 have e0 : sto ++ ([SO.iter kt 0].set 0 (.iter kt 5)) ++ [SO.list (pairsZ 0 (-1) ws 5)] = jJA (sto ++ [.iter kt (5 + 0), .list []]) (sto.length + 1) pF (pZ 0 (-1) ws 5) := by
  rw [hset2, pZ_eq, List.append_assoc]; rfl
 rw [e0]
 have hkr : ∀ a b : SO, sto.length + 1 < (sto ++ [a, b]).length := fun a b => by rw [List.length_append]; exact Nat.lt_succ_self _
 have hz : (pZ 0 (-1) ws 5).length = 5 := by rw [List.length_map, List.length_range]
 have sel0 : Sel gL ((pZ 0 (-1) ws 5).map (·.1)) (ws.take (5 + 0)) := by rw [pZ_fst _ _ _ (Nat.le_of_lt h5)]; exact .start
 have hhp := heapify_ok pLin (x := (([], 0) : PT)) (h := pZ 0 (-1) ws 5)
 have hkg : ∀ a b : SO, kt < sto.length → (sto ++ [a, b])[kt]? = some (.list (ws.map V.str)) := fun a b h => by rw [List.getElem?_append_left h]; exact hk
 have hl5 : (pZ 0 (-1) ws 5).length ≤ 1000 := by rw [hz]; decide
 have hne : (!(pZ 0 (-1) ws 5).isEmpty) = true := rfl
 revert hz sel0 hhp hl5 hne
 generalize pZ 0 (-1) ws 5 = R0
 intro hz sel0 hhp hl5 hne
 obtain ⟨R, hR⟩ : ∃ R, hpf pLt ([], 0) (R0.length / 2) R0 = R := ⟨_, rfl⟩
 rw [hR] at hhp
 have hRl : R.length = 5 := hhp.2.length_eq.trans hz
 obtain ⟨v, tl, rfl⟩ : Ex2 fun v tl => R = v :: tl := by
  cases R with
  | nil => cases hRl
  | cons v tl => exact ⟨v, tl, rfl⟩
 have htl : tl.length = 4 := Nat.succ.inj hRl
 have hl6 : (v :: tl).length ≤ 100000 := by rw [hRl]; decide
 have hv0 : (v :: tl)[0]? = some v := rfl
 refine jG (W.use (b := Out.next) (loc1 := l16 kt sto.length ws.length none none none none none) (sto1 := jJA (sto ++ [.iter kt (5 + 0), .list []]) (sto.length + 1) pF R0) ?_ (jG (W.use (b := Out.next) (loc1 := l16 kt sto.length ws.length none none none none none) (sto1 := jJA (sto ++ [.iter kt (5 + 0), .list []]) (sto.length + 1) pF (v :: tl)) ?_ (jG (W.use (b := Out.next) (loc1 := l16 kt sto.length ws.length (some (.str v.1)) none none none none) (sto1 := jJA (sto ++ [.iter kt (5 + 0), .list []]) (sto.length + 1) pF (v :: tl)) ?_ ?_)))))
 ·with_reducible exact e1_ifF (et_not (et_plain (fun _ _ => rfl) (jD .z4 R3) (truthH (hkr _ _) hl5 hne))) es_nil
 ·with_reducible exact e1_expr (fun _ => rfl) (jV G.hp.d9 (jC (fun _ => jA) jN) (jU hs n17e G.gh jW (by decide)) (jE jA (jD .z4 R3) jP) (c_heapify pOrd G.hp pLin hR (Nat.le_trans (by decide) hr4) (hkr _ _) hl5))
 ·with_reducible exact jY (fun _ => rfl) (how _) (ee_sub (ee_sub (jD .z4 R3) (jF R3) (el_hget (q := 0) nsl_Constant (hkr _ _) hv0 hl6)) (jF R3) (wl_getT nsl_Constant (by decide) (by decide) rfl R3)) .z7
 refine jG (W.use (b := Out.next) (loc1 := l16 kt sto.length ws.length (some (.str v.1)) none (some (.int (-5))) none none) (sto1 := jJA (sto ++ [.iter kt (5 + 0), .list []]) (sto.length + 1) pF (v :: tl)) ?_ (jG (W.use (b := Out.next) (loc1 := l16 kt sto.length ws.length (some (.str v.1)) none (some (.int (-5))) (some (.raw (.ref 79))) none) (sto1 := jJA (sto ++ [.iter kt (5 + 0), .list []]) (sto.length + 1) pF (v :: tl)) ?_ (jG ?_))))
 ·with_reducible exact jY (fun _ => rfl) (how _) (ee_unary (jD .zero R3) (wl_usub R3)) .z8
 ·with_reducible exact jY (fun _ => rfl) (how _) (jU hs n17f G.gr jW (by decide)) .z9
 have hsel : Sel gL ((v :: tl).map (·.1)) (ws.take (5 + 0)) := sel0.perm (hhp.2.map _)
 have hlst : ∀ i R, (jJA (sto ++ [.iter kt i, .list []]) (sto.length + 1) pF R)[kt]? = some (.list (ws.map V.str)) := fun i R => by rw [hset2]; exact hkg _ _ hklt
 have hit : ∀ i R, (jJA (sto ++ [.iter kt i, .list []]) (sto.length + 1) pF R)[sto.length]? = some (.iter kt i) := fun i R => by rw [hset2, List.getElem?_append_right (Nat.le_refl _), Nat.sub_self]; rfl
 with_reducible refine w1_for (fun _ _ => rfl) (wit_of (jD .z3 (vit_iter (i0 := 5) (hit _ _) (hlst _ _) (by rw [List.length_map]; exact Nat.le_of_lt h5) ⟨NsI sto kt 79 pLt gL ws, ⟨v, tl, none, none, -5, rfl, rfl, htl, hhp.1, hsel⟩, ?_, ?_, ?_⟩)))
 ·rintro i l t hi ⟨v, tl, o1, o2, j, rfl, rfl, _⟩
  exact ⟨hit _ _, hlst _ _⟩
 ·rintro i l t hi ⟨v, tl, o1, o2, j, rfl, rfl, htl, hH, hS⟩
  rw [List.length_map] at hi
  have hi5 : 5 + i < ws.length := by lia
  have hv : (v :: tl)[0]? = some v := rfl
  have hl6 : (v :: tl).length ≤ 100000 := by rw [List.length_cons, htl]; decide
  have hl7 : (v :: tl).length ≤ 1000 := by rw [List.length_cons, htl]; decide
  have ev : (ws.map V.str)[5 + i]?.getD .none = .str ws[5 + i] := by rw [List.getElem?_map, List.getElem?_eq_getElem hi5]; rfl
  have ea : ∀ R, (if i = (ws.map V.str).length - 5 then (jJA (sto ++ [SO.iter kt (5 + i), .list []]) (sto.length + 1) pF R).set sto.length SO.dead else (jJA (sto ++ [.iter kt (5 + i), .list []]) (sto.length + 1) pF R).set sto.length (SO.iter kt (5 + i + 1))) = jJA (sto ++ [.iter kt (5 + (i + 1)), .list []]) (sto.length + 1) pF R := fun R => by
   rw [if_neg (by rw [List.length_map]; lia), hset2, hset2, set2]; rfl
  have et : ws.take (5 + (i + 1)) = ws.take (5 + i) ++ [ws[5 + i]] := by rw [← Nat.add_assoc, List.take_add_one, List.getElem?_eq_getElem hi5]; rfl
  show WL C _ _ (if i = (ws.map V.str).length - 5 then _ else _) _ [(ws.map V.str)[5 + i]?.getD .none] RU _ _
  rw [ev, ea]
  revert et
  generalize ws[5 + i] = e
  intro et
  refine wt_name (loc' := l16 kt sto.length ws.length (some (.str v.1)) (some (.str e)) (some (.int j)) (some (.raw (.ref 79))) o2) .z6 (how _) ?_
  cases hlt : decide (v.1 < e) with
  | false =>
   refine W.use (b := Out.next) (loc1 := l16 kt sto.length ws.length (some (.str v.1)) (some (.str e)) (some (.int j)) (some (.raw (.ref 79))) o2) (sto1 := jJA (sto ++ [.iter kt (5 + (i + 1)), .list []]) (sto.length + 1) pF (v :: tl)) ?_ ⟨v, tl, _, _, _, rfl, rfl, htl, hH, ?_⟩
   ·with_reducible exact es_next (e1_ifF (jR rfl (jD .z7 R3) (jD .z6 R3) (wl_ltS ⟨hlt, rfl, rfl⟩)) es_nil) es_nil
   ·rw [et]
    refine hS.keep fun r hr => ?_
    refine un_1_2 (List.mem_map.mp hr) fun y hy e511x2 => ?_; subst e511x2
    rcases List.mem_cons.mp hy with rfl | hy
    ·exact hlt
    ·exact gLin.le (gLt_fst (Hp.min pLin hH y hy)) hlt
  | true =>
   obtain ⟨k1, k2⟩ := replace_ok pLin (w := (e, j)) (Hp.dflt (y := (e, j)) hH)
   obtain ⟨R, hR⟩ : ∃ R, sft pLt ((e, j) :: tl) 0 (e, j) = R := ⟨_, rfl⟩
   have cR := c_heapreplace (C := C) (Γ := ⟨A, env, sl16 L, frs, own, room⟩) (loc := l16 kt sto.length ws.length (some (.str v.1)) (some (.str e)) (some (.int j)) (some (.raw (.ref 79))) o2) (w := ((e, j) : PT)) pOrd G.hp G.d8 (Nat.le_trans (by decide) hr4) (hkr (.iter kt (5 + (i + 1))) (.list [])) hl7
   rw [hR] at k1 k2 cR
   have hRl := k2.length_eq
   obtain ⟨u, tu, rfl⟩ : Ex2 fun u tu => R = u :: tu := by
    cases R with
    | nil => cases hRl
    | cons v tl => exact ⟨v, tl, rfl⟩
   have hu : (u :: tu)[0]? = some u := rfl
   have htu : tu.length = 4 := (Nat.succ.inj hRl).trans htl
   have hl8 : (u :: tu).length ≤ 100000 := by rw [List.length_cons, htu]; decide
   refine W.use (b := Out.next) (loc1 := l16 kt sto.length ws.length (some (.str u.1)) (some (.str e)) (some (.int (j - 1))) (some (.raw (.ref 79))) (some (.int u.2))) (sto1 := jJA (sto ++ [.iter kt (5 + (i + 1)), .list []]) (sto.length + 1) pF (u :: tu)) ?_ ⟨u, tu, _, _, _, rfl, rfl, htu, Hp.dflt k1, ?_⟩
   ·refine es_next (e1_ifT (jR rfl (jD .z7 R3) (jD .z6 R3) (wl_ltS ⟨hlt, rfl, rfl⟩)) (es_next (loc1 := l16 kt sto.length ws.length (some (.str v.1)) (some (.str e)) (some (.int j)) (some (.raw (.ref 79))) o2) (sto1 := jJA (sto ++ [.iter kt (5 + (i + 1)), .list []]) (sto.length + 1) pF (u :: tu)) ?_ (es_next (loc1 := l16 kt sto.length ws.length (some (.str u.1)) (some (.str e)) (some (.int j)) (some (.raw (.ref 79))) (some (.int u.2))) (sto1 := jJA (sto ++ [.iter kt (5 + (i + 1)), .list []]) (sto.length + 1) pF (u :: tu)) ?_ (es_next ?_ es_nil)))) es_nil
    ·with_reducible exact e1_expr (fun _ => rfl) (jV G.d8 (jC (fun _ => jA) (jC (fun _ => jK) jN)) (jD .z9 R3) (jE jA (jD .z4 R3) (jE jK (jT (jE jA (jD .z6 R3) (jE jA (jD .z8 R3) jP)) (Nat.le_of_ble_eq_true rfl)) jP)) cR)
    ·refine e1_assign_tuple rfl ?_ (v := pF u) (loc1 := l16 kt sto.length ws.length (some (.str v.1)) (some (.str e)) (some (.int j)) (some (.raw (.ref 79))) o2) (sto1 := jJA (sto ++ [.iter kt (5 + (i + 1)), .list []]) (sto.length + 1) pF (u :: tu)) ?_ ?_
     ·rfl
     ·with_reducible exact ee_sub (jD .z4 R3) (jF R3) (el_hget (q := 0) nsl_Constant (hkr _ _) hu hl8)
     ·with_reducible exact eu_pair2 .z7 .z10 how
    ·with_reducible exact e1_aug .z8 (how _) (jF R3) (wl_isub R3) .z8
   ·rw [et]
    refine hS.turn gLin hlt (fun r hr => ?_) (k2.map _)
    refine un_1_2 (List.mem_map.mp hr) fun y hy e512x2 => ?_; subst e512x2
    exact gLt_fst (Hp.min pLin hH y hy)
 ·rintro l t ⟨v, tl, o1, o2, j, rfl, rfl, htl, hH, hS⟩
  have hn : 5 + ((ws.map V.str).length - 5) = ws.length := by rw [List.length_map]; lia
  rw [hn, List.take_length] at hS
  have hl7 : (v :: tl).length ≤ 63 := by rw [List.length_cons, htl]; decide
  have ea : ∀ i R, (if (ws.map V.str).length - 5 = (ws.map V.str).length - 5 then (jJA (sto ++ [SO.iter kt i, .list []]) (sto.length + 1) pF R).set sto.length SO.dead else (jJA (sto ++ [SO.iter kt i, .list []]) (sto.length + 1) pF R).set sto.length (SO.iter kt (i + 1))) = jJA (sto ++ [.dead, .list []]) (sto.length + 1) pF R := fun i R => by
   rw [if_pos rfl, hset2, hset2, set2]
  show WS C _ _ (if (ws.map V.str).length - 5 = _ then _ else _) _ _ _
  rw [ea]
  refine ws_nil (jG (w1_expr (fun _ => rfl) (ww_sort_rev jLA rfl (jD .z4 R3) (hs_get (hkr _ _)) (Nat.lt_succ_of_le hl7) fun R' p hR' => ?_)))
  rw [hs_set]
  have hR5 : R'.length = 5 := p.length_eq.trans (by rw [List.length_cons, htl])
  have hfin := hS.fin gLin (p.map (·.1)) (List.pairwise_map.mpr (hR'.imp gLt_fst)) hp ho
  rw [List.length_map, hR5] at hfin
  refine jG (w1_ret ((ee_fst ?_ (jD .z4 R3) (hs_get (hkr _ _)) (by rw [hR5]; decide)).use ⟨_, rfl, hQ _ _ _ ⟨rfl, _, [.dead, .list (R'.map pF), .list (R'.map fun p => V.str p.1)], rfl, by rw [hset2, List.append_assoc]; rfl, ?_⟩⟩))
  ·exact CompOk.plain (fun e => by cases e; kernel_rfl) (by kernel_rfl) (by kernel_rfl) (by kernel_rfl) (by kernel_rfl) (by decide)
  ·rw [jIA, ← hfin, List.map_map]; rfl
end
end Mine
namespace Mine
open PySem PySem.W PyProof.Rows PySem.Calls
section
variable {C : Cst} {Γ : Fm} {loc : List (Option V)} {sto : List SO} {X X0 : XV → List (Option V) → List SO → Prop} {Q : V → List (Option V) → List SO → Prop}
theorem wl_defX {a : Addr} {i : Nat} {ps rest : List Str} {args : List V} (sl : List (Str × Option Addr)) (l0 : List (Option V)) (D : Def C a i ps rest) (hroom : 1 ≤ Γ.room) (hl : ps.length = args.length)
  (h1 : ps.map (·, none) ++ rest.map (·, none) = sl) (h2 : (args.map some ++ rest.map fun _ => none) = l0) (hX0 : ∀ b l t, X0 b l t → b.tb = false ∧ X ⟨b.cls, b.msg, true⟩ loc t)
  (h : ∀ A env frs own room, Γ.room = room + 1 → env.scope = sc i → env.frame = some env.locals → WS C ⟨A, env, sl, env :: frs, own, room⟩ l0 sto (bd i) (fun out _ t => ∃ v, out = .ret v ∧ Q v loc t) X0) :
  WL C Γ loc sto (callF (.ref a)) args VR Q X := by
 obtain ⟨fd, f, hs, hb⟩ := D.fn
 refine wl_callX (argv := args) f hroom hl (fun s as xs hk r => ⟨xs, r, hb s xs hk (r.length.trans hl.symm)⟩) hX0 fun L => ?_
 rw [h1, h2]
 refine w_mono (h _ _ _ _ (Γ.room - 1) (by lia) hs rfl) (fun out l t q => ?_) fun _ _ _ h => h
 obtain ⟨v, rfl, q⟩ := q
 exact q
structure GEx (C : Cst) (C1 C2 Eb : Addr) : Prop where
 o1 : OwnX C (Str.ofString "error_reply") C1 Eb
 o2 : OwnX C (Str.ofString "error_proto") C2 Eb
 n1 : C1 ≠ Eb
 n2 : C2 ≠ Eb
 n12 : C2 ≠ C1
theorem base_Sub {a b : Expr} {p : Pos} {name : Str} : Base (.Subscript a b p) name := fun _ => rfl
noncomputable def R4 (a : Nat) (m : List Nat) (r : Option Int) : Prop := ((spl a m).length ≠ 5 ∧ r = none) ∨ ∃ n : Int, (spl a m).length = 5 ∧ (spl a m)[3]? = some (dig n) ∧ 0 ≤ n ∧ n < 1000000 ∧ r = some n
noncomputable def R3' (x : List Nat) (i j : Nat) (r : Option Int) : Prop := Ex2 fun a b => x[i + 1]? = some a ∧ x[j - 1]? = some b ∧ ((a ≠ b ∧ r = none) ∨ (a = b ∧ R4 a ((x.drop (i + 1)).take (j - (i + 1))) r))
noncomputable def R2 (x : List Nat) (i : Nat) (r : Option Int) : Prop := ((∀ k, i + 1 ≤ k → x[k]? ≠ some 41) ∧ r = none) ∨ ∃ j, i + 1 ≤ j ∧ x[j]? = some 41 ∧ (∀ k, i + 1 ≤ k → k < j → x[k]? ≠ some 41) ∧ R3' x i j r
noncomputable def R1 (x : List Nat) (r : Option Int) : Prop := ((∀ k : Nat, x[k]? ≠ some 40) ∧ r = none) ∨ ∃ i, x[i]? = some 40 ∧ (∀ k, k < i → x[k]? ≠ some 40) ∧ R2 x i r
noncomputable abbrev sl4 : List (Str × Option Addr) := [("resp", none), ("peer", none), ("left", none), ("right", none), ("parts", none), ("host", none), ("port", none)]
noncomputable abbrev D229 (C : Cst) : Prop := Def C 58 4 ["resp", "peer"] ["left", "right", "parts", "host", "port"]
theorem n4a : (sc 4).names.lookup (Str.ofString "len") = some .globalImplicit := by kernel_rfl
theorem n4b : (sc 4).names.lookup (Str.ofString "int") = some .globalImplicit := by kernel_rfl
theorem n4c : (sc 4).names.lookup (Str.ofString "error_reply") = some .globalImplicit := by kernel_rfl
theorem n4d : (sc 4).names.lookup (Str.ofString "error_proto") = some .globalImplicit := by kernel_rfl
theorem keep_int : keeperOf (.type "int") = pure .machine := by kernel_rfl
noncomputable abbrev peerV : V := .tup [.str [104], .int 21]
theorem l229 : (Str.ofString "229").cps.toList = [50, 50, 57] := by decide
theorem t229n {x : List Nat} (h : x.take 3 ≠ [50, 50, 57]) : (slc x none (some 3) != (Str.ofString "229").cps.toList) = true := by
 rw [show (3 : Int) = ((3 : Nat) : Int) from rfl, slc_to, l229]; exact bne_iff_ne.mpr h
theorem t229y {x : List Nat} (h : x.take 3 = [50, 50, 57]) : (slc x none (some 3) != (Str.ofString "229").cps.toList) = false := by
 rw [show (3 : Int) = ((3 : Nat) : Int) from rfl, slc_to, l229, h]; rfl
theorem kind_of {env : Env} {i : Nat} {x : Str} {k : NameKind} (hs : env.scope = sc i) (h : (sc i).names.lookup x = some k) : env.kindOf x = some k := by unfold Env.kindOf; rw [hs]; exact h
theorem c_229_rep {C1 C2 Eb : Addr} {x : List Nat} (D : D229 C) (G : GEx C C1 C2 Eb) (hroom : 1 ≤ Γ.room) (hl : x.length ≤ 1000) (h3 : x.take 3 ≠ [50, 50, 57]) (hX : X ⟨C1, x, true⟩ loc sto) : WL C Γ loc sto (callF (.ref 58)) [.str x, peerV] VR Q X := by
 refine wl_defX (X0 := fun b _ t => b = ⟨C1, x, false⟩ ∧ t = sto) sl4 [some (.str x), some peerV, none, none, none, none, none] D hroom rfl rfl rfl (fun b l t h => by obtain ⟨rfl, rfl⟩ := h; exact ⟨rfl, hX⟩) fun A env frs own room hr hs hf => ?_
 refine jG (jGA (W.use (b := true) (loc1 := [some (.str x), some peerV, none, none, none, none, none]) (sto1 := sto) ?_ (jG (w1_raise (loc1 := [some (.str x), some peerV, none, none, none, none, none]) (sto1 := sto) G.o1 (kind_of hs n4c) (by decide) (jC (fun _ => jA) jN) rfl ?_ ⟨rfl, rfl⟩))))
 ·with_reducible exact (jR rfl (jS (jD .zero R3) jZ (jAA (jF R3)) jZ (wsl_str .none (.int 3) (Nat.le_trans hl (by decide)) R3)) (jQ R3) (wl_neS ⟨t229n h3, rfl, rfl⟩))
 ·with_reducible exact (jD .zero R3)
theorem fi_neg {i : Nat} : decide ((i : Int) < 0) = false := decide_eq_false (by lia)
theorem c_229 {C1 C2 Eb : Addr} {x : List Nat} {r : Option Int} (D : D229 C) (G : GEx C C1 C2 Eb) (g1 : C.mg "len" = none) (g2 : C.mg "int" = none) (hroom : 1 ≤ Γ.room) (hl : x.length ≤ 1000) (h3 : x.take 3 = [50, 50, 57]) (hR : R1 x r)
  (hN : r = none → ∀ g, X ⟨C2, x, true⟩ loc (sto ++ g)) (hS : ∀ n, r = some n → ∀ g, Q (.tup [.str [104], .int n]) loc (sto ++ g)) : WL C Γ loc sto (callF (.ref 58)) [.str x, peerV] VR Q X := by
 refine wl_defX (X0 := fun b _ t => b = ⟨C2, x, false⟩ ∧ r = none ∧ ∃ g, t = sto ++ g) sl4 [some (.str x), some peerV, none, none, none, none, none] D hroom rfl rfl rfl (fun b l t h => by obtain ⟨rfl, h, g, rfl⟩ := h; exact ⟨rfl, hN h g⟩) fun A env frs own room hr hs hf => ?_
 have hl2 : x.length ≤ 16777216 := Nat.le_trans hl (by decide)
 have n0 : ∃ g, sto = sto ++ g := ⟨[], (List.append_nil _).symm⟩
 have rs : ∀ {l : List (Option V)} {t : List SO} {np p1 cpos pos : Pos} {QS : Out → List (Option V) → List SO → Prop}, l[0]? = some (some (.str x)) → r = none → (∃ g, t = sto ++ g) → WS C ⟨A, env, sl4, env :: frs, own, room⟩ l t [.Raise (some (.Call (.Name (Str.ofString "error_proto") np) [.Name (Str.ofString "resp") p1] [] cpos)) none pos] QS (fun b _ t => b = ⟨C2, x, false⟩ ∧ r = none ∧ ∃ g, t = sto ++ g) := fun {l} {t} _ _ _ _ _ hl0 hr0 hg => by
  cases l with
  | nil => cases hl0
  | cons o l =>
   rw [List.getElem?_cons_zero, Option.some.injEq] at hl0
   subst hl0
   exact jG (w1_raise (loc1 := some (.str x) :: l) (sto1 := t) G.o2 (kind_of hs n4d) (by decide) (jC (fun _ => jA) jN) rfl (jD .zero R3) ⟨rfl, hr0, hg⟩)
 refine jG (W.use (b := Out.next) (loc1 := [some (.str x), some peerV, none, none, none, none, none]) (sto1 := sto) ?_ ?_)
 ·with_reducible exact e1_ifF (jR rfl (jS (jD .zero R3) jZ (jAA (jF R3)) jZ (wsl_str .none (.int 3) hl2 R3)) (jQ R3) (wl_neS ⟨t229y h3, rfl, rfl⟩)) es_nil
 refine jG (W.use (b := Out.next) (loc1 := [some (.str x), some peerV, some (.int (Txt.find ⟨x.toArray⟩ ⟨#[40]⟩)), none, none, none, none]) (sto1 := sto) ?_ ?_)
 ·with_reducible exact jY (fun _ => rfl) (jFA (sl := sl4) rfl) (ee_meth (jC (fun _ => jB) jN) jLA (by decide) rfl F.plainAttrs_str F.slot_str_find F.type_str_find (jD .zero R3) (fun as s x F r => str_hT r) (jE jB (jQ R3) jP) (wl_find R3)) .z2
 rcases hR with ⟨hno, hr0⟩ | ⟨i, hi, hin, hR⟩
 ·rw [find_miss hno]
  refine jG (jGA (W.use (b := true) (loc1 := [some (.str x), some peerV, some (.int (-1)), none, none, none, none]) (sto1 := sto) ?_ (rs rfl hr0 n0)))
  with_reducible exact jR rfl (jD .z2 R3) (jF R3) (wl_ltI ⟨by decide, rfl, rfl⟩)
 rw [find_hit hi hin]
 have hil := (List.getElem?_eq_some_iff.mp hi).1
 refine jG (W.use (b := Out.next) (loc1 := [some (.str x), some peerV, some (.int i), none, none, none, none]) (sto1 := sto) ?_ ?_)
 ·with_reducible exact e1_ifF (jR rfl (jD .z2 R3) (jF R3) (wl_ltI ⟨fi_neg, rfl, rfl⟩)) es_nil
 refine jG (W.use (b := Out.next) (loc1 := [some (.str x), some peerV, some (.int i), some (.int (Txt.find3 ⟨x.toArray⟩ ⟨#[41]⟩ ((i + 1 : Nat) : Int))), none, none, none]) (sto1 := sto) ?_ ?_)
 ·with_reducible exact jY (fun _ => rfl) (jFA (sl := sl4) rfl) (ee_meth (jC (fun _ => jB) (jC (fun _ => jH) jN)) jLA (by decide) rfl F.plainAttrs_str F.slot_str_find F.type_str_find (jD .zero R3) (fun as s x F r => str_hT r) (jE jB (jQ R3) (jE jH (jO (jD .z2 R3) (jF R3) el_inc) jP)) (wl_find3 R3)) .z3
 rcases hR with ⟨hno, hr0⟩ | ⟨j, hij, hj, hjn, a, b, ha, hb, hR⟩
 ·rw [find3_miss hil hno]
  refine jG (jGA (W.use (b := true) (loc1 := [some (.str x), some peerV, some (.int i), some (.int (-1)), none, none, none]) (sto1 := sto) ?_ (rs rfl hr0 n0)))
  with_reducible exact jR rfl (jD .z3 R3) (jF R3) (wl_ltI ⟨by decide, rfl, rfl⟩)
 rw [find3_hit hj hij hjn]
 have hjl := (List.getElem?_eq_some_iff.mp hj).1
 have ha' : x[((i + 1 : Nat) : Int).toNat]? = some a := ha
 have hb' : x[((j : Int) - 1).toNat]? = some b := by rw [show ((j : Int) - 1).toNat = j - 1 by lia]; exact hb
 have hi62 : ((i + 1 : Nat) : Int) < 2 ^ 62 := by lia
 have hj62 : (j : Int) - 1 < 2 ^ 62 := by lia
 have hj0 : 0 ≤ (j : Int) - 1 := by lia
 refine jG (W.use (b := Out.next) (loc1 := [some (.str x), some peerV, some (.int i), some (.int j), none, none, none]) (sto1 := sto) ?_ ?_)
 ·with_reducible exact e1_ifF (jR rfl (jD .z3 R3) (jF R3) (wl_ltI ⟨fi_neg, rfl, rfl⟩)) es_nil
 rcases hR with ⟨hab, hr0⟩ | ⟨rfl, hR⟩
 ·have hne : ([a] != [b]) = true := bne_iff_ne.mpr fun q => hab (List.cons.inj q).1
  refine jG (jGA (W.use (b := true) (loc1 := [some (.str x), some peerV, some (.int i), some (.int j), none, none, none]) (sto1 := sto) ?_ (rs rfl hr0 n0)))
  with_reducible exact jR rfl (ee_sub (jD .zero R3) (jO (jD .z2 R3) (jF R3) el_inc) (wl_getS nsl_BinOp (Int.natCast_nonneg _) hi62 ha' R3)) (ee_sub (jD .zero R3) (jO (jD .z3 R3) (jF R3) (wl_sub R3)) (wl_getS nsl_BinOp hj0 hj62 hb' R3)) (wl_neS ⟨hne, rfl, rfl⟩)
 have hne : ([a] != [a]) = false := by simp
 refine jG (W.use (b := Out.next) (loc1 := [some (.str x), some peerV, some (.int i), some (.int j), none, none, none]) (sto1 := sto) ?_ ?_)
 ·with_reducible exact e1_ifF (jR rfl (ee_sub (jD .zero R3) (jO (jD .z2 R3) (jF R3) el_inc) (wl_getS nsl_BinOp (Int.natCast_nonneg _) hi62 ha' R3)) (ee_sub (jD .zero R3) (jO (jD .z3 R3) (jF R3) (wl_sub R3)) (wl_getS nsl_BinOp hj0 hj62 hb' R3)) (wl_neS ⟨hne, rfl, rfl⟩)) es_nil
 have hmid := slc_mid x (i + 1) j hil (Nat.le_of_lt hjl)
 generalize hm : (x.drop (i + 1)).take (j - (i + 1)) = m at hR hmid
 have hml : m.length ≤ 1000 := by rw [← hm, List.length_take, List.length_drop]; exact Nat.le_trans (Nat.min_le_right _ _) (Nat.le_trans (Nat.sub_le _ _) hl)
 have hsl : (spl a m).length ≤ 1001 := Nat.le_trans (spl_length a m) (Nat.succ_le_succ hml)
 refine jG (W.use (b := Out.next) (loc1 := [some (.str x), some peerV, some (.int i), some (.int j), some (.lst sto.length), none, none]) (sto1 := sto ++ [.list ((spl a m).map V.str)]) ?_ ?_)
 ·with_reducible exact jY (fun _ => rfl) (jFA (sl := sl4) rfl) (ee_meth (jC (fun _ => jI) jN) base_Sub (by decide) rfl F.plainAttrs_str F.slot_str_split F.type_str_split (jS (jD .zero R3) (jAA (jO (jD .z2 R3) (jF R3) el_inc)) (jAA (jD .z3 R3)) jZ (wsl_str (.int _) (.int _) hl2 ⟨congrArg V.str hmid, rfl, rfl⟩)) (fun as s x F r => str_hT r) (jE jI (ee_sub (jD .zero R3) (jO (jD .z2 R3) (jF R3) el_inc) (wl_getS nsl_BinOp (Int.natCast_nonneg _) hi62 ha' R3)) jP) (wl_split (Nat.le_trans hml (by decide)) R3)) .z4
 have hlen : EL C ⟨A, env, sl4, env :: frs, own, room⟩ [some (.str x), some peerV, some (.int i), some (.int j), some (.lst sto.length), none, none] (sto ++ [.list ((spl a m).map V.str)]) (callF (.builtin "len")) [.lst sto.length] (.int (spl a m).length) _ _ :=
  wl_lenL jIA (by rw [List.length_map]; exact Nat.le_trans hsl (by decide)) ⟨by rw [List.length_map], rfl, rfl⟩
 rcases hR with ⟨h5, hr0⟩ | ⟨n, h5, hp, hn0, hn1, hr0⟩
 ·have hne : ((((spl a m).length : Nat) : Int) != 5) = true := bne_iff_ne.mpr fun q => h5 (by lia)
  refine jG (jGA (W.use (b := true) (loc1 := [some (.str x), some peerV, some (.int i), some (.int j), some (.lst sto.length), none, none]) (sto1 := sto ++ [.list ((spl a m).map V.str)]) ?_ (rs rfl hr0 ⟨_, rfl⟩)))
  with_reducible exact jR rfl (ee_call_m (jC (fun _ => jA) jN) keep_len (jCA hs n4a g1 PyProof.Rows.Boot.«len» (by decide) (by decide)) (jE jA (jD .z4 R3) jP) hlen) (jF R3) (wl_neI ⟨hne, rfl, rfl⟩)
 have hne : ((((spl a m).length : Nat) : Int) != 5) = false := by rw [h5]; rfl
 have hp' : ((spl a m).map V.str)[(3 : Int).toNat]? = some (.str (dig n)) := by rw [List.getElem?_map]; show ((spl a m)[3]?).map _ = _; rw [hp]; rfl
 refine jG (W.use (b := Out.next) (loc1 := [some (.str x), some peerV, some (.int i), some (.int j), some (.lst sto.length), none, none]) (sto1 := sto ++ [.list ((spl a m).map V.str)]) ?_ (jG (W.use (b := Out.next) (loc1 := [some (.str x), some peerV, some (.int i), some (.int j), some (.lst sto.length), some (.str [104]), none]) (sto1 := sto ++ [.list ((spl a m).map V.str)]) ?_ (jG (W.use (b := Out.next) (loc1 := [some (.str x), some peerV, some (.int i), some (.int j), some (.lst sto.length), some (.str [104]), some (.int n)]) (sto1 := sto ++ [.list ((spl a m).map V.str)]) ?_ (jG (w1_ret (W.use (b := V.tup [.str [104], .int n]) (loc1 := [some (.str x), some peerV, some (.int i), some (.int j), some (.lst sto.length), some (.str [104]), some (.int n)]) (sto1 := sto ++ [.list ((spl a m).map V.str)]) ?_ ?_))))))))
 ·with_reducible exact e1_ifF (jR rfl (ee_call_m (jC (fun _ => jA) jN) keep_len (jCA hs n4a g1 PyProof.Rows.Boot.«len» (by decide) (by decide)) (jE jA (jD .z4 R3) jP) hlen) (jF R3) (wl_neI ⟨hne, rfl, rfl⟩)) es_nil
 ·with_reducible exact jY (fun _ => rfl) (jFA (sl := sl4) rfl) (ee_sub (jD .z1 R3) (jF R3) (wl_getT nsl_Constant (by decide) (by decide) rfl R3)) .z5
 ·with_reducible exact jY (fun _ => rfl) (jFA (sl := sl4) rfl) (ee_call_m (jC (fun _ => jI) jN) keep_int (jCA hs n4b g2 PyProof.Rows.Boot.«int» (by decide) (by decide)) (jE jI (ee_sub (jD .z4 R3) (jF R3) (jKA nsl_Constant jIA (by decide) (by decide) hp' R3)) jP) (wl_int ⟨hn0, hn1⟩ R3)) .z6
 ·with_reducible exact jT (jE jA (jD .z5 R3) (jE jA (jD .z6 R3) jP)) (Nat.le_of_ble_eq_true rfl)
 ·exact ⟨_, rfl, hS n hr0 _⟩
end
end Mine
namespace Mine
open PySem PySem.W PyProof.Rows PySem.Calls
section
variable {C : Cst} {Γ : Fm} {loc loc1 : List (Option V)} {sto sto1 : List SO} {X X0 : XV → List (Option V) → List SO → Prop} {Q : V → List (Option V) → List SO → Prop}
theorem we_callD {x : Str} {p pos : Pos} {es : List Expr} {a : Addr} {i : Nat} {ps rest : List Str} {vs : List V} (D : Def C a i ps rest) (hp : Plain es) (h1 : EE C Γ loc sto (.Name x p) (.raw (.ref a)) loc sto) (h2 : EA C Γ loc sto pos es vs loc1 sto1) (h3 : WL C Γ loc1 sto1 (callF (.ref a)) vs VR Q X) : WE C Γ loc sto (.Call (.Name x p) es [] pos) Q X := by
 refine un_1_2 (D.fn) fun fd f _ => ?_
 refine un_1_2 (f.at_) fun o ho hd => ?_
 exact we_call_f hp ho hd (h1.use ⟨rfl, h2.use h3⟩)
theorem l257 : (Str.ofString "257").cps.toList = [50, 53, 55] := by decide
theorem t257n {x : List Nat} (h : x.take 3 ≠ [50, 53, 55]) : (slc x none (some 3) != (Str.ofString "257").cps.toList) = true := by
 rw [show (3 : Int) = ((3 : Nat) : Int) from rfl, slc_to, l257]; exact bne_iff_ne.mpr h
theorem t257y {x : List Nat} (h : x.take 3 = [50, 53, 55]) : (slc x none (some 3) != (Str.ofString "257").cps.toList) = false := by
 rw [show (3 : Int) = ((3 : Nat) : Int) from rfl, slc_to, l257, h]; rfl
theorem n5c : (sc 5).names.lookup (Str.ofString "error_reply") = some .globalImplicit := by kernel_rfl
theorem c_257_rep {C1 C2 Eb : Addr} {x : List Nat} (D : D257 C) (G : GEx C C1 C2 Eb) (hroom : 1 ≤ Γ.room) (hl : x.length ≤ 1000) (h3 : x.take 3 ≠ [50, 53, 55]) (hX : X ⟨C1, x, true⟩ loc sto) : WL C Γ loc sto (callF (.ref 65)) [.str x] VR Q X := by
 refine wl_defX (X0 := fun b _ t => b = ⟨C1, x, false⟩ ∧ t = sto) sl5 [some (.str x), none, none, none, none] D hroom rfl rfl rfl (fun b l t h => by obtain ⟨rfl, rfl⟩ := h; exact ⟨rfl, hX⟩) fun A env frs own room hr hs hf => ?_
 refine jG (jGA (W.use (b := true) (loc1 := [some (.str x), none, none, none, none]) (sto1 := sto) ?_ (jG (w1_raise (loc1 := [some (.str x), none, none, none, none]) (sto1 := sto) G.o1 (kind_of hs n5c) (by decide) (jC (fun _ => jA) jN) rfl ?_ ⟨rfl, rfl⟩))))
 ·with_reducible exact (jR rfl (jS (jD .zero R3) jZ (jAA (jF R3)) jZ (wsl_str .none (.int 3) (Nat.le_trans hl (by decide)) R3)) (jQ R3) (wl_neS ⟨t257n h3, rfl, rfl⟩))
 ·with_reducible exact (jD .zero R3)
theorem slc_35 (x : List Nat) : slc x (some 3) (some 5) = (x.drop 3).take 2 := by
 rw [show (some 3 : Option Int) = some ((3 : Nat) : Int) from rfl, show (some 5 : Option Int) = some ((5 : Nat) : Int) from rfl]
 unfold slc
 simp only [Option.elim_some, clip_nat]
 rcases Nat.lt_or_ge x.length 3 with h | h
 ·rw [List.drop_of_length_le (Nat.le_min.mpr ⟨Nat.le_of_lt h, Nat.le_refl _⟩ : x.length ≤ min 3 x.length), List.drop_of_length_le (Nat.le_of_lt h : x.length ≤ 3), List.take_nil, List.take_nil]
 ·rw [Nat.min_eq_left h]
  rcases Nat.lt_or_ge x.length 5 with k | k
  ·rw [List.take_of_length_le (by rw [List.length_drop, Nat.min_eq_right (Nat.le_of_lt k)]; exact Nat.le_refl _), List.take_of_length_le (by rw [List.length_drop]; exact Nat.sub_le_of_le_add (Nat.le_of_lt k))]
  ·rw [Nat.min_eq_left k]
theorem c_257_pla {x : List Nat} (D : D257 C) (hroom : 1 ≤ Γ.room) (hl : x.length ≤ 1000) (h3 : x.take 3 = [50, 53, 55]) (hq : (x.drop 3).take 2 ≠ [32, 34]) : EL C Γ loc sto (callF (.ref 65)) [.str x] (.str []) loc sto := by
 refine el_def sl5 [some (.str x), none, none, none, none] D hroom rfl rfl rfl fun A env frs own room hr hs => ?_
 have t2 : (slc x (some 3) (some 5) != (Str.ofString " \"").cps.toList) = true := by
  rw [slc_35, show (Str.ofString " \"").cps.toList = [32, 34] by decide]; exact bne_iff_ne.mpr hq
 have hl2 : x.length ≤ 16777216 := Nat.le_trans hl (by decide)
 have e0 : V.str (Str.ofString "").cps.toList = .str [] := by rw [show (Str.ofString "").cps.toList = [] by decide]
 refine er_next (loc1 := [some (.str x), none, none, none, none]) (sto1 := sto) ?_ (er_ifT (loc1 := [some (.str x), none, none, none, none]) (sto1 := sto) ?_ (er_ret (loc1 := [some (.str x), none, none, none, none]) ?_))
 ·with_reducible exact e1_ifF (jR rfl (jS (jD .zero R3) jZ (jAA (jF R3)) jZ (wsl_str .none (.int 3) hl2 R3)) (jQ R3) (wl_neS ⟨t257y h3, rfl, rfl⟩)) es_nil
 ·with_reducible exact (jR rfl (jS (jD .zero R3) (jAA (jF R3)) (jAA (jF R3)) jZ (wsl_str (.int 3) (.int 5) hl2 R3)) (jQ R3) (wl_neS ⟨t2, rfl, rfl⟩))
 ·rw [← e0]
  with_reducible exact (jQ R3)
inductive Rd (x : List Nat) : List Nat → List Nat → List Nat → Prop
 | rep257 (h : x.take 3 ≠ [50, 53, 55]) : Rd x [50, 53, 55] [] (rpl ++ x)
 | quo (h5 : 5 ≤ x.length) (h3 : x.take 3 = [50, 53, 55]) (hq : (x.drop 3).take 2 = [32, 34]) : Rd x [50, 53, 55] (unq (x.drop 5)) []
 | pla (h3 : x.take 3 = [50, 53, 55]) (hq : (x.drop 3).take 2 ≠ [32, 34]) : Rd x [50, 53, 55] [] []
 | rep229 {code : List Nat} (hc : code ≠ [50, 53, 55]) (h : x.take 3 ≠ [50, 50, 57]) : Rd x code [] (rpl ++ x)
 | pro {code : List Nat} (hc : code ≠ [50, 53, 55]) (h3 : x.take 3 = [50, 50, 57]) (h : R1 x none) : Rd x code [] (prt ++ x)
 | port {code : List Nat} {n : Int} (hc : code ≠ [50, 53, 55]) (h3 : x.take 3 = [50, 50, 57]) (h : R1 x (some n)) : Rd x code ((fmL n 10).flatten ++ [32, 104]) []
noncomputable abbrev sl53 : List (Str × Option Addr) := [("text", none), ("code", none), ("host", none), ("mode", none), ("error", none)]
theorem n53a : (sc 53).names.lookup (Str.ofString "parse257") = some .globalImplicit := by kernel_rfl
theorem n53b : (sc 53).names.lookup (Str.ofString "parse229") = some .globalImplicit := by kernel_rfl
theorem n53c : (sc 53).names.lookup (Str.ofString "filemode") = some .globalImplicit := by kernel_rfl
theorem n53d : (sc 53).names.lookup (Str.ofString "error_reply") = some .globalImplicit := by kernel_rfl
theorem n53e : (sc 53).names.lookup (Str.ofString "error_proto") = some .globalImplicit := by kernel_rfl
theorem n53f : (sc 53).names.lookup (Str.ofString "str") = some .globalImplicit := by kernel_rfl
theorem n53g : (sc 53).names.lookup (Str.ofString "error") = some .local := by kernel_rfl
structure GRd (C : Cst) (C1 C2 Eb : Addr) : Prop where
 d : Def C 271 53 ["text", "code"] ["host", "mode", "error"]
 ex : GEx C C1 C2 Eb
 d4 : D229 C
 d5 : D257 C
 fm : GFm C
 len : C.mg "len" = none
 int : C.mg "int" = none
 str : C.mg "str" = none
 g4 : C.mg "parse229" = some (.ref 58)
 g5 : C.mg "parse257" = some (.ref 65)
 gf : C.mg "filemode" = some (.ref 236)
theorem nil257 : (Str.ofString "").cps.toList = ([] : List Nat) := by decide
theorem no53 : ∀ x c, (x, some c) ∉ sl53 := fun x c h => by
 have := List.all_eq_true.mp (show sl53.all (fun p => p.2.isNone) = true from rfl) _ h
 cases this
theorem fm_len (m : Int) : (fmL m 10).flatten.length ≤ 100000 := by rw [List.length_flatten]; exact fm_sum m
theorem ee_peer {k k1 k2 : Nat} {p p1 p2 : Pos} : EE C Γ loc sto (.Tuple [.Constant (.str (Str.ofString "h")) k1 p1, .Constant (.int 21) k2 p2] k p) peerV loc sto := by
 rw [show peerV = .tup [.str (Str.ofString "h").cps.toList, .int 21] by rw [show (Str.ofString "h").cps.toList = [104] by decide]]
 with_reducible exact jT (jE jB (jQ R3) (jE jB (jF R3) jP)) (Nat.le_of_ble_eq_true rfl)
theorem fm_host (m : Int) : (fmL m 10).flatten ++ (Str.ofString " ").cps.toList ++ [104] = (fmL m 10).flatten ++ [32, 104] := by
 rw [show (Str.ofString " ").cps.toList = [32] by decide, List.append_assoc]; rfl
theorem c_read {C1 C2 Eb : Addr} {x code a b : List Nat} (G : GRd C C1 C2 Eb) (hroom : 3 ≤ Γ.room) (hl : x.length ≤ 1000) (h : Rd x code a b) :
  WL C Γ loc sto (callF (.ref 271)) [.str x, .str code] VR (fun v l t => v = .tup [.str a, .str b] ∧ l = loc ∧ ∃ g, t = sto ++ g) No := by
 refine wl_defX (X0 := No) sl53 [some (.str x), some (.str code), none, none, none] G.d (Nat.le_trans (by decide) hroom) rfl rfl rfl (fun _ _ _ h => h.elim) fun A env frs own room hr hs hf => ?_
 have hr2 : 2 ≤ room := by rw [hr] at hroom; exact Nat.le_of_succ_le_succ hroom
 refine jG (w1_try (XB := fun e _ t => (e = ⟨C1, x, true⟩ ∧ a = [] ∧ b = rpl ++ x ∨ e = ⟨C2, x, true⟩ ∧ a = [] ∧ b = prt ++ x) ∧ ∃ g, t = sto ++ g) ⟨kind_of hs n53f, G.str, kind_of hs n53g, by decide, no53, Nat.le_trans (by decide) hr2, hf, _, rfl⟩ G.ex.o1 G.ex.o2 G.ex.n1 G.ex.n2 (kind_of hs n53d) (kind_of hs n53e) (by decide) (by decide) (by decide) (by decide) ?_ ?_)
 ·have hfin : ∀ {v : V} {t : List SO}, v = .tup [.str a, .str b] → (∃ g, t = sto ++ g) → ∃ v', Out.ret v = .ret v' ∧ ∀ l : List (Option V), ∃ u, Out.ret v' = .ret u ∧ u = .tup [.str a, .str b] ∧ loc = loc ∧ ∃ g, t = sto ++ g := fun e g => ⟨_, rfl, fun _ => ⟨_, rfl, e, rfl, g⟩⟩
  have n0 : ∃ g, sto = sto ++ g := ⟨[], (List.append_nil _).symm⟩
  by_cases hc : code = [50, 53, 55]
  ·have t1 : (code == (Str.ofString "257").cps.toList) = true := by rw [l257, hc]; rfl
   refine jG (jGA (W.use (b := true) (loc1 := [some (.str x), some (.str code), none, none, none]) (sto1 := sto) ?_ (jG (w1_ret (we_tuple (wa_cons jJ (we_callD (loc1 := [some (.str x), some (.str code), none, none, none]) (sto1 := sto) G.d5 (jC (fun _ => jA) jN) (jU hs n53a G.g5 jW (by decide)) (jE jA (jD .zero R3) jP) ?_)))))))
   ·with_reducible exact jR rfl (jD .z1 R3) (jQ R3) (wl_eqS ⟨t1, rfl, rfl⟩)
   cases h with
   | rep257 h => exact c_257_rep G.d5 G.ex (Nat.le_trans (by decide) hr2) hl h ⟨.inl ⟨rfl, rfl, rfl⟩, n0⟩
   | quo h5 h3 hq => exact (c_p257 G.d5 G.len (Nat.le_trans (by decide) hr2) hl h5 (by rw [l257]; exact h3) (by rw [show (Str.ofString " \"").cps.toList = [32, 34] by decide]; exact hq)).use ((jE jB (jQ R3) jP).use ⟨Nat.le_of_ble_eq_true rfl, hfin (by rw [nil257]) n0⟩)
   | pla h3 hq => exact (c_257_pla G.d5 (Nat.le_trans (by decide) hr2) hl h3 hq).use ((jE jB (jQ R3) jP).use ⟨Nat.le_of_ble_eq_true rfl, hfin (by rw [nil257]) n0⟩)
   | rep229 h => exact absurd hc h
   | pro h => exact absurd hc h
   | port h => exact absurd hc h
  ·have t1 : (code == (Str.ofString "257").cps.toList) = false := by rw [l257]; exact beq_eq_false_iff_ne.mpr hc
   refine jG (W.use (b := Out.next) (loc1 := [some (.str x), some (.str code), none, none, none]) (sto1 := sto) ?_ (jG (w1_assign_tuple rfl ?_ (we_callD (loc1 := [some (.str x), some (.str code), none, none, none]) (sto1 := sto) G.d4 (jC (fun _ => jA) (jC (fun _ => jK) jN)) (jU hs n53b G.g4 jW (by decide)) (jE jA (jD .zero R3) (jE jK ee_peer jP)) ?_))))
   ·with_reducible exact e1_ifF (jR rfl (jD .z1 R3) (jQ R3) (wl_eqS ⟨t1, rfl, rfl⟩)) es_nil
   ·rfl
   cases h with
   | rep257 h => exact absurd rfl hc
   | quo h => exact absurd rfl hc
   | pla h => exact absurd rfl hc
   | rep229 hc h => exact c_229_rep G.d4 G.ex (Nat.le_trans (by decide) hr2) hl h ⟨.inl ⟨rfl, rfl, rfl⟩, n0⟩
   | pro hc h3 h => exact c_229 G.d4 G.ex G.len G.int (Nat.le_trans (by decide) hr2) hl h3 h (fun _ g => ⟨.inr ⟨rfl, rfl, rfl⟩, g, rfl⟩) fun _ q => nomatch q
   | @port _ n' hc h3 h =>
    refine c_229 G.d4 G.ex G.len G.int (Nat.le_trans (by decide) hr2) hl h3 h (fun q => nomatch q) fun m' e g => ?_
    obtain rfl := Option.some.inj e
    refine (eu_pair (loc1 := [some (.str x), some (.str code), some (.str [104]), none, none]) (loc2 := [some (.str x), some (.str code), some (.str [104]), some (.int n'), none]) .z2 .z3 rfl).use (jG (w1_ret (W.use (b := V.tup [.str ((fmL n' 10).flatten ++ [32, 104]), .str []]) (loc1 := [some (.str x), some (.str code), some (.str [104]), some (.int n'), none]) (sto1 := sto ++ g ++ [SO.list ((fmL n' 10).map V.str)]) ?_ (hfin rfl ⟨_, List.append_assoc _ _ _⟩))))
    have h1 : (fmL n' 10).flatten.length + (Str.ofString " ").cps.toList.length ≤ 16777216 := by have := fm_len n'; rw [show (Str.ofString " ").cps.toList.length = 1 by decide]; lia
    have h2 : ((fmL n' 10).flatten ++ (Str.ofString " ").cps.toList).length + [104].length ≤ 16777216 := by have := fm_len n'; rw [List.length_append, show (Str.ofString " ").cps.toList.length = 1 by decide]; show _ + 1 ≤ _; lia
    rw [← fm_host, show V.str [] = V.str (Str.ofString "").cps.toList by rw [nil257]]
    with_reducible exact jT (jE jH (jO (jO (jV G.fm.D (jC (fun _ => jA) jN) (jU hs n53c G.gf jW (by decide)) (jE jA (jD .z3 R3) jP) (c_filemode G.fm hr2)) (jQ R3) (jNA h1 R3)) (jD .z2 R3) (jNA h2 R3)) (jE jB (jQ R3) jP)) (Nat.le_of_ble_eq_true rfl)
 ·rintro e l t ⟨h, hg⟩
  rcases h with ⟨rfl, rfl, rfl⟩ | ⟨rfl, rfl, rfl⟩
  ·exact ⟨rfl, hl, .inl ⟨rfl, fun _ => ⟨_, rfl, by rw [nil257], rfl, hg⟩⟩⟩
  ·exact ⟨rfl, hl, .inr ⟨rfl, G.ex.n12, fun _ => ⟨_, rfl, by rw [nil257], rfl, hg⟩⟩⟩
end
end Mine
namespace Mine
open PySem PySem.W PyProof.Rows PySem.Calls
noncomputable abbrev rwT : List Nat := [114, 111, 119]
theorem lrow : (Str.ofString "row").cps.toList = rwT := by decide
noncomputable def outT (a b : List Nat) : List (List Nat) := if b = [] then [a] else []
noncomputable def rfT (b : List Nat) : List (List Nat) := if b = [] ∨ b = rwT then [] else [b]
noncomputable abbrev othT (x : List Nat) : List Nat := if x.take 3 = [50, 53, 55] then [50, 50, 57] else [50, 53, 55]
structure RdT (x a b : List Nat) : Prop where
 two : x.take 1 = [50]
 own : Rd x (x.take 3) a b
 oth : Rd x (othT x) [] (rpl ++ x)
structure TS (sto t : List SO) (kr : Nat) (h Lg Rf : List (List Nat)) : Prop where
 pre : sto <+: t
 eh : t[sto.length]? = some (.list (h.map V.str))
 el : t[sto.length + 1]? = some (.list (Lg.map V.str))
 er : t[kr]? = some (.list (Rf.map V.str))
 r2 : sto.length + 2 ≤ kr
theorem get_app {t g : List SO} {k : Nat} {x : SO} (h : t[k]? = some x) : (t ++ g)[k]? = some x := by
 rw [List.getElem?_append_left (List.getElem?_eq_some_iff.mp h).1]; exact h
theorem TS.app {sto t : List SO} {kr : Nat} {h Lg Rf : List (List Nat)} (S : TS sto t kr h Lg Rf) (g : List SO) : TS sto (t ++ g) kr h Lg Rf :=
 ⟨S.pre.trans (List.prefix_append _ _), get_app S.eh, get_app S.el, get_app S.er, S.r2⟩
theorem pre_set {s t : List SO} {k : Nat} {x : SO} (h : s <+: t) (hk : s.length ≤ k) : s <+: t.set k x := by
 obtain ⟨g, rfl⟩ := h
 rw [List.set_append_right _ _ hk]
 exact List.prefix_append _ _
theorem TS.seth {sto t : List SO} {kr : Nat} {h Lg Rf : List (List Nat)} (S : TS sto t kr h Lg Rf) (h' : List (List Nat)) : TS sto (jJA t sto.length V.str h') kr h' Lg Rf := by
 have r2 := S.r2
 exact ⟨pre_set S.pre (Nat.le_refl _), List.getElem?_set_self (List.getElem?_eq_some_iff.mp S.eh).1, by rw [List.getElem?_set_ne (by lia)]; exact S.el, by rw [List.getElem?_set_ne (by lia)]; exact S.er, r2⟩
theorem TS.setl {sto t : List SO} {kr : Nat} {h Lg Rf : List (List Nat)} (S : TS sto t kr h Lg Rf) (x : List Nat) : TS sto (t.set (sto.length + 1) (.list (Lg.map V.str ++ [.str x]))) kr h (Lg ++ [x]) Rf := by
 have r2 := S.r2
 exact ⟨pre_set S.pre (Nat.le_succ _), by rw [List.getElem?_set_ne (by lia)]; exact S.eh, by rw [List.getElem?_set_self (List.getElem?_eq_some_iff.mp S.el).1, List.map_append]; rfl, by rw [List.getElem?_set_ne (by lia)]; exact S.er, r2⟩
theorem TS.hs {sto t : List SO} {kr : Nat} {h Lg Rf : List (List Nat)} (S : TS sto t kr h Lg Rf) : jJA t sto.length V.str h = t := by
 have hk := (List.getElem?_eq_some_iff.mp S.eh)
 unfold jJA
 rw [← hk.2]; exact List.set_getElem_self _
theorem TS.lt {sto t : List SO} {kr : Nat} {h Lg Rf : List (List Nat)} (S : TS sto t kr h Lg Rf) : sto.length < t.length := (List.getElem?_eq_some_iff.mp S.eh).1
section
variable {C : Cst} {Γ : Fm} {loc loc1 : List (Option V)} {sto sto1 : List SO} {X X0 : XV → List (Option V) → List SO → Prop} {Q : V → List (Option V) → List SO → Prop}
theorem sOrd : HOrd C V.str sL := ⟨fun a b => wl_ltS R3⟩
noncomputable abbrev sl54 : List (Str × Option Addr) := [("texts", none), ("heap", none), ("log", none), ("refused", none), ("top", none), ("told", none), ("refusal", none)]
theorem n54a : (sc 54).names.lookup (Str.ofString "heapify") = some .globalImplicit := by kernel_rfl
theorem n54b : (sc 54).names.lookup (Str.ofString "_law_read") = some .globalImplicit := by kernel_rfl
theorem n54c : (sc 54).names.lookup (Str.ofString "heapreplace") = some .globalImplicit := by kernel_rfl
theorem n54d : (sc 54).names.lookup (Str.ofString "heappop") = some .globalImplicit := by kernel_rfl
structure GTk (C : Cst) (C1 C2 Eb : Addr) : Prop where
 d : Def C 278 54 ["texts"] ["heap", "log", "refused", "top", "told", "refusal"]
 rd : GRd C C1 C2 Eb
 hp : GHp C
 d7 : D7 C
 d8 : D8 C
 g7 : C.mg "heappop" = some (.ref 72)
 g8 : C.mg "heapreplace" = some (.ref 79)
 g9 : C.mg "heapify" = some (.ref 86)
 gr : C.mg "_law_read" = some (.ref 271)
noncomputable def wbT : List Stmt := match (bd 54).getD 2 (.Pass ⟨0, 0, 0, 0⟩) with | .While _ b _ _ => b | _ => []
noncomputable abbrev l54 (kt n kr : Nat) (a b c : Option V) : List (Option V) := [some (.lst kt), some (.lst n), some (.lst (n + 1)), some (.lst kr), a, b, c]
theorem t_tail {C1 C2 Eb : Addr} {A : Around} {env : Env} {frs : List Env} {own : List Addr} {room kt kr : Nat} {t : List SO} {top a b : List Nat} {tl Lg Rf : List (List Nat)} (G : GTk C C1 C2 Eb) (hr : 4 ≤ room) (hs : env.scope = sc 54) (S : TS sto t kr (top :: tl) Lg Rf) (hl : (top :: tl).length ≤ 1000) (hLg : Lg.length ≤ 9999) (hRf : Rf.length ≤ 10000)
  (hH : Hp sL [] 0 (top :: tl)) :
  WS C ⟨A, env, sl54, frs, own, room⟩ (l54 kt sto.length kr (some (.str top)) (some (.str a)) (some (.str b))) t (wbT.drop 3) (P2 (fun kr' (_ : List (List Nat)) => l54 kt sto.length kr' (some (.str top)) (some (.str a)) (some (.str b))) (fun kr' h' t' => TS sto t' kr' h' (Lg ++ [top]) (Rf ++ rfT b) ∧ h'.Perm (outT a b ++ tl) ∧ Hp sL [] 0 h')) No := by
 refine ws_hide fun Q hQ => ?_
 have step : ∃ h' : List (List Nat), h'.Perm (outT a b ++ tl) ∧ Hp sL [] 0 h' ∧ ∀ (st1 : Stmt) (rest : List Stmt), wbT.drop 3 = st1 :: rest → E1 C ⟨A, env, sl54, frs, own, room⟩ (l54 kt sto.length kr (some (.str top)) (some (.str a)) (some (.str b))) t st1 .next (l54 kt sto.length kr (some (.str top)) (some (.str a)) (some (.str b))) ((jJA t sto.length V.str h').set (sto.length + 1) (.list (Lg.map V.str ++ [.str top]))) := by
  have et : t = jJA t sto.length V.str (top :: tl) := S.hs.symm
  have hLg2 : (Lg.map V.str).length ≤ 10000 := by rw [List.length_map]; exact Nat.le_trans hLg (by decide)
  by_cases hb : b = []
  ·have q1 : (b == (Str.ofString "").cps.toList) = true := by rw [nil257, hb]; rfl
   obtain ⟨k1, k2⟩ := replace_ok sLin (w := a) (Hp.dflt (y := a) hH)
   refine ⟨_, by unfold outT; rw [if_pos hb]; exact k2, Hp.dflt k1, fun st1 rest e => ?_⟩
   unfold wbT at e
   cases e
   have cR := c_heapreplace (C := C) (Γ := ⟨A, env, sl54, frs, own, room⟩) (loc := l54 kt sto.length kr (some (.str top)) (some (.str a)) (some (.str b))) (w := a) sOrd G.hp G.d8 (Nat.le_trans (by decide) hr) S.lt hl
   rw [← et] at cR
   with_reducible exact e1_append rfl rfl .z2 (fun _ => star_IfExp) (fun _ => rfl) (ee_ifT (jR rfl (jD .z6 R3) (jQ R3) (wl_eqS ⟨q1, rfl, rfl⟩)) (jV G.d8 (jC (fun _ => jA) (jC (fun _ => jA) jN)) (jU hs n54c G.g8 jW (by decide)) (jE jA (jD .z1 R3) (jE jA (jD .z5 R3) jP)) cR)) ⟨_, S.el⟩ (S.seth _).el hLg2
  ·have q1 : (b == (Str.ofString "").cps.toList) = false := by rw [nil257]; exact beq_eq_false_iff_ne.mpr hb
   have main : ∀ h' : List (List Nat), EL C ⟨A, env, sl54, frs, own, room⟩ (l54 kt sto.length kr (some (.str top)) (some (.str a)) (some (.str b))) t (callF (.ref 72)) [.lst sto.length] (.str top) (l54 kt sto.length kr (some (.str top)) (some (.str a)) (some (.str b))) (jJA t sto.length V.str h') → ∀ (st1 : Stmt) (rest : List Stmt), wbT.drop 3 = st1 :: rest → E1 C ⟨A, env, sl54, frs, own, room⟩ (l54 kt sto.length kr (some (.str top)) (some (.str a)) (some (.str b))) t st1 .next (l54 kt sto.length kr (some (.str top)) (some (.str a)) (some (.str b))) ((jJA t sto.length V.str h').set (sto.length + 1) (.list (Lg.map V.str ++ [.str top]))) := fun h' cR st1 rest e => by
    unfold wbT at e
    cases e
    with_reducible exact e1_append rfl rfl .z2 (fun _ => star_IfExp) (fun _ => rfl) (ee_ifF (jR rfl (jD .z6 R3) (jQ R3) (wl_eqS ⟨q1, rfl, rfl⟩)) (jV G.d7 (jC (fun _ => jA) jN) (jU hs n54d G.g7 jW (by decide)) (jE jA (jD .z1 R3) jP) cR)) ⟨_, S.el⟩ (S.seth _).el hLg2
   have ho : outT a b = [] := if_neg hb
   rw [ho]
   rcases List.eq_nil_or_concat tl with rfl | ⟨tl', w, rfl⟩
   ·refine ⟨[], .refl _, fun i h0 hi => absurd hi (Nat.not_lt_zero _), main _ ?_⟩
    have cR := c_heappop1 (C := C) (Γ := ⟨A, env, sl54, frs, own, room⟩) (loc := l54 kt sto.length kr (some (.str top)) (some (.str a)) (some (.str b))) (f := V.str) (w := top) G.d7 (Nat.le_trans (by decide) hr) S.lt
    rw [← et] at cR
    exact cR
   ·rw [List.concat_eq_append] at hH hl et ⊢
    obtain ⟨k1, k2⟩ := pop_ok sLin (w := w) (tl := tl') (Hp.dflt (y := w) hH)
    refine ⟨_, k2.trans (List.perm_append_comm (l₁ := [w])), Hp.dflt k1, main _ ?_⟩
    have cR := c_heappop (C := C) (Γ := ⟨A, env, sl54, frs, own, room⟩) (loc := l54 kt sto.length kr (some (.str top)) (some (.str a)) (some (.str b))) (v := top) (tl := tl') (w := w) sOrd G.hp G.d7 (Nat.le_trans (by decide) hr) S.lt (by rw [List.length_cons, List.length_append] at hl; exact Nat.le_trans (Nat.succ_le_succ (Nat.le_add_right _ _)) hl)
    rw [List.cons_append, ← et] at cR
    exact cR
 refine un_1_3 (step) fun h' hp hH' step => ?_
 unfold wbT
 refine jG ((step _ _ (by unfold wbT; rfl)).use ?_)
 have S1 := (S.seth h').setl top
 generalize (jJA t sto.length V.str h').set (sto.length + 1) (.list (Lg.map V.str ++ [.str top])) = t1 at S1
 have hl2 : [(Str.ofString "").cps.toList, (Str.ofString "row").cps.toList] = [[], rwT] := by rw [nil257, lrow]
 have S2 := S1.app [SO.list ([(Str.ofString "").cps.toList, (Str.ofString "row").cps.toList].map V.str)]
 have fin : ∀ g : List (List Nat), rfT b = g → TS sto (t1 ++ [SO.list ([(Str.ofString "").cps.toList, (Str.ofString "row").cps.toList].map V.str)] ++ [SO.list (g.map V.str)] ++ [SO.list (Rf.map V.str ++ g.map V.str)]) (t1 ++ [SO.list ([(Str.ofString "").cps.toList, (Str.ofString "row").cps.toList].map V.str)] ++ [SO.list (g.map V.str)]).length h' (Lg ++ [top]) (Rf ++ rfT b) := fun g e => by
  have S3 := (S2.app [SO.list (g.map V.str)]).app [SO.list (Rf.map V.str ++ g.map V.str)]
  refine ⟨S3.pre, S3.eh, S3.el, by rw [jIA, e, List.map_append], ?_⟩
  have h1 := (List.getElem?_eq_some_iff.mp S1.el).1
  rw [List.length_append, List.length_append]; show _ ≤ _ + 1 + 1; lia
 have lg : ∀ g : List (List Nat), g.length ≤ 1 → (Rf.map V.str).length + (g.map V.str).length ≤ 100000 := fun g hg => by rw [List.length_map, List.length_map]; lia
 by_cases hb : b = [] ∨ b = rwT
 ·have q : (!([(Str.ofString "").cps.toList, (Str.ofString "row").cps.toList].any (· == b))) = false := by rw [hl2]; rcases hb with rfl | rfl <;> rfl
  refine jG (W.use (b := Out.next) ?_ (ws_nil (hQ _ _ _ ⟨rfl, _, h', rfl, fin [] (if_pos hb), hp, hH'⟩)))
  with_reducible exact jY (fun _ => rfl) (jFA (sl := sl54) rfl) (jO (jD .z3 R3) (ee_ifF (jR rfl (jD .z6 R3) (jEA (jE jB (jQ R3) (jE jB (jQ R3) jP)) (Nat.le_of_ble_eq_true rfl)) (wl_notinS jIA ⟨q, rfl, rfl⟩)) (jEA jP (Nat.le_of_ble_eq_true rfl))) (wl_addL (S2.app _).er jIA (lg [] (Nat.zero_le _)) R3)) .z3
 ·have q : (!([(Str.ofString "").cps.toList, (Str.ofString "row").cps.toList].any (· == b))) = true := by
   rw [hl2]
   simp only [List.any_cons, List.any_nil, Bool.or_false, Bool.not_eq_true', Bool.or_eq_false_iff, beq_eq_false_iff_ne]
   exact ⟨fun q => hb (.inl q.symm), fun q => hb (.inr q.symm)⟩
  refine jG (W.use (b := Out.next) ?_ (ws_nil (hQ _ _ _ ⟨rfl, _, h', rfl, fin [b] (if_neg hb), hp, hH'⟩)))
  with_reducible exact jY (fun _ => rfl) (jFA (sl := sl54) rfl) (jO (jD .z3 R3) (ee_ifT (jR rfl (jD .z6 R3) (jEA (jE jB (jQ R3) (jE jB (jQ R3) jP)) (Nat.le_of_ble_eq_true rfl)) (wl_notinS jIA ⟨q, rfl, rfl⟩)) (jEA (jE jA (jD .z6 R3) jP) (Nat.le_of_ble_eq_true rfl))) (wl_addL (S2.app _).er jIA (lg [b] (Nat.le_refl _)) R3)) .z3
end
end Mine
namespace Mine
open PySem PySem.W PyProof.Rows PySem.Calls
inductive RTk (x : List Nat) : List (List Nat) → List (List Nat) → Prop
 | row (h : x.take 1 ≠ [50]) : RTk x [] []
 | read {a b : List Nat} (h : RdT x a b) : RTk x (outT a b) (rfT b)
section
variable {α β : Type} {C : Cst} {Γ : Fm} {loc loc1 : List (Option V)} {sto sto1 : List SO} {X X0 : XV → List (Option V) → List SO → Prop} {Q : V → List (Option V) → List SO → Prop}
theorem jX {f : List Value → Sem α} {args : List V} {R : List Addr → Heap → β → α → Prop} {Q Q' : β → List (Option V) → List SO → Prop} {X X' : XV → List (Option V) → List SO → Prop}
  (h : WL C Γ loc sto f args R Q X) (hq : ∀ b l s, Q b l s → Q' b l s) (hx : ∀ b l s, X b l s → X' b l s) : WL C Γ loc sto f args R Q' X' := fun s as xs F r =>
 wpAny_mono (h s as xs F r) (fun _ _ ⟨a, b, c, d, e, f, g⟩ => ⟨a, b, c, d, e, f, hq _ _ _ g⟩) fun _ _ ⟨a, b, c, d, e, f, g⟩ => ⟨a, b, c, d, e, f, hx _ _ _ g⟩
theorem slc_all {γ : Type} (x : List γ) : slc x none none = x := by unfold slc; simp
theorem top_uniq {top top' : List Nat} {tl R : List (List Nat)} (hp : (top :: tl).Perm (top' :: R)) (hm : ∀ y ∈ R, ¬ y < top') (hH : Hp sL [] 0 (top :: tl)) : top = top' ∧ tl.Perm R := by
 have e : top = top' := by
  have h1 : ¬ top < top' := by
   rcases List.mem_cons.mp (hp.mem_iff.mp (.head _)) with h | h
   ·rw [h]; exact List.lt_irrefl _
   ·exact hm _ h
  have h2 : ¬ top' < top := by
   rcases List.mem_cons.mp (hp.symm.mem_iff.mp (.head _)) with h | h
   ·rw [h]; exact List.lt_irrefl _
   ·exact of_decide_eq_false (Hp.min sLin hH _ h)
  exact List.le_antisymm (List.not_lt.mp h2) (List.not_lt.mp h1)
 subst e
 exact ⟨rfl, (List.perm_cons top).mp hp⟩
theorem take1_cases {x : List Nat} {b : Bool} (h : decide (x.take 1 = [50]) = b) : (slc x none (some 1) == (Str.ofString "2").cps.toList) = b := by
 rw [show (1 : Int) = ((1 : Nat) : Int) from rfl, slc_to, show (Str.ofString "2").cps.toList = [50] by decide, ← h]
 cases e : (x.take 1 == [50]) with
 | true => exact (decide_eq_true (eq_of_beq e)).symm
 | false => exact (decide_eq_false (beq_eq_false_iff_ne.mp e)).symm
theorem t_turn {C1 C2 Eb : Addr} {A : Around} {env : Env} {frs : List Env} {own : List Addr} {room kt kr : Nat} {t : List SO} {top : List Nat} {o1 o2 o3 : Option V} {tl Lg Rf out rf : List (List Nat)} (G : GTk C C1 C2 Eb) (hr : 4 ≤ room) (hs : env.scope = sc 54) (S : TS sto t kr (top :: tl) Lg Rf) (hl : (top :: tl).length ≤ 1000) (hLg : Lg.length ≤ 9999) (hRf : Rf.length ≤ 10000) (htop : top.length ≤ 1000)
  (hH : Hp sL [] 0 (top :: tl)) (hT : RTk top out rf) :
  WS C ⟨A, env, sl54, frs, own, room⟩ (l54 kt sto.length kr o1 o2 o3) t wbT (P5 (fun kr' (_ : List (List Nat)) o1 o2 o3 => l54 kt sto.length kr' o1 o2 o3) (fun kr' h' _ _ _ t' => TS sto t' kr' h' (Lg ++ [top]) (Rf ++ rf) ∧ h'.Perm (out ++ tl) ∧ Hp sL [] 0 h')) No := by
 refine ws_hide fun Q hQ => ?_
 have hg : ((top :: tl).map V.str)[(0 : Int).toNat]? = some (.str top) := rfl
 have htl : top.length ≤ 16777216 := Nat.le_trans htop (by decide)
 have tail : ∀ (t' : List SO) (a b : List Nat), TS sto t' kr (top :: tl) Lg Rf → outT a b = out → rfT b = rf → WS C ⟨A, env, sl54, frs, own, room⟩ (l54 kt sto.length kr (some (.str top)) (some (.str a)) (some (.str b))) t' (wbT.drop 3) Q No := fun t' a b S' e1 e2 => by
  subst e1; subst e2
  exact w_mono (t_tail G hr hs S' hl hLg hRf hH) (fun o l t q => by obtain ⟨q1, kr', h', q2, q3⟩ := q; exact hQ _ _ _ ⟨q1, kr', h', _, _, _, q2, q3⟩) fun _ _ _ h => h
 unfold wbT
 refine jG (W.use (b := Out.next) (loc1 := l54 kt sto.length kr (some (.str top)) o2 o3) (sto1 := t) ?_ ?_)
 ·with_reducible exact jY (fun _ => rfl) (jFA (sl := sl54) rfl) (ee_sub (jD .z1 R3) (jF R3) (jKA nsl_Constant S.eh (by decide) (by decide) hg R3)) .z4
 cases hT with
 | row h =>
  have q : (slc top none (some 1) == (Str.ofString "2").cps.toList) = false := take1_cases (decide_eq_false h)
  refine jG (W.use (b := Out.next) (loc1 := l54 kt sto.length kr (some (.str top)) (some (.str (Str.ofString "").cps.toList)) (some (.str (Str.ofString "row").cps.toList))) (sto1 := t) ?_ (jG (W.use (b := Out.next) (loc1 := l54 kt sto.length kr (some (.str top)) (some (.str (Str.ofString "").cps.toList)) (some (.str (Str.ofString "row").cps.toList))) (sto1 := t) ?_ (tail t _ _ S ?_ ?_))))
  ·refine e1_assign_tuple rfl rfl (loc1 := l54 kt sto.length kr (some (.str top)) o2 o3) (sto1 := t) (v := .tup [.str (Str.ofString "").cps.toList, .str (Str.ofString "row").cps.toList]) ?_ ?_
   ·with_reducible exact ee_ifF (jR rfl (jS (jD .z4 R3) jZ (jAA (jF R3)) jZ (wsl_str .none (.int 1) htl R3)) (jQ R3) (wl_eqS ⟨q, rfl, rfl⟩)) (jT (jE jB (jQ R3) (jE jB (jQ R3) jP)) (Nat.le_of_ble_eq_true rfl))
   ·with_reducible exact eu_pair .z5 .z6 rfl
  ·with_reducible exact e1_ifF (et_andF (jR rfl (jS (jD .z4 R3) jZ (jAA (jF R3)) jZ (wsl_str .none (.int 1) htl R3)) (jQ R3) (wl_eqS ⟨q, rfl, rfl⟩))) es_nil
  ·rw [nil257, lrow]; rfl
  ·rw [lrow]; rfl
 | @read a b h =>
  have q : (slc top none (some 1) == (Str.ofString "2").cps.toList) = true := take1_cases (decide_eq_true h.two)
  refine jG (w1_assign_tuple rfl rfl (we_ifexp (W.use (b := true) (loc1 := l54 kt sto.length kr (some (.str top)) o2 o3) (sto1 := t) ?_ (we_callD (loc1 := l54 kt sto.length kr (some (.str top)) o2 o3) (sto1 := t) G.rd.d (jC (fun _ => jA) (jC (fun _ => jI) jN)) (jU hs n54b G.gr jW (by decide)) (vs := [.str top, .str (top.take 3)]) ?_ (jX (c_read G.rd (Nat.le_trans (by decide) hr) htop h.own) (fun v l t' q => ?_) fun _ _ _ h => h)))))
  ·with_reducible exact jR rfl (jS (jD .z4 R3) jZ (jAA (jF R3)) jZ (wsl_str .none (.int 1) htl R3)) (jQ R3) (wl_eqS ⟨q, rfl, rfl⟩)
  ·rw [← slc_to]
   with_reducible exact jE jA (jD .z4 R3) (jE jI (jS (jD .z4 R3) jZ (jAA (jF R3)) jZ (wsl_str .none (.int _) htl R3)) jP)
  refine un_0_3 (q) fun e519x0 e519x1 c519x => ?_; (try clear q); refine un_1_1 c519x fun g e519x3 => ?_; clear c519x; subst e519x0; subst e519x1; subst e519x3
  refine (eu_pair (loc1 := l54 kt sto.length kr (some (.str top)) (some (.str a)) o3) (loc2 := l54 kt sto.length kr (some (.str top)) (some (.str a)) (some (.str b))) .z5 .z6 rfl).use (jG (jGA (wt_and (W.use (b := true) (loc1 := l54 kt sto.length kr (some (.str top)) (some (.str a)) (some (.str b))) (sto1 := t ++ g) ?_ (wt_and (wt_cmp rfl (we_callD (loc1 := l54 kt sto.length kr (some (.str top)) (some (.str a)) (some (.str b))) (sto1 := t ++ g) G.rd.d (jC (fun _ => jA) (jC (fun _ => star_IfExp) jN)) (jU hs n54b G.gr jW (by decide)) (vs := [.str top, .str (othT top)]) ?_ (jX (c_read G.rd (Nat.le_trans (by decide) hr) htop h.oth) (fun v l t' q => ?_) fun _ _ _ h => h))))))))
  ·with_reducible exact jR rfl (jS (jD .z4 R3) jZ (jAA (jF R3)) jZ (wsl_str .none (.int 1) htl R3)) (jQ R3) (wl_eqS ⟨q, rfl, rfl⟩)
  ·have hsl : slc top none (some 3) = top.take 3 := slc_to top 3
   by_cases h3 : top.take 3 = [50, 53, 55]
   ·have q3 : (slc top none (some 3) == (Str.ofString "257").cps.toList) = true := by rw [hsl, l257, h3]; rfl
    rw [show othT top = (Str.ofString "229").cps.toList by rw [l229]; exact if_pos h3]
    with_reducible exact jE jA (jD .z4 R3) (jE star_IfExp (ee_ifT (jR rfl (jS (jD .z4 R3) jZ (jAA (jF R3)) jZ (wsl_str .none (.int 3) htl R3)) (jQ R3) (wl_eqS ⟨q3, rfl, rfl⟩)) (jQ R3)) jP)
   ·have q3 : (slc top none (some 3) == (Str.ofString "257").cps.toList) = false := by rw [hsl, l257]; exact beq_eq_false_iff_ne.mpr h3
    rw [show othT top = (Str.ofString "257").cps.toList by rw [l257]; exact if_neg h3]
    with_reducible exact jE jA (jD .z4 R3) (jE star_IfExp (ee_ifF (jR rfl (jS (jD .z4 R3) jZ (jAA (jF R3)) jZ (wsl_str .none (.int 3) htl R3)) (jQ R3) (wl_eqS ⟨q3, rfl, rfl⟩)) (jQ R3)) jP)
  refine un_0_3 (q) fun e520x0 e520x1 c520x => ?_; (try clear q); refine un_1_1 c520x fun g2 e520x3 => ?_; clear c520x; subst e520x0; subst e520x1; subst e520x3
  have hrl : (Str.ofString "reply: ").cps.toList.length + top.length ≤ 16777216 := by rw [show (Str.ofString "reply: ").cps.toList.length = 7 by decide]; lia
  refine W.use (b := V.tup [.str (Str.ofString "").cps.toList, .str (rpl ++ top)]) (loc1 := l54 kt sto.length kr (some (.str top)) (some (.str a)) (some (.str b))) (sto1 := t ++ g ++ g2) ?_ (wl_neT2 ?_)
  ·with_reducible exact jT (jE jB (jQ R3) (jE jH (jO (jQ R3) (jD .z4 R3) (jNA hrl R3)) jP)) (Nat.le_of_ble_eq_true rfl)
  have qf : (!(([] : List Nat) == (Str.ofString "").cps.toList && rpl ++ top == rpl ++ top)) = false := by rw [nil257]; simp
  rw [qf]
  exact ws_nil (tail _ a b ((S.app g).app g2) rfl rfl)
end
end Mine
namespace Mine
open PySem PySem.W PyProof.Rows PySem.Calls
inductive TkI (sto : List SO) (kt : Nat) (LOG REF : List (List Nat)) (m : Nat) (l : List (Option V)) (t : List SO) : Prop
 | mk (kr : Nat) (h Lg Rf lg rf : List (List Nat)) (o1 o2 o3 : Option V) (hl : l = l54 kt sto.length kr o1 o2 o3) (S : TS sto t kr h Lg Rf) (H : Hp sL [] 0 h) (R : Runs h lg rf) (h1 : h.length ≤ 1000) (e1 : Lg ++ lg = LOG) (e2 : Rf ++ rf = REF) (e3 : m = lg.length) (h2 : Rf.length ≤ Lg.length)
section
variable {C : Cst} {Γ : Fm} {loc loc1 : List (Option V)} {sto sto1 : List SO}
theorem lEq_nil {h : List (List Nat)} {b : Bool} (e : (!h.isEmpty) = b) : (!lEq (h.map V.str) []) = b := by
 subst e
 cases h <;> rfl
theorem c_taken {C1 C2 Eb : Addr} {kt : Nat} {ws LOG REF : List (List Nat)} (G : GTk C C1 C2 Eb) (hN : ∀ x out rf, Nx1 x out rf → RTk x out rf) (hroom : 5 ≤ Γ.room) (hk : sto[kt]? = some (.list (ws.map V.str))) (hw : ws.length ≤ 1000) (hR : Runs ws LOG REF) (hL : LOG.length ≤ 9999) :
  WL C Γ loc sto (callF (.ref 278)) [.lst kt] VR (fun v l t => l = loc ∧ Ex3 fun i j g => v = .tup [.lst i, .lst j] ∧ t = sto ++ g ∧ t[i]? = some (.list (LOG.map V.str)) ∧ t[j]? = some (.list (REF.map V.str))) No := by
 refine wl_hide fun Q hQ => ?_
 refine wl_def G.d (Nat.le_trans (by decide) hroom) rfl fun A env frs own hs => ?_
 show WS C ⟨A, env, sl54, frs, own, Γ.room - 1⟩ [some (.lst kt), none, none, none, none, none, none] sto (bd 54) _ No
 have hr4 : 4 ≤ Γ.room - 1 := Nat.le_sub_of_add_le hroom
 have e3 : ∀ a b c : SO, (sto ++ [a] ++ [b] ++ [c]) = sto ++ [a, b, c] := fun a b c => by rw [List.append_assoc, List.append_assoc]; rfl
 have l1 : (sto ++ [SO.list (ws.map V.str)]).length = sto.length + 1 := by rw [List.length_append]; rfl
 have l2 : (sto ++ [SO.list (ws.map V.str)] ++ [SO.list []]).length = sto.length + 1 + 1 := by rw [List.length_append, l1]; rfl
 have S0 : TS sto (sto ++ [.list (ws.map V.str)] ++ [.list []] ++ [.list []]) (sto.length + 1 + 1) ws [] [] := by
  refine ⟨⟨[SO.list (ws.map V.str), .list [], .list []], (e3 _ _ _).symm⟩, get_app (get_app jIA), get_app ?_, ?_, Nat.le_refl _⟩
  ·rw [← l1]; exact jIA
  ·rw [← l2]; exact jIA
 refine jG (W.use (b := Out.next) (loc1 := l54 kt sto.length (sto.length + 1 + 1) none none none) (sto1 := sto ++ [.list (ws.map V.str)] ++ [.list []] ++ [.list []]) ?_ ?_)
 ·refine e1_assign_swap (names := ["heap", "log", "refused"]) (vs := [.lst sto.length, .lst (sto.length + 1), .lst (sto.length + 1 + 1)]) (loc1 := [some (.lst kt), none, none, none, none, none, none]) (sto1 := sto ++ [.list (ws.map V.str)] ++ [.list []] ++ [.list []]) rfl ?_ ?_ rfl ?_
  ·unfold swappedStores Env.blockKind Env.kindOf
   rw [hs]
   kernel_rfl
  ·have hwl : (ws.map V.str).length ≤ 100000 := by rw [List.length_map]; exact Nat.le_trans hw (by decide)
   have hws : slc (ws.map V.str) none none = ws.map V.str := slc_all _
   rw [show [V.lst sto.length, .lst (sto.length + 1), .lst (sto.length + 1 + 1)] = [V.lst sto.length, .lst (sto ++ [SO.list (ws.map V.str)]).length, .lst (sto ++ [SO.list (ws.map V.str)] ++ [SO.list []]).length] by rw [l1, l2]]
   with_reducible exact jT (jE jI (jS (jD .zero R3) jZ jZ jZ (jOA hk .none .none hwl ⟨rfl, rfl, by rw [hws]⟩)) (jE jL (jEA jP (Nat.le_of_ble_eq_true rfl)) (jE jL (jEA jP (Nat.le_of_ble_eq_true rfl)) jP))) (Nat.le_of_ble_eq_true rfl)
  ·exact eu_cons (eu_bind .z3 (jFA (sl := sl54) rfl)) (eu_cons (eu_bind .z2 (jFA (sl := sl54) rfl)) (eu_cons (eu_bind .z1 (jFA (sl := sl54) rfl)) (eu_nil rfl)))
 obtain ⟨H0, hH0⟩ : ∃ R, hpf sL [] (ws.length / 2) ws = R := ⟨_, rfl⟩
 have hhp := heapify_ok sLin (x := ([] : List Nat)) (h := ws)
 rw [hH0] at hhp
 refine jG (W.use (b := Out.next) (loc1 := l54 kt sto.length (sto.length + 1 + 1) none none none) (sto1 := jJA (sto ++ [.list (ws.map V.str)] ++ [.list []] ++ [.list []]) sto.length V.str H0) ?_ (jG ?_))
 ·have cH := c_heapify (C := C) (Γ := ⟨A, env, sl54, frs, own, Γ.room - 1⟩) (loc := l54 kt sto.length (sto.length + 1 + 1) none none none) sOrd G.hp sLin hH0 (Nat.le_trans (by decide) hr4) S0.lt hw
  rw [S0.hs] at cH
  with_reducible exact e1_expr (fun _ => rfl) (jV G.hp.d9 (jC (fun _ => jA) jN) (jU hs n54a G.g9 jW (by decide)) (jE jA (jD .z1 R3) jP) cH)
 have S1 := S0.seth H0
 generalize jJA (sto ++ [.list (ws.map V.str)] ++ [.list []] ++ [.list []]) sto.length V.str H0 = t1 at S1
 refine w1_while (TkI sto kt LOG REF) LOG.length ⟨_, H0, [], [], LOG, REF, none, none, none, rfl, S1, hhp.1, hR.perm hhp.2, by rw [hhp.2.length_eq]; exact hw, rfl, rfl, rfl, Nat.le_refl _⟩ ?_
 rintro m l t ⟨kr, h, Lg, Rf, lg, rf, o1, o2, o3, rfl, S, hH, hRn, hlen, hLg, hRf, rfl, hrl⟩
 have Sn := S.app [.list []]
 have sm : ∀ (i : Nat) v u, (h.map V.str)[i]? = some v → ([] : List V)[i]? = some u → SameB v u := fun i v u _ q => by cases q
 refine W.use (b := !h.isEmpty) (loc1 := l54 kt sto.length kr o1 o2 o3) (sto1 := t ++ [.list []]) ?_ ?_
 ·with_reducible exact jR rfl (jD .z1 R3) (jEA jP (Nat.le_of_ble_eq_true rfl)) (wl_neL Sn.eh jIA sm ⟨lEq_nil rfl, rfl, rfl⟩)
 cases h with
 | nil =>
  cases hRn with
  | step hp => exact absurd hp.length_eq (Nat.succ_ne_zero _).symm
  | nil =>
   rw [List.append_nil] at hLg hRf
   subst hLg; subst hRf
   obtain ⟨g, rfl⟩ := S.pre
   refine ws_nil (jG (w1_ret (W.use (b := V.tup [.lst (sto.length + 1), .lst kr]) (loc1 := l54 kt sto.length kr o1 o2 o3) (sto1 := sto ++ g ++ [.list []]) ?_ ⟨_, rfl, hQ _ _ _ ⟨rfl, _, _, g ++ [.list []], rfl, List.append_assoc _ _ _, Sn.el, Sn.er⟩⟩)))
   with_reducible exact jT (jE jA (jD .z2 R3) (jE jA (jD .z3 R3) jP)) (Nat.le_of_ble_eq_true rfl)
 | cons top tl =>
  cases hRn with
  | @step _ R out rf0 log0 ref0 top' hp htop hm hn hr =>
   obtain ⟨rfl, hp2⟩ := top_uniq hp hm hH
   have hT := hN _ _ _ hn
   have hol : out.length ≤ 1 := by
    cases hT with
    | row => exact Nat.zero_le _
    | read => unfold outT; split <;> simp
   have hrf : rf0.length ≤ 1 := by
    cases hT with
    | row => exact Nat.zero_le _
    | read => unfold rfT; split <;> simp
   have hLl : Lg.length + (log0.length + 1) = LOG.length := by rw [← hLg, List.length_append]; rfl
   refine w_mono (t_turn G hr4 hs Sn hlen (by lia) (by lia) htop hH hT) (fun o l t' q => ?_) fun _ _ _ h => h
   obtain ⟨rfl, kr', h', o1, o2, o3, rfl, S', hp', hH'⟩ := q
   refine ⟨log0.length, Nat.lt_succ_self _, kr', h', Lg ++ [top], Rf ++ rf0, log0, ref0, o1, o2, o3, rfl, S', hH', hr.perm (hp'.trans (hp2.append_left out)), ?_, ?_, ?_, rfl, ?_⟩
   ·rw [hp'.length_eq, List.length_append]; rw [List.length_cons] at hlen; lia
   ·rw [List.append_assoc]; exact hLg
   ·rw [List.append_assoc]; exact hRf
   ·rw [List.length_append, List.length_append]; show _ ≤ _ + 1; lia
end
end Mine
namespace Mine
open PySem PySem.W PyProof.Rows PySem.Calls
section
variable {C : Cst} {Γ : Fm} {loc loc1 : List (Option V)} {sto sto1 : List SO}
noncomputable def CompQ (C : Cst) (Γ : Fm) (elt target : Expr) (ifs : List Expr) (scope : Scope) (cl : List (Str × Addr)) (sl0 : List (Str × Option Addr)) (fin : Nat → List (Option V) → List SO → Prop) : ItQ := fun n vals adv Cond l1 t1 => ∃ (loc0 : List (Option V)) (Inv : Nat → List (Option V) → List SO → Prop), Cap Γ.sl l1 sl0 loc0 ∧ Inv 0 loc0 (t1 ++ [.list []]) ∧ (∀ i l t, i ≤ n → Inv i l t → Cond i t) ∧
  (∀ Cl i l t, i < n → Inv i l t → WL C (compΓ Γ scope cl Cl sl0) l (adv i t) (f1 (assign target (compΓ Γ scope cl Cl sl0).env)) [vals i] RU (fun _ l2 t2 =>
   W C (compΓ Γ scope cl Cl sl0) l2 t2 (compT ifs (compΓ Γ scope cl Cl sl0).env) RT (fun ok l3 t3 => match ok with
    | true => WE C (compΓ Γ scope cl Cl sl0) l3 t3 elt (fun v l4 t4 => ∃ items, t4[t1.length]? = some (.list items) ∧ items.length ≤ 10000 ∧ Inv (i + 1) l4 (t4.set t1.length (.list (items ++ [v])))) (fun _ _ _ => False)
    | false => Inv (i + 1) l3 t3) (fun _ _ _ => False)) (fun _ _ _ => False)) ∧
  (∀ l t, Inv n l t → fin t1.length l1 (adv n t))
structure Turn (C : Cst) (Γ : Fm) (P : List (Option V) → Prop) (target elt : Expr) (ifs : List Expr) (x v : V) (b : Bool) (l : List (Option V)) (t : List SO) : Prop where
 go : ∃ l2, P l2 ∧ EU C Γ l t (f1 (assign target Γ.env)) [x] l2 t ∧ W C Γ l2 t (compT ifs Γ.env) RT (Is b l2 t) No ∧ (b = true → EE C Γ l2 t elt v l2 t)
theorem run_of {fin : Nat → List (Option V) → List SO → Prop} {elt target iter : Expr} {ifs : List Expr} {scope : Scope} {cl : List (Str × Addr)} {sl0 : List (Str × Option Addr)} (h : WIt C Γ loc sto target iter (CompQ C Γ elt target ifs scope cl sl0 fin)) : CompRun C Γ loc sto elt target iter ifs scope cl sl0 fin := h
theorem runG {Z : Prop} {fin : Nat → List (Option V) → List SO → Prop} {elt target : Expr} {ifs : List Expr} {scope : Scope} {cl : List (Str × Addr)} {sl0 : List (Str × Option Addr)} {loc0 : List (Option V)} {n : Nat} {vals g : Nat → V} {p : Nat → Bool} {acc : Nat → List V} {Cond : Nat → List SO → Prop} (P : List (Option V) → Prop)
  (hW : CompQ C Γ elt target ifs scope cl sl0 fin n vals (fun _ t => t) Cond loc1 sto1 → Z) (hC : ∀ i x, Cond i (sto1 ++ [x])) (hcap : Cap Γ.sl loc1 sl0 loc0) (hP : P loc0) (hn : n ≤ 1000) (a0 : acc 0 = []) (as' : ∀ i, i < n → acc (i + 1) = if p i = true then acc i ++ [g i] else acc i)
  (turn : ∀ Cl i l t, i < n → P l → t = sto1 ++ [.list (acc i)] → Turn C (compΓ Γ scope cl Cl sl0) P target elt ifs (vals i) (g i) (p i) l t) :
  fin sto1.length loc1 (sto1 ++ [.list (acc n)]) → Z := fun hfin => by
 have hlen : ∀ i, i ≤ n → (acc i).length ≤ i := fun i => by
  induction i with
  | zero => intro _; rw [a0]; exact Nat.le_refl _
  | succ i ih =>
   intro h
   have := ih (Nat.le_of_succ_le h)
   rw [as' i h]
   split
   ·rw [List.length_append]; exact Nat.succ_le_succ this
   ·exact Nat.le_succ_of_le this
 refine (hW ⟨loc0, fun i l t => P l ∧ t = sto1 ++ [.list (acc i)], hcap, ⟨hP, by rw [a0]⟩, fun i l t _ h => by rw [h.2]; exact hC i _, fun Cl i l t hi h => ?_, fun l t h => ?_⟩)
 ·obtain ⟨hl, rfl⟩ := h
  refine un_1_4 ((turn Cl i l _ hi hl rfl).go) fun l2 hl2 h1 h2 h3 => ?_
  refine h1.use (h2.use ?_)
  have ha := as' i hi
  cases hp : p i with
  | false => rw [hp] at ha; exact ⟨hl2, by rw [ha]; rfl⟩
  | true =>
   rw [hp] at ha
   refine (h3 hp).use ⟨acc i, jIA, Nat.le_trans (hlen i (Nat.le_of_lt hi)) (by lia), hl2, ?_⟩
   rw [List.set_append_right _ _ (Nat.le_refl _), Nat.sub_self, ha]; rfl
 ·obtain ⟨hl, rfl⟩ := h
  exact hfin
theorem ee_compG {elt target iter : Expr} {ifs : List Expr} {scope : Scope} {pos : Pos} {cl : List (Str × Addr)} {sl0 : List (Str × Option Addr)} {loc0 : List (Option V)} {n : Nat} {vals g : Nat → V} {p : Nat → Bool} {acc : Nat → List V} {Cond : Nat → List SO → Prop} (P : List (Option V) → Prop) (hf : ∀ env x, foldedSetIterable iter env x = pure x) (ok : CompOk C Γ scope cl sl0)
  (hW : ∀ QI : ItQ, QI n vals (fun _ t => t) Cond loc1 sto1 → WIt C Γ loc sto target iter QI) (hC : ∀ i x, Cond i (sto1 ++ [x])) (hcap : Cap Γ.sl loc1 sl0 loc0) (hP : P loc0) (hn : n ≤ 1000) (a0 : acc 0 = []) (as' : ∀ i, i < n → acc (i + 1) = if p i = true then acc i ++ [g i] else acc i)
  (turn : ∀ Cl i l t, i < n → P l → t = sto1 ++ [.list (acc i)] → Turn C (compΓ Γ scope cl Cl sl0) P target elt ifs (vals i) (g i) (p i) l t) :
  EE C Γ loc sto (.ListComp elt [⟨target, iter, ifs, 0⟩] scope pos) (.lst sto1.length) loc1 (sto1 ++ [.list (acc n)]) 
 := we_comp hf ok (run_of (fin := fun k l t => V.lst k = .lst sto1.length ∧ l = loc1 ∧ t = sto1 ++ [.list (acc n)]) <| runG (fin := fun k l t => V.lst k = .lst sto1.length ∧ l = loc1 ∧ t = sto1 ++ [.list (acc n)]) P (hW _) hC hcap hP hn a0 as' turn R3)
theorem runL {α : Type} {F G : α → V} {p : α → Bool} {xs : List α} {fin : Nat → List (Option V) → List SO → Prop} {elt target : Expr} {ifs : List Expr} {scope : Scope} {cl : List (Str × Addr)} {sl0 : List (Str × Option Addr)} {loc0 : List (Option V)} {k : Nat} (P : List (Option V) → Prop)
  (hk : sto1[k]? = some (.list (xs.map F))) (hcap : Cap Γ.sl loc1 sl0 loc0) (hP : P loc0) (hn : xs.length ≤ 1000)
  (turn : ∀ Cl x l t, x ∈ xs → P l → Turn C (compΓ Γ scope cl Cl sl0) P target elt ifs (F x) (G x) (p x) l t) (hfin : fin sto1.length loc1 (sto1 ++ [.list ((xs.filter p).map G)])) : VIt C Γ loc1 sto1 target (.lst k) (CompQ C Γ elt target ifs scope cl sl0 fin) := by
 have hx : ∀ i (h : i < xs.length), (xs.map F)[i]?.getD .none = F xs[i] := fun i h => by rw [List.getElem?_map, List.getElem?_eq_getElem h]; rfl
 refine runG (fin := fin) (target := target) (elt := elt) (ifs := ifs) (n := xs.length) (vals := fun i => (xs.map F)[i]?.getD .none) (g := fun i => ((xs[i]?).map G).getD .none) (p := fun i => ((xs[i]?).map p).getD false) (acc := fun i => ((xs.take i).filter p).map G) (Cond := fun _ t => t[k]? = some (.list (xs.map F))) P
  (fun h => vit_list hk (by rw [List.length_map]; exact h)) (fun i x => by show (sto1 ++ [x])[k]? = _; rw [List.getElem?_append_left (List.getElem?_eq_some_iff.mp hk).1]; exact hk) hcap hP hn rfl (fun i hi => ?_) (fun Cl i l t hi hl ht => ?_) (by rw [List.take_length]; exact hfin)
 ·show ((xs.take (i + 1)).filter p).map G = _
  simp only [List.take_add_one, List.getElem?_eq_getElem hi, Option.toList_some, List.filter_append, List.map_append, Option.map_some, Option.getD_some]
  cases e : p xs[i] with
  | true => rw [if_pos rfl, List.filter_cons_of_pos e]; rfl
  | false => rw [if_neg Bool.false_ne_true, List.filter_cons_of_neg (by rw [e]; exact Bool.false_ne_true)]; exact List.append_nil _
 ·have := turn Cl xs[i] l t (List.getElem_mem hi) hl
  show Turn C _ P target elt ifs ((xs.map F)[i]?.getD .none) (((xs[i]?).map G).getD .none) (((xs[i]?).map p).getD false) l t
  rw [hx i hi, List.getElem?_eq_getElem hi]
  exact this
theorem ee_compL {α : Type} {F G : α → V} {p : α → Bool} {xs : List α} {elt target iter : Expr} {ifs : List Expr} {scope : Scope} {pos : Pos} {cl : List (Str × Addr)} {sl0 : List (Str × Option Addr)} {loc0 : List (Option V)} {k : Nat} (P : List (Option V) → Prop) (hf : ∀ env x, foldedSetIterable iter env x = pure x) (ok : CompOk C Γ scope cl sl0)
  (hit : EE C Γ loc sto iter (.lst k) loc1 sto1) (hk : sto1[k]? = some (.list (xs.map F))) (hcap : Cap Γ.sl loc1 sl0 loc0) (hP : P loc0) (hn : xs.length ≤ 1000)
  (turn : ∀ Cl x l t, x ∈ xs → P l → Turn C (compΓ Γ scope cl Cl sl0) P target elt ifs (F x) (G x) (p x) l t) :
  EE C Γ loc sto (.ListComp elt [⟨target, iter, ifs, 0⟩] scope pos) (.lst sto1.length) loc1 (sto1 ++ [.list ((xs.filter p).map G)]) :=
 we_comp hf ok (run_of (fin := fun k l t => V.lst k = .lst sto1.length ∧ l = loc1 ∧ t = sto1 ++ [.list ((xs.filter p).map G)]) <| wit_of (hit.use (runL P hk hcap hP hn turn R3)))
end
end Mine
namespace Mine
open PySem PySem.W PyProof.Rows PySem.Calls
structure Sto (sto t : List SO) (m : List (Nat × List V)) : Prop where
 pre : sto <+: t
 at_ : ∀ p ∈ m, t[p.1]? = some (.list p.2)
 lo : ∀ p ∈ m, sto.length ≤ p.1
 nd : (m.map (·.1)).Nodup
section
variable {sto t : List SO} {m : List (Nat × List V)}
theorem Sto.start : Sto sto sto [] := ⟨List.prefix_rfl, (fun _ h => by cases h), (fun _ h => by cases h), List.nodup_nil⟩
theorem Sto.app (S : Sto sto t m) (g : List SO) : Sto sto (t ++ g) m := ⟨S.pre.trans (List.prefix_append _ _), fun p hp => by rw [List.getElem?_append_left (List.getElem?_eq_some_iff.mp (S.at_ p hp)).1]; exact S.at_ p hp, S.lo, S.nd⟩
theorem Sto.push (S : Sto sto t m) (l : List V) : Sto sto (t ++ [.list l]) ((t.length, l) :: m) := by
 have hlt : ∀ p ∈ m, p.1 < t.length := fun p hp => (List.getElem?_eq_some_iff.mp (S.at_ p hp)).1
 refine ⟨(S.app _).pre, fun p hp => ?_, fun p hp => ?_, ?_⟩
 ·rcases List.mem_cons.mp hp with rfl | hp
  ·exact jIA
  ·exact (S.app _).at_ p hp
 ·rcases List.mem_cons.mp hp with rfl | hp
  ·exact S.pre.length_le
  ·exact S.lo p hp
 ·rw [List.map_cons, List.nodup_cons]
  refine ⟨fun h => ?_, S.nd⟩
  refine un_1_2 (List.mem_map.mp h) fun p hp e => ?_
  exact absurd e (Nat.ne_of_lt (hlt p hp))
theorem Sto.drop {p : Nat × List V} (S : Sto sto t (p :: m)) : Sto sto t m := ⟨S.pre, fun q hq => S.at_ q (.tail _ hq), fun q hq => S.lo q (.tail _ hq), (List.nodup_cons.mp S.nd).2⟩
theorem Sto.perm {m' : List (Nat × List V)} (S : Sto sto t m) (hp : m'.Perm m) : Sto sto t m' :=
 ⟨S.pre, fun r hr => S.at_ r (hp.mem_iff.mp hr), fun r hr => S.lo r (hp.mem_iff.mp hr), ((hp.map (·.1)).nodup_iff).mpr S.nd⟩
theorem Sto.set {k : Nat} {l : List V} (S : Sto sto t ((k, l) :: m)) (l' : List V) : Sto sto (t.set k (.list l')) ((k, l') :: m) := by
 have hk := (List.getElem?_eq_some_iff.mp (S.at_ _ (.head _))).1
 have nd := List.nodup_cons.mp S.nd
 have hlo := S.lo _ (.head _)
 refine ⟨?_, fun p hp => ?_, fun p hp => ?_, S.nd⟩
 ·obtain ⟨g, rfl⟩ := S.pre
  rw [List.set_append_right _ _ hlo]
  exact List.prefix_append _ _
 ·rcases List.mem_cons.mp hp with rfl | hp
  ·exact List.getElem?_set_self hk
  ·rw [List.getElem?_set_ne (fun e => nd.1 (by show k ∈ _; rw [e]; exact List.mem_map_of_mem hp))]; exact S.at_ p (.tail _ hp)
 ·rcases List.mem_cons.mp hp with rfl | hp
  ·exact hlo
  ·exact S.lo p (.tail _ hp)
theorem Sto.top {p : Nat × List V} (S : Sto sto t (p :: m)) : t[p.1]? = some (.list p.2) := S.at_ p (.head _)
end
section
variable {C : Cst} {Γ : Fm} {loc loc1 loc2 loc3 loc4 : List (Option V)} {sto sto1 : List SO} {X : XV → List (Option V) → List SO → Prop} {Q : V → List (Option V) → List SO → Prop}
theorem wl_sortedA {α : Type} {F : α → List V} {xs : List α} {k : Nat} (hF : ∀ a b, Sh (F a) (F b)) (hne : ∀ a, F a ≠ []) (hk : sto[k]? = some (.list (xs.map fun x => V.tup (F x)))) (h64 : xs.length < 64)
  (h : ∀ ys : List α, ys.Perm xs → ys.Pairwise (fun a b => tLt (F b) (F a) = false) → Q (.lst sto.length) loc (sto ++ [.list (ys.map fun x => V.tup (F x))])) : WL C Γ loc sto (callF (.builtin "sorted")) [.lst k] VR Q X := by
 refine wl_sorted (ts := xs.map F) (by rw [List.map_map]; exact hk) ⟨fun l hl m hm => ?_, fun l hl => ?_⟩ (by rw [List.length_map]; exact h64) fun out hp ho => ?_
 ·refine un_1_2 (List.mem_map.mp hl) fun a _ e525x2 => ?_; subst e525x2
  refine un_1_2 (List.mem_map.mp hm) fun b _ e526x2 => ?_; subst e526x2
  exact hF a b
 ·refine un_1_2 (List.mem_map.mp hl) fun a _ e527x2 => ?_; subst e527x2
  exact hne a
 ·refine un_1_2 (perm_map hp) fun ys p e528x2 => ?_; subst e528x2
  rw [List.map_map]
  refine h ys p ?_
  unfold Ord at ho
  rw [List.pairwise_map] at ho
  exact ho
theorem eu_four {x y z w : Str} {px py pz pw' pos : Pos} {k : Nat} {a b c d : V} (q1 : SetSlot Γ.sl loc x a loc1) (q2 : SetSlot Γ.sl loc1 y b loc2) (q3 : SetSlot Γ.sl loc2 z c loc3) (q4 : SetSlot Γ.sl loc3 w d loc4) (h : ∀ x c, (x, some c) ∈ Γ.sl → c ∈ Γ.own) : EU C Γ loc sto (f1 (assign (.Tuple [.Name x px, .Name y py, .Name z pz, .Name w pw'] k pos) Γ.env)) [.tup [a, b, c, d]] loc4 sto :=
 eu_tuple rfl rfl (eu_cons (eu_name (pos := px) q1 (h x)) (eu_cons (eu_name (pos := py) q2 (h y)) (eu_cons (eu_name (pos := pz) q3 (h z)) (eu_cons (eu_name (pos := pw') q4 (h w)) (eu_nil rfl)))))
theorem eu_three {x y z : Str} {px py pz pos : Pos} {k : Nat} {a b c : V} (q1 : SetSlot Γ.sl loc x a loc1) (q2 : SetSlot Γ.sl loc1 y b loc2) (q3 : SetSlot Γ.sl loc2 z c loc3) (h : ∀ x c, (x, some c) ∈ Γ.sl → c ∈ Γ.own) : EU C Γ loc sto (f1 (assign (.Tuple [.Name x px, .Name y py, .Name z pz] k pos) Γ.env)) [.tup [a, b, c]] loc3 sto :=
 eu_tuple rfl rfl (eu_cons (eu_name (pos := px) q1 (h x)) (eu_cons (eu_name (pos := py) q2 (h y)) (eu_cons (eu_name (pos := pz) q3 (h z)) (eu_nil rfl))))
theorem wct1 {c : Expr} {b : Bool} (h : ET C Γ loc sto c b loc1 sto1) : W C Γ loc sto (compT [c] Γ.env) RT (Is b loc1 sto1) No := wct_one h
theorem wct0 : W C Γ loc sto (compT [] Γ.env) RT (Is true loc sto) No := wct_nil R3
end
noncomputable abbrev iL (i : It) : List V := [.int i.d, .str i.c, .str i.t, .str i.told]
noncomputable abbrev iF (i : It) : V := .tup (iL i)
noncomputable abbrev zL (i : It) : List V := [.int (0 - (i.d : Int)), .str i.c, .str i.t]
noncomputable abbrev lvL (i : It) : List V := [.str i.c, .int i.d, .str i.t]
noncomputable def earlyB (i : It) : Bool := decide (i.c < qq)
noncomputable def lateB (i : It) : Bool := decide (qq < i.c)
noncomputable def lvB (S : List It) (l : Nat) : List (List Nat) := S.flatMap fun i => if l = 0 ∧ i.c.take 3 = [50, 53, 55] then [i.tx l, []] else [i.tx l]
inductive Lv (late : List It) : Nat → List (List Nat) → Prop
 | zero : Lv late 0 []
 | succ {j : Nat} {L : List (List Nat)} {S : List It} (h : Lv late j L) (hp : S.Perm (late.filter fun i => decide (2 - j ≤ i.d))) (ho : S.Pairwise fun a b => tLt (lvL b) (lvL a) = false) : Lv late (j + 1) (L ++ lvB S (2 - j))
structure Due (its E Z : List It) (L : List (List Nat)) : Prop where
 pe : E.Perm (its.filter earlyB)
 oe : E.Pairwise fun a b => tLt (iL b) (iL a) = false
 pz : Z.Perm (its.filter lateB)
 oz : Z.Pairwise fun a b => tLt (zL b) (zL a) = false
 lv : Lv (its.filter lateB ++ E.flatMap latE) 3 L
end Mine
namespace Mine
open PySem PySem.W PyProof.Rows PySem.Calls
theorem wr_lvl {c t : List Nat} {d l : Nat} (h : l ≤ d) : wr c l (if l = d then t else [34]) l = wr c d t l := by
 cases l with
 | zero => rfl
 | succ l =>
  rw [wr_succ, wr_succ, if_pos rfl]
  have e : ∀ m, m ≤ l → wr c (l + 1) (if l + 1 = d then t else [34]) m = wr c d t m := fun m => by
   induction m with
   | zero => intro _; rfl
   | succ m ih => intro k; rw [wr_succ, wr_succ, ih (Nat.le_of_succ_le k), if_neg (by lia), if_neg (by lia)]
  rw [e l (Nat.le_refl _)]
theorem downs_eq (i : It) : ∀ n, downs i n = (List.range (n + 1)).map fun q => i.tx (n - q)
 | 0 => rfl
 | n + 1 => by
  rw [List.range_succ_eq_map, List.map_cons, List.map_map, downs, downs_eq i n]
  congr 1
  refine List.map_congr_left fun q _ => ?_
  show i.tx (n - q) = i.tx (n + 1 - (q + 1))
  rw [Nat.add_sub_add_right]
noncomputable abbrev ps55 : List Str := ["items"]
noncomputable abbrev rs55 : List Str := ["early", "late", "depth", "core", "tail", "told", "order", "log", "refused", "level"]
noncomputable abbrev sl55 (L : Addr) : List (Str × Option Addr) := [("items", none), ("early", none), ("late", none), ("depth", some (L + 1)), ("core", some (L + 2)), ("tail", some (L + 3)), ("told", none), ("order", none), ("log", none), ("refused", none), ("level", some (L + 4))]
theorem sl55_eq (L : Addr) : slC (sc 55).names L (ps55 ++ rs55) = sl55 L := by kernel_rfl
noncomputable abbrev l55 (k ke kl : Nat) (d c t told : Option V) (ko kg kr : Nat) (lv : Option V) : List (Option V) := [some (.lst k), some (.lst ke), some (.lst kl), d, c, t, told, some (.lst ko), some (.lst kg), some (.lst kr), lv]
noncomputable abbrev D52 (C : Cst) : Prop := Def C 264 52 ["core", "depth", "tail"] ["text", "level"]
structure GDu (C : Cst) : Prop where
 d : DefC C 283 55 ps55 rs55 0
 d52 : D52 C
 g52 : C.mg "_law_wrapped" = some (.ref 264)
 rng : C.mg "range" = none
 srt : C.mg "sorted" = none
theorem n55a : (sc 55).names.lookup (Str.ofString "range") = some .globalImplicit := by kernel_rfl
theorem n55b : (sc 55).names.lookup (Str.ofString "sorted") = some .globalImplicit := by kernel_rfl
theorem n55c : (sc 55).names.lookup (Str.ofString "_law_wrapped") = some .globalImplicit := by kernel_rfl
noncomputable def fbT (i : Nat) : List Stmt := match (bd 55).getD i (.Pass ⟨0, 0, 0, 0⟩) with | .For _ _ b _ _ => b | _ => []
structure OkI (i : It) : Prop where
 d2 : i.d ≤ 2
 cn : i.c.length ≤ 100
 tn : i.t.length ≤ 10
 wn : i.told.length ≤ 100
theorem jHA {t g : List SO} {k : Nat} {x : SO} (h : t[k]? = some x) : (t ++ g)[k]? = some x := by
 rw [List.getElem?_append_left (List.getElem?_eq_some_iff.mp h).1]; exact h
theorem no_some {x : Str} {sl : List (Str × Option Addr)} {own : List Addr} (h : sl.all (fun p => p.2.isNone || !decide (p.1 = x)) = true) : ∀ d, (x, some d) ∈ sl → d ∈ own := fun d hd => by
 have := List.all_eq_true.mp h _ hd
 simp at this
theorem take1_is {x : List Nat} {s : Str} {c : Nat} (hs : s.cps.toList = [c]) : (slc x none (some 1) == s.cps.toList) = (x.take 1 == [c]) := by
 rw [show (1 : Int) = ((1 : Nat) : Int) from rfl, slc_to, hs]
theorem nil257' : (Str.ofString "").cps.toList = ([] : List Nat) := by decide
section
variable {C : Cst} {sto : List SO}
theorem c_lvl {Γ : Fm} {loc : List (Option V)} {i : It} {q : Nat} {tl : List Nat} (D : D52 C) (g : C.mg "range" = none) (hr : 1 ≤ Γ.room) (hi : OkI i) (hqd : q ≤ i.d) (e : tl = (if q = i.d then i.t else [34])) : EL C Γ loc sto (callF (.ref 264)) [.str i.c, .int q, .str tl] (.str (i.tx q)) loc sto := by
 have := c_wrapped (C := C) (Γ := Γ) (loc := loc) (sto := sto) (core := i.c) (tail := tl) (d := q) D g hr (Nat.le_trans hqd hi.d2) hi.cn (by rw [e]; split; exact hi.tn; exact Nat.le_of_ble_eq_true rfl)
 rw [e, wr_lvl hqd] at this
 rw [e]; exact this
theorem du_turn {A : Around} {env : Env} {frs : List Env} {L : Addr} {own : List Addr} {room k ke kl ko kg kr : Nat} {t : List SO} {i : It} {Lg Rf : List (List Nat)} {Lt : List It} {Or Ev : List V} {lv : Option V} (G : GDu C) (hr : 2 ≤ room) (hs : env.scope = sc 55) (hc : env.cells = csOf (sc 55).names L) (how : ∀ x c, (x, some c) ∈ sl55 L → c ∈ own)
  (S : Sto sto t [(kg, Lg.map V.str), (kr, Rf.map V.str), (kl, Lt.map iF), (ko, Or), (ke, Ev)]) (hi : OkI i) (hLg : Lg.length ≤ 9000) (hRf : Rf.length ≤ 9000) (hLt : Lt.length ≤ 9000) :
  WS C ⟨A, env, sl55 L, frs, own, room⟩ (l55 k ke kl (some (.int i.d)) (some (.str i.c)) (some (.str i.t)) (some (.str i.told)) ko kg kr lv) t (fbT 4) (P1 (fun kg' => l55 k ke kl (some (.int i.d)) (some (.str i.c)) (some (.str i.t)) (some (.str i.told)) ko kg' kr lv) (fun kg' t' => Sto sto t' [(kg', (Lg ++ logE i).map V.str), (kr, (Rf ++ refE i).map V.str), (kl, (Lt ++ latE i).map iF), (ko, Or), (ke, Ev)])) No := by
 unfold fbT
 have hdl : (downs i i.d).length = i.d + 1 := by rw [downs_eq, List.length_map, List.length_range]
 have hadd : (Lg.map V.str).length + ((downs i i.d).map V.str).length ≤ 100000 := by rw [List.length_map, List.length_map, hdl]; have := hi.d2; lia
 have hn : rsz (i.d : Int) (-1) (-1) = i.d + 1 := by rw [rsz_down]; lia
 have hd2 := hi.d2
 have hkG := S.top
 refine jG (W.use (b := Out.next) (loc1 := l55 k ke kl (some (.int i.d)) (some (.str i.c)) (some (.str i.t)) (some (.str i.told)) ko (t ++ [SO.list ((downs i i.d).map V.str)]).length kr lv) (sto1 := t ++ [.list ((downs i i.d).map V.str)] ++ [.list (Lg.map V.str ++ (downs i i.d).map V.str)]) ?_ ?_)
 ·refine jY (loc1 := l55 k ke kl (some (.int i.d)) (some (.str i.c)) (some (.str i.t)) (some (.str i.told)) ko kg kr lv) (fun _ => rfl) (how _) (jO (jD .z8 R3) ?_ (wl_addL (jHA hkG) jIA hadd R3)) .z8
  rw [show (downs i i.d).map V.str = (fun n => (List.range n).map fun q => V.str (i.tx (i.d - q))) (rsz (i.d : Int) (-1) (-1)) by rw [hn, downs_eq, List.map_map]; rfl]
  refine ee_compG (n := rsz (i.d : Int) (-1) (-1)) (vals := fun j => .int ((i.d : Int) + j * (-1))) (g := fun j => V.str (i.tx (i.d - j))) (p := fun _ => true) (acc := fun n => (List.range n).map fun q => V.str (i.tx (i.d - q))) (Cond := fun _ _ => True) (cl := [("tail", L + 3), ("depth", L + 1), ("core", L + 2)]) (sl0 := [("level", none), ("core", some (L + 2)), ("tail", some (L + 3)), ("depth", some (L + 1))]) (loc0 := [none, some (.str i.c), some (.str i.t), some (.int i.d)]) (fun l => ∃ o, l = [o, some (.str i.c), some (.str i.t), some (.int i.d)]) (fun _ _ => rfl) ⟨?_, ?_, ?_, ?_, ?_, ?_, ?_, ?_⟩ (fun QI h => ?_) (fun _ _ => trivial) ?_ ⟨_, rfl⟩ (by rw [hn]; lia) rfl (fun j _ => ?_) ?_
  ·refine clos_env hs hc fun env hs hc => ?_
   obtain ⟨sc0, _, _, cs0, _, _, _, _, _⟩ := env
   dsimp only at hs hc
   subst hs; subst hc
   kernel_rfl
  ·exact jMA (by kernel_rfl)
  ·kernel_rfl
  ·exact nam_of (by kernel_rfl)
  ·intro x hx
   have : x = Str.ofString "level" := by simpa using hx
   subst this
   kernel_rfl
  ·intro x c hx
   obtain ⟨sc0, _, _, cs0, _, _, _, _, _⟩ := env
   dsimp only at hs hc
   subst hs; subst hc
   simp only [List.mem_cons, Prod.mk.injEq, reduceCtorEq, and_false, Option.some.injEq, List.not_mem_nil, or_false, false_or] at hx
   rcases hx with ⟨rfl, rfl⟩ | ⟨rfl, rfl⟩ | ⟨rfl, rfl⟩ <;> exact ⟨by kernel_rfl, by kernel_rfl⟩
  ·show [Str.ofString "level", Str.ofString "core", Str.ofString "tail", Str.ofString "depth"].Nodup
   decide
  ·simp
  ·refine wit_range (jC (fun _ => jA) (jC (fun _ => jM) (jC (fun _ => jM) jN))) ((jCA hs n55a G.rng PyProof.Rows.Boot.«range» (by decide) (by decide)).use ⟨rfl, (jE jA (jD .z3 R3) (jE jM (ee_unary (jF R3) (wl_usub R3)) (jE jM (ee_unary (jF R3) (wl_usub R3)) jP))).use ⟨_, _, _, .three _ _ _ (by decide) (by decide) (by decide), ⟨by lia, by decide, .inr rfl⟩, h⟩⟩)
  ·exact .loc (.cap .z4 (.cap .z5 (.cap .z3 .nil)))
  ·rw [if_pos rfl]; show (List.range (j + 1)).map _ = _; rw [List.range_succ, List.map_append]; rfl
  ·rintro Cl j l t' hj ⟨o, rfl⟩ ht
   rw [hn] at hj
   refine ⟨⟨[some (.int (i.d - j : Nat)), some (.str i.c), some (.str i.t), some (.int i.d)], ⟨_, rfl⟩, ?_, wct0, fun _ => ?_⟩⟩
   ·have e0 : (i.d : Int) + j * (-1) = ((i.d - j : Nat) : Int) := by lia
    show EU C _ _ _ _ [.int ((i.d : Int) + j * (-1))] _ _
    rw [e0]
    exact eu_name .zero (no_some rfl)
   ·unfold compΓ
    generalize hq : i.d - j = q
    have hqd : q ≤ i.d := by lia
    by_cases h : q = i.d
    ·have qe : ((q : Int) == (i.d : Int)) = true := by rw [h]; exact beq_self_eq_true _
     with_reducible exact jV G.d52 (jC (fun _ => jA) (jC (fun _ => jA) (jC (fun _ => star_IfExp) jN))) (we_glob (by kernel_rfl) G.g52 jW R3) (jE jA (jD .z1 R3) (jE jA (jD .zero R3) (jE star_IfExp (ee_ifT (jR rfl (jD .zero R3) (jD .z3 R3) (wl_eqI ⟨qe, rfl, rfl⟩)) (jD .z2 R3)) jP))) (c_lvl G.d52 G.rng (Nat.le_trans (by decide) hr) hi hqd (if_pos h).symm)
    ·have qe : ((q : Int) == (i.d : Int)) = false := beq_eq_false_iff_ne.mpr fun e => h (by lia)
     with_reducible exact jV G.d52 (jC (fun _ => jA) (jC (fun _ => jA) (jC (fun _ => star_IfExp) jN))) (we_glob (by kernel_rfl) G.g52 jW R3) (jE jA (jD .z1 R3) (jE jA (jD .zero R3) (jE star_IfExp (ee_ifF (jR rfl (jD .zero R3) (jD .z3 R3) (wl_eqI ⟨qe, rfl, rfl⟩)) (jQ R3)) jP))) (c_lvl G.d52 G.rng (Nat.le_trans (by decide) hr) hi hqd (q34.trans (if_neg h).symm))
 have S1 := (((S.app [.list ((downs i i.d).map V.str)]).push (Lg.map V.str ++ (downs i i.d).map V.str)).perm (List.Perm.swap _ _ _)).drop
 generalize (t ++ [SO.list ((downs i i.d).map V.str)]).length = kg' at S1
 generalize t ++ [SO.list ((downs i i.d).map V.str)] ++ [.list (Lg.map V.str ++ (downs i i.d).map V.str)] = t1 at S1
 have hw : i.told.length ≤ 16777216 := Nat.le_trans hi.wn (by decide)
 have hcl : i.c.length ≤ 16777216 := Nat.le_trans hi.cn (by decide)
 have q1 : (slc i.told none (some 1) == (Str.ofString "-").cps.toList) = toldE i := take1_is (by decide)
 have hlen : (Lg.map V.str ++ (downs i i.d).map V.str).length ≤ 10000 := by rw [List.length_append, List.length_map, List.length_map, hdl]; lia
 cases ht : toldE i with
 | true =>
  rw [ht] at q1
  have S2 := S1.set (Lg.map V.str ++ (downs i i.d).map V.str ++ [.str i.told])
  have eL : Lg.map V.str ++ (downs i i.d).map V.str ++ [V.str i.told] = (Lg ++ logE i).map V.str := by unfold logE; rw [ht]; simp
  have eR : refE i = [] := by unfold refE; rw [ht]; rfl
  have eT : latE i = [] := by unfold latE; rw [ht]; rfl
  rw [eL] at S2
  rw [eR, eT, List.append_nil, List.append_nil]
  refine jG (W.use (b := Out.next) ?_ (ws_nil ⟨rfl, kg', rfl, S2⟩))
  rw [← eL]
  with_reducible exact e1_ifT (jR rfl (jS (jD .z6 R3) jZ (jAA (jF R3)) jZ (wsl_str .none (.int 1) hw R3)) (jQ R3) (wl_eqS ⟨q1, rfl, rfl⟩)) (es_next (e1_append rfl rfl .z8 (fun _ => jA) (fun _ => rfl) (jD .z6 R3) ⟨_, S1.top⟩ S1.top hlen) es_nil)
 | false =>
  rw [ht] at q1
  have eL : Lg.map V.str ++ (downs i i.d).map V.str = (Lg ++ logE i).map V.str := by unfold logE; rw [ht]; simp
  rw [← eL]
  by_cases h0 : i.told = []
  ·have q2 : (i.told != (Str.ofString "").cps.toList) = false := by rw [h0]; decide
   have eT : latE i = [] := by unfold latE; rw [ht, h0]; rfl
   have q3 : (slc i.c none (some 1) != (Str.ofString "-").cps.toList) = !(i.c.take 1 == [45]) := congrArg not (take1_is (by decide))
   rw [eT, List.append_nil]
   cases h1 : (i.c.take 1 == [45]) with
   | true =>
    rw [h1, Bool.not_true] at q3
    have eR : refE i = [] := by unfold refE; rw [ht, h0, h1]; rfl
    rw [eR, List.append_nil]
    refine jG (W.use (b := Out.next) ?_ (ws_nil ⟨rfl, kg', rfl, S1⟩))
    with_reducible exact e1_ifF (jR rfl (jS (jD .z6 R3) jZ (jAA (jF R3)) jZ (wsl_str .none (.int 1) hw R3)) (jQ R3) (wl_eqS ⟨q1, rfl, rfl⟩)) (es_next (e1_ifF (jR rfl (jD .z6 R3) (jQ R3) (wl_neS ⟨q2, rfl, rfl⟩)) (es_next (e1_ifF (jR rfl (jS (jD .z4 R3) jZ (jAA (jF R3)) jZ (wsl_str .none (.int 1) hcl R3)) (jQ R3) (wl_neS ⟨q3, rfl, rfl⟩)) es_nil) es_nil)) es_nil)
   | false =>
    rw [h1, Bool.not_false] at q3
    have q4 : (slc i.c none (some 3) == (Str.ofString "250").cps.toList) = (i.c.take 3 == [50, 53, 48]) := by
     rw [show (3 : Int) = ((3 : Nat) : Int) from rfl, slc_to, show (Str.ofString "250").cps.toList = [50, 53, 48] by decide]
    have S2 := ((S1.perm (List.Perm.swap _ _ _)).set (Rf.map V.str ++ [.str ((if i.c.take 3 == [50, 53, 48] then rpl else prt) ++ i.c)])).perm (List.Perm.swap _ _ _)
    have eR : Rf.map V.str ++ [V.str ((if i.c.take 3 == [50, 53, 48] then rpl else prt) ++ i.c)] = (Rf ++ refE i).map V.str := by unfold refE; rw [ht, h0, h1]; simp
    have hk := (S1.perm (List.Perm.swap _ _ _)).top
    have hRl : (Rf.map V.str).length ≤ 10000 := by rw [List.length_map]; exact Nat.le_trans hRf (by decide)
    have hap : ∀ p : List Nat, p.length = 7 → p.length + i.c.length ≤ 16777216 := fun p h => by have := hi.cn; lia
    rw [eR] at S2
    refine jG (W.use (b := Out.next) ?_ (ws_nil ⟨rfl, kg', rfl, S2⟩))
    rw [← eR]
    cases h2 : (i.c.take 3 == [50, 53, 48]) with
    | true =>
     rw [h2] at q4
     rw [if_pos rfl]
     with_reducible exact e1_ifF (jR rfl (jS (jD .z6 R3) jZ (jAA (jF R3)) jZ (wsl_str .none (.int 1) hw R3)) (jQ R3) (wl_eqS ⟨q1, rfl, rfl⟩)) (es_next (e1_ifF (jR rfl (jD .z6 R3) (jQ R3) (wl_neS ⟨q2, rfl, rfl⟩)) (es_next (e1_ifT (jR rfl (jS (jD .z4 R3) jZ (jAA (jF R3)) jZ (wsl_str .none (.int 1) hcl R3)) (jQ R3) (wl_neS ⟨q3, rfl, rfl⟩)) (es_next (e1_append rfl rfl .z9 (fun _ => jH) (fun _ => rfl) (jO (ee_ifT (jR rfl (jS (jD .z4 R3) jZ (jAA (jF R3)) jZ (wsl_str .none (.int 3) hcl R3)) (jQ R3) (wl_eqS ⟨q4, rfl, rfl⟩)) (jQ R3)) (jD .z4 R3) (jNA (hap rpl (by decide)) R3)) ⟨_, hk⟩ hk hRl) es_nil)) es_nil)) es_nil)
    | false =>
     rw [h2] at q4
     rw [if_neg Bool.false_ne_true]
     with_reducible exact e1_ifF (jR rfl (jS (jD .z6 R3) jZ (jAA (jF R3)) jZ (wsl_str .none (.int 1) hw R3)) (jQ R3) (wl_eqS ⟨q1, rfl, rfl⟩)) (es_next (e1_ifF (jR rfl (jD .z6 R3) (jQ R3) (wl_neS ⟨q2, rfl, rfl⟩)) (es_next (e1_ifT (jR rfl (jS (jD .z4 R3) jZ (jAA (jF R3)) jZ (wsl_str .none (.int 1) hcl R3)) (jQ R3) (wl_neS ⟨q3, rfl, rfl⟩)) (es_next (e1_append rfl rfl .z9 (fun _ => jH) (fun _ => rfl) (jO (ee_ifF (jR rfl (jS (jD .z4 R3) jZ (jAA (jF R3)) jZ (wsl_str .none (.int 3) hcl R3)) (jQ R3) (wl_eqS ⟨q4, rfl, rfl⟩)) (jQ R3)) (jD .z4 R3) (jNA (hap prt (by decide)) R3)) ⟨_, hk⟩ hk hRl) es_nil)) es_nil)) es_nil)
  ·have q2 : (i.told != (Str.ofString "").cps.toList) = true := by rw [nil257']; exact bne_iff_ne.mpr h0
   have h0b : (i.told == []) = false := beq_eq_false_iff_ne.mpr h0
   have eR : refE i = [] := by unfold refE; rw [ht, h0b]; rfl
   have eT : Lt.map iF ++ [V.tup [.int 0, .str i.told, .str (Str.ofString "").cps.toList, .str (Str.ofString "").cps.toList]] = (Lt ++ latE i).map iF := by unfold latE; rw [ht, h0b, nil257', List.map_append]; rfl
   have hp3 : [(kl, Lt.map iF), (kg', Lg.map V.str ++ (downs i i.d).map V.str), (kr, Rf.map V.str), (ko, Or), (ke, Ev)].Perm [(kg', Lg.map V.str ++ (downs i i.d).map V.str), (kr, Rf.map V.str), (kl, Lt.map iF), (ko, Or), (ke, Ev)] := (List.Perm.swap _ _ _).trans ((List.Perm.swap _ _ _).cons _)
   have S2 := (S1.perm hp3).set (Lt.map iF ++ [V.tup [.int 0, .str i.told, .str (Str.ofString "").cps.toList, .str (Str.ofString "").cps.toList]])
   have hk := (S1.perm hp3).top
   have hLl : (Lt.map iF).length ≤ 10000 := by rw [List.length_map]; exact Nat.le_trans hLt (by decide)
   rw [eT] at S2
   rw [eR, List.append_nil]
   refine jG (W.use (b := Out.next) ?_ (ws_nil ⟨rfl, kg', rfl, S2.perm (((List.Perm.swap _ _ _).cons _).trans (List.Perm.swap _ _ _))⟩))
   rw [← eT]
   with_reducible exact e1_ifF (jR rfl (jS (jD .z6 R3) jZ (jAA (jF R3)) jZ (wsl_str .none (.int 1) hw R3)) (jQ R3) (wl_eqS ⟨q1, rfl, rfl⟩)) (es_next (e1_ifT (jR rfl (jD .z6 R3) (jQ R3) (wl_neS ⟨q2, rfl, rfl⟩)) (es_next (e1_append rfl rfl .z2 (fun _ => jK) (fun _ => rfl) (jT (jE jB (jF R3) (jE jA (jD .z6 R3) (jE jB (jQ R3) (jE jB (jQ R3) jP)))) (Nat.le_of_ble_eq_true rfl)) ⟨_, hk⟩ hk hLl) es_nil)) es_nil)
end
end Mine
namespace Mine
open PySem PySem.W PyProof.Rows PySem.Calls
theorem lvSh (a b : It) : Sh (lvL a) (lvL b) := .cons (.str _ _) (.cons (.int _ _) (.cons (.str _ _) .nil))
theorem lvB_le (S : List It) (q : Nat) : (lvB S q).length ≤ 2 * S.length := by
 induction S with
 | nil => exact Nat.le_refl _
 | cons i S ih =>
  unfold lvB at ih ⊢
  rw [List.flatMap_cons, List.length_append, List.length_cons]
  have : (if q = 0 ∧ i.c.take 3 = [50, 53, 55] then [i.tx q, []] else [i.tx q]).length ≤ 2 := by split <;> simp
  lia
section
variable {C : Cst} {Γ : Fm} {loc loc1 loc2 loc3 loc4 : List (Option V)} {sto : List SO}
theorem eu_fourS {x y z w : Str} {px py pz pw' pos : Pos} {k : Nat} {a b c d : V} (q1 : SetSlot Γ.sl loc x a loc1) (q2 : SetSlot Γ.sl loc1 y b loc2) (q3 : SetSlot Γ.sl loc2 z c loc3) (q4 : SetSlot Γ.sl loc3 w d loc4) (h : ∀ v ∈ [x, y, z, w], ∀ c, (v, some c) ∈ Γ.sl → c ∈ Γ.own) : EU C Γ loc sto (f1 (assign (.Tuple [.Name x px, .Name y py, .Name z pz, .Name w pw'] k pos) Γ.env)) [.tup [a, b, c, d]] loc4 sto :=
 eu_tuple rfl rfl (eu_cons (eu_name (pos := px) q1 (h x (by simp))) (eu_cons (eu_name (pos := py) q2 (h y (by simp))) (eu_cons (eu_name (pos := pz) q3 (h z (by simp))) (eu_cons (eu_name (pos := pw') q4 (h w (by simp))) (eu_nil rfl)))))
theorem no_somes {vs : List Str} {sl : List (Str × Option Addr)} {own : List Addr} (h : sl.all (fun p => p.2.isNone || !decide (p.1 ∈ vs)) = true) : ∀ x ∈ vs, ∀ d, (x, some d) ∈ sl → d ∈ own := fun x hx d hd => by
 have := List.all_eq_true.mp h _ hd
 simp [hx] at this
theorem jPA : keeperOf (.builtin "sorted") = pure .machine := by kernel_rfl
theorem du_lvl {A : Around} {env : Env} {frs : List Env} {L : Addr} {own : List Addr} {room k ke kl ko kg kr q : Nat} {t : List SO} {Lg : List (List Nat)} {Lt : List It} {m : List (Nat × List V)} {d c tt told : Option V} (G : GDu C) (hr : 2 ≤ room) (hs : env.scope = sc 55) (hc : env.cells = csOf (sc 55).names L) (how : ∀ x c, (x, some c) ∈ sl55 L → c ∈ own)
  (S : Sto sto t ((kg, Lg.map V.str) :: (kl, Lt.map iF) :: m)) (hi : ∀ i ∈ Lt, OkI i) (hLg : Lg.length ≤ 9000) (hLt : Lt.length < 64) :
  WS C ⟨A, env, sl55 L, frs, own, room⟩ (l55 k ke kl d c tt told ko kg kr (some (.int q))) t (fbT 5) (P3 (fun d c tt => l55 k ke kl d c tt told ko kg kr (some (.int q))) (fun _ _ _ t' => ∃ S : List It, S.Perm (Lt.filter fun i => decide (q ≤ i.d)) ∧ S.Pairwise (fun a b => tLt (lvL b) (lvL a) = false) ∧ Sto sto t' ((kg, (Lg ++ lvB S q).map V.str) :: (kl, Lt.map iF) :: m))) No := by
 refine ws_hide fun Q hQ => ?_
 unfold fbT
 have hkl := (S.perm (List.Perm.swap _ _ _)).top
 refine jG (w1_for (fun _ _ => rfl) (wit_of (we_call_m (jC (fun _ => star_ListComp) jN) jPA ((jCA hs n55b G.srt PyProof.Rows.Boot.«sorted» (by decide) (by decide)).use ⟨rfl, (jE star_ListComp (ee_compL (F := iF) (G := fun i => V.tup (lvL i)) (p := fun i => decide (q ≤ i.d)) (xs := Lt) (cl := [("level", L + 4)]) (sl0 := [("depth", none), ("core", none), ("tail", none), ("told", none), ("level", some (L + 4))]) (loc0 := [none, none, none, none, some (.int q)]) (fun l => Ex4 fun a b c d => l = [a, b, c, d, some (.int q)]) (fun _ _ => rfl) ⟨?_, ?_, ?_, ?_, ?_, ?_, ?_, ?_⟩ (jD .z2 R3) hkl ?_ ⟨_, _, _, _, rfl⟩ (Nat.le_trans (Nat.le_of_lt hLt) (by decide)) ?_) jP).use ?_⟩))))
 ·refine clos_env hs hc fun env hs hc => ?_
  obtain ⟨sc0, _, _, cs0, _, _, _, _, _⟩ := env
  dsimp only at hs hc
  subst hs; subst hc
  kernel_rfl
 ·exact jMA (by kernel_rfl)
 ·kernel_rfl
 ·exact nam_of (by kernel_rfl)
 ·intro x hx
  simp only [List.mem_cons, Prod.mk.injEq, reduceCtorEq, and_false, and_true, List.not_mem_nil, or_false] at hx
  rcases hx with rfl | rfl | rfl | rfl <;> kernel_rfl
 ·intro x c hx
  obtain ⟨sc0, _, _, cs0, _, _, _, _, _⟩ := env
  dsimp only at hs hc
  subst hs; subst hc
  simp only [List.mem_cons, Prod.mk.injEq, reduceCtorEq, and_false, Option.some.injEq, List.not_mem_nil, or_false, false_or] at hx
  obtain ⟨rfl, rfl⟩ := hx
  exact ⟨by kernel_rfl, by kernel_rfl⟩
 ·show [Str.ofString "depth", Str.ofString "core", Str.ofString "tail", Str.ofString "told", Str.ofString "level"].Nodup
  decide
 ·simp
 ·exact .loc (.loc (.loc (.loc (.cap .z10 .nil))))
 ·intro Cl i l t' him r325y5
  refine ux_4_1 (r325y5) fun _ _ _ _ e533x4 => ?_; (try clear r325y5); subst e533x4
  refine ⟨⟨[some (.int i.d), some (.str i.c), some (.str i.t), some (.str i.told), some (.int q)], ⟨_, _, _, _, rfl⟩, ?_, ?_, fun _ => ?_⟩⟩
  ·unfold compΓ
   exact eu_fourS .zero .z1 .z2 .z3 (no_somes rfl)
  ·unfold compΓ
   have e : decide ((q : Int) ≤ (i.d : Int)) = decide (q ≤ i.d) := decide_eq_decide.mpr Int.ofNat_le
   with_reducible exact wct1 (jR rfl (jD .zero R3) (jD .z4 R3) (wl_geI ⟨e, rfl, rfl⟩))
  ·unfold compΓ
   with_reducible exact jT (jE jA (jD .z1 R3) (jE jA (jD .zero R3) (jE jA (jD .z2 R3) jP))) (Nat.le_of_ble_eq_true rfl)
 have hfl : (Lt.filter fun i => decide (q ≤ i.d)).length < 64 := Nat.lt_of_le_of_lt (List.length_filter_le _ _) hLt
 refine wl_sortedA lvSh (fun _ => List.cons_ne_nil _ _) jIA hfl fun ys hp ho => ?_
 have S1 := (S.app [.list ((Lt.filter fun i => decide (q ≤ i.d)).map fun i => V.tup (lvL i))]).push (ys.map fun i => V.tup (lvL i))
 have S2 := S1.perm (List.Perm.swap _ _ _)
 have hlt := (List.getElem?_eq_some_iff.mp S1.top).1
 generalize (t ++ [SO.list ((Lt.filter fun i => decide (q ≤ i.d)).map fun i => V.tup (lvL i))]).length = ks at S1 S2 hlt
 generalize t ++ [SO.list ((Lt.filter fun i => decide (q ≤ i.d)).map fun i => V.tup (lvL i))] ++ [.list (ys.map fun i => V.tup (lvL i))] = t1 at S1 S2 hlt
 have hys : ys.length < 64 := by rw [hp.length_eq]; exact hfl
 refine vit_list S1.top ⟨fun j l t => (Ex3 fun d c tt => l = l55 k ke kl d c tt told ko kg kr (some (.int q))) ∧ Sto sto t ((kg, (Lg ++ lvB (ys.take j) q).map V.str) :: (ks, ys.map fun i => V.tup (lvL i)) :: (kl, Lt.map iF) :: m), ⟨⟨_, _, _, rfl⟩, by rw [show Lg ++ lvB (ys.take 0) q = Lg from List.append_nil _]; exact S2⟩, fun j l t _ h => (h.2.perm (List.Perm.swap _ _ _)).top, ?_, ?_⟩
 ·rintro j l t hj ⟨⟨d0, c0, t0, rfl⟩, Sj⟩
  rw [List.length_map] at hj
  have him : ys[j] ∈ Lt := (List.mem_filter.mp (hp.mem_iff.mp (List.getElem_mem hj))).1
  have hqd : q ≤ ys[j].d := of_decide_eq_true (List.mem_filter.mp (hp.mem_iff.mp (List.getElem_mem hj))).2
  have hI := hi _ him
  have e0 : (ys.map fun i => V.tup (lvL i))[j]?.getD .none = .tup (lvL ys[j]) := by rw [List.getElem?_map, List.getElem?_eq_getElem hj]; rfl
  have eb : lvB (ys.take (j + 1)) q = lvB (ys.take j) q ++ (if q = 0 ∧ ys[j].c.take 3 = [50, 53, 55] then [ys[j].tx q, []] else [ys[j].tx q]) := by
   unfold lvB
   rw [List.take_add_one, List.getElem?_eq_getElem hj, List.flatMap_append]; simp
  have hll : (Lg ++ lvB (ys.take j) q).length ≤ 9200 := by
   have := lvB_le (ys.take j) q
   rw [List.length_take] at this
   rw [List.length_append]; lia
  show WL C _ _ _ _ [(ys.map fun i => V.tup (lvL i))[j]?.getD .none] RU _ _
  rw [e0]
  revert eb
  generalize ys[j] = i at hI hqd
  intro eb
  refine (eu_three (loc1 := l55 k ke kl d0 (some (.str i.c)) t0 told ko kg kr (some (.int q))) (loc2 := l55 k ke kl (some (.int i.d)) (some (.str i.c)) t0 told ko kg kr (some (.int q))) (loc3 := l55 k ke kl (some (.int i.d)) (some (.str i.c)) (some (.str i.t)) told ko kg kr (some (.int q))) .z4 .z3 .z5 how).use ?_
  have hk := Sj.top
  have hl1 : ((Lg ++ lvB (ys.take j) q).map V.str).length ≤ 10000 := by rw [List.length_map]; exact Nat.le_trans hll (by decide)
  have S3 := Sj.set ((Lg ++ lvB (ys.take j) q).map V.str ++ [.str (i.tx q)])
  refine jG (W.use (b := Out.next) (loc1 := l55 k ke kl (some (.int i.d)) (some (.str i.c)) (some (.str i.t)) told ko kg kr (some (.int q))) (sto1 := t.set kg (.list ((Lg ++ lvB (ys.take j) q).map V.str ++ [.str (i.tx q)]))) ?_ ?_)
  ·by_cases h : q = i.d
   ·have qe : ((q : Int) == (i.d : Int)) = true := by rw [h]; exact beq_self_eq_true _
    with_reducible exact e1_append rfl rfl .z8 (fun _ => jJ) (fun _ => rfl) (jV G.d52 (jC (fun _ => jA) (jC (fun _ => jA) (jC (fun _ => star_IfExp) jN))) (jU hs n55c G.g52 jW (by decide)) (jE jA (jD .z4 R3) (jE jA (jD .z10 R3) (jE star_IfExp (ee_ifT (jR rfl (jD .z10 R3) (jD .z3 R3) (wl_eqI ⟨qe, rfl, rfl⟩)) (jD .z5 R3)) jP))) (c_lvl G.d52 G.rng (Nat.le_trans (by decide) hr) hI hqd (if_pos h).symm)) ⟨_, hk⟩ hk hl1
   ·have qe : ((q : Int) == (i.d : Int)) = false := beq_eq_false_iff_ne.mpr fun e => h (by lia)
    with_reducible exact e1_append rfl rfl .z8 (fun _ => jJ) (fun _ => rfl) (jV G.d52 (jC (fun _ => jA) (jC (fun _ => jA) (jC (fun _ => star_IfExp) jN))) (jU hs n55c G.g52 jW (by decide)) (jE jA (jD .z4 R3) (jE jA (jD .z10 R3) (jE star_IfExp (ee_ifF (jR rfl (jD .z10 R3) (jD .z3 R3) (wl_eqI ⟨qe, rfl, rfl⟩)) (jQ R3)) jP))) (c_lvl G.d52 G.rng (Nat.le_trans (by decide) hr) hI hqd (q34.trans (if_neg h).symm))) ⟨_, hk⟩ hk hl1
  generalize t.set kg (.list ((Lg ++ lvB (ys.take j) q).map V.str ++ [.str (i.tx q)])) = t3 at S3
  have hcl : i.c.length ≤ 16777216 := Nat.le_trans hI.cn (by decide)
  have q4 : (slc i.c none (some 3) == (Str.ofString "257").cps.toList) = (i.c.take 3 == [50, 53, 55]) := by
   rw [show (3 : Int) = ((3 : Nat) : Int) from rfl, slc_to, show (Str.ofString "257").cps.toList = [50, 53, 55] by decide]
  have fin : ∀ (g : List (List Nat)) t', Sto sto t' ((kg, (Lg ++ lvB (ys.take j) q).map V.str ++ g.map V.str) :: (ks, ys.map fun i => V.tup (lvL i)) :: (kl, Lt.map iF) :: m) → (if q = 0 ∧ i.c.take 3 = [50, 53, 55] then [i.tx q, []] else [i.tx q]) = g → Sto sto t' ((kg, (Lg ++ lvB (ys.take (j + 1)) q).map V.str) :: (ks, ys.map fun i => V.tup (lvL i)) :: (kl, Lt.map iF) :: m) := fun g t' h e => by
   rw [eb, e, ← List.append_assoc, List.map_append]; exact h
  by_cases h0 : q = 0
  ·have q0 : ((q : Int) == 0) = true := by rw [h0]; rfl
   cases h3 : (i.c.take 3 == [50, 53, 55]) with
   | true =>
    rw [h3] at q4
    have S4 := S3.set ((Lg ++ lvB (ys.take j) q).map V.str ++ [.str (i.tx q)] ++ [.str (Str.ofString "").cps.toList])
    have hk3 := S3.top
    have hl2 : ((Lg ++ lvB (ys.take j) q).map V.str ++ [V.str (i.tx q)]).length ≤ 10000 := by rw [List.length_append, List.length_map]; show _ + 1 ≤ _; lia
    refine jG (W.use (b := Out.next) (loc1 := l55 k ke kl (some (.int i.d)) (some (.str i.c)) (some (.str i.t)) told ko kg kr (some (.int q))) (sto1 := t3.set kg (.list ((Lg ++ lvB (ys.take j) q).map V.str ++ [.str (i.tx q)] ++ [.str (Str.ofString "").cps.toList]))) ?_ (ws_nil ⟨⟨_, _, _, rfl⟩, fin [i.tx q, (Str.ofString "").cps.toList] _ ?_ ?_⟩))
    ·with_reducible exact e1_ifT (et_andT (jR rfl (jD .z10 R3) (jF R3) (wl_eqI ⟨q0, rfl, rfl⟩)) (et_andT (jR rfl (jS (jD .z4 R3) jZ (jAA (jF R3)) jZ (wsl_str .none (.int 3) hcl R3)) (jQ R3) (wl_eqS ⟨q4, rfl, rfl⟩)) et_andN)) (es_next (e1_append rfl rfl .z8 (fun _ => jB) (fun _ => rfl) (jQ R3) ⟨_, hk3⟩ hk3 hl2) es_nil)
    ·rw [List.append_assoc] at S4 ⊢; exact S4
    ·rw [nil257']; exact if_pos ⟨h0, eq_of_beq h3⟩
   | false =>
    rw [h3] at q4
    refine jG (W.use (b := Out.next) (loc1 := l55 k ke kl (some (.int i.d)) (some (.str i.c)) (some (.str i.t)) told ko kg kr (some (.int q))) (sto1 := t3) ?_ (ws_nil ⟨⟨_, _, _, rfl⟩, fin [i.tx q] _ S3 (if_neg fun q => beq_eq_false_iff_ne.mp h3 q.2)⟩))
    with_reducible exact e1_ifF (et_andT (jR rfl (jD .z10 R3) (jF R3) (wl_eqI ⟨q0, rfl, rfl⟩)) (et_andF (jR rfl (jS (jD .z4 R3) jZ (jAA (jF R3)) jZ (wsl_str .none (.int 3) hcl R3)) (jQ R3) (wl_eqS ⟨q4, rfl, rfl⟩)))) es_nil
  ·have q0 : ((q : Int) == 0) = false := beq_eq_false_iff_ne.mpr fun e => h0 (by lia)
   refine jG (W.use (b := Out.next) (loc1 := l55 k ke kl (some (.int i.d)) (some (.str i.c)) (some (.str i.t)) told ko kg kr (some (.int q))) (sto1 := t3) ?_ (ws_nil ⟨⟨_, _, _, rfl⟩, fin [i.tx q] _ S3 (if_neg fun q => h0 q.1)⟩))
   with_reducible exact e1_ifF (et_andF (jR rfl (jD .z10 R3) (jF R3) (wl_eqI ⟨q0, rfl, rfl⟩))) es_nil
 ·rintro l t ⟨⟨d0, c0, t0, rfl⟩, Sj⟩
  rw [List.length_map, List.take_length] at Sj
  exact ws_nil (ws_nil (hQ _ _ _ ⟨rfl, _, _, _, rfl, ys, hp, ho, (Sj.perm (List.Perm.swap _ _ _)).drop⟩))
end
end Mine
namespace Mine
open PySem PySem.W PyProof.Rows PySem.Calls
theorem iSh (a b : It) : Sh (iL a) (iL b) := .cons (.int _ _) (.cons (.str _ _) (.cons (.str _ _) (.cons (.str _ _) .nil)))
theorem zSh (a b : It) : Sh (zL a) (zL b) := .cons (.int _ _) (.cons (.str _ _) (.cons (.str _ _) .nil))
theorem logE_le (i : It) : (logE i).length ≤ i.d + 2 := by
 unfold logE
 rw [List.length_append, downs_eq, List.length_map, List.length_range]
 split <;> simp
theorem refE_le (i : It) : (refE i).length ≤ 1 := by unfold refE; split; simp; split; split <;> simp; simp
theorem latE_le (i : It) : (latE i).length ≤ 1 := by unfold latE; split; simp; split <;> simp
theorem latE_ok {i j : It} (hi : OkI i) (h : j ∈ latE i) : OkI j := by
 unfold latE at h
 split at h
 ·cases h
 ·split at h
  ·cases h
  ·rw [List.mem_singleton] at h; subst h; exact ⟨Nat.zero_le _, hi.wn, Nat.zero_le _, Nat.zero_le _⟩
theorem flat_le {α : Type} {f : It → List α} {n : Nat} : ∀ l : List It, (∀ i ∈ l, (f i).length ≤ n) → (l.flatMap f).length ≤ n * l.length
 | [], _ => Nat.zero_le _
 | i :: l, h => by
  have := flat_le l fun j hj => h j (.tail _ hj)
  have := h i (.head _)
  rw [List.flatMap_cons, List.length_append, List.length_cons, Nat.mul_succ]; lia
theorem Sto.sub {sto t : List SO} {m m' : List (Nat × List V)} (S : Sto sto t m) (h : m'.Sublist m) : Sto sto t m' :=
 ⟨S.pre, fun p hp => S.at_ p (h.subset hp), fun p hp => S.lo p (h.subset hp), (h.map (·.1)).nodup S.nd⟩
section
variable {C : Cst} {Γ : Fm} {loc loc1 : List (Option V)} {sto sto1 : List SO}
theorem ee_filt {test : Expr} {x it : Str} {p1 p2 p3 pos : Pos} {scope : Scope} {its : List It} {p : It → Bool} {k : Nat} (ok : CompOk C Γ scope [] [(x, none)]) (hd : (x == ("__debug__" : Str)) = false) (hit : EE C Γ loc sto (.Name it p2) (.lst k) loc sto) (hk : sto[k]? = some (.list (its.map iF))) (hn : its.length ≤ 1000)
  (ht : ∀ Cl (i : It) t, ET C (compΓ Γ scope [] Cl [(x, none)]) [some (iF i)] t test (p i) [some (iF i)] t) :
  EE C Γ loc sto (.ListComp (.Name x p3) [⟨.Name x p1, .Name it p2, [test], 0⟩] scope pos) (.lst sto.length) loc (sto ++ [.list ((its.filter p).map iF)]) :=
 ee_compL (F := iF) (G := iF) (loc0 := [none]) (fun l => ∃ o, l = [o]) (fun _ _ => rfl) ok hit hk (.loc .nil) ⟨_, rfl⟩ hn fun Cl i l t _ ⟨o, e⟩ => by
  subst e
  exact ⟨⟨[some (iF i)], ⟨_, rfl⟩, eu_name .zero (jFA rfl), wct1 (ht Cl i t), fun _ => jD .zero R3 hd⟩⟩
theorem c_full {i : It} (D : D52 C) (g : C.mg "range" = none) (hr : 1 ≤ Γ.room) (hi : OkI i) : EL C Γ loc sto (callF (.ref 264)) [.str i.c, .int i.d, .str i.t] (.str i.full) loc sto :=
 c_lvl D g hr hi (Nat.le_refl _) (if_pos rfl).symm
theorem c_due {k : Nat} {its : List It} (G : GDu C) (hroom : 4 ≤ Γ.room) (hk : sto[k]? = some (.list (its.map iF))) (hn : its.length ≤ 20) (hi : ∀ i ∈ its, OkI i) :
  WL C Γ loc sto (callF (.ref 283)) [.lst k] VR (fun v l t => l = loc ∧ Ex3 fun E Z L => Due its E Z L ∧ Ex4 fun a b c g => v = .tup [.lst a, .lst b, .lst c] ∧ t = sto ++ g ∧ t[a]? = some (.list ((E.flatMap logE ++ L).map V.str)) ∧ t[b]? = some (.list ((E.flatMap refE).map V.str)) ∧ t[c]? = some (.list ((E.map It.full ++ Z.map It.full).map V.str))) No := by
 refine wl_hide fun Q hQ => ?_
 refine wl_defC (nd := 0) sl55 [some (.lst k), none, none, none, none, none, none, none, none, none, none] G.d (Nat.le_trans (by decide) hroom) rfl sl55_eq rfl fun A env frs L own room hr hs hc how => ?_
 have hr3 : 3 ≤ room := by rw [hr] at hroom; exact Nat.le_of_succ_le_succ hroom
 have hn2 : its.length ≤ 1000 := Nat.le_trans hn (by decide)
 have eq7 : (Str.ofString "257 \"").cps.toList = qq := by decide
 have gE : ∀ i : It, decide (i.c < (Str.ofString "257 \"").cps.toList) = earlyB i := fun i => by rw [eq7]; rfl
 have gL : ∀ i : It, decide ((Str.ofString "257 \"").cps.toList < i.c) = lateB i := fun i => by rw [eq7]; rfl
 have ge : ∀ i : It, (iL i)[(1 : Int).toNat]? = some (.str i.c) := fun i => rfl
 have hf1 : (its.filter earlyB).length < 64 := Nat.lt_of_le_of_lt (Nat.le_trans (List.length_filter_le _ _) hn) (by decide)
 have hf2 : (its.filter lateB).length ≤ 20 := Nat.le_trans (List.length_filter_le _ _) hn
 refine jG (w1_assign_swap (names := ["early", "late"]) rfl ?_ (we_tuple (wa_cons jJ (we_call_m (jC (fun _ => star_ListComp) jN) jPA ((jCA hs n55b G.srt PyProof.Rows.Boot.«sorted» (by decide) (by decide)).use ⟨rfl, (jE star_ListComp (ee_filt (its := its) (p := earlyB) (CompOk.plain (fun e => by cases e; kernel_rfl) (by kernel_rfl) (by kernel_rfl) (by kernel_rfl) (by kernel_rfl) (by decide)) (by decide) (jD .zero R3) hk hn2 fun Cl i t => ?_) jP).use (wl_sortedA (F := iL) iSh (fun _ => List.cons_ne_nil _ _) jIA hf1 fun E pE oE => ?_)⟩)))))
 ·unfold swappedStores Env.blockKind Env.kindOf
  rw [hs]
  kernel_rfl
 ·unfold compΓ
  with_reducible exact jR rfl (ee_sub (jD .zero R3) (jF R3) (wl_getT nsl_Constant (by decide) (by decide) (ge i) R3)) (jQ R3) (wl_ltS ⟨gE i, rfl, rfl⟩)
 refine (jE star_ListComp (ee_filt (its := its) (p := lateB) (CompOk.plain (fun e => by cases e; kernel_rfl) (by kernel_rfl) (by kernel_rfl) (by kernel_rfl) (by kernel_rfl) (by decide)) (by decide) (jD .zero R3) (jHA (jHA hk)) hn2 fun Cl i t => ?_) jP).use ⟨Nat.le_of_ble_eq_true rfl, _, rfl, rfl, ?_⟩
 ·unfold compΓ
  with_reducible exact jR rfl (ee_sub (jD .zero R3) (jF R3) (wl_getT nsl_Constant (by decide) (by decide) (ge i) R3)) (jQ R3) (wl_gtS ⟨gL i, rfl, rfl⟩)
 have S1 := (((Sto.start (sto := sto)).app [SO.list ((its.filter earlyB).map iF)]).push (E.map iF)).push ((its.filter lateB).map iF)
 have iE : ∀ i ∈ E, OkI i := fun i h => hi i (List.mem_filter.mp (pE.mem_iff.mp h)).1
 have iLt : ∀ i ∈ its.filter lateB, OkI i := fun i h => hi i (List.mem_filter.mp h).1
 have nE : E.length ≤ 20 := by rw [pE.length_eq]; exact Nat.le_trans (List.length_filter_le _ _) hn
 generalize (sto ++ [SO.list ((its.filter earlyB).map iF)] ++ [SO.list (E.map iF)]).length = kl at S1
 generalize (sto ++ [SO.list ((its.filter earlyB).map iF)]).length = ke at S1
 generalize sto ++ [SO.list ((its.filter earlyB).map iF)] ++ [SO.list (E.map iF)] ++ [SO.list ((its.filter lateB).map iF)] = t1 at S1
 refine (eu_cons (eu_bind .z2 (how _)) (eu_cons (eu_bind .z1 (how _)) (eu_nil rfl))).use ?_
 have fT : ∀ l : List It, l.filter (fun _ => true) = l := fun l => List.filter_eq_self.mpr fun _ _ => rfl
 refine jG (w1_assign_comp (sl0 := [("depth", none), ("core", none), ("tail", none), ("told", none)]) ?_ (fun _ _ => rfl) (CompOk.plain (fun e => by cases e; kernel_rfl) (by kernel_rfl) (by kernel_rfl) (by kernel_rfl) (by kernel_rfl) (by decide)) (how _) (run_of (wit_of (jD .z1 (runL (F := iF) (G := fun i => .str i.full) (p := fun _ => true) (loc0 := [none, none, none, none]) (fun l => Ex4 fun a b c d => l = [a, b, c, d]) ((S1.perm (List.Perm.swap _ _ _)).top) (.loc (.loc (.loc (.loc .nil)))) ⟨_, _, _, _, rfl⟩ (Nat.le_trans nE (by decide)) (fun Cl i l t hm ⟨_, _, _, _, e⟩ => ?_) ⟨_, .z7, ?_⟩)))))
 ·unfold swapsWith Env.blockKind Env.kindOf
  simp only [hs]
  kernel_rfl
 ·subst e
  refine ⟨⟨[some (.int i.d), some (.str i.c), some (.str i.t), some (.str i.told)], ⟨_, _, _, _, rfl⟩, eu_fourS .zero .z1 .z2 .z3 (no_somes rfl), wct0, fun _ => ?_⟩⟩
  unfold compΓ
  with_reducible exact jV G.d52 (jC (fun _ => jA) (jC (fun _ => jA) (jC (fun _ => jA) jN))) (we_glob (by kernel_rfl) G.g52 jW R3) (jE jA (jD .z1 R3) (jE jA (jD .zero R3) (jE jA (jD .z2 R3) jP))) (c_full G.d52 G.rng (Nat.le_trans (by decide) hr3) (iE i hm))
 rw [fT]
 have S2 := S1.push (E.map fun i => V.str i.full)
 generalize t1.length = ko at S2
 generalize t1 ++ [SO.list (E.map fun i => V.str i.full)] = t2 at S2
 have hko := S2.top
 have hkl := (S2.perm (List.Perm.swap _ _ _)).top
 have nZ : (its.filter lateB).length ≤ 1000 := Nat.le_trans hf2 (by decide)
 have e1 : ∀ d : Nat, (0 : Int) - (0 - (d : Int)) = (d : Int) := fun d => by lia
 have hfz : ((its.filter lateB).filter fun _ => true).length < 64 := by rw [fT]; exact Nat.lt_of_le_of_lt hf2 (by decide)
 refine jG (w1_assign (fun _ => rfl) (how _) (we_binop (jD .z7 (we_comp (sl0 := [("depth", none), ("core", none), ("tail", none)]) (fun _ _ => rfl) (CompOk.plain (fun e => by cases e; kernel_rfl) (by kernel_rfl) (by kernel_rfl) (by kernel_rfl) (by kernel_rfl) (by decide)) (run_of (wit_of (we_call_m (jC (fun _ => star_ListComp) jN) jPA ((jCA hs n55b G.srt PyProof.Rows.Boot.«sorted» (by decide) (by decide)).use ⟨rfl, (jE star_ListComp (ee_compL (F := iF) (G := fun i => V.tup (zL i)) (p := fun _ => true) (sl0 := [("depth", none), ("core", none), ("tail", none), ("told", none)]) (loc0 := [none, none, none, none]) (fun l => Ex4 fun a b c d => l = [a, b, c, d]) (fun _ _ => rfl) (CompOk.plain (fun e => by cases e; kernel_rfl) (by kernel_rfl) (by kernel_rfl) (by kernel_rfl) (by kernel_rfl) (by decide)) (jD .z2 R3) hkl (.loc (.loc (.loc (.loc .nil)))) ⟨_, _, _, _, rfl⟩ nZ fun Cl i l t hm ⟨_, _, _, _, e⟩ => ?_) jP).use (wl_sortedA (F := zL) zSh (fun _ => List.cons_ne_nil _ _) jIA hfz fun Z pZ oZ => ?_)⟩))))))))
 ·subst e
  refine ⟨⟨[some (.int i.d), some (.str i.c), some (.str i.t), some (.str i.told)], ⟨_, _, _, _, rfl⟩, eu_fourS .zero .z1 .z2 .z3 (no_somes rfl), wct0, fun _ => ?_⟩⟩
  unfold compΓ
  with_reducible exact jT (jE jH (jO (jF R3) (jD .zero R3) (wl_sub R3)) (jE jA (jD .z1 R3) (jE jA (jD .z2 R3) jP))) (Nat.le_of_ble_eq_true rfl)
 rw [fT] at pZ
 have iZ : ∀ i ∈ Z, OkI i := fun i h => iLt i (pZ.mem_iff.mp h)
 have S3 := (S2.app [SO.list (((its.filter lateB).filter fun _ => true).map fun i => V.tup (zL i))]).push (Z.map fun i => V.tup (zL i))
 refine runL (F := fun i => V.tup (zL i)) (G := fun i => .str i.full) (p := fun _ => true) (loc0 := [none, none, none]) (fun l => Ex3 fun a b c => l = [a, b, c]) S3.top (.loc (.loc (.loc .nil))) ⟨_, _, _, rfl⟩ (by rw [pZ.length_eq]; exact nZ) (fun Cl i l t hm ⟨_, _, _, e⟩ => ?_) ?_
 ·subst e
  refine ⟨⟨[some (.int (0 - (i.d : Int))), some (.str i.c), some (.str i.t)], ⟨_, _, _, rfl⟩, eu_tuple rfl rfl (eu_cons (eu_name .zero (no_some rfl)) (eu_cons (eu_name .z1 (no_some rfl)) (eu_cons (eu_name .z2 (no_some rfl)) (eu_nil rfl)))), wct0, fun _ => ?_⟩⟩
  unfold compΓ
  with_reducible exact jV G.d52 (jC (fun _ => jA) (jC (fun _ => jH) (jC (fun _ => jA) jN))) (we_glob (by kernel_rfl) G.g52 jW R3) (jE jA (jD .z1 R3) (jE jH (jO (jF R3) (jD .zero R3) (wl_sub ⟨congrArg V.int (e1 i.d), rfl, rfl⟩)) (jE jA (jD .z2 R3) jP))) (c_full G.d52 G.rng (Nat.le_trans (by decide) hr3) (iZ i hm))
 rw [fT, fT]
 rw [fT] at S3
 have S4 := S3.push (Z.map fun i => V.str i.full)
 have S5 := (S4.push (E.map (fun i => V.str i.full) ++ Z.map fun i => V.str i.full)).sub (.cons₂ _ (.cons _ (.cons _ (.cons _ (.cons₂ _ (.cons₂ _ .slnil))))))
 have hE0 := (S4.sub (.cons _ (.cons _ (.cons₂ _ (.cons _ (.cons _ .slnil)))))).top
 refine wl_addL hE0 S4.top (by rw [List.length_map, List.length_map, pZ.length_eq]; exact Nat.le_trans (Nat.add_le_add nE hf2) (by decide)) ⟨_, .z7, ?_⟩
 generalize (t2 ++ [SO.list ((its.filter lateB).map fun i => V.tup (zL i))] ++ [SO.list (Z.map fun i => V.tup (zL i))] ++ [SO.list (Z.map fun i => V.str i.full)]).length = ko' at S5 ⊢
 generalize t2 ++ [SO.list ((its.filter lateB).map fun i => V.tup (zL i))] ++ [SO.list (Z.map fun i => V.tup (zL i))] ++ [SO.list (Z.map fun i => V.str i.full)] ++ [SO.list (E.map (fun i => V.str i.full) ++ Z.map fun i => V.str i.full)] = t4 at S5 ⊢
 have hO : E.map (fun i => V.str i.full) ++ Z.map (fun i => V.str i.full) = (E.map It.full ++ Z.map It.full).map V.str := by rw [List.map_append, List.map_map, List.map_map]; rfl
 rw [hO] at S5
 have S6 := (S5.push []).push []
 refine jG (W.use (b := Out.next) (loc1 := l55 k ke kl none none none none ko' t4.length (t4 ++ [SO.list []]).length none) (sto1 := t4 ++ [SO.list []] ++ [SO.list []]) ?_ ?_)
 ·refine e1_assign_swap (names := ["log", "refused"]) (vs := [.lst t4.length, .lst (t4 ++ [SO.list []]).length]) (loc1 := [some (.lst k), some (.lst ke), some (.lst kl), none, none, none, none, some (.lst ko'), none, none, none]) (sto1 := t4 ++ [SO.list []] ++ [SO.list []]) rfl ?_ ?_ rfl ?_
  ·unfold swappedStores Env.blockKind Env.kindOf
   rw [hs]
   kernel_rfl
  ·with_reducible exact jT (jE jL (jEA jP (Nat.le_of_ble_eq_true rfl)) (jE jL (jEA jP (Nat.le_of_ble_eq_true rfl)) jP)) (Nat.le_of_ble_eq_true rfl)
  ·exact eu_cons (eu_bind .z9 (how _)) (eu_cons (eu_bind .z8 (how _)) (eu_nil rfl))
 have S7 : Sto sto (t4 ++ [SO.list []] ++ [SO.list []]) [(t4.length, (([] : List It).flatMap logE).map V.str), ((t4 ++ [SO.list []]).length, (([] : List It).flatMap refE).map V.str), (kl, (its.filter lateB ++ ([] : List It).flatMap latE).map iF), (ko', (E.map It.full ++ Z.map It.full).map V.str), (ke, E.map iF)] := by
  rw [show its.filter lateB ++ ([] : List It).flatMap latE = its.filter lateB from List.append_nil _]
  exact (S6.perm (List.Perm.swap _ _ _)).perm (((List.Perm.swap _ _ _).cons _).cons _)
 generalize (t4 ++ [SO.list []]).length = kr at S7 ⊢
 generalize t4.length = kg at S7 ⊢
 generalize t4 ++ [SO.list []] ++ [SO.list []] = t5 at S7 ⊢
 generalize hOr : (E.map It.full ++ Z.map It.full).map V.str = Or at S7 ⊢
 have toke : ∀ {sto t : List SO} {a b c d e : Nat × List V}, Sto sto t [a, b, c, d, e] → t[e.1]? = some (.list e.2) := fun h => h.at_ _ (by simp)
 refine jG (w1_for (fun _ _ => rfl) (wit_of (jD .z1 (vit_list (toke S7) ⟨fun j => I5 (fun d c tt told kg => l55 k ke kl d c tt told ko' kg kr none) (fun _ _ _ _ kg t => Sto sto t [(kg, ((E.take j).flatMap logE).map V.str), (kr, ((E.take j).flatMap refE).map V.str), (kl, (its.filter lateB ++ (E.take j).flatMap latE).map iF), (ko', Or), (ke, E.map iF)]), ⟨_, _, _, _, _, rfl, S7⟩, fun j l t _ ⟨_, _, _, _, _, _, h⟩ => toke h, ?_, ?_⟩))))
 ·rintro j l t hj ⟨d0, c0, tt0, w0, kg, rfl, Sj⟩
  rw [List.length_map] at hj
  have e0 : (E.map iF)[j]?.getD .none = iF E[j] := by rw [List.getElem?_map, List.getElem?_eq_getElem hj]; rfl
  have hEj : ∀ {α : Type} (f : It → List α), (E.take (j + 1)).flatMap f = (E.take j).flatMap f ++ f E[j] := fun f => by rw [List.take_add_one, List.getElem?_eq_getElem hj, List.flatMap_append]; simp
  have hOk := iE _ (List.getElem_mem hj)
  have hl1 := flat_le (f := logE) (n := 4) (E.take j) fun i h => by
   have := logE_le i
   have := (iE i (List.mem_of_mem_take h)).d2
   lia
  have hl2 := flat_le (E.take j) fun i _ => refE_le i
  have hl3 := flat_le (E.take j) fun i _ => latE_le i
  rw [List.length_take] at hl1 hl2 hl3
  show WL C _ _ _ _ [(E.map iF)[j]?.getD .none] RU _ _
  rw [e0]
  refine (eu_four (loc1 := l55 k ke kl (some (.int E[j].d)) c0 tt0 w0 ko' kg kr none) (loc2 := l55 k ke kl (some (.int E[j].d)) (some (.str E[j].c)) tt0 w0 ko' kg kr none) (loc3 := l55 k ke kl (some (.int E[j].d)) (some (.str E[j].c)) (some (.str E[j].t)) w0 ko' kg kr none) (loc4 := l55 k ke kl (some (.int E[j].d)) (some (.str E[j].c)) (some (.str E[j].t)) (some (.str E[j].told)) ko' kg kr none) .z3 .z4 .z5 .z6 how).use ?_
  refine w_mono (du_turn G (Nat.le_trans (by decide) hr3) hs hc how Sj hOk (by lia) (by lia) (by rw [List.length_append]; lia)) (fun o l t' q => ?_) fun _ _ _ h => h
  obtain ⟨rfl, kg', rfl, S'⟩ := q
  refine ⟨_, _, _, _, kg', rfl, ?_⟩
  rw [hEj, hEj, hEj, ← List.append_assoc]
  exact S'
 rintro l t ⟨d0, c0, tt0, w0, kg, rfl, S8⟩
 rw [List.length_map, List.take_length] at S8
 refine ws_nil ?_
 have hl1 := flat_le (f := logE) (n := 4) E fun i h => by
  have := logE_le i
  have := (iE i h).d2
  lia
 have hl3 := flat_le E fun i _ => latE_le i
 have hLt : (its.filter lateB ++ E.flatMap latE).length ≤ 40 := by rw [List.length_append]; lia
 have iLL : ∀ i ∈ its.filter lateB ++ E.flatMap latE, OkI i := fun i h => by
  rcases List.mem_append.mp h with h | h
  ·exact iLt i h
  ·refine un_1_2 (List.mem_flatMap.mp h) fun j hj h => ?_
   exact latE_ok (iE j hj) h
 have S9 : Sto sto t [(kg, (E.flatMap logE ++ []).map V.str), (kl, (its.filter lateB ++ E.flatMap latE).map iF), (kr, (E.flatMap refE).map V.str), (ko', Or)] := by
  rw [List.append_nil]
  exact (S8.perm ((List.Perm.swap _ _ _).cons _)).sub (.cons₂ _ (.cons₂ _ (.cons₂ _ (.cons₂ _ (.cons _ .slnil)))))
 clear S8
 have hDue : ∀ Ls, Lv (its.filter lateB ++ E.flatMap latE) 3 Ls → Due its E Z Ls := fun Ls h => ⟨pE, oE, pZ, oZ, h⟩
 revert hLt iLL S9 hDue
 generalize its.filter lateB ++ E.flatMap latE = late
 intro hLt iLL S9 hDue
 refine jG ?_
 with_reducible refine w1_for_range (jC (fun _ => jB) (jC (fun _ => jM) (jC (fun _ => jM) jN))) (jCA hs n55a G.rng PyProof.Rows.Boot.«range» (by decide) (by decide)) (jE jB (jF R3) (jE jM (ee_unary (jF R3) (wl_usub R3)) (jE jM (ee_unary (jF R3) (wl_usub R3)) jP))) (.three _ _ _ (by decide) (by decide) (by decide)) ⟨by decide, by decide, .inr (by decide)⟩ (how _) (fun j => I5 (fun d c tt w o => l55 k ke kl d c tt w ko' kg kr o) (fun _ _ _ _ _ t => ∃ Ls, Lv late j Ls ∧ Ls.length ≤ 80 * j ∧ Sto sto t [(kg, (E.flatMap logE ++ Ls).map V.str), (kl, late.map iF), (kr, (E.flatMap refE).map V.str), (ko', Or)])) ⟨_, _, _, _, _, rfl, [], .zero, Nat.zero_le _, S9⟩ ?_ ?_
 ·rintro j l t hj ⟨d0, c0, tt0, w0, o, rfl, Ls, hLs, hLl, Sj⟩
  have hj3 : j < 3 := by rw [rsz_down] at hj; exact hj
  have e2 : (2 : Int) + j * (-1) = ((2 - j : Nat) : Int) := by lia
  refine ⟨l55 k ke kl d0 c0 tt0 w0 ko' kg kr (some (.int (2 - j : Nat))), ?_, ?_⟩
  ·show SetSlot _ _ _ (.int ((2 : Int) + j * (-1))) _
   rw [e2]
   exact .z10
  ·refine w_mono (du_lvl G (Nat.le_trans (by decide) hr3) hs hc how Sj iLL (by rw [List.length_append]; lia) (Nat.lt_of_le_of_lt hLt (by decide))) (fun o l t' q => ?_) fun _ _ _ h => h
   obtain ⟨rfl, d1, c1, tt1, rfl, T, pT, oT, S'⟩ := q
   have hT : (lvB T (2 - j)).length ≤ 80 := by
    have h1 := lvB_le T (2 - j)
    have h2 := pT.length_eq
    have h3 := List.length_filter_le (fun i : It => decide (2 - j ≤ i.d)) late
    lia
   exact ⟨_, _, _, _, _, rfl, _, .succ hLs pT oT, by rw [List.length_append]; lia, by rw [← List.append_assoc]; exact S'⟩
 ·rintro l t ⟨d0, c0, tt0, w0, o, rfl, Ls, hLs, hLl, Sj⟩
  obtain ⟨g, hg⟩ := Sj.pre
  refine ws_nil (jG (w1_ret (W.use (b := V.tup [.lst kg, .lst kr, .lst ko']) (loc1 := l55 k ke kl d0 c0 tt0 w0 ko' kg kr o) (sto1 := t) ?_ ⟨_, rfl, hQ _ _ _ ⟨rfl, E, Z, Ls, hDue _ hLs, kg, kr, ko', g, rfl, hg.symm, Sj.top, Sj.at_ _ (.tail _ (.tail _ (.head _))), by rw [hOr]; exact Sj.at_ _ (.tail _ (.tail _ (.tail _ (.head _))))⟩⟩)))
  with_reducible exact jT (jE jA (jD .z8 R3) (jE jA (jD .z9 R3) (jE jA (jD .z7 R3) jP))) (Nat.le_of_ble_eq_true rfl)
end
end Mine
namespace Mine
open PySem PySem.W PyProof.Rows PySem.Calls
noncomputable abbrev mdT : List (List Nat) := [[34], [34, 32, 109, 97, 100, 101], []]
noncomputable def tlX (x : Int) : List Nat := mdT.getD ((x.fdiv 18).fmod 3).toNat []
noncomputable def dX (x : Int) : Nat := (x.fmod 3).toNat
noncomputable def fmX (x : Int) : List Nat := (fmL (mdI x) 10).flatten
noncomputable def sgX (x : Int) : List Nat := sg (mdI x) 9
noncomputable def txX (k : Nat) (x : Int) : List Nat := wr (coC k x (fmX x)) (dX x) (tlX x) (dX x)
noncomputable def itX (k : Nat) (x : Int) : It := ⟨dX x, coC k x (sgX x), tlX x, if (x.fdiv 3).fmod 6 = 2 then sgX x ++ [32, 104] else []⟩
noncomputable def txs (xs : List Int) (n : Nat) : List (List Nat) := (List.range n).map fun k => txX k (xs.getD k 0)
noncomputable def itm (xs : List Int) (n : Nat) : List It := (List.range n).map fun k => itX k (xs.getD k 0)
noncomputable abbrev moreX : List Int := [226820, 1372288, 799423, 552480, 10, 31, 276104, 523, 1680915, 8925, 341]
noncomputable def numX (s : List Int) : List Int := s.take 4 ++ moreX
noncomputable abbrev ps56 : List Str := ["script"]
noncomputable abbrev rs56 : List Str := ["numbers", "texts", "items", "k", "x", "mode", "tail", "log", "refused", "order"]
noncomputable abbrev sl56 (L : Addr) : List (Str × Option Addr) := [("script", none), ("numbers", none), ("texts", none), ("items", none), ("k", none), ("x", none), ("mode", some (L + 1)), ("tail", none), ("log", none), ("refused", none), ("order", none)]
theorem sl56_eq (L : Addr) : slC (sc 56).names L (ps56 ++ rs56) = sl56 L := by kernel_rfl
noncomputable abbrev l56 (ks : V) (kn kt ki : Nat) (k x m t : Option V) : List (Option V) := [some ks, some (.lst kn), some (.lst kt), some (.lst ki), k, x, m, t, none, none, none]
noncomputable def askL : List (Addr × Int × Int) := [(175, 32768, 8), (154, 16384, 4), (189, 40960, 10), (161, 8192, 2), (168, 24576, 6), (182, 4096, 1), (196, 49152, 12)]
structure GLw (C : Cst) (C1 C2 Eb : Addr) : Prop where
 d : DefC C 288 56 ps56 rs56 0
 du : GDu C
 tk : GTk C C1 C2 Eb
 co : GCo C
 ns : GNs C
 nl : GNl C
 sg : Def C 250 50 ["mode"] ["text", "k", "bit", "set_bit"]
 ask : ∀ p ∈ askL, (Ex2 fun o fd => C.h0.get? p.1 = some o ∧ o.data = .func fd) ∧ ∀ {Γ : Fm} {loc : List (Option V)} {sto : List SO} {m : Int}, 2 ≤ Γ.room → EL C Γ loc sto (callF (.ref p.1)) [.int m] (.bool (Builtin.bitAnd m 61440 == p.2.1)) loc sto
 enu : C.mg "enumerate" = none
 g1 : C.mg "_law_mode" = some (.ref 243)
 a1 : C.mg "S_ISREG" = some (.ref 175)
 a2 : C.mg "S_ISDIR" = some (.ref 154)
 a3 : C.mg "S_ISLNK" = some (.ref 189)
 a4 : C.mg "S_ISCHR" = some (.ref 161)
 a5 : C.mg "S_ISBLK" = some (.ref 168)
 a6 : C.mg "S_ISFIFO" = some (.ref 182)
 a7 : C.mg "S_ISSOCK" = some (.ref 196)
 gw : C.mg "_law_wrapped" = some (.ref 264)
 gc : C.mg "_law_core" = some (.ref 257)
 gf : C.mg "filemode" = some (.ref 236)
 gs : C.mg "_law_signs" = some (.ref 250)
 gd : C.mg "_law_due" = some (.ref 283)
 gn : C.mg "nsmallest" = some (.ref 134)
 gl : C.mg "nlargest" = some (.ref 140)
 gt : C.mg "_law_taken" = some (.ref 278)
theorem n56a : (sc 56).names.lookup (Str.ofString "enumerate") = some .globalImplicit := by kernel_rfl
theorem n56b : (sc 56).names.lookup (Str.ofString "_law_mode") = some .globalImplicit := by kernel_rfl
theorem n56c : (sc 56).names.lookup (Str.ofString "_law_wrapped") = some .globalImplicit := by kernel_rfl
theorem n56d : (sc 56).names.lookup (Str.ofString "_law_core") = some .globalImplicit := by kernel_rfl
theorem n56e : (sc 56).names.lookup (Str.ofString "filemode") = some .globalImplicit := by kernel_rfl
theorem n56f : (sc 56).names.lookup (Str.ofString "_law_signs") = some .globalImplicit := by kernel_rfl
theorem n56g : (sc 56).names.lookup (Str.ofString "_law_due") = some .globalImplicit := by kernel_rfl
theorem n56h : (sc 56).names.lookup (Str.ofString "nsmallest") = some .globalImplicit := by kernel_rfl
theorem n56i : (sc 56).names.lookup (Str.ofString "nlargest") = some .globalImplicit := by kernel_rfl
theorem n56j : (sc 56).names.lookup (Str.ofString "_law_taken") = some .globalImplicit := by kernel_rfl
theorem q1 : (sc 56).names.lookup (Str.ofString "S_ISREG") = some .globalImplicit := by kernel_rfl
theorem q2 : (sc 56).names.lookup (Str.ofString "S_ISDIR") = some .globalImplicit := by kernel_rfl
theorem q3 : (sc 56).names.lookup (Str.ofString "S_ISLNK") = some .globalImplicit := by kernel_rfl
theorem q4 : (sc 56).names.lookup (Str.ofString "S_ISCHR") = some .globalImplicit := by kernel_rfl
theorem q5 : (sc 56).names.lookup (Str.ofString "S_ISBLK") = some .globalImplicit := by kernel_rfl
theorem q6 : (sc 56).names.lookup (Str.ofString "S_ISFIFO") = some .globalImplicit := by kernel_rfl
theorem q7 : (sc 56).names.lookup (Str.ofString "S_ISSOCK") = some .globalImplicit := by kernel_rfl
theorem tlX_get (x : Int) : (mdT.map V.str)[((x.fdiv 18).fmod 3).toNat]? = some (.str (tlX x)) := by
 have h := fmod_rng (x.fdiv 18) (b := 3) (by decide)
 have h3 : ((x.fdiv 18).fmod 3).toNat < 3 := by lia
 unfold tlX
 generalize ((x.fdiv 18).fmod 3).toNat = i at h3
 match i, h3 with
 | 0, _ => rfl
 | 1, _ => rfl
 | 2, _ => rfl
theorem dX_int (x : Int) : x.fmod 3 = (dX x : Int) := by
 have h := fmod_rng x (b := 3) (by decide)
 unfold dX; lia
noncomputable def fbL : List Stmt := match (bd 56).getD 1 (.Pass ⟨0, 0, 0, 0⟩) with | .For _ _ b _ _ => b | _ => []
section
variable {C : Cst} {Γ : Fm} {loc loc1 : List (Option V)} {sto sto1 : List SO}
theorem ee_ask {c : Addr} {cl : List (Str × Addr)} {Ls : List (Addr × Int × Int)} {iter : Expr} {scope : Scope} {p1 p2 p3 p4 pos : Pos} {k : Nat} {m : Int} (ok : CompOk C Γ scope cl [("ask", none), ("mode", some c)]) (hf : ∀ env x, foldedSetIterable iter env x = pure x) (hit : EE C Γ loc sto iter (.lst k) loc sto1) (hk : sto1[k]? = some (.list (Ls.map fun p => V.raw (.ref p.1)))) (hl : Ls.length ≤ 1000) (hcap : Cap Γ.sl loc [("ask", none), ("mode", some c)] [none, some (.int m)])
  (hA : ∀ p ∈ Ls, (Ex2 fun o fd => C.h0.get? p.1 = some o ∧ o.data = .func fd) ∧ ∀ {Γ : Fm} {loc : List (Option V)} {sto : List SO} {m : Int}, 2 ≤ Γ.room → EL C Γ loc sto (callF (.ref p.1)) [.int m] (.bool (Builtin.bitAnd m 61440 == p.2.1)) loc sto) (hr : 2 ≤ Γ.room) :
  EE C Γ loc sto (.ListComp (.Call (.Name (Str.ofString "ask") p1) [.Name (Str.ofString "mode") p2] [] p3) [⟨.Name (Str.ofString "ask") p4, iter, [], 0⟩] scope pos) (.lst sto1.length) loc (sto1 ++ [.list (Ls.map fun p => V.bool (Builtin.bitAnd m 61440 == p.2.1))]) := by
 have := ee_compL (pos := pos) (F := fun p : Addr × Int × Int => V.raw (.ref p.1)) (G := fun p => V.bool (Builtin.bitAnd m 61440 == p.2.1)) (p := fun _ => true) (target := .Name (Str.ofString "ask") p4) (elt := .Call (.Name (Str.ofString "ask") p1) [.Name (Str.ofString "mode") p2] [] p3) (ifs := []) (loc0 := [none, some (.int m)]) (fun l => ∃ o, l = [o, some (.int m)]) hf ok hit hk hcap ⟨_, rfl⟩ hl fun Cl p l t hp ⟨o, e⟩ => by
  subst e
  obtain ⟨⟨ob, fd, ho, hd⟩, h⟩ := hA p hp
  refine ⟨⟨[some (.raw (.ref p.1)), some (.int m)], ⟨_, rfl⟩, eu_name .zero (no_some rfl), wct0, fun _ => ?_⟩⟩
  unfold compΓ
  with_reducible exact ee_call_f (jC (fun _ => jA) jN) ho hd (jD .zero R3) (jE jA (jD .z1 R3) jP) (h hr)
 rwa [show Ls.filter (fun _ => true) = Ls from List.filter_eq_self.mpr fun _ _ => rfl] at this
theorem ee_kind {c : Addr} {cl : List (Str × Addr)} {Ls : List (Addr × Int × Int)} {iter : Expr} {scope : Scope} {p1 p2 p3 p4 p5 p6 pos : Pos} {k1 k : Nat} {m : Int} (ok : CompOk C Γ scope cl [("kind", none), ("mode", some c)]) (hf : ∀ env x, foldedSetIterable iter env x = pure x) (hit : EE C Γ loc sto iter (.lst k) loc sto1) (hk : sto1[k]? = some (.list (Ls.map fun p => V.int p.2.2))) (hl : Ls.length ≤ 1000) (hcap : Cap Γ.sl loc [("kind", none), ("mode", some c)] [none, some (.int m)]) :
  EE C Γ loc sto (.ListComp (.Compare (.BinOp (.Name (Str.ofString "mode") p1) .FloorDiv (.Constant (.int 4096) k1 p2) p3) [.Eq] [.Name (Str.ofString "kind") p4] p5) [⟨.Name (Str.ofString "kind") p6, iter, [], 0⟩] scope pos) (.lst sto1.length) loc (sto1 ++ [.list (Ls.map fun p => V.bool (m.fdiv 4096 == p.2.2))]) := by
 have := ee_compL (pos := pos) (F := fun p : Addr × Int × Int => V.int p.2.2) (G := fun p => V.bool (m.fdiv 4096 == p.2.2)) (p := fun _ => true) (target := .Name (Str.ofString "kind") p6) (elt := .Compare (.BinOp (.Name (Str.ofString "mode") p1) .FloorDiv (.Constant (.int 4096) k1 p2) p3) [.Eq] [.Name (Str.ofString "kind") p4] p5) (ifs := []) (loc0 := [none, some (.int m)]) (fun l => ∃ o, l = [o, some (.int m)]) hf ok hit hk hcap ⟨_, rfl⟩ hl fun Cl p l t hp ⟨o, e⟩ => by
  subst e
  refine ⟨⟨[some (.int p.2.2), some (.int m)], ⟨_, rfl⟩, eu_name .zero (no_some rfl), wct0, fun _ => ?_⟩⟩
  unfold compΓ
  with_reducible exact ee_cmp rfl (jO (jD .z1 R3) (jF R3) (wl_fdiv (by decide) R3)) (jD .zero R3) (wl_eqI R3)
 rwa [show Ls.filter (fun _ => true) = Ls from List.filter_eq_self.mpr fun _ _ => rfl] at this
theorem lw_turn {C1 C2 Eb : Addr} {A : Around} {env : Env} {frs : List Env} {L : Addr} {own : List Addr} {ks : V} {room kn kt ki k : Nat} {x : Int} {t : List SO} {T : List (List Nat)} {I : List It} {m : List (Nat × List V)} {o1 o2 : Option V} (G : GLw C C1 C2 Eb) (hr : 4 ≤ room) (hs : env.scope = sc 56) (hc : env.cells = csOf (sc 56).names L) (how : ∀ x c, (x, some c) ∈ sl56 L → c ∈ own)
  (S : Sto sto t ((kt, T.map V.str) :: (ki, I.map iF) :: m)) (hk : k < 15) (hT : T.length ≤ 9000) (hI : I.length ≤ 9000) (hK : ∀ p ∈ askL, (Builtin.bitAnd (mdI x) 61440 == p.2.1) = ((mdI x).fdiv 4096 == p.2.2)) (hf : (fmX x).length ≤ 20) (hi : OkI (itX k x)) (hi2 : (coC k x (fmX x)).length ≤ 100) :
  WS C ⟨A, env, sl56 L, frs, own, room⟩ (l56 ks kn kt ki (some (.int k)) (some (.int x)) o1 o2) t fbL (P2 (fun o1 o2 => l56 ks kn kt ki (some (.int k)) (some (.int x)) o1 o2) (fun _ _ t' => Sto sto t' ((kt, (T ++ [txX k x]).map V.str) :: (ki, (I ++ [itX k x]).map iF) :: m))) No := by
 refine ws_hide fun Q hQ => ?_
 unfold fbL
 have hd18 : ((18 : Int) = 0) = False := by simp
 have S1 := S.app [.list mdV] |>.app [.list (mdT.map V.str)]
 refine jG (W.use (b := Out.next) (loc1 := l56 ks kn kt ki (some (.int k)) (some (.int x)) (some (.int (mdI x))) (some (.str (tlX x)))) (sto1 := t ++ [.list mdV] ++ [.list (mdT.map V.str)]) ?_ ?_)
 ·refine e1_assign_tuple rfl ?_ (v := .tup [.int (mdI x), .str (tlX x)]) (loc1 := l56 ks kn kt ki (some (.int k)) (some (.int x)) o1 o2) (sto1 := t ++ [.list mdV] ++ [.list (mdT.map V.str)]) ?_ ?_
  ·unfold swappedStores Env.blockKind Env.kindOf
   rw [hs]
   kernel_rfl
  ·have em : mdT.map V.str = [V.str (Str.ofString "\"").cps.toList, .str (Str.ofString "\" made").cps.toList, .str (Str.ofString "").cps.toList] := by
    rw [show (Str.ofString "\"").cps.toList = [34] by decide, show (Str.ofString "\" made").cps.toList = [34, 32, 109, 97, 100, 101] by decide, show (Str.ofString "").cps.toList = [] by decide]; rfl
   have hv := tlX_get x
   have hb := fmod_rng (x.fdiv 18) (b := 3) (by decide)
   have hb2 : (x.fdiv 18).fmod 3 < 2 ^ 62 := by lia
   rw [em] at hv ⊢
   with_reducible exact jT (jE jJ (jV G.co.D1 (jC (fun _ => jA) jN) (jU hs n56b G.g1 jW (by decide)) (jE jA (jD .z5 R3) jP) (c_mode G.co.D1 (Nat.le_trans (by decide) hr))) (jE jI (ee_sub (jEA (jE jB (jQ R3) (jE jB (jQ R3) (jE jB (jQ R3) jP))) (Nat.le_of_ble_eq_true rfl)) (jO (jO (jD .z5 R3) (jF R3) (wl_fdiv (by decide) R3)) (jF R3) (wl_mod (by decide) R3)) (jKA nsl_BinOp jIA hb.1 hb2 hv R3)) jP)) (Nat.le_of_ble_eq_true rfl)
  ·exact eu_tuple rfl rfl (eu_cons (eu_name .z6 (how _)) (eu_cons (eu_name .z7 (how _)) (eu_nil rfl)))
 generalize t ++ [SO.list mdV] ++ [SO.list (mdT.map V.str)] = t1 at S1 ⊢
 have hm0 : ∀ a b : List Bool, a = b → (!lEq (a.map V.bool) (b.map V.bool)) = false := fun a b e => by rw [sEq_bools, e]; simp
 have hr2 : 2 ≤ room := Nat.le_trans (by decide) hr
 obtain ⟨Ls, hLs⟩ : ∃ Ls, askL = Ls := ⟨_, rfl⟩
 have hcmp : ∀ {k1 k2 : Nat} {tt : List SO} {loc : List (Option V)}, tt[k1]? = some (.list (Ls.map fun p => V.bool (Builtin.bitAnd (mdI x) 61440 == p.2.1))) → tt[k2]? = some (.list (Ls.map fun p => V.bool ((mdI x).fdiv 4096 == p.2.2))) → EB C ⟨A, env, sl56 L, frs, own, room⟩ loc tt (f2 (compareOp .NotEq)) [.lst k1, .lst k2] false loc tt := fun {k1 k2 tt loc} h1 h2 => by
  have e1 : (Ls.map fun p => V.bool (Builtin.bitAnd (mdI x) 61440 == p.2.1)) = (Ls.map fun p => (Builtin.bitAnd (mdI x) 61440 == p.2.1)).map V.bool := by rw [List.map_map]; rfl
  have e2 : (Ls.map fun p => V.bool ((mdI x).fdiv 4096 == p.2.2)) = (Ls.map fun p => ((mdI x).fdiv 4096 == p.2.2)).map V.bool := by rw [List.map_map]; rfl
  rw [e1] at h1
  rw [e2] at h2
  exact wl_neL h1 h2 same_bools ⟨hm0 _ _ (List.map_congr_left (hLs ▸ hK)), rfl, rfl⟩
 have i1 : (Ls.map fun p => V.raw (.ref p.1)) = [.raw (.ref 175), .raw (.ref 154), .raw (.ref 189), .raw (.ref 161), .raw (.ref 168), .raw (.ref 182), .raw (.ref 196)] := by rw [← hLs]; rfl
 have i2 : (Ls.map fun p => V.int p.2.2) = [.int 8, .int 4, .int 10, .int 2, .int 6, .int 1, .int 12] := by rw [← hLs]; rfl
 have hl : Ls.length ≤ 1000 := by rw [← hLs]; decide
 have hA := G.ask
 rw [hLs] at hA
 have S2 := S1.app [SO.list (Ls.map fun p => V.raw (.ref p.1))] |>.app [.list (Ls.map fun p => V.bool (Builtin.bitAnd (mdI x) 61440 == p.2.1))] |>.app [.list (Ls.map fun p => V.int p.2.2)] |>.app [.list (Ls.map fun p => V.bool ((mdI x).fdiv 4096 == p.2.2))]
 refine jG (W.use (b := Out.next) (loc1 := l56 ks kn kt ki (some (.int k)) (some (.int x)) (some (.int (mdI x))) (some (.str (tlX x)))) (sto1 := t1 ++ [SO.list (Ls.map fun p => V.raw (.ref p.1))] ++ [.list (Ls.map fun p => V.bool (Builtin.bitAnd (mdI x) 61440 == p.2.1))] ++ [.list (Ls.map fun p => V.int p.2.2)] ++ [.list (Ls.map fun p => V.bool ((mdI x).fdiv 4096 == p.2.2))]) ?_ ?_)
 ·refine e1_ifF (jR rfl (ee_ask (m := mdI x) (c := L + 1) (cl := [("mode", L + 1)]) (Ls := Ls) ?_ (fun _ _ => rfl) ?_ jIA hl ?_ hA hr2) (ee_kind (m := mdI x) (c := L + 1) (cl := [("mode", L + 1)]) (Ls := Ls) ?_ (fun _ _ => rfl) ?_ jIA hl ?_) (hcmp (jHA (jHA jIA)) jIA)) es_nil
  ·refine ⟨?_, jMA (by kernel_rfl), by kernel_rfl, nam_of (by kernel_rfl), fun x hx => ?_, fun x c hx => ?_, ?_, by simp⟩
   ·refine clos_env hs hc fun env hs hc => ?_
    obtain ⟨sc0, _, _, cs0, _, _, _, _, _⟩ := env
    dsimp only at hs hc
    subst hs; subst hc
    kernel_rfl
   ·simp only [List.mem_cons, Prod.mk.injEq, reduceCtorEq, and_false, and_true, List.not_mem_nil, or_false] at hx
    subst hx
    kernel_rfl
   ·obtain ⟨sc0, _, _, cs0, _, _, _, _, _⟩ := env
    dsimp only at hs hc
    subst hs; subst hc
    simp only [List.mem_cons, Prod.mk.injEq, reduceCtorEq, and_false, Option.some.injEq, List.not_mem_nil, or_false, false_or] at hx
    obtain ⟨rfl, rfl⟩ := hx
    exact ⟨by kernel_rfl, by kernel_rfl⟩
   ·show [Str.ofString "ask", Str.ofString "mode"].Nodup
    decide
  ·rw [i1]
   with_reducible exact jEA (jE jA (jU hs q1 G.a1 jW (by decide)) (jE jA (jU hs q2 G.a2 jW (by decide)) (jE jA (jU hs q3 G.a3 jW (by decide)) (jE jA (jU hs q4 G.a4 jW (by decide)) (jE jA (jU hs q5 G.a5 jW (by decide)) (jE jA (jU hs q6 G.a6 jW (by decide)) (jE jA (jU hs q7 G.a7 jW (by decide)) jP))))))) (Nat.le_of_ble_eq_true rfl)
  ·exact .loc (.cap .z6 .nil)
  ·refine ⟨?_, jMA (by kernel_rfl), by kernel_rfl, nam_of (by kernel_rfl), fun x hx => ?_, fun x c hx => ?_, ?_, by simp⟩
   ·refine clos_env hs hc fun env hs hc => ?_
    obtain ⟨sc0, _, _, cs0, _, _, _, _, _⟩ := env
    dsimp only at hs hc
    subst hs; subst hc
    kernel_rfl
   ·simp only [List.mem_cons, Prod.mk.injEq, reduceCtorEq, and_false, and_true, List.not_mem_nil, or_false] at hx
    subst hx
    kernel_rfl
   ·obtain ⟨sc0, _, _, cs0, _, _, _, _, _⟩ := env
    dsimp only at hs hc
    subst hs; subst hc
    simp only [List.mem_cons, Prod.mk.injEq, reduceCtorEq, and_false, Option.some.injEq, List.not_mem_nil, or_false, false_or] at hx
    obtain ⟨rfl, rfl⟩ := hx
    exact ⟨by kernel_rfl, by kernel_rfl⟩
   ·show [Str.ofString "kind", Str.ofString "mode"].Nodup
    decide
  ·rw [i2]
   with_reducible exact jEA (jE jB (jF R3) (jE jB (jF R3) (jE jB (jF R3) (jE jB (jF R3) (jE jB (jF R3) (jE jB (jF R3) (jE jB (jF R3) jP))))))) (Nat.le_of_ble_eq_true rfl)
  ·exact .loc (.cap .z6 .nil)
 generalize t1 ++ [SO.list (Ls.map fun p => V.raw (.ref p.1))] ++ [SO.list (Ls.map fun p => V.bool (Builtin.bitAnd (mdI x) 61440 == p.2.1))] ++ [SO.list (Ls.map fun p => V.int p.2.2)] ++ [SO.list (Ls.map fun p => V.bool ((mdI x).fdiv 4096 == p.2.2))] = t2 at S2 ⊢
 have ht10 : (tlX x).length ≤ 10 := hi.tn
 have hd2 : dX x ≤ 2 := hi.d2
 refine un_1_2 (G.du.d52.fn) fun fd52 f52 _ => ?_
 refine un_1_2 (f52.at_) fun ob52 ho52 hd52 => ?_
 refine un_1_2 (G.co.D.fn) fun fdc fc _ => ?_
 refine un_1_2 (fc.at_) fun obc hoc hdc => ?_
 have hTl : (T.map V.str).length ≤ 10000 := by rw [List.length_map]; exact Nat.le_trans hT (by decide)
 have hIl : (I.map iF).length ≤ 10000 := by rw [List.length_map]; exact Nat.le_trans hI (by decide)
 have eT : ∀ g, (T.map V.str ++ [V.str (wr (coC k x (fmX x)) (dX x) (tlX x) (dX x))]) = g → g = (T ++ [txX k x]).map V.str := fun g e => by rw [← e, List.map_append]; rfl
 have hkt := S2.top
 refine jG (w1_expr (fun _ => rfl) (jDA (jC (fun _ => jJ) jN) jLA (by decide) rfl PySem.F.plainAttrs_list PySem.F.slot_list_append PySem.F.type_list_append (jD .z2 ⟨fun as s x F r => lst_hT F r hkt, wa_cons jJ (we_call_f (jC (fun _ => jJ) (jC (fun _ => jH) (jC (fun _ => jA) jN))) ho52 hd52 ((jU hs n56c G.gw jW (by decide)).use ⟨rfl, wa_cons jJ (we_callD (loc1 := l56 ks kn kt ki (some (.int k)) (some (.int x)) (some (.int (mdI x))) (some (.str (tlX x)))) (sto1 := t2 ++ [SO.list ((fmL (mdI x) 10).map V.str)]) G.co.D (jC (fun _ => jA) (jC (fun _ => jA) (jC (fun _ => jJ) jN))) (jU hs n56d G.gc jW (by decide)) (vs := [.int k, .int x, .str (fmX x)]) ?_ (jX (c_core G.co hr2 hk hf) (fun v l t q => ?_) fun _ _ _ h => h.elim))⟩))⟩)))
 ·with_reducible exact jE jA (jD .z4 R3) (jE jA (jD .z5 R3) (jE jJ (jV G.tk.rd.fm.D (jC (fun _ => jA) jN) (jU hs n56e G.gf jW (by decide)) (jE jA (jD .z6 R3) jP) (c_filemode G.tk.rd.fm hr2)) jP))
 refine un_0_2 (q) fun n549x0 c549x => ?_; (try clear q); refine un_1_1 c549x fun g e549x2 => ?_; clear c549x; subst e549x2; obtain ⟨rfl, rfl⟩ := n549x0
 have S3 := (S2.app [SO.list ((fmL (mdI x) 10).map V.str)]).app g
 generalize t2 ++ [SO.list ((fmL (mdI x) 10).map V.str)] ++ g = t3 at S3 ⊢
 refine W.use (b := [V.int (dX x), .str (tlX x)]) (loc1 := l56 ks kn kt ki (some (.int k)) (some (.int x)) (some (.int (mdI x))) (some (.str (tlX x)))) (sto1 := t3) ?_ ((c_wrapped G.du.d52 G.du.rng (Nat.le_trans (by decide) hr2) hd2 hi2 ht10).use (jP.use (jBA S3.top hTl ?_)))
 ·with_reducible exact jE jH (jO (jD .z5 R3) (jF R3) (wl_mod (by decide) ⟨congrArg V.int (dX_int x), rfl, rfl⟩)) (jE jA (jD .z7 R3) jP)
 have S4 := S3.set (T.map V.str ++ [V.str (wr (coC k x (fmX x)) (dX x) (tlX x) (dX x))])
 generalize t3.set kt (.list (T.map V.str ++ [V.str (wr (coC k x (fmX x)) (dX x) (tlX x) (dX x))])) = t4 at S4 ⊢
 rw [eT _ rfl] at S4
 have S5 := S4.perm (List.Perm.swap _ _ _)
 have hki := S5.top
 have hm := mdI_rng x
 have hm0 : 0 ≤ mdI x := by lia
 have hsl : (sgX x).length ≤ 20 := by unfold sgX; rw [sg_len]; decide
 have hr1 : 1 ≤ room := Nat.le_trans (by decide) hr2
 have hsp : ∀ {tt : List SO} {loc : List (Option V)}, WL C ⟨A, env, sl56 L, frs, own, room⟩ loc tt (callF (.ref 250)) [.int (mdI x)] VR (fun v l t => (v = .str (sgX x) ∧ l = loc) ∧ ∃ g, t = tt ++ g) No := c_signs G.sg G.du.rng hr1 hm0 hm.2
 have fin : ∀ tt, Sto sto tt ((ki, I.map iF) :: (kt, (T ++ [txX k x]).map V.str) :: m) → Sto sto (tt.set ki (.list (I.map iF ++ [iF (itX k x)]))) ((kt, (T ++ [txX k x]).map V.str) :: (ki, (I ++ [itX k x]).map iF) :: m) := fun tt h => by
  have := (h.set (I.map iF ++ [iF (itX k x)])).perm (List.Perm.swap _ _ _)
  rw [show (I ++ [itX k x]).map iF = I.map iF ++ [iF (itX k x)] by rw [List.map_append]; rfl]; exact this
 refine jG (w1_expr (fun _ => rfl) (jDA (jC (fun _ => jK) jN) jLA (by decide) rfl PySem.F.plainAttrs_list PySem.F.slot_list_append PySem.F.type_list_append (jD .z3 ⟨fun as s x F r => lst_hT F r hki, wa_cons jK (we_tuple (wa_cons jH (W.use (b := V.int (dX x)) (loc1 := l56 ks kn kt ki (some (.int k)) (some (.int x)) (some (.int (mdI x))) (some (.str (tlX x)))) (sto1 := t4) ?_ (wa_cons jJ (we_call_f (jC (fun _ => jA) (jC (fun _ => jA) (jC (fun _ => jJ) jN))) hoc hdc ((jU hs n56d G.gc jW (by decide)).use ⟨rfl, wa_cons jA (jD .z4 (wa_cons jA (jD .z5 (wa_cons jJ (we_callD (loc1 := l56 ks kn kt ki (some (.int k)) (some (.int x)) (some (.int (mdI x))) (some (.str (tlX x)))) (sto1 := t4) G.sg (jC (fun _ => jA) jN) (jU hs n56f G.gs jW (by decide)) (jE jA (jD .z6 R3) jP) (jX hsp (fun v l t q => ?_) fun _ _ _ h => h.elim))))))⟩))))))⟩)))
 ·with_reducible exact (jO (jD .z5 R3) (jF R3) (wl_mod (by decide) ⟨congrArg V.int (dX_int x), rfl, rfl⟩))
 refine un_0_2 (q) fun n550x0 c550x => ?_; (try clear q); refine un_1_1 c550x fun g e550x2 => ?_; clear c550x; subst e550x2; obtain ⟨rfl, rfl⟩ := n550x0
 have S6 := S5.app g
 generalize t4 ++ g = t5 at S6 ⊢
 refine jP.use (jX (c_core G.co hr2 hk hsl) (fun v l t q => ?_) fun _ _ _ h => h.elim)
 refine un_0_2 (q) fun n551x0 c551x => ?_; (try clear q); refine un_1_1 c551x fun g2 e551x2 => ?_; clear c551x; subst e551x2; obtain ⟨rfl, rfl⟩ := n551x0
 have S7 := S6.app g2
 generalize t5 ++ g2 = t6 at S7 ⊢
 refine wa_cons jA (jD .z7 (wa_cons star_IfExp (we_ifexp ?_)))
 by_cases hc2 : (x.fdiv 3).fmod 6 = 2
 ·have q : ((x.fdiv 3).fmod 6 == 2) = true := by rw [hc2]; rfl
  refine W.use (b := true) (loc1 := l56 ks kn kt ki (some (.int k)) (some (.int x)) (some (.int (mdI x))) (some (.str (tlX x)))) (sto1 := t6) ?_ (we_binop (we_callD (loc1 := l56 ks kn kt ki (some (.int k)) (some (.int x)) (some (.int (mdI x))) (some (.str (tlX x)))) (sto1 := t6) G.sg (jC (fun _ => jA) jN) (jU hs n56f G.gs jW (by decide)) (jE jA (jD .z6 R3) jP) (jX hsp (fun v l t q => ?_) fun _ _ _ h => h.elim)))
  ·with_reducible exact jR rfl (jO (jO (jD .z5 R3) (jF R3) (wl_fdiv (by decide) R3)) (jF R3) (wl_mod (by decide) R3)) (jF R3) (wl_eqI ⟨q, rfl, rfl⟩)
  refine un_0_2 (q) fun n552x0 c552x => ?_; (try clear q); refine un_1_1 c552x fun g3 e552x2 => ?_; clear c552x; subst e552x2; obtain ⟨rfl, rfl⟩ := n552x0
  have S8 := S7.app g3
  generalize t6 ++ g3 = t7 at S8 ⊢
  have e8 : sgX x ++ (Str.ofString " h").cps.toList = (itX k x).told := by
   show _ = if (x.fdiv 3).fmod 6 = 2 then sgX x ++ [32, 104] else []
   rw [if_pos hc2, show (Str.ofString " h").cps.toList = [32, 104] by decide]
  refine jQ (jNA (by rw [show (Str.ofString " h").cps.toList.length = 2 by decide]; lia) ?_)
  rw [e8]
  exact jP.use ⟨Nat.le_of_ble_eq_true rfl, jP.use (jBA S8.top hIl (ws_nil (hQ _ _ _ ⟨rfl, _, _, rfl, fin _ S8⟩)))⟩
 ·have q : ((x.fdiv 3).fmod 6 == 2) = false := beq_eq_false_iff_ne.mpr hc2
  refine W.use (b := false) (loc1 := l56 ks kn kt ki (some (.int k)) (some (.int x)) (some (.int (mdI x))) (some (.str (tlX x)))) (sto1 := t6) ?_ (jQ ?_)
  ·with_reducible exact jR rfl (jO (jO (jD .z5 R3) (jF R3) (wl_fdiv (by decide) R3)) (jF R3) (wl_mod (by decide) R3)) (jF R3) (wl_eqI ⟨q, rfl, rfl⟩)
  have e8 : (Str.ofString "").cps.toList = (itX k x).told := by
   show _ = if (x.fdiv 3).fmod 6 = 2 then sgX x ++ [32, 104] else []
   rw [if_neg hc2, nil257']
  rw [e8]
  exact jP.use ⟨Nat.le_of_ble_eq_true rfl, jP.use (jBA S7.top hIl (ws_nil (hQ _ _ _ ⟨rfl, _, _, rfl, fin _ S7⟩)))⟩
end
end Mine
namespace Mine
open PySem PySem.W PyProof.Rows PySem.Calls
structure LawOk (xs : List Int) : Prop where
 kinds : ∀ x : Int, ∀ p ∈ askL, (Builtin.bitAnd (mdI x) 61440 == p.2.1) = ((mdI x).fdiv 4096 == p.2.2)
 fm : ∀ x, (fmX x).length ≤ 20
 okI : ∀ k x, k < 15 → OkI (itX k x)
 co : ∀ k x, k < 15 → (coC k x (fmX x)).length ≤ 100
 nx : ∀ x out rf, Nx1 x out rf → RTk x out rf
 run : ∀ E Z L, Due (itm xs xs.length) E Z L → Runs (txs xs xs.length) (E.flatMap logE ++ L) (E.flatMap refE) ∧ (E.flatMap logE ++ L).length ≤ 9999 ∧ (E.map It.full ++ Z.map It.full).Perm (txs xs xs.length) ∧ (E.map It.full ++ Z.map It.full).Pairwise fun x y => sL y x = false
theorem txs_succ (xs : List Int) (n : Nat) : txs xs (n + 1) = txs xs n ++ [txX n (xs.getD n 0)] := by unfold txs; rw [List.range_succ, List.map_append]; rfl
theorem itm_succ (xs : List Int) (n : Nat) : itm xs (n + 1) = itm xs n ++ [itX n (xs.getD n 0)] := by unfold itm; rw [List.range_succ, List.map_append]; rfl
section
variable {C : Cst} {Γ : Fm} {loc loc1 : List (Option V)} {sto sto1 : List SO}
theorem c_law {C1 C2 Eb sa : Addr} {s xs : List Int} {A : Around} {env : Env} {frs : List Env} {L : Addr} {own : List Addr} {room : Nat} (G : GLw C C1 C2 Eb) (hr5 : 5 ≤ room) (hk : RawL C sa (s.map V.int)) (hsl : s.length ≤ 1000) (hxs : numX s = xs) (H : LawOk xs)
  (hs : env.scope = sc 56) (hc : env.cells = csOf (sc 56).names L) (how : ∀ x c, (x, some c) ∈ sl56 L → c ∈ own) :
  WS C ⟨A, env, sl56 L, frs, own, room⟩ [some (.raw (.ref sa)), none, none, none, none, none, none, none, none, none, none] sto (bd 56) (fun o _ _ => ∃ v, o = .ret v ∧ v = .bool true) No := by
 have hx11 : 11 ≤ xs.length ∧ xs.length ≤ 15 := by rw [← hxs]; unfold numX; rw [List.length_append, List.length_take]; show 11 ≤ _ + 11 ∧ _ + 11 ≤ 15; lia
 have hsl4 : slc (s.map V.int) none (some 4) = (s.take 4).map V.int := by rw [show (4 : Int) = ((4 : Nat) : Int) from rfl, slc_to, List.map_take]
 have hml : (s.map V.int).length ≤ 100000 := by rw [List.length_map]; exact Nat.le_trans hsl (by decide)
 have hsum : (s.take 4).map V.int ++ moreX.map V.int = xs.map V.int := by rw [← List.map_append, ← hxs]; rfl
 have S0 := ((((Sto.start (sto := sto)).app [SO.list ((s.take 4).map V.int)]).app [SO.list (moreX.map V.int)]).push (xs.map V.int)).push [] |>.push []
 have ha : ((s.take 4).map V.int).length + (moreX.map V.int).length ≤ 100000 := by rw [List.length_map, List.length_take, List.length_map]; show _ + 11 ≤ _; lia
 refine jG (W.use (b := Out.next) (loc1 := l56 (.raw (.ref sa)) (sto ++ [SO.list ((s.take 4).map V.int)] ++ [SO.list (moreX.map V.int)]).length (sto ++ [SO.list ((s.take 4).map V.int)] ++ [SO.list (moreX.map V.int)] ++ [SO.list (xs.map V.int)]).length (sto ++ [SO.list ((s.take 4).map V.int)] ++ [SO.list (moreX.map V.int)] ++ [SO.list (xs.map V.int)] ++ [SO.list []]).length none none none none) (sto1 := sto ++ [SO.list ((s.take 4).map V.int)] ++ [SO.list (moreX.map V.int)] ++ [SO.list (xs.map V.int)] ++ [SO.list []] ++ [SO.list []]) ?_ ?_)
 ·refine e1_assign_swap (names := ["numbers", "texts", "items"]) (vs := [.lst (sto ++ [SO.list ((s.take 4).map V.int)] ++ [SO.list (moreX.map V.int)]).length, .lst (sto ++ [SO.list ((s.take 4).map V.int)] ++ [SO.list (moreX.map V.int)] ++ [SO.list (xs.map V.int)]).length, .lst (sto ++ [SO.list ((s.take 4).map V.int)] ++ [SO.list (moreX.map V.int)] ++ [SO.list (xs.map V.int)] ++ [SO.list []]).length]) (loc1 := [some (.raw (.ref sa)), none, none, none, none, none, none, none, none, none, none]) (sto1 := sto ++ [SO.list ((s.take 4).map V.int)] ++ [SO.list (moreX.map V.int)] ++ [SO.list (xs.map V.int)] ++ [SO.list []] ++ [SO.list []]) rfl ?_ ?_ rfl ?_
  ·unfold swappedStores Env.blockKind Env.kindOf
   rw [hs]
   kernel_rfl
  ·have em : moreX.map V.int = [.int 226820, .int 1372288, .int 799423, .int 552480, .int 10, .int 31, .int 276104, .int 523, .int 1680915, .int 8925, .int 341] := rfl
   rw [← hsum]
   rw [em] at ha ⊢
   with_reducible exact jT (jE jH (jO (jS (jD .zero R3) jZ (jAA (jF R3)) jZ (wsl_raw hk .none (.int 4) hml ⟨rfl, rfl, by rw [hsl4]⟩)) (jEA (jE jB (jF R3) (jE jB (jF R3) (jE jB (jF R3) (jE jB (jF R3) (jE jB (jF R3) (jE jB (jF R3) (jE jB (jF R3) (jE jB (jF R3) (jE jB (jF R3) (jE jB (jF R3) (jE jB (jF R3) jP))))))))))) (Nat.le_of_ble_eq_true rfl)) (wl_addL (jHA jIA) jIA ha R3)) (jE jL (jEA jP (Nat.le_of_ble_eq_true rfl)) (jE jL (jEA jP (Nat.le_of_ble_eq_true rfl)) jP))) (Nat.le_of_ble_eq_true rfl)
  ·exact eu_cons (eu_bind .z3 (how _)) (eu_cons (eu_bind .z2 (how _)) (eu_cons (eu_bind .z1 (how _)) (eu_nil rfl)))
 generalize (sto ++ [SO.list ((s.take 4).map V.int)] ++ [SO.list (moreX.map V.int)] ++ [SO.list (xs.map V.int)] ++ [SO.list []]).length = ki at S0 ⊢
 generalize (sto ++ [SO.list ((s.take 4).map V.int)] ++ [SO.list (moreX.map V.int)] ++ [SO.list (xs.map V.int)]).length = kt at S0 ⊢
 generalize (sto ++ [SO.list ((s.take 4).map V.int)] ++ [SO.list (moreX.map V.int)]).length = kn at S0 ⊢
 generalize sto ++ [SO.list ((s.take 4).map V.int)] ++ [SO.list (moreX.map V.int)] ++ [SO.list (xs.map V.int)] ++ [SO.list []] ++ [SO.list []] = t0 at S0 ⊢
 have S1 : Sto sto t0 [(kt, (txs xs 0).map V.str), (ki, (itm xs 0).map iF), (kn, xs.map V.int)] := S0.perm (List.Perm.swap _ _ _)
 have tokn : ∀ {sto t : List SO} {a b c : Nat × List V}, Sto sto t [a, b, c] → t[c.1]? = some (.list c.2) := fun h => h.at_ _ (by simp)
 refine jG (w1_for (fun _ _ => rfl) (wit_enum_list (jC (fun _ => jA) jN) ((jCA hs n56a G.enu PyProof.Rows.Boot.«enumerate» (by decide) (by decide)).use ⟨rfl, (jE jA (jD .z1 R3) jP).use ⟨_, _, rfl, tokn S1, fun j => I4 (fun o1 o2 kk xx => l56 (.raw (.ref sa)) kn kt ki kk xx o1 o2) (fun _ _ _ _ t => Sto sto t [(kt, (txs xs j).map V.str), (ki, (itm xs j).map iF), (kn, xs.map V.int)]), ⟨_, _, _, _, rfl, S1⟩, fun j l t _ ⟨_, _, _, _, _, h⟩ => tokn h, ?_, ?_⟩⟩)))
 ·rintro j l t hj ⟨o1, o2, kk, xx, rfl, Sj⟩
  rw [List.length_map] at hj
  have hj15 : j < 15 := Nat.lt_of_lt_of_le hj hx11.2
  have e0 : (xs.map V.int)[j]?.getD .none = .int (xs.getD j 0) := by rw [List.getElem?_map, List.getElem?_eq_getElem hj, gd 0 hj]; rfl
  show WL C _ _ _ _ [.tup [.int j, (xs.map V.int)[j]?.getD .none]] RU _ _
  rw [e0]
  refine (eu_pair2 (loc1 := l56 (.raw (.ref sa)) kn kt ki (some (.int j)) xx o1 o2) (loc2 := l56 (.raw (.ref sa)) kn kt ki (some (.int j)) (some (.int (xs.getD j 0))) o1 o2) .z4 .z5 how).use ?_
  refine w_mono (lw_turn G (Nat.le_trans (by decide) hr5) hs hc how Sj hj15 (by unfold txs; rw [List.length_map, List.length_range]; lia) (by unfold itm; rw [List.length_map, List.length_range]; lia) (H.kinds _) (H.fm _) (H.okI _ _ hj15) (H.co _ _ hj15)) (fun o l t' q => ?_) fun _ _ _ h => h
  obtain ⟨rfl, o1, o2, rfl, S'⟩ := q
  exact ⟨_, _, _, _, rfl, by rw [txs_succ, itm_succ]; exact S'⟩
 rintro l t ⟨o1, o2, kk, xx, rfl, S2⟩
 rw [List.length_map] at S2
 refine ws_nil ?_
 clear S1 S0
 have nI : (itm xs xs.length).length = xs.length := by unfold itm; rw [List.length_map, List.length_range]
 have nT : (txs xs xs.length).length = xs.length := by unfold txs; rw [List.length_map, List.length_range]
 have iI : ∀ i ∈ itm xs xs.length, OkI i := fun i h => by
  unfold itm at h
  refine un_1_2 (List.mem_map.mp h) fun k hk e556x2 => ?_; subst e556x2
  exact H.okI _ _ (Nat.lt_of_lt_of_le (List.mem_range.mp hk) hx11.2)
 have hrun := H.run
 have hki := (S2.perm (List.Perm.swap _ _ _)).top
 revert nI nT iI hrun S2 hki
 generalize itm xs xs.length = IT
 generalize txs xs xs.length = TX
 intro S2 nI nT iI hrun hki
 refine jG (w1_assign_tuple rfl ?_ (ee_callC G.du.d (jC (fun _ => jA) jN) (jU hs n56g G.gd jW (by decide)) (jE jA (jD .z3 R3) jP) (jX (c_due (loc := l56 (.raw (.ref sa)) kn kt ki kk xx o1 o2) (sto := t) G.du (Nat.le_trans (by decide) hr5) hki (by rw [nI]; exact Nat.le_trans hx11.2 (by decide)) iI) (fun v l t' q => ?_) fun _ _ _ h => h.elim)))
 ·rfl
 obtain ⟨rfl, E, Z, Ls, hD, a, b, c, g, rfl, rfl, ha, hb, hcc⟩ := q
 refine un_0_4 (hrun E Z Ls hD) fun hR hLl hP hO => ?_
 revert hR hLl hP hO ha hb hcc
 generalize E.flatMap logE ++ Ls = LOG
 generalize E.flatMap refE = REF
 generalize E.map It.full ++ Z.map It.full = ORD
 intro ha hb hcc hR hLl hP hO
 have S3 := S2.app g
 generalize t ++ g = t1 at S3 ha hb hcc ⊢
 have hkt := S3.top
 refine (eu_three (loc1 := [some (.raw (.ref sa)), some (.lst kn), some (.lst kt), some (.lst ki), kk, xx, o1, o2, some (.lst a), none, none]) (loc2 := [some (.raw (.ref sa)), some (.lst kn), some (.lst kt), some (.lst ki), kk, xx, o1, o2, some (.lst a), some (.lst b), none]) (loc3 := [some (.raw (.ref sa)), some (.lst kn), some (.lst kt), some (.lst ki), kk, xx, o1, o2, some (.lst a), some (.lst b), some (.lst c)]) .z8 .z9 .z10 how).use ?_
 have nO : ORD.length = xs.length := hP.length_eq.trans nT
 have h5 : 5 < TX.length := by rw [nT]; lia
 have hTl : TX.length ≤ 1000 := by rw [nT]; lia
 have hOl : (ORD.map V.str).length ≤ 100000 := by rw [List.length_map, nO]; lia
 have hne : ∀ u v : List (List Nat), u = v → (!lEq (u.map V.str) (v.map V.str)) = false := fun u v e => by rw [sEq_strs, e]; simp
 have s5 : ∀ u : List (List Nat), slc (u.map V.str) none (some 5) = (u.take 5).map V.str := fun u => by rw [show (5 : Int) = ((5 : Nat) : Int) from rfl, slc_to, List.map_take]
 refine jG (jGA (wt_or (wt_cmp rfl (ee_callC (loc1 := [some (.raw (.ref sa)), some (.lst kn), some (.lst kt), some (.lst ki), kk, xx, o1, o2, some (.lst a), some (.lst b), some (.lst c)]) (sto1 := t1) G.ns.d (jC (fun _ => jB) (jC (fun _ => jA) jN)) (jU hs n56h G.gn jW (by decide)) (vs := [.int 5, .lst kt]) (jE jB (jF R3) (jE jA (jD .z2 R3) jP)) (jX (c_nsmallest G.ns hr5 hkt h5 hTl hP hO) (fun v l t' q => ?_) fun _ _ _ h => h.elim)))))
 refine un_0_2 (q) fun e559x0 c559x => ?_; (try clear q); refine ux_2_3 c559x fun j1 g1 e559x3 e559x4 hj1 => ?_; clear c559x; subst e559x0; subst e559x3; subst e559x4
 refine W.use (b := V.lst (t1 ++ g1).length) (loc1 := [some (.raw (.ref sa)), some (.lst kn), some (.lst kt), some (.lst ki), kk, xx, o1, o2, some (.lst a), some (.lst b), some (.lst c)]) (sto1 := t1 ++ g1 ++ [SO.list ((ORD.take 5).map V.str)]) ?_ (wl_neL (jHA hj1) jIA same_strs ?_)
 ·with_reducible exact jS (jD .z10 R3) jZ (jAA (jF R3)) jZ (jOA (jHA hcc) .none (.int 5) hOl ⟨rfl, rfl, by rw [s5]⟩)
 rw [hne _ _ rfl]
 have S4 := (S3.app g1).app [SO.list ((ORD.take 5).map V.str)]
 have hcc2 := jHA (g := [SO.list ((ORD.take 5).map V.str)]) (jHA (g := g1) hcc)
 have ha2 := jHA (g := [SO.list ((ORD.take 5).map V.str)]) (jHA (g := g1) ha)
 have hb2 := jHA (g := [SO.list ((ORD.take 5).map V.str)]) (jHA (g := g1) hb)
 generalize t1 ++ g1 ++ [SO.list ((ORD.take 5).map V.str)] = t2 at S4 hcc2 ha2 hb2 ⊢
 have hO2 : ORD.reverse.Pairwise fun x y => sL x y = false := List.pairwise_reverse.mpr hO
 refine wt_or (wt_cmp rfl (ee_callC (loc1 := [some (.raw (.ref sa)), some (.lst kn), some (.lst kt), some (.lst ki), kk, xx, o1, o2, some (.lst a), some (.lst b), some (.lst c)]) (sto1 := t2) G.nl.d (jC (fun _ => jB) (jC (fun _ => jA) jN)) (jU hs n56i G.gl jW (by decide)) (vs := [.int 5, .lst kt]) (jE jB (jF R3) (jE jA (jD .z2 R3) jP)) (jX (c_nlargest G.nl hr5 S4.top h5 hTl ((List.reverse_perm ORD).trans hP) hO2) (fun v l t' q => ?_) fun _ _ _ h => h.elim)))
 refine un_0_2 (q) fun e560x0 c560x => ?_; (try clear q); refine ux_2_3 c560x fun j2 g2 e560x3 e560x4 hj2 => ?_; clear c560x; subst e560x0; subst e560x3; subst e560x4
 have hOr : ((ORD.map V.str).reverse).length ≤ 100000 := by rw [List.length_reverse]; exact hOl
 have sr : slc (ORD.map V.str).reverse none (some 5) = (ORD.reverse.take 5).map V.str := by rw [← List.map_reverse]; exact s5 _
 refine W.use (b := V.lst (t2 ++ g2 ++ [SO.list (ORD.map V.str).reverse]).length) (loc1 := [some (.raw (.ref sa)), some (.lst kn), some (.lst kt), some (.lst ki), kk, xx, o1, o2, some (.lst a), some (.lst b), some (.lst c)]) (sto1 := t2 ++ g2 ++ [SO.list (ORD.map V.str).reverse] ++ [SO.list ((ORD.reverse.take 5).map V.str)]) ?_ (wl_neL (jHA (jHA hj2)) jIA same_strs ?_)
 ·with_reducible exact jS (jS (jD .z10 R3) jZ jZ (jAA (ee_unary (jF R3) (wl_usub R3))) (wsl_rev (jHA hcc2) hOl R3)) jZ (jAA (jF R3)) jZ (jOA jIA .none (.int 5) hOr ⟨rfl, rfl, by rw [sr]⟩)
 rw [hne _ _ rfl]
 have S5 := ((S4.app g2).app [SO.list (ORD.map V.str).reverse]).app [SO.list ((ORD.reverse.take 5).map V.str)]
 have ha3 := jHA (g := [SO.list ((ORD.reverse.take 5).map V.str)]) (jHA (g := [SO.list (ORD.map V.str).reverse]) (jHA (g := g2) ha2))
 have hb3 := jHA (g := [SO.list ((ORD.reverse.take 5).map V.str)]) (jHA (g := [SO.list (ORD.map V.str).reverse]) (jHA (g := g2) hb2))
 generalize t2 ++ g2 ++ [SO.list (ORD.map V.str).reverse] ++ [SO.list ((ORD.reverse.take 5).map V.str)] = t3 at S5 ha3 hb3 ⊢
 refine wt_or_nil (ws_nil (jG (w1_ret (we_cmp rfl (we_callD (loc1 := [some (.raw (.ref sa)), some (.lst kn), some (.lst kt), some (.lst ki), kk, xx, o1, o2, some (.lst a), some (.lst b), some (.lst c)]) (sto1 := t3) G.tk.d (jC (fun _ => jA) jN) (jU hs n56j G.gt jW (by decide)) (jE jA (jD .z2 R3) jP) (jX (c_taken G.tk H.nx hr5 S5.top hTl hR hLl) (fun v l t' q => ?_) fun _ _ _ h => h.elim))))))
 refine un_0_2 (q) fun e561x0 c561x => ?_; (try clear q); refine ux_3_4 c561x fun i1 i2 g3 e561x4 e561x5 hi1 hi2 => ?_; clear c561x; subst e561x0; subst e561x4; subst e561x5
 refine W.use (b := V.tup [.lst a, .lst b]) (loc1 := [some (.raw (.ref sa)), some (.lst kn), some (.lst kt), some (.lst ki), kk, xx, o1, o2, some (.lst a), some (.lst b), some (.lst c)]) (sto1 := t3 ++ g3) ?_ (wl_rt (wl_eqTL (Nat.le_trans (by decide) hr5) hi1 hi2 (jHA ha3) (jHA hb3) ⟨_, rfl, by simp⟩))
 with_reducible exact jT (jE jA (jD .z8 R3) (jE jA (jD .z9 R3) jP)) (Nat.le_of_ble_eq_true rfl)
end
end Mine
namespace Mine
open PySem
theorem and_kind {n : Nat} (h : n < 65536) : n &&& 61440 = n / 4096 * 4096 := by
 have e : 61440 = 15 <<< 12 := by decide
 have e2 : n / 4096 * 4096 = (n >>> 12) <<< 12 := by rw [Nat.shiftLeft_eq, Nat.shiftRight_eq_div_pow]
 rw [e, e2]
 refine Nat.eq_of_testBit_eq fun i => ?_
 rw [Nat.testBit_and, Nat.testBit_shiftLeft, Nat.testBit_shiftLeft, Nat.testBit_shiftRight]
 by_cases h12 : 12 ≤ i
 ·by_cases h16 : 16 ≤ i
  ·have : n.testBit i = false := Nat.testBit_lt_two_pow (Nat.lt_of_lt_of_le h (Nat.pow_le_pow_right (by decide : 2 > 0) h16))
   simp [this, h12]
  ·have : (15 : Nat).testBit (i - 12) = true := by
    have : i - 12 = 0 ∨ i - 12 = 1 ∨ i - 12 = 2 ∨ i - 12 = 3 := by lia
    rcases this with e | e | e | e <;> rw [e] <;> decide
   simp [this, h12]
 ·simp [h12]
theorem and_pow (n i : Nat) : n &&& 2 ^ i = if n.testBit i then 2 ^ i else 0 := by
 refine Nat.eq_of_testBit_eq fun j => ?_
 rw [Nat.testBit_and, Nat.testBit_two_pow]
 by_cases e : i = j
 ·subst e; cases h : n.testBit i <;> simp
 ·cases h : n.testBit i <;> simp [e]
theorem band_nat (n k : Nat) : Builtin.bitAnd (n : Int) (k : Int) = ((n &&& k : Nat) : Int) := by
 show Spec.bitAnd (n : Int) (k : Int) = _
 unfold Spec.bitAnd
 rw [decide_eq_true (Int.natCast_nonneg n), decide_eq_true (Int.natCast_nonneg k)]
 rfl
theorem band_bit (n i : Nat) : (Builtin.bitAnd (n : Int) ((2 ^ i : Nat) : Int) == ((2 ^ i : Nat) : Int)) = n.testBit i := by
 rw [band_nat, and_pow]
 have : 0 < 2 ^ i := Nat.pow_pos (by decide)
 cases h : n.testBit i
 ·simp; lia
 ·simp
theorem band_two {n i j : Nat} (hij : j < i) : (Builtin.bitAnd (n : Int) ((2 ^ i + 2 ^ j : Nat) : Int) == ((2 ^ i + 2 ^ j : Nat) : Int)) = (n.testBit i && n.testBit j) := by
 have hlt : 2 ^ j < 2 ^ i := Nat.pow_lt_pow_right (by decide) hij
 have hp : 0 < 2 ^ j := Nat.pow_pos (by decide)
 have e : 2 ^ i + 2 ^ j = 2 ^ i ||| 2 ^ j := by have := Nat.two_pow_add_eq_or_of_lt hlt 1; rwa [Nat.mul_one] at this
 have h0 : n &&& (2 ^ i + 2 ^ j) = (if n.testBit i then 2 ^ i else 0) ||| (if n.testBit j then 2 ^ j else 0) := by rw [e, Nat.and_or_distrib_left, and_pow, and_pow]
 rw [band_nat, h0]
 cases n.testBit i <;> cases n.testBit j <;> simp
 ·lia
 ·lia
 ·lia
 ·rw [← e]; rfl
theorem bI_bit (n e : Nat) : bI (n : Int) (e : Int) = if n.testBit e then 1 else 0 := by
 unfold bI
 rw [Int.toNat_natCast, show ((2 : Int) ^ e) = ((2 ^ e : Nat) : Int) by push_cast; rfl, Int.fdiv_eq_ediv_of_nonneg _ (Int.natCast_nonneg _), Int.fmod_eq_emod_of_nonneg _ (by decide), ← Int.natCast_ediv, show (2 : Int) = ((2 : Nat) : Int) from rfl, ← Int.natCast_emod, Nat.testBit_eq_decide_div_mod_eq]
 have := Nat.mod_two_eq_zero_or_one (n / 2 ^ e)
 rcases this with h | h <;> rw [h] <;> rfl
theorem ch1 {m b : Int} {i : Nat} {c : Nat} {β : Bool} (hi : i ≠ 0) (e : (Builtin.bitAnd m b == b) = β) : fmCh m i [(b, [c])] = [if β then c else 45] := by
 unfold fmCh fmHit fmNo
 simp only [List.find?_cons, if_neg hi, e, List.find?_nil]
 cases β <;> rfl
theorem ch3 {m b1 b2 b3 : Int} {i : Nat} {c1 c2 c3 : Nat} {β γ : Bool} (hi : i ≠ 0) (e1 : (Builtin.bitAnd m b1 == b1) = (β && γ)) (e2 : (Builtin.bitAnd m b2 == b2) = β) (e3 : (Builtin.bitAnd m b3 == b3) = γ) : fmCh m i [(b1, [c1]), (b2, [c2]), (b3, [c3])] = [if β then (if γ then c1 else c2) else if γ then c3 else 45] := by
 unfold fmCh fmHit fmNo
 simp only [List.find?_cons, if_neg hi, e1, e2, e3, List.find?_nil]
 cases β <;> cases γ <;> rfl
end Mine
namespace Mine
open PySem
theorem st_a {n i e k c : Nat} (h : i % 3 ≠ 2) (he : 8 - (i : Int) = (e : Int)) (hc : (i : Int).fmod 3 + 1 = (k : Int)) (hl : lrwx.getD k 0 = c) : sgStep (n : Int) i = [if n.testBit e then c else 45] := by
 unfold sgStep
 rw [if_neg (fun q => h q.1), he, bI_bit, hc]
 cases n.testBit e
 ·rw [if_neg Bool.false_ne_true, if_neg Bool.false_ne_true, Int.mul_zero]; rfl
 ·rw [if_pos rfl, if_pos rfl, Int.mul_one, Int.toNat_natCast, hl]
theorem st_b {n i e f c1 c2 : Nat} (h : i % 3 = 2) (he : 8 - (i : Int) = (e : Int)) (hf : 11 - (i : Int).fdiv 3 = (f : Int)) (hc : (i : Int).fmod 3 + 1 = 3) (hs : ssT.getD (i / 3) [] = [c2, c1]) : sgStep (n : Int) i = [if n.testBit f then (if n.testBit e then c1 else c2) else if n.testBit e then 120 else 45] := by
 unfold sgStep
 rw [he, hf, bI_bit, bI_bit, hc, hs]
 cases n.testBit e <;> cases n.testBit f
 ·rw [if_neg (fun q => by have := q.2; cases this)]; rfl
 ·rw [if_pos ⟨h, rfl⟩]; rfl
 ·rw [if_neg (fun q => by have := q.2; cases this)]; rfl
 ·rw [if_pos ⟨h, rfl⟩]; rfl
theorem kind_tab : ∀ a : Fin 16, (match (ftab.getD 0 []).find? (fun p => (((a.val * 4096 : Nat) : Int) == p.1)) with | some p => p.2 | none => [63]) = [lkind.getD a.val 0] := by decide +kernel
theorem band_kind {n : Nat} (h : n < 65536) : Builtin.bitAnd (n : Int) 61440 = ((n / 4096 * 4096 : Nat) : Int) := by
 rw [show (61440 : Int) = ((61440 : Nat) : Int) from rfl, band_nat, and_kind h]
theorem fdiv_nat (n : Nat) : (n : Int).fdiv 4096 = ((n / 4096 : Nat) : Int) := by
 rw [Int.fdiv_eq_ediv_of_nonneg _ (by decide)]; rfl
theorem fm_sg {n : Nat} (h : n < 65536) : (fmL (n : Int) 10).flatten = sg (n : Int) 9 := by
 have ha : n / 4096 < 16 := by lia
 have k0 : fmCh (n : Int) 0 (ftab.getD 0 []) = [lkind.getD ((n : Int).fdiv 4096).toNat 0] := by
  rw [fdiv_nat, Int.toNat_natCast, ← kind_tab ⟨n / 4096, ha⟩]
  unfold fmCh fmHit fmNo
  simp only [if_pos, band_kind h]
  try rfl
 show fmCh (n : Int) 0 (ftab.getD 0 []) ++ (fmCh (n : Int) 1 [(256, [114])] ++ (fmCh (n : Int) 2 [(128, [119])] ++ (fmCh (n : Int) 3 [(2112, [115]), (2048, [83]), (64, [120])] ++ (fmCh (n : Int) 4 [(32, [114])] ++ (fmCh (n : Int) 5 [(16, [119])] ++ (fmCh (n : Int) 6 [(1032, [115]), (1024, [83]), (8, [120])] ++ (fmCh (n : Int) 7 [(4, [114])] ++ (fmCh (n : Int) 8 [(2, [119])] ++ (fmCh (n : Int) 9 [(513, [116]), (512, [84]), (1, [120])] ++ []))))))))) = [lkind.getD ((n : Int).fdiv 4096).toNat 0] ++ sgStep n 0 ++ sgStep n 1 ++ sgStep n 2 ++ sgStep n 3 ++ sgStep n 4 ++ sgStep n 5 ++ sgStep n 6 ++ sgStep n 7 ++ sgStep n 8
 rw [k0, ch1 (m := (n : Int)) (i := 1) (b := 256) (by decide) (band_bit n 8), ch1 (m := (n : Int)) (i := 2) (b := 128) (by decide) (band_bit n 7), ch3 (m := (n : Int)) (i := 3) (b1 := 2112) (b2 := 2048) (b3 := 64) (by decide) (band_two (n := n) (i := 11) (j := 6) (by decide)) (band_bit n 11) (band_bit n 6), ch1 (m := (n : Int)) (i := 4) (b := 32) (by decide) (band_bit n 5), ch1 (m := (n : Int)) (i := 5) (b := 16) (by decide) (band_bit n 4), ch3 (m := (n : Int)) (i := 6) (b1 := 1032) (b2 := 1024) (b3 := 8) (by decide) (band_two (n := n) (i := 10) (j := 3) (by decide)) (band_bit n 10) (band_bit n 3), ch1 (m := (n : Int)) (i := 7) (b := 4) (by decide) (band_bit n 2), ch1 (m := (n : Int)) (i := 8) (b := 2) (by decide) (band_bit n 1), ch3 (m := (n : Int)) (i := 9) (b1 := 513) (b2 := 512) (b3 := 1) (by decide) (band_two (n := n) (i := 9) (j := 0) (by decide)) (band_bit n 9) (band_bit n 0),
  st_a (i := 0) (e := 8) (k := 1) (by decide) (by decide) (by decide) rfl, st_a (i := 1) (e := 7) (k := 2) (by decide) (by decide) (by decide) rfl, st_b (i := 2) (e := 6) (f := 11) (by decide) (by decide) (by decide) (by decide) rfl, st_a (i := 3) (e := 5) (k := 1) (by decide) (by decide) (by decide) rfl, st_a (i := 4) (e := 4) (k := 2) (by decide) (by decide) (by decide) rfl, st_b (i := 5) (e := 3) (f := 10) (by decide) (by decide) (by decide) (by decide) rfl, st_a (i := 6) (e := 2) (k := 1) (by decide) (by decide) (by decide) rfl, st_a (i := 7) (e := 1) (k := 2) (by decide) (by decide) (by decide) rfl, st_b (i := 8) (e := 0) (f := 9) (by decide) (by decide) (by decide) (by decide) rfl]
 rfl
theorem mdI_nat (x : Int) : ∃ n : Nat, mdI x = n ∧ n < 65536 := by
 have := mdI_rng x
 exact ⟨(mdI x).toNat, by lia, by lia⟩
theorem fmX_eq (x : Int) : fmX x = sgX x := by
 refine un_1_2 (mdI_nat x) fun n e h => ?_
 unfold fmX sgX
 rw [e]; exact fm_sg h
theorem kinds_ok (x : Int) : ∀ p ∈ askL, (Builtin.bitAnd (mdI x) 61440 == p.2.1) = ((mdI x).fdiv 4096 == p.2.2) := by
 refine un_1_2 (mdI_nat x) fun n e h => ?_
 rw [e, band_kind h, fdiv_nat]
 generalize n / 4096 = a
 have key : ∀ k : Nat, (((a * 4096 : Nat) : Int) == ((k * 4096 : Nat) : Int)) = ((a : Int) == (k : Int)) := fun k => by
  rw [Bool.eq_iff_iff, beq_iff_eq, beq_iff_eq]; lia
 intro p hp
 simp only [askL, List.mem_cons, List.not_mem_nil, or_false] at hp
 rcases hp with rfl | rfl | rfl | rfl | rfl | rfl | rfl
 ·exact key 8
 ·exact key 4
 ·exact key 10
 ·exact key 2
 ·exact key 6
 ·exact key 1
 ·exact key 12
end Mine
namespace Mine
open PySem
noncomputable abbrev hd5 : List Nat := [50, 50, 57, 32, 40]
theorem mkC_cases (k : Nat) : mkC k = 124 ∨ mkC k = 34 := by
 unfold mkC
 have h := fmod_rng (k : Int) (b := 2) (by decide)
 have h2 : ((k : Int).fmod 2).toNat < 2 := by lia
 generalize ((k : Int).fmod 2).toNat = i at h2
 match i, h2 with
 | 0, _ => exact .inl (by decide)
 | 1, _ => exact .inr (by decide)
theorem rep3 (m : Nat) : rep [m] 3 = [m, m, m] := rfl
theorem rep2 (m : Nat) : rep [m] 2 = [m, m] := rfl
structure PD (m : Nat) (d : List Nat) : Prop where
 mark : m = 124 ∨ m = 34
 dg : ∀ c ∈ d, 48 ≤ c ∧ c ≤ 57
 ln : d.length ≤ 5
 ne : d ≠ []
theorem dig_pd (k : Nat) (x : Int) : PD (mkC k) (dig (mdI x)) := by
 have h := mdI_rng x
 have h0 : 0 ≤ mdI x := by lia
 refine ⟨mkC_cases k, dig_chars h0, dig_len h0 h.2, fun e => ?_⟩
 rw [dig_eq h0] at e
 have := Nat.toDigits_ne_nil (b := 10) (n := (mdI x).natAbs)
 exact this (List.map_eq_nil_iff.mp e)
theorem PD.nm {m : Nat} {d : List Nat} (P : PD m d) : ∀ c ∈ d, c ≠ m := fun c hc e => by
 have := P.dg c hc
 rcases P.mark with h | h <;> lia
theorem portC_eq (k : Nat) (x : Int) : portC k x = hd5 ++ ([mkC k, mkC k, mkC k] ++ (dig (mdI x) ++ [mkC k, 41])) := by
 unfold portC
 rw [rep3, show (Str.ofString "229 (").cps.toList = hd5 by decide, show (Str.ofString ")").cps.toList = [41] by decide]
 simp only [List.append_assoc]
 rfl
theorem app_get {a b : List Nat} (i : Nat) : (a ++ b)[a.length + i]? = b[i]? := by rw [List.getElem?_append_right (Nat.le_add_right _ _), Nat.add_sub_cancel_left]
theorem PD.only {m : Nat} {d : List Nat} (P : PD m d) {i : Nat} (h0 : (hd5 ++ ([m, m, m] ++ (d ++ [m, 41])))[i]? = some m) (h1 : (hd5 ++ ([m, m, m] ++ (d ++ [m, 41])))[i + 1]? = some m) (h2 : (hd5 ++ ([m, m, m] ++ (d ++ [m, 41])))[i + 2]? = some m) : i = 5 := by
 have lo : ∀ j c, hd5[j]? = some c → (hd5 ++ ([m, m, m] ++ (d ++ [m, 41])))[j]? = some m → False := fun j c hc h => by
  rw [List.getElem?_append_left (List.getElem?_eq_some_iff.mp hc).1, hc] at h
  have hm : c ∈ hd5 := List.mem_of_getElem? hc
  simp only [hd5, List.mem_cons, List.not_mem_nil, or_false] at hm
  have := Option.some.inj h
  rcases P.mark with h | h <;> lia
 have di : ∀ j, j < d.length → (hd5 ++ ([m, m, m] ++ (d ++ [m, 41])))[8 + j]? = some m → False := fun j hj h => by
  have e : (hd5 ++ ([m, m, m] ++ (d ++ [m, 41])))[8 + j]? = d[j]? := by
   rw [show 8 + j = hd5.length + ([m, m, m].length + j) by show 8 + j = 5 + (3 + j); lia, app_get, app_get, List.getElem?_append_left hj]
  rw [e] at h
  exact P.nm _ (List.mem_of_getElem? h) rfl
 have dl : 0 < d.length := List.length_pos_iff.mpr P.ne
 have en : ∀ j, (hd5 ++ ([m, m, m] ++ (d ++ [m, 41])))[8 + d.length + 1 + j]? = some m → False := fun j h => by
  have e : (hd5 ++ ([m, m, m] ++ (d ++ [m, 41])))[8 + d.length + 1 + j]? = [41][j]? := by
   rw [show 8 + d.length + 1 + j = hd5.length + ([m, m, m].length + (d.length + (j + 1))) by show 8 + d.length + 1 + j = 5 + (3 + (d.length + (j + 1))); lia, app_get, app_get, app_get]; rfl
  rw [e] at h
  cases j with
  | zero => have := Option.some.inj h; rcases P.mark with h | h <;> lia
  | succ j => cases h
 match i, h0, h1, h2 with
 | 0, h0, _, _ => exact (lo 0 50 rfl h0).elim
 | 1, h0, _, _ => exact (lo 1 50 rfl h0).elim
 | 2, h0, _, _ => exact (lo 2 57 rfl h0).elim
 | 3, h0, _, _ => exact (lo 3 32 rfl h0).elim
 | 4, h0, _, _ => exact (lo 4 40 rfl h0).elim
 | 5, _, _, _ => rfl
 | 6, _, _, h2 => exact (di 0 dl h2).elim
 | 7, _, h1, _ => exact (di 0 dl h1).elim
 | i + 8, h0, h1, h2 =>
  by_cases hi : i + 1 < d.length
  ·exact (di (i + 1) hi (by rw [show 8 + (i + 1) = i + 8 + 1 by lia]; exact h1)).elim
  ·exact (en (i + 1 - d.length) (by rw [show 8 + d.length + 1 + (i + 1 - d.length) = i + 8 + 2 by lia]; exact h2)).elim
end Mine
namespace Mine
open PySem
theorem clip_neg {a b : Nat} (h : 0 < b) : clipAt (a + b) (-(b : Int)) = a := by
 have e : -(b : Int) + ((a + b : Nat) : Int) = (a : Int) := by rw [Int.natCast_add, Int.add_comm (a : Int), ← Int.add_assoc, Int.add_left_neg, Int.zero_add]
 unfold clipAt
 rw [if_pos (Int.neg_neg_of_pos (Int.ofNat_lt.mpr h)), e, Int.min_eq_left (Int.ofNat_le.mpr (Nat.le_add_right a b)), Int.max_eq_right (Int.natCast_nonneg _), Int.toNat_natCast]
theorem slc_neg {q r : List Nat} (h : 0 < r.length) : slc (q ++ r) none (some (-(r.length : Int))) = q := by
 unfold slc
 simp only [Option.elim_none, Option.elim_some, List.drop_zero, Nat.sub_zero, List.length_append, clip_neg h]
 exact List.take_left ..
theorem PD.repl {m : Nat} {d : List Nat} (P : PD m d) : (PySem.Txt.replace ⟨(hd5 ++ ([m, m, m] ++ (d ++ [m, 41]))).toArray⟩ ⟨([m, m, m] : List Nat).toArray⟩ ⟨([m, m] : List Nat).toArray⟩).cps.toList = hd5 ++ ([m, m] ++ (d ++ [m, 41])) := by
 refine un_1_2 (StrLaws.occ_tight ⟨(hd5 ++ ([m, m, m] ++ (d ++ [m, 41]))).toArray⟩ ⟨([m, m, m] : List Nat).toArray⟩ (Nat.le_of_ble_eq_true rfl)) fun f ch hn => ?_
 have at5 : StrLaws.At ⟨(hd5 ++ ([m, m, m] ++ (d ++ [m, 41]))).toArray⟩ ⟨([m, m, m] : List Nat).toArray⟩ (⟨(hd5 ++ ([m, m, m] ++ (d ++ [m, 41]))).toArray⟩ : Str).length 5 := by
  refine ⟨?_, ?_⟩
  ·rw [str_len, str_len, List.length_append, List.length_append]; show 5 + 3 ≤ 5 + (3 + _); lia
  ·rw [StrLaws.subAt_eq]; exact beq_self_eq_true [m, m, m]
 have only : ∀ i, StrLaws.At ⟨(hd5 ++ ([m, m, m] ++ (d ++ [m, 41]))).toArray⟩ ⟨([m, m, m] : List Nat).toArray⟩ (⟨(hd5 ++ ([m, m, m] ++ (d ++ [m, 41]))).toArray⟩ : Str).length i → i = 5 := fun i h => by
  have h2 := h.2
  rw [StrLaws.subAt_eq] at h2
  have e : ((hd5 ++ ([m, m, m] ++ (d ++ [m, 41]))).drop i).take 3 = [m, m, m] := eq_of_beq h2
  have g : ∀ j, j < 3 → (hd5 ++ ([m, m, m] ++ (d ++ [m, 41])))[i + j]? = [m, m, m][j]? := fun j hj => by
   have := congrArg (fun l : List Nat => l[j]?) e
   simp only [List.getElem?_take_of_lt hj, List.getElem?_drop] at this
   exact this
  exact P.only (g 0 (by decide)) (g 1 (by decide)) (g 2 (by decide))
 unfold PySem.Txt.replace
 generalize Builtin.Str.occurrences ⟨(hd5 ++ ([m, m, m] ++ (d ++ [m, 41]))).toArray⟩ ⟨([m, m, m] : List Nat).toArray⟩ 0 (⟨(hd5 ++ ([m, m, m] ++ (d ++ [m, 41]))).toArray⟩ : Str).length ((⟨(hd5 ++ ([m, m, m] ++ (d ++ [m, 41]))).toArray⟩ : Str).length + 1) = l at ch ⊢
 have el : l = [5] := by
  cases l with
  | nil =>
   have : f = 0 := ch
   exact absurd at5 (hn 5 (by rw [this]; decide))
  | cons c r =>
   refine un_0_4 (ch) fun _ c1 _ c2 => ?_; (try clear ch)
   have e5 := only c c1
   subst e5
   cases r with
   | nil => rfl
   | cons c3 r =>
    refine un_0_3 (c2) fun g1 g2 _ => ?_; (try clear c2)
    have := only c3 g2
    subst this
    exact absurd (show 5 + 3 ≤ 5 from g1) (by decide)
 subst el
 show ((Builtin.Str.strSub ⟨(hd5 ++ ([m, m, m] ++ (d ++ [m, 41]))).toArray⟩ 0 5).cps ++ (⟨([m, m] : List Nat).toArray⟩ : Str).cps ++ (Builtin.Str.strSub ⟨(hd5 ++ ([m, m, m] ++ (d ++ [m, 41]))).toArray⟩ (5 + 3) (⟨(hd5 ++ ([m, m, m] ++ (d ++ [m, 41]))).toArray⟩ : Str).length).cps).toList = _
 rw [Array.toList_append, Array.toList_append, StrLaws.strSub_toList, StrLaws.strSub_toList, str_len]
 have hlen : (hd5 ++ ([m, m, m] ++ (d ++ [m, 41]))).length - (5 + 3) = (d ++ [m, 41]).length := by
  simp only [List.length_append, List.length_cons, List.length_nil]; lia
 rw [hlen]
 show hd5 ++ [m, m] ++ (d ++ [m, 41]).take (d ++ [m, 41]).length = _
 rw [List.take_length, List.append_assoc]
end Mine
namespace Mine
open PySem
inductive SpS (m : Nat) (d : List Nat) : List Nat → Prop
 | cut : SpS m d (hd5 ++ ([m, m, m] ++ (d ++ [m])))
 | bare : SpS m d ([50, 50, 57, 32] ++ ([m, m, m] ++ (d ++ [m, 41])))
 | two : SpS m d (hd5 ++ (([m, m] ++ (d ++ [m])) ++ [41]))
 | bang : SpS m d (hd5 ++ (([m, m, m] ++ (d ++ [33])) ++ [41]))
theorem sp_shape (k : Nat) (x : Int) : SpS (mkC k) (dig (mdI x)) (spC k x) := by
 have P := dig_pd k x
 have h := fmod_rng (k : Int) (b := 4) (by decide)
 have h2 : ((k : Int).fmod 4).toNat < 4 := by lia
 unfold spC spL
 rw [portC_eq, rep3, rep2]
 generalize ((k : Int).fmod 4).toNat = i at h2
 generalize mkC k = m at P ⊢
 generalize dig (mdI x) = d at P ⊢
 match i, h2 with
 | 0, _ =>
  show SpS m d (slc (hd5 ++ ([m, m, m] ++ (d ++ [m, 41]))) none (some (-1)))
  have e : hd5 ++ ([m, m, m] ++ (d ++ [m, 41])) = (hd5 ++ ([m, m, m] ++ (d ++ [m]))) ++ [41] := by simp only [List.append_assoc]; rfl
  have := slc_neg (q := hd5 ++ ([m, m, m] ++ (d ++ [m]))) (r := [41]) (by decide)
  rw [e, show (-1 : Int) = -(([41] : List Nat).length : Int) from rfl, this]
  exact .cut
 | 1, _ =>
  show SpS m d (slc (hd5 ++ ([m, m, m] ++ (d ++ [m, 41]))) none (some 4) ++ slc (hd5 ++ ([m, m, m] ++ (d ++ [m, 41]))) (some 5) none)
  have e1 : slc (hd5 ++ ([m, m, m] ++ (d ++ [m, 41]))) none (some 4) = [50, 50, 57, 32] := by rw [show (4 : Int) = ((4 : Nat) : Int) from rfl, slc_to]; rfl
  have e2 : slc (hd5 ++ ([m, m, m] ++ (d ++ [m, 41]))) (some 5) none = [m, m, m] ++ (d ++ [m, 41]) := by
   rw [show (5 : Int) = ((5 : Nat) : Int) from rfl]
   unfold slc
   simp only [Option.elim_some, Option.elim_none, clip_nat]
   rw [Nat.min_eq_left (by rw [List.length_append]; exact Nat.le_add_right _ _), List.take_of_length_le (by rw [List.length_drop]; exact Nat.le_refl _)]
   rfl
  rw [e1, e2]
  exact .bare
 | 2, _ =>
  show SpS m d (PySem.Txt.replace ⟨(hd5 ++ ([m, m, m] ++ (d ++ [m, 41]))).toArray⟩ ⟨([m, m, m] : List Nat).toArray⟩ ⟨([m, m] : List Nat).toArray⟩).cps.toList
  rw [P.repl, show hd5 ++ ([m, m] ++ (d ++ [m, 41])) = hd5 ++ (([m, m] ++ (d ++ [m])) ++ [41]) by simp only [List.append_assoc]; rfl]
  exact .two
 | 3, _ =>
  show SpS m d (slc (hd5 ++ ([m, m, m] ++ (d ++ [m, 41]))) none (some (-2)) ++ (Str.ofString "!)").cps.toList)
  have e : hd5 ++ ([m, m, m] ++ (d ++ [m, 41])) = (hd5 ++ ([m, m, m] ++ d)) ++ [m, 41] := by simp only [List.append_assoc]
  have := slc_neg (q := hd5 ++ ([m, m, m] ++ d)) (r := [m, 41]) (by simp)
  rw [e, show (-2 : Int) = -(([m, 41] : List Nat).length : Int) from rfl, this, show (Str.ofString "!)").cps.toList = [33, 41] by decide, show hd5 ++ ([m, m, m] ++ d) ++ [33, 41] = hd5 ++ (([m, m, m] ++ (d ++ [33])) ++ [41]) by simp only [List.append_assoc]; rfl]
  exact .bang
theorem R1_hd {z : List Nat} {r : Option Int} (h : R2 (hd5 ++ z) 4 r) : R1 (hd5 ++ z) r := by
 refine .inr ⟨4, rfl, fun k hk => ?_, h⟩
 match k, hk with
 | 0, _ => exact fun e => by cases e
 | 1, _ => exact fun e => by cases e
 | 2, _ => exact fun e => by cases e
 | 3, _ => exact fun e => by cases e
theorem hd_get {z : List Nat} (j : Nat) : (hd5 ++ z)[5 + j]? = z[j]? := app_get (a := hd5) j
theorem R2_none {z : List Nat} (h : 41 ∉ z) : R2 (hd5 ++ z) 4 none := by
 refine .inl ⟨fun k hk e => ?_, rfl⟩
 obtain ⟨j, rfl⟩ : ∃ j, k = 5 + j := ⟨k - 5, by lia⟩
 rw [hd_get] at e
 exact h (List.mem_of_getElem? e)
theorem R2_of {w : List Nat} {a b : Nat} {r : Option Int} (h : 41 ∉ w) (ha : w[0]? = some a) (hb : w[w.length - 1]? = some b) (hr : (a ≠ b ∧ r = none) ∨ (a = b ∧ R4 a w r)) : R2 (hd5 ++ (w ++ [41])) 4 r := by
 have hw : 0 < w.length := (List.getElem?_eq_some_iff.mp ha).1
 have gw : ∀ j, j < w.length → (hd5 ++ (w ++ [41]))[5 + j]? = w[j]? := fun j hj => by rw [hd_get, List.getElem?_append_left hj]
 refine .inr ⟨5 + w.length, by lia, ?_, fun k h1 h2 e => ?_, a, b, ?_, ?_, ?_⟩
 ·rw [hd_get, List.getElem?_append_right (Nat.le_refl _), Nat.sub_self]; rfl
 ·obtain ⟨j, rfl⟩ : ∃ j, k = 5 + j := ⟨k - 5, by lia⟩
  rw [gw j (by lia)] at e
  exact h (List.mem_of_getElem? e)
 ·exact (gw 0 hw).trans ha
 ·rw [show 5 + w.length - 1 = 5 + (w.length - 1) by lia, gw _ (by lia)]; exact hb
 ·have e : ((hd5 ++ (w ++ [41])).drop (4 + 1)).take (5 + w.length - (4 + 1)) = w := by
   rw [show 5 + w.length - (4 + 1) = w.length by lia]
   show (w ++ [41]).take w.length = w
   exact List.take_left ..
  rw [e]; exact hr
theorem PD.no41 {m : Nat} {d : List Nat} (P : PD m d) : m ≠ 41 ∧ 41 ∉ d := ⟨fun e => by rcases P.mark with h | h <;> lia, fun h => by have := P.dg _ h; lia⟩
theorem PD.no40 {m : Nat} {d : List Nat} (P : PD m d) : m ≠ 40 ∧ 40 ∉ d := ⟨fun e => by rcases P.mark with h | h <;> lia, fun h => by have := P.dg _ h; lia⟩
theorem last_app {a : List Nat} {c : Nat} : (a ++ [c])[(a ++ [c]).length - 1]? = some c := by
 rw [List.length_append]
 show (a ++ [c])[a.length + 1 - 1]? = _
 rw [Nat.add_sub_cancel, List.getElem?_append_right (Nat.le_refl _), Nat.sub_self]; rfl
theorem spl_end {m : Nat} {d : List Nat} (h : m ∉ d) : spl m (d ++ [m]) = [d, []] := spl_cut m d [] h
theorem PD.md {m : Nat} {d : List Nat} (P : PD m d) : m ∉ d := fun h => P.nm m h rfl
theorem port_R1 (k : Nat) (x : Int) : R1 (portC k x) (some (mdI x)) := by
 have P := dig_pd k x
 have hm := mdI_rng x
 rw [portC_eq, show hd5 ++ ([mkC k, mkC k, mkC k] ++ (dig (mdI x) ++ [mkC k, 41])) = hd5 ++ (([mkC k, mkC k, mkC k] ++ dig (mdI x) ++ [mkC k]) ++ [41]) by simp only [List.append_assoc]; rfl]
 have n := P.no41
 refine R1_hd (R2_of (a := mkC k) (b := mkC k) ?_ rfl last_app (.inr ⟨rfl, .inr ⟨mdI x, ?_⟩⟩))
 ·simp only [List.mem_append, List.mem_cons, List.not_mem_nil, or_false, not_or]
  exact ⟨⟨⟨n.1.symm, n.1.symm, n.1.symm⟩, n.2⟩, n.1.symm⟩
 have e : spl (mkC k) ([mkC k, mkC k, mkC k] ++ dig (mdI x) ++ [mkC k]) = [[], [], [], dig (mdI x), []] := by
  rw [List.append_assoc]
  show spl (mkC k) ([] ++ mkC k :: ([] ++ mkC k :: ([] ++ mkC k :: (dig (mdI x) ++ [mkC k])))) = _
  rw [spl_cut _ _ _ List.not_mem_nil, spl_cut _ _ _ List.not_mem_nil, spl_cut _ _ _ List.not_mem_nil, spl_end P.md]
 rw [e]
 exact ⟨rfl, rfl, by lia, by lia, rfl⟩
theorem sp_R1 (k : Nat) (x : Int) : R1 (spC k x) none ∧ (spC k x).take 3 = [50, 50, 57] ∧ (spC k x).length ≤ 20 := by
 have P := dig_pd k x
 have S := sp_shape k x
 generalize spC k x = s at S ⊢
 generalize mkC k = m at P S
 generalize dig (mdI x) = d at P S
 have n := P.no41
 have n2 := P.no40
 have hl := P.ln
 cases S with
 | cut =>
  refine ⟨R1_hd (R2_none ?_), rfl, by simp only [List.length_append, List.length_cons, List.length_nil]; lia⟩
  simp only [List.mem_append, List.mem_cons, List.not_mem_nil, or_false, not_or]
  exact ⟨⟨n.1.symm, n.1.symm, n.1.symm⟩, n.2, n.1.symm⟩
 | bare =>
  refine ⟨.inl ⟨fun k e => ?_, rfl⟩, rfl, by simp only [List.length_append, List.length_cons, List.length_nil]; lia⟩
  have := List.mem_of_getElem? e
  simp only [List.mem_append, List.mem_cons, List.not_mem_nil, or_false] at this
  rcases this with (h | h | h | h) | (h | h | h) | h | h | h
  ·cases h
  ·cases h
  ·cases h
  ·cases h
  ·exact n2.1 h.symm
  ·exact n2.1 h.symm
  ·exact n2.1 h.symm
  ·exact n2.2 h
  ·exact n2.1 h.symm
  ·cases h
 | two =>
  refine ⟨R1_hd ?_, rfl, by simp only [List.length_append, List.length_cons, List.length_nil]; lia⟩
  rw [← List.append_assoc [m, m]]
  refine R2_of (a := m) (b := m) ?_ rfl last_app (.inr ⟨rfl, .inl ⟨?_, rfl⟩⟩)
  ·simp only [List.mem_append, List.mem_cons, List.not_mem_nil, or_false, not_or]
   exact ⟨⟨⟨n.1.symm, n.1.symm⟩, n.2⟩, n.1.symm⟩
  ·rw [List.append_assoc]
   show (spl m ([] ++ m :: ([] ++ m :: (d ++ [m])))).length ≠ 5
   rw [spl_cut _ _ _ List.not_mem_nil, spl_cut _ _ _ List.not_mem_nil, spl_end P.md]
   exact fun h => by cases h
 | bang =>
  refine ⟨R1_hd ?_, rfl, by simp only [List.length_append, List.length_cons, List.length_nil]; lia⟩
  rw [← List.append_assoc [m, m, m]]
  refine R2_of (a := m) (b := 33) ?_ rfl last_app (.inl ⟨fun e => by rcases P.mark with h | h <;> lia, rfl⟩)
  simp only [List.mem_append, List.mem_cons, List.not_mem_nil, or_false, not_or]
  exact ⟨⟨⟨n.1.symm, n.1.symm, n.1.symm⟩, n.2⟩, by decide⟩
theorem RTk.ok {x a : List Nat} (h : RdT x a []) : RTk x [a] [] := RTk.read h
theorem RTk.no {x a b : List Nat} (h : RdT x a b) (h1 : b ≠ []) (h2 : b ≠ rwT) : RTk x [] [b] := by
 have := RTk.read h
 unfold outT rfT at this
 rwa [if_neg h1, if_neg (not_or.mpr ⟨h1, h2⟩)] at this
theorem nx_rt (x : List Nat) (out rf : List (List Nat)) (h : Nx1 x out rf) : RTk x out rf := by
 cases h with
 | row h => exact .row h
 | @quo u e he =>
  refine .ok ⟨rfl, ?_, .rep229 (fun h => by cases h) (fun h => by cases h)⟩
  have e5 : (qq ++ StrLaws.dbl 34 u ++ e).drop 5 = StrLaws.dbl 34 u ++ e := by rw [List.append_assoc]; rfl
  have := Rd.quo (x := qq ++ StrLaws.dbl 34 u ++ e) (by rw [List.append_assoc, List.length_append]; exact Nat.le_add_right _ _) rfl rfl
  rwa [e5, unq_back u he] at this
 | pla h => exact .ok ⟨rfl, .pla rfl h, .rep229 (fun h => by cases h) (fun h => by cases h)⟩
 | @port k x hk =>
  have h3 : (portC k x).take 3 = [50, 50, 57] := by rw [portC_eq]; rfl
  have ho : othT (portC k x) = [50, 53, 55] := if_neg (by rw [h3]; exact fun h => by cases h)
  refine .ok ⟨by rw [portC_eq]; rfl, ?_, ?_⟩
  ·have := Rd.port (code := (portC k x).take 3) (by rw [h3]; exact fun h => by cases h) h3 (port_R1 k x)
   rwa [show (fmL (mdI x) 10).flatten = sg (mdI x) 9 from fmX_eq x] at this
  ·rw [ho]; exact .rep257 (by rw [h3]; exact fun h => by cases h)
 | @rep y =>
  refine .no (a := []) ⟨rfl, .rep229 (fun h => by cases h) (fun h => by cases h), .rep257 (fun h => by cases h)⟩ (fun h => by cases h) (fun h => by cases h)
 | @pro k x hk =>
  refine un_0_3 (sp_R1 k x) fun h1 h3 _ => ?_
  have ho : othT (spC k x) = [50, 53, 55] := if_neg (by rw [h3]; exact fun h => by cases h)
  refine .no (a := []) ⟨?_, .pro (by rw [h3]; exact fun h => by cases h) h3 h1, ?_⟩ (fun h => by cases h) (fun h => by cases h)
  ·have := congrArg (fun l : List Nat => l.take 1) h3
   simp only [List.take_take] at this
   exact this
  ·rw [ho]; exact .rep257 (by rw [h3]; exact fun h => by cases h)
end Mine
namespace Mine
open PySem
theorem sgX_len (x : Int) : (sgX x).length = 10 := sg_len _ 9
theorem tlX_ok (x : Int) : Tl (tlX x) ∧ (tlX x).length ≤ 10 := by
 have h := fmod_rng (x.fdiv 18) (b := 3) (by decide)
 have h3 : ((x.fdiv 18).fmod 3).toNat < 3 := by lia
 unfold tlX
 generalize ((x.fdiv 18).fmod 3).toNat = i at h3
 match i, h3 with
 | 0, _ => exact ⟨Tl.one, by decide⟩
 | 1, _ => exact ⟨.inr ⟨[32, 109, 97, 100, 101], rfl, fun c h => by cases h; decide⟩, by decide⟩
 | 2, _ => exact ⟨.inl rfl, by decide⟩
theorem dX_le (x : Int) : dX x ≤ 2 := by
 have h := fmod_rng x (b := 3) (by decide)
 unfold dX; lia
structure NmS (u : List Nat) : Prop where
 ex : ∃ a c, a ≤ 2 ∧ 97 ≤ c ∧ u = List.replicate a 34 ++ [c]
theorem abc_ge : ∀ i : Fin 15, 97 ≤ lAbc.getD i.val 0 := by decide +kernel
theorem nm_shape {k : Nat} (hk : k < 15) : NmS (nmC k) := by
 have h := fmod_rng (k : Int) (b := 3) (by decide)
 refine ⟨((k : Int).fmod 3).toNat, _, by lia, abc_ge ⟨k, hk⟩, ?_⟩
 unfold nmC rep
 rw [show (Str.ofString "\"").cps.toList = [34] by decide]
 congr 1
 generalize ((k : Int).fmod 3).toNat = n
 induction n with
 | zero => rfl
 | succ n ih => rw [List.replicate_succ, List.replicate_succ, List.flatten_cons, ih]; rfl
theorem NmS.len {u : List Nat} (h : NmS u) : 1 ≤ u.length ∧ u.length ≤ 3 := by
 refine un_2_3 (h.ex) fun a c ha hc e568x4 => ?_; subst e568x4
 rw [List.length_append, List.length_replicate]
 show 1 ≤ a + 1 ∧ a + 1 ≤ 3
 lia
inductive CoS : List Nat → Prop
 | row {s u : List Nat} (hs : s.length = 10) (hu : NmS u) : CoS (s ++ (32 :: u))
 | is {u : List Nat} (hu : NmS u) : CoS ([50, 53, 55, 32, 105, 115, 32] ++ u)
 | rep {u : List Nat} (hu : NmS u) : CoS ([50, 53, 48, 32] ++ u)
 | port {m : Nat} {d : List Nat} (P : PD m d) : CoS (hd5 ++ ([m, m, m] ++ (d ++ [m, 41])))
 | sp {m : Nat} {d s : List Nat} (P : PD m d) (h : SpS m d s) : CoS s
inductive ItS (k : Nat) (x : Int) : Prop
 | row (h : coC k x (sgX x) = sgX x ++ (32 :: nmC k)) (h2 : (x.fdiv 3).fmod 6 ≠ 2)
 | port (h : coC k x (sgX x) = portC k x) (h2 : (x.fdiv 3).fmod 6 = 2)
 | rep (h : coC k x (sgX x) = [50, 53, 48, 32] ++ nmC k) (h2 : (x.fdiv 3).fmod 6 ≠ 2)
 | is (h : coC k x (sgX x) = [50, 53, 55, 32, 105, 115, 32] ++ nmC k) (h2 : (x.fdiv 3).fmod 6 ≠ 2)
 | sp (h : coC k x (sgX x) = spC k x) (h2 : (x.fdiv 3).fmod 6 ≠ 2)
theorem it_shape (k : Nat) (x : Int) : ItS k x := by
 have h := fmod_rng (x.fdiv 3) (b := 6) (by decide)
 have e : coC k x (sgX x) = (coL k x (sgX x)).getD ((x.fdiv 3).fmod 6).toNat [] := rfl
 obtain ⟨i, hi, ei⟩ : ∃ i : Nat, i < 6 ∧ (x.fdiv 3).fmod 6 = i := ⟨((x.fdiv 3).fmod 6).toNat, by lia, by lia⟩
 rw [ei, Int.toNat_natCast] at e
 have r : ∀ i : Nat, i ≠ 2 → (x.fdiv 3).fmod 6 = i → (x.fdiv 3).fmod 6 ≠ 2 := fun i h1 h2 h3 => h1 (by lia)
 have er : sgX x ++ (Str.ofString " ").cps.toList ++ nmC k = sgX x ++ (32 :: nmC k) := by rw [show (Str.ofString " ").cps.toList = [32] by decide, List.append_assoc]; rfl
 match i, hi with
 | 0, _ => exact .row (e.trans er) (r _ (by decide) ei)
 | 1, _ => exact .row (e.trans er) (r _ (by decide) ei)
 | 2, _ => exact .port e ei
 | 3, _ => exact .rep (e.trans (by show (Str.ofString "250 ").cps.toList ++ nmC k = _; rw [show (Str.ofString "250 ").cps.toList = [50, 53, 48, 32] by decide])) (r _ (by decide) ei)
 | 4, _ => exact .is (e.trans (by show (Str.ofString "257 is ").cps.toList ++ nmC k = _; rw [show (Str.ofString "257 is ").cps.toList = [50, 53, 55, 32, 105, 115, 32] by decide])) (r _ (by decide) ei)
 | 5, _ => exact .sp e (r _ (by decide) ei)
theorem port_len (k : Nat) (x : Int) : (portC k x).length ≤ 20 := by
 rw [portC_eq]
 have := (dig_pd k x).ln
 simp only [List.length_append, List.length_cons, List.length_nil]; lia
theorem co_len {k : Nat} (hk : k < 15) (x : Int) : (coC k x (sgX x)).length ≤ 20 := by
 have hn := (nm_shape hk).len
 cases it_shape k x with
 | row h => rw [h, List.length_append, sgX_len, List.length_cons]; lia
 | port h => rw [h]; exact port_len k x
 | rep h => rw [h, List.length_append]; show 4 + _ ≤ _; lia
 | is h => rw [h, List.length_append]; show 7 + _ ≤ _; lia
 | sp h => rw [h]; exact (sp_R1 k x).2.2
theorem told_len (k : Nat) (x : Int) : (itX k x).told.length ≤ 12 := by
 show (if (x.fdiv 3).fmod 6 = 2 then sgX x ++ [32, 104] else []).length ≤ 12
 split
 ·rw [List.length_append, sgX_len]; decide
 ·exact Nat.zero_le _
theorem okX {k : Nat} (hk : k < 15) (x : Int) : OkI (itX k x) := ⟨dX_le x, Nat.le_trans (co_len hk x) (by decide), (tlX_ok x).2, Nat.le_trans (told_len k x) (by decide)⟩
theorem ok0X {k : Nat} (hk : k < 15) (x : Int) : Ok0 (itX k x) := ⟨dX_le x, (tlX_ok x).1, (tlX_ok x).2, Nat.le_trans (co_len hk x) (by decide)⟩
theorem txX_eq (k : Nat) (x : Int) : txX k x = (itX k x).full := by unfold txX; rw [fmX_eq]; rfl
theorem coX_eq {k : Nat} (hk : k < 15) (x : Int) : (coC k x (fmX x)).length ≤ 100 := by rw [fmX_eq]; exact Nat.le_trans (co_len hk x) (by decide)
theorem fmX_len (x : Int) : (fmX x).length ≤ 20 := by rw [fmX_eq, sgX_len]; decide
end Mine
namespace Mine
open PySem
theorem lt_split : ∀ {a b : List Nat}, a < b → Lx a b ∨ ∃ x r, b = a ++ x :: r
 | [], [], h => absurd h (List.lt_irrefl _)
 | [], x :: r, _ => .inr ⟨x, r, rfl⟩
 | x :: a, [], h => absurd h (List.not_lt_nil _)
 | x :: a, y :: b, h => by
  rcases List.cons_lt_cons_iff.mp h with h1 | ⟨h1, h2⟩
  ·exact .inl (Lx.cons.mpr (.inl h1))
  ·rcases lt_split h2 with h3 | ⟨z, r, e⟩
   ·exact .inl (Lx.cons.mpr (.inr ⟨h1, h3⟩))
   ·exact .inr ⟨z, r, by rw [h1, e]; rfl⟩
theorem NmS.pre {u u' r : List Nat} {b : Nat} (h : NmS u) (h' : NmS u') (e : u' = u ++ b :: r) : False := by
 refine un_2_3 (h.ex) fun a c ha hc e569x4 => ?_; subst e569x4
 refine un_2_3 (h'.ex) fun a' c' ha' hc' e570x4 => ?_; subst e570x4
 have hl := congrArg List.length e
 rw [List.length_append, List.length_append, List.length_append, List.length_replicate, List.length_replicate] at hl
 have hl2 : a' + 1 = a + 1 + (r.length + 1) := hl
 have g : (List.replicate a' 34 ++ [c'])[a]? = (List.replicate a 34 ++ [c] ++ b :: r)[a]? := by rw [e]
 rw [List.getElem?_append_left (by rw [List.length_replicate]; lia), List.getElem?_append_left (by rw [List.length_append, List.length_replicate]; exact Nat.lt_succ_self _), List.getElem?_append_right (by rw [List.length_replicate]; exact Nat.le_refl _), List.length_replicate, Nat.sub_self, List.getElem?_replicate, if_pos (by lia)] at g
 have : 34 = c := Option.some.inj g
 lia
noncomputable abbrev Dg (c : Nat) : Prop := 48 ≤ c ∧ c ≤ 57
theorem dig_pre {z z' : Nat} {t t' : List Nat} (hz : ¬ Dg z) (hz' : ¬ Dg z') : ∀ {d d' : List Nat}, (∀ c ∈ d, Dg c) → (∀ c ∈ d', Dg c) → d ++ z :: t = d' ++ z' :: t' → d = d' ∧ z = z' ∧ t = t'
 | [], [], _, _, e => ⟨rfl, List.cons.inj e⟩
 | [], c :: d', _, h', e => absurd (h' c (.head _)) ((List.cons.inj e).1 ▸ hz)
 | c :: d, [], h, _, e => absurd (h c (.head _)) ((List.cons.inj e).1 ▸ hz')
 | c :: d, c' :: d', h, h', e => by
  obtain ⟨e1, e2⟩ := List.cons.inj e
  obtain ⟨f1, f2⟩ := dig_pre hz hz' (fun x hx => h x (.tail _ hx)) (fun x hx => h' x (.tail _ hx)) e2
  exact ⟨by rw [e1, f1], f2⟩
inductive PreS : List Nat → Prop
 | a {m : Nat} (h : m = 124 ∨ m = 34) : PreS [50, 50, 57, 32, 40, m, m, m]
 | b {m : Nat} (h : m = 124 ∨ m = 34) : PreS [50, 50, 57, 32, m, m, m]
 | c {m : Nat} (h : m = 124 ∨ m = 34) : PreS [50, 50, 57, 32, 40, m, m]
theorem PreS.eq {p p' u u' : List Nat} {e e' : Nat} (h : PreS p) (h' : PreS p') (he : Dg e) (he' : Dg e') (q : p ++ e :: u = p' ++ e' :: u') : p = p' ∧ e :: u = e' :: u' := by
 cases h <;> cases h' <;> simp only [List.cons_append, List.nil_append, List.cons.injEq, true_and] at q ⊢
 all_goals first
  | exact ⟨by lia, q.2.2.2⟩
  | (exfalso; lia)
  | exact ⟨⟨q.1, q.1, q.1, trivial⟩, q.2.2.2⟩
  | exact ⟨⟨q.1, q.1, trivial⟩, q.2.2⟩
end Mine
namespace Mine
open PySem
structure PlS (c : List Nat) : Prop where
 ex : ∃ p d z t, c = p ++ (d ++ z :: t) ∧ PreS p ∧ (∀ x ∈ d, Dg x) ∧ d ≠ [] ∧ ¬ Dg z ∧ (t = [] ∨ t = [41])
theorem PlS.pre {c c' r : List Nat} {b : Nat} (h : PlS c) (h' : PlS c') (e : c' = c ++ b :: r) : 34 < b := by
 refine un_4_6 (h.ex) fun p d z t e571x4 hp hd hn hz ht => ?_; subst e571x4
 refine un_4_6 (h'.ex) fun p' d' z' t' e572x4 hp' hd' hn' hz' ht' => ?_; subst e572x4
 refine un_2_1 (List.exists_cons_of_ne_nil hn) fun x y e573x2 => ?_; subst e573x2
 refine un_2_1 (List.exists_cons_of_ne_nil hn') fun x' y' e574x2 => ?_; subst e574x2
 have e2 : p' ++ x' :: (y' ++ z' :: t') = p ++ x :: (y ++ z :: (t ++ b :: r)) := by
  simpa [List.append_assoc] using e
 obtain ⟨_, e3⟩ := hp'.eq hp (hd' x' (.head _)) (hd x (.head _)) e2
 refine un_0_3 (dig_pre (d := x' :: y') (d' := x :: y) hz' hz hd' hd e3) fun _ _ e4 => ?_
 rcases ht' with rfl | rfl
 ·exact absurd e4.symm (by simp)
 ·rcases ht with rfl | rfl
  ·have := (List.cons.inj e4).1
   lia
  ·exact absurd (List.cons.inj e4).2.symm (by simp)
inductive CoT : List Nat → Prop
 | row {k0 : Nat} {s u : List Nat} (h0 : k0 ≠ 50) (hs : s.length = 9) (hu : NmS u) : CoT (k0 :: (s ++ 32 :: u))
 | is {u : List Nat} (hu : NmS u) : CoT (50 :: 53 :: 55 :: 32 :: 105 :: 115 :: 32 :: u)
 | rep {u : List Nat} (hu : NmS u) : CoT (50 :: 53 :: 48 :: 32 :: u)
 | pl {y : List Nat} (h : PlS (50 :: 50 :: y)) : CoT (50 :: 50 :: y)
theorem CoT.pre {c c' r : List Nat} {b : Nat} (h : CoT c) (h' : CoT c') (e : c' = c ++ b :: r) : 34 < b := by
 cases h with
 | row h0 hs hu =>
  cases h' with
  | row h0' hs' hu' =>
   rw [List.cons_append, List.append_assoc] at e
   have e2 := List.append_inj_right (List.cons.inj e).2 (hs'.trans hs.symm)
   exact (hu.pre hu' (List.cons.inj e2).2).elim
  | _ => exact absurd (List.cons.inj e).1.symm h0
 | is hu =>
  cases h' with
  | row h0' => exact absurd (List.cons.inj e).1 h0'
  | is hu' => simp only [List.cons_append, List.cons.injEq, true_and] at e; exact (hu.pre hu' e).elim
  | rep => simp at e
  | pl => simp at e
 | rep hu =>
  cases h' with
  | row h0' => exact absurd (List.cons.inj e).1 h0'
  | is => simp at e
  | rep hu' => simp only [List.cons_append, List.cons.injEq, true_and] at e; exact (hu.pre hu' e).elim
  | pl => simp at e
 | pl hp =>
  cases h' with
  | row h0' => exact absurd (List.cons.inj e).1 h0'
  | is => simp at e
  | rep => simp at e
  | pl hp' => exact hp.pre hp' e
theorem CoT.nx {c c' : List Nat} (h : CoT c) (h' : CoT c') (hlt : c < c') : Nx c c' := by
 rcases lt_split hlt with q | ⟨x, r, e⟩
 ·exact .inl q
 ·exact .inr ⟨x, r, e, h.pre h' e⟩
theorem PreS.st {p u : List Nat} (h : PreS p) : ∃ y, p ++ u = 50 :: 50 :: y := by cases h <;> exact ⟨_, rfl⟩
theorem PlS.t {c : List Nat} (h : PlS c) : CoT c := by
 refine un_4_3 (id h.ex) fun p d z t e hp _ => ?_
 obtain ⟨y, ey⟩ := hp.st (u := d ++ z :: t)
 rw [e, ey] at h ⊢
 exact .pl h
theorem PD.ndg {m : Nat} {d : List Nat} (P : PD m d) : ¬ Dg m := fun h => by have h1 := h.1; have h2 := h.2; rcases P.mark with q | q <;> lia
theorem PD.port {m : Nat} {d : List Nat} (P : PD m d) : PlS (hd5 ++ ([m, m, m] ++ (d ++ [m, 41]))) := ⟨[50, 50, 57, 32, 40, m, m, m], d, m, [41], rfl, .a P.mark, P.dg, P.ne, P.ndg, .inr rfl⟩
theorem PD.sp {m : Nat} {d s : List Nat} (P : PD m d) (h : SpS m d s) : PlS s := by
 cases h with
 | cut => exact ⟨[50, 50, 57, 32, 40, m, m, m], d, m, [], rfl, .a P.mark, P.dg, P.ne, P.ndg, .inl rfl⟩
 | bare => exact ⟨[50, 50, 57, 32, m, m, m], d, m, [41], rfl, .b P.mark, P.dg, P.ne, P.ndg, .inr rfl⟩
 | two => exact ⟨[50, 50, 57, 32, 40, m, m], d, m, [41], by simp, .c P.mark, P.dg, P.ne, P.ndg, .inr rfl⟩
 | bang => exact ⟨[50, 50, 57, 32, 40, m, m, m], d, 33, [41], by simp, .a P.mark, P.dg, P.ne, fun h => by have := h.1; lia, .inr rfl⟩
theorem kind_fst : ∀ i : Fin 10, lkind.getD (mdTab.getD i.val 0).toNat 0 = 45 ∨ 51 ≤ lkind.getD (mdTab.getD i.val 0).toNat 0 := by decide +kernel
theorem sg_fst (m : Int) : ∀ n, ∃ s, sg m n = lkind.getD (m.fdiv 4096).toNat 0 :: s ∧ s.length = n
 | 0 => ⟨[], rfl, rfl⟩
 | n + 1 => by
  refine un_1_2 (sg_fst m n) fun s e hl => ?_
  refine ⟨s ++ sgStep m n, by rw [sg, e]; rfl, ?_⟩
  rw [List.length_append, hl]
  unfold sgStep; split <;> rfl
theorem sgX_fst (x : Int) : ∃ k0 s, sgX x = k0 :: s ∧ s.length = 9 ∧ (k0 = 45 ∨ 51 ≤ k0) := by
 refine un_1_2 (sg_fst (mdI x) 9) fun s e hl => ?_
 refine ⟨_, s, e, hl, ?_⟩
 have h := fmod_rng (x.fdiv 54) (b := 10) (by decide)
 have h2 := fmod_rng (x.fdiv 540) (b := 4096) (by decide)
 have h3 := mdTab_rng ⟨((x.fdiv 54).fmod 10).toNat, by lia⟩
 have k := kind_fst ⟨((x.fdiv 54).fmod 10).toNat, by lia⟩
 have : (mdI x).fdiv 4096 = mdTab.getD ((x.fdiv 54).fmod 10).toNat 0 := by
  unfold mdI
  rw [Int.fdiv_eq_ediv_of_nonneg _ (by decide)]
  simp only at h3
  lia
 rw [this]
 exact k
end Mine
namespace Mine
open PySem
structure GI (i : It) : Prop where
 ok : Ok0 i
 co : CoT i.c
 kind : (EarlyI i ∧ Lx i.c qq) ∨ (LateI i ∧ Lx qq i.c)
theorem nm104 : NmS [104] := ⟨⟨0, 104, by decide, by decide, rfl⟩⟩
theorem told_row (x : Int) : ∃ k0 s, sgX x ++ [32, 104] = k0 :: (s ++ 32 :: [104]) ∧ s.length = 9 ∧ (k0 = 45 ∨ 51 ≤ k0) := by
 refine un_2_3 (sgX_fst x) fun k0 s e hl hk => ?_
 exact ⟨k0, s, by rw [e]; rfl, hl, hk⟩
theorem giX {k : Nat} (hk : k < 15) (x : Int) : GI (itX k x) := by
 have hu := nm_shape hk
 have ec : (itX k x).c = coC k x (sgX x) := rfl
 have et : (itX k x).told = if (x.fdiv 3).fmod 6 = 2 then sgX x ++ [32, 104] else [] := rfl
 cases it_shape k x with
 | row h h2 =>
  rw [if_neg h2] at et
  refine un_2_3 (sgX_fst x) fun k0 s e hl hk0 => ?_
  rw [h, e] at ec
  refine ⟨ok0X hk x, by rw [ec]; exact .row (by lia) hl hu, ?_⟩
  rcases hk0 with rfl | hk0
  ·exact .inl ⟨.row (by rw [ec]; rfl) et, by rw [ec]; exact Lx.cons.mpr (.inl (by decide))⟩
  ·exact .inr ⟨.row (by rw [ec]; exact fun q => by have := (List.cons.inj q).1; lia), by rw [ec]; exact Lx.cons.mpr (.inl (by lia))⟩
 | port h h2 =>
  rw [if_pos h2] at et
  rw [h] at ec
  have P := dig_pd k x
  have ep := portC_eq k x
  refine un_2_3 (told_row x) fun k0 s er hl hk0 => ?_
  refine ⟨ok0X hk x, by rw [ec, ep]; exact P.port.t, .inl ⟨.port (by rw [ec, et]; exact .port hk) (by rw [ec, ep]; rfl) (Nat.le_trans (told_len k x) (by decide)) ?_, by rw [ec, ep]; exact Lx.cons.mpr (.inr ⟨rfl, Lx.cons.mpr (.inl (by decide))⟩)⟩⟩
  rw [et, er]
  rcases hk0 with rfl | hk0
  ·exact .inl rfl
  ·exact .inr ⟨fun q => by have := (List.cons.inj q).1; lia, fun q => by have := (List.cons.inj q).1; lia, Lx.cons.mpr (.inl (by lia))⟩
 | rep h h2 =>
  rw [if_neg h2] at et
  rw [h] at ec
  exact ⟨ok0X hk x, by rw [ec]; exact .rep hu, .inl ⟨.rep ec et, by rw [ec]; exact Lx.cons.mpr (.inr ⟨rfl, Lx.cons.mpr (.inr ⟨rfl, Lx.cons.mpr (.inl (by decide))⟩)⟩)⟩⟩
 | is h h2 =>
  rw [h] at ec
  exact ⟨ok0X hk x, by rw [ec]; exact .is hu, .inr ⟨.is ec (fun q => by cases q), by rw [ec]; exact Lx.cons.mpr (.inr ⟨rfl, Lx.cons.mpr (.inr ⟨rfl, Lx.cons.mpr (.inr ⟨rfl, Lx.cons.mpr (.inr ⟨rfl, Lx.cons.mpr (.inl (by decide))⟩)⟩)⟩)⟩)⟩⟩
 | sp h h2 =>
  rw [if_neg h2] at et
  rw [h] at ec
  have P := dig_pd k x
  have T := (P.sp (sp_shape k x)).t
  refine un_0_3 (sp_R1 k x) fun h1 h3 _ => ?_
  have t1 : (spC k x).take 1 = [50] := by
   have := congrArg (fun l : List Nat => l.take 1) h3
   simp only [List.take_take] at this
   exact this
  have lx : Lx (spC k x) qq := by
   revert h3
   generalize spC k x = s
   intro h3
   match s, h3 with
   | a :: b :: c :: s, h3 =>
    have e := List.cons.inj h3
    have e2 := List.cons.inj e.2
    rw [e.1, e2.1]
    exact Lx.cons.mpr (.inr ⟨rfl, Lx.cons.mpr (.inl (by decide))⟩)
  exact ⟨ok0X hk x, by rw [ec]; exact T, .inl ⟨.pro (by rw [ec]; exact .pro hk) (by rw [ec]; exact t1) (by rw [ec, h3]; exact fun q => by cases q) et, by rw [ec]; exact lx⟩⟩
theorem GI.early {i : It} (h : GI i) (e : earlyB i = true) : EarlyI i ∧ Lx i.c qq := by
 rcases h.kind with k | k
 ·exact k
 ·exact absurd (of_decide_eq_true e) k.2.nlt
theorem GI.late {i : It} (h : GI i) (e : lateB i = true) : LateI i ∧ Lx qq i.c := by
 rcases h.kind with k | k
 ·exact absurd (of_decide_eq_true e) k.2.nlt
 ·exact k
theorem GI.part {i : It} (h : GI i) : lateB i = !earlyB i := by
 rcases h.kind with k | k
 ·rw [show earlyB i = true from decide_eq_true k.2.lt, show lateB i = false from decide_eq_false k.2.nlt]; rfl
 ·rw [show lateB i = true from decide_eq_true k.2.lt, show earlyB i = false from decide_eq_false k.2.nlt]; rfl
theorem latE_gi {i j : It} (hi : ∃ k x, k < 15 ∧ i = itX k x) (h : j ∈ latE i) : Ok0 j ∧ CoT j.c ∧ LateI j ∧ Lx qq j.c := by
 refine un_2_2 (hi) fun k x hk e583x3 => ?_; (try clear hi); subst e583x3
 have et : (itX k x).told = if (x.fdiv 3).fmod 6 = 2 then sgX x ++ [32, 104] else [] := rfl
 unfold latE toldE at h
 split at h
 ·cases h
 ·next h1 =>
  split at h
  ·cases h
  ·next h2 =>
   rw [List.mem_singleton] at h
   subst h
   have ht : (itX k x).told = sgX x ++ [32, 104] := by
    rw [et]
    by_cases q : (x.fdiv 3).fmod 6 = 2
    ·exact if_pos q
    ·rw [et, if_neg q] at h2; exact absurd rfl h2
   refine un_2_3 (told_row x) fun k0 s er hl hk0 => ?_
   have hk1 : 51 ≤ k0 := by
    rcases hk0 with rfl | h
    ·rw [ht, er] at h1; exact absurd rfl h1
    ·exact h
   rw [ht, er]
   refine ⟨⟨Nat.zero_le _, .inl rfl, Nat.zero_le _, ?_⟩, .row (by lia) hl nm104, .row (fun q => by have := (List.cons.inj q).1; lia), Lx.cons.mpr (.inl (by lia))⟩
   have := told_len k x
   rw [ht, er] at this
   exact Nat.le_trans this (by decide)
end Mine
namespace Mine
open PySem
theorem iL_le {a b : It} (h : tLt (iL b) (iL a) = false) : a.d < b.d ∨ (a.d = b.d ∧ (a.c < b.c ∨ (a.c = b.c ∧ ¬ b.t < a.t))) := by
 unfold iL at h
 rw [tLt] at h
 by_cases h1 : b.d = a.d
 ·rw [if_pos (by unfold sEq; rw [h1]; exact beq_self_eq_true _), tLt] at h
  by_cases h2 : b.c = a.c
  ·rw [if_pos (by unfold sEq; rw [h2]; exact beq_self_eq_true _), tLt] at h
   by_cases h3 : b.t = a.t
   ·exact .inr ⟨h1.symm, .inr ⟨h2.symm, by rw [h3]; exact List.lt_irrefl _⟩⟩
   ·rw [if_neg (by unfold sEq; simpa using h3)] at h
    exact .inr ⟨h1.symm, .inr ⟨h2.symm, of_decide_eq_false h⟩⟩
  ·rw [if_neg (by unfold sEq; simpa using h2)] at h
   by_cases q : a.c < b.c
   ·exact .inr ⟨h1.symm, .inl q⟩
   ·exact absurd (List.le_antisymm (List.not_lt.mp q) (List.not_lt.mp (of_decide_eq_false h))) h2
 ·rw [if_neg (by unfold sEq; simp; lia)] at h
  have := of_decide_eq_false h
  exact .inl (by lia)
structure GE (i : It) : Prop where
 ok : Ok0 i
 co : CoT i.c
 ea : EarlyI i
 lx : Lx i.c qq
structure GL (i : It) : Prop where
 ok : Ok0 i
 co : CoT i.c
 la : LateI i
 lx : Lx qq i.c
theorem early_hR {a b : It} (ha : GE a) (hb : GE b) (h : tLt (iL b) (iL a) = false) : ∀ l, l ≤ a.d → ¬ b.full < a.tx l := fun l hl => by
 rcases iL_le h with h1 | ⟨h1, h2⟩
 ·exact (wr_early ha.lx (Nat.lt_of_le_of_lt hl h1)).nlt
 ·rcases Nat.lt_or_eq_of_le hl with h3 | h3
  ·exact (wr_early ha.lx (h1 ▸ h3)).nlt
  ·have eb : b.full = wr b.c b.d b.t l := by unfold It.full It.tx; rw [← h1, h3]
   rw [eb]
   rcases h2 with h2 | ⟨h2, h4⟩
   ·exact (wr_core (ha.co.nx hb.co h2) ha.ok.tl l hl (h1 ▸ hl)).2
   ·rw [← h2, ← h1]; exact wr_tail h4 l hl
theorem told_lt {i : It} (e : EarlyI i) (t : toldE i = true) : i.told < i.c := by
 have t2 : i.told.take 1 = [45] := eq_of_beq t
 cases e with
 | row _ h => rw [h] at t2; cases t2
 | rep _ h => rw [h] at t2; cases t2
 | pro _ _ _ h => rw [h] at t2; cases t2
 | port _ h1 =>
  obtain ⟨r, e1⟩ := take1 t2
  obtain ⟨r', e2⟩ := take1 h1
  rw [e1, e2]
  exact List.cons_lt_cons_iff.mpr (.inl (by decide))
theorem runs_early : ∀ (E LT : List It) {log ref : List (List Nat)}, (∀ i ∈ E, GE i) → E.Pairwise (fun a b => tLt (iL b) (iL a) = false) → (∀ j ∈ LT, Lx qq j.c) → (∀ i ∈ E, ∀ j ∈ latE i, Lx qq j.c) →
  Runs ((LT ++ E.flatMap latE).map It.full) log ref → Runs (E.map It.full ++ LT.map It.full) (E.flatMap logE ++ log) (E.flatMap refE ++ ref)
 | [], LT, log, ref, _, _, _, _, h => by
  rw [show LT ++ ([] : List It).flatMap latE = LT from List.append_nil _] at h
  exact h
 | e :: E, LT, log, ref, hE, hp, hL, hL2, h => by
  have ge := hE e (.head _)
  have hp2 := List.pairwise_cons.mp hp
  have h' := runs_early E (LT ++ latE e) (fun i hi => hE i (.tail _ hi)) hp2.2 (fun j hj => by
   rcases List.mem_append.mp hj with hj | hj
   ·exact hL j hj
   ·exact hL2 e (.head _) j hj) (fun i hi => hL2 i (.tail _ hi)) (by rw [List.append_assoc]; exact h)
  have hR : ∀ y ∈ E.map It.full ++ LT.map It.full, ∀ l, l ≤ e.d → ¬ y < e.tx l := fun y hy l hl => by
   rcases List.mem_append.mp hy with hy | hy
   ·refine un_1_2 (List.mem_map.mp hy) fun b hb e585x2 => ?_; subst e585x2
    exact early_hR ge (hE b (.tail _ hb)) (hp2.1 b hb) l hl
   ·refine un_1_2 (List.mem_map.mp hy) fun j hj e586x2 => ?_; subst e586x2
    exact (wr_both ge.lx (hL j hj) l j.d).nlt
  have h'' : Runs ((latE e).map It.full ++ (E.map It.full ++ LT.map It.full)) (E.flatMap logE ++ log) (E.flatMap refE ++ ref) := by
   refine h'.perm ?_
   rw [List.map_append, ← List.append_assoc (E.map It.full)]
   exact List.perm_append_comm
  have := run_early ge.ok ge.ea hR (fun t y hy q => hR y hy 0 (Nat.zero_le _) (List.lt_trans q (told_lt ge.ea t))) h'' e.d (Nat.le_refl _)
  rw [List.flatMap_cons, List.flatMap_cons, List.append_assoc, List.append_assoc]
  have el : logE e ++ (E.flatMap logE ++ log) = downs e e.d ++ ((if toldE e then [e.told] else []) ++ (E.flatMap logE ++ log)) := by unfold logE; rw [List.append_assoc]
  rw [el]
  exact this
end Mine
namespace Mine
open PySem
theorem lv_le {a b : It} (h : tLt (lvL b) (lvL a) = false) : a.c < b.c ∨ a.c = b.c := by
 unfold lvL at h
 rw [tLt] at h
 by_cases h2 : b.c = a.c
 ·exact .inr h2.symm
 ·rw [if_neg (by unfold sEq; simpa using h2)] at h
  by_cases q : a.c < b.c
  ·exact .inl q
  ·exact .inr (List.le_antisymm (List.not_lt.mp (of_decide_eq_false h)) (List.not_lt.mp q))
theorem runs_lvl {l : Nat} : ∀ (S : List It) {R log ref : List (List Nat)}, (∀ i ∈ S, GL i ∧ l + 1 ≤ i.d) → S.Pairwise (fun a b => a.c < b.c) → (∀ y ∈ R, ∀ s ∈ S, ¬ y < s.tx (l + 1)) →
  Runs (S.map (·.tx l) ++ R) log ref → Runs (S.map (·.tx (l + 1)) ++ R) (lvB S (l + 1) ++ log) ref
 | [], R, log, ref, _, _, _, h => h
 | s :: S, R, log, ref, hS, hp, hR, h => by
  obtain ⟨g, hd⟩ := hS s (.head _)
  have hp2 := List.pairwise_cons.mp hp
  have ih := runs_lvl S (R := s.tx l :: R) (log := log) (ref := ref) (fun i hi => hS i (.tail _ hi)) hp2.2 (fun y hy i hi => by
   rcases List.mem_cons.mp hy with rfl | hy
   ·exact (wr_late g.lx (Nat.lt_succ_self l)).nlt
   ·exact hR y hy i (.tail _ hi)) (h.perm List.perm_middle)
  have e : lvB (s :: S) (l + 1) = s.tx (l + 1) :: lvB S (l + 1) := by
   unfold lvB
   rw [List.flatMap_cons, if_neg (fun q => Nat.succ_ne_zero l q.1)]; rfl
  rw [e]
  refine Runs.go (g.ok.len hd) (fun y hy => ?_) (g.ok.read l) (ih.perm ?_)
  ·rcases List.mem_append.mp hy with hy | hy
   ·refine un_1_2 (List.mem_map.mp hy) fun b hb e587x2 => ?_; subst e587x2
    obtain ⟨gb, hdb⟩ := hS b (.tail _ hb)
    exact (wr_core (g.co.nx gb.co (hp2.1 b hb)) g.ok.tl (l + 1) hd hdb).2
   ·exact hR y hy s (.head _)
  ·exact (List.perm_middle (l₁ := S.map (·.tx (l + 1)))).symm
theorem runs_zero : ∀ (S : List It), (∀ i ∈ S, GL i) → S.Pairwise (fun a b => ¬ b.c < a.c) → Runs (S.map (·.tx 0)) (lvB S 0) []
 | [], _, _ => .nil
 | s :: S, hS, hp => by
  have g := hS s (.head _)
  have hp2 := List.pairwise_cons.mp hp
  have ih := runs_zero S (fun i hi => hS i (.tail _ hi)) hp2.2
  have hl : (s.tx 0).length ≤ 1000 := g.ok.len (Nat.zero_le _)
  have hm : ∀ y ∈ S.map (·.tx 0), ¬ y < s.tx 0 := fun y hy => by
   refine un_1_2 (List.mem_map.mp hy) fun b hb e588x2 => ?_; subst e588x2
   exact hp2.1 b hb
  have el : lvB (s :: S) 0 = (if s.c.take 3 = [50, 53, 55] then [s.tx 0, []] else [s.tx 0]) ++ lvB S 0 := by
   unfold lvB
   rw [List.flatMap_cons]
   simp
  rw [el]
  cases g.la with
  | row h =>
   rw [if_neg (fun q => h (by have := congrArg (fun l : List Nat => l.take 1) q; simp only [List.take_take] at this; exact this))]
   exact Runs.go hl hm (.row h) ih
  | @is y h hy =>
   rw [if_pos (by rw [h]; rfl)]
   have hx : s.tx 0 = 50 :: 53 :: 55 :: y := h
   show Runs (s.tx 0 :: S.map (·.tx 0)) ([s.tx 0, []] ++ lvB S 0) []
   rw [hx] at hl hm ⊢
   exact Runs.go hl hm (.pla hy) (Runs.go (Nat.zero_le _) (fun y _ => List.not_lt_nil y) (.row (fun q => by cases q)) ih)
end Mine
namespace Mine
open PySem
noncomputable def Dst (a b : It) : Prop := a.c = b.c → a.d = 0 ∨ b.d = 0
noncomputable def tops (late : List It) (l : Nat) : List (List Nat) := late.map fun j => j.tx (min j.d l)
theorem lvl_step {late S : List It} {l : Nat} {log ref : List (List Nat)} (hG : ∀ j ∈ late, GL j) (hD : late.Pairwise Dst) (hp : S.Perm (late.filter fun i => decide (l + 1 ≤ i.d))) (ho : S.Pairwise fun a b => tLt (lvL b) (lvL a) = false)
  (h : Runs (tops late l) log ref) : Runs (tops late (l + 1)) (lvB S (l + 1) ++ log) ref := by
 have hS : ∀ i ∈ S, i ∈ late ∧ l + 1 ≤ i.d := fun i hi => by
  have := List.mem_filter.mp (hp.mem_iff.mp hi)
  exact ⟨this.1, of_decide_eq_true this.2⟩
 have hpart := List.filter_append_perm (fun i : It => decide (l + 1 ≤ i.d)) late
 have hr : ∀ i ∈ late.filter (fun i => !decide (l + 1 ≤ i.d)), i ∈ late ∧ i.d ≤ l := fun i hi => by
  have := List.mem_filter.mp hi
  refine ⟨this.1, ?_⟩
  have h2 := this.2
  rw [Bool.not_eq_true'] at h2
  have := of_decide_eq_false h2
  lia
 have key : ∀ m, (m = l ∨ m = l + 1) → (tops late m).Perm (S.map (·.tx m) ++ (late.filter fun i => !decide (l + 1 ≤ i.d)).map It.full) := fun m hm => by
  have h1 : (tops late m).Perm ((late.filter fun i => decide (l + 1 ≤ i.d)).map (fun j => j.tx (min j.d m)) ++ (late.filter fun i => !decide (l + 1 ≤ i.d)).map fun j => j.tx (min j.d m)) := by
   rw [← List.map_append]; exact (hpart.map _).symm
  have h2 : ((late.filter fun i => decide (l + 1 ≤ i.d)).map fun j => j.tx (min j.d m)).Perm (S.map (·.tx m)) := by
   refine ((hp.map (fun j : It => j.tx (min j.d m))).symm).trans (.of_eq (List.map_congr_left fun i hi => ?_))
   have := (hS i hi).2
   show i.tx (min i.d m) = i.tx m
   rw [Nat.min_eq_right (by lia)]
  have h3 : ((late.filter fun i => !decide (l + 1 ≤ i.d)).map fun j => j.tx (min j.d m)) = (late.filter fun i => !decide (l + 1 ≤ i.d)).map It.full := List.map_congr_left fun i hi => by
   have := (hr i hi).2
   show i.tx (min i.d m) = i.tx i.d
   rw [Nat.min_eq_left (by lia)]
  rw [h3] at h1
  exact h1.trans (h2.append_right _)
 have hD2 : S.Pairwise Dst := (hp.pairwise_iff (fun {a b} (q : Dst a b) e => (q e.symm).symm)).mpr (hD.filter _)
 have hlt : S.Pairwise fun a b => a.c < b.c := by
  refine List.Pairwise.imp_of_mem (fun {a b} ha hb q => ?_) (ho.and hD2)
  rcases lv_le q.1 with h | h
  ·exact h
  ·have h1 := (hS a ha).2
   have h2 := (hS b hb).2
   rcases q.2 h with h3 | h3 <;> lia
 refine (runs_lvl S (R := (late.filter fun i => !decide (l + 1 ≤ i.d)).map It.full) (fun i hi => ⟨hG i (hS i hi).1, (hS i hi).2⟩) hlt (fun y hy s hs => ?_) (h.perm (key l (.inl rfl)).symm)).perm (key (l + 1) (.inr rfl))
 refine un_1_2 (List.mem_map.mp hy) fun r hr1 e589x2 => ?_; subst e589x2
 have := hr r hr1
 exact (wr_late (hG r this.1).lx (Nat.lt_succ_of_le this.2)).nlt
theorem runs_late {late : List It} {L : List (List Nat)} (hG : ∀ j ∈ late, GL j) (hD : late.Pairwise Dst) (h : Lv late 3 L) : Runs (late.map It.full) L [] := by
 cases h with
 | @succ _ L2 S0 h p0 o0 =>
  cases h with
  | @succ _ L1 S1 h p1 o1 =>
   cases h with
   | @succ _ L0 S2 h p2 o2 =>
    cases h
    have e0 : late.filter (fun i => decide (2 - 2 ≤ i.d)) = late := List.filter_eq_self.mpr fun i _ => decide_eq_true (Nat.zero_le _)
    rw [e0] at p0
    have r0 := runs_zero S0 (fun i hi => hG i (p0.mem_iff.mp hi)) (o0.imp fun {a b} q => by
     rcases lv_le q with h | h
     ·exact List.lt_asymm h
     ·rw [h]; exact List.lt_irrefl _)
    have t0 : Runs (tops late 0) (lvB S0 0) [] := by
     refine r0.perm ?_
     refine ((p0.map (·.tx 0)).trans (.of_eq (List.map_congr_left fun i _ => ?_))).symm
     show i.tx 0 = i.tx (min i.d 0)
     rw [Nat.min_zero]
    have r2 := lvl_step hG hD p2 o2 (lvl_step hG hD p1 o1 t0)
    have ef : tops late 2 = late.map It.full := List.map_congr_left fun i hi => by
     show i.tx (min i.d 2) = i.tx i.d
     rw [Nat.min_eq_left (hG i hi).ok.d2]
    rw [ef] at r2
    show Runs _ ([] ++ lvB S2 2 ++ lvB S1 1 ++ lvB S0 0) []
    rw [List.nil_append, List.append_assoc]
    exact r2
end Mine
namespace Mine
open PySem
theorem zL_le {a b : It} (h : tLt (zL b) (zL a) = false) : b.d < a.d ∨ (a.d = b.d ∧ (a.c < b.c ∨ (a.c = b.c ∧ ¬ b.t < a.t))) := by
 unfold zL at h
 rw [tLt] at h
 by_cases h1 : b.d = a.d
 ·rw [if_pos (by unfold sEq; rw [h1]; exact beq_self_eq_true _), tLt] at h
  by_cases h2 : b.c = a.c
  ·rw [if_pos (by unfold sEq; rw [h2]; exact beq_self_eq_true _), tLt] at h
   by_cases h3 : b.t = a.t
   ·exact .inr ⟨h1.symm, .inr ⟨h2.symm, by rw [h3]; exact List.lt_irrefl _⟩⟩
   ·rw [if_neg (by unfold sEq; simpa using h3)] at h
    exact .inr ⟨h1.symm, .inr ⟨h2.symm, of_decide_eq_false h⟩⟩
  ·rw [if_neg (by unfold sEq; simpa using h2)] at h
   by_cases q : a.c < b.c
   ·exact .inr ⟨h1.symm, .inl q⟩
   ·exact absurd (List.le_antisymm (List.not_lt.mp q) (List.not_lt.mp (of_decide_eq_false h))) h2
 ·rw [if_neg (by unfold sEq; rw [beq_iff_eq]; lia)] at h
  have := of_decide_eq_false h
  exact .inl (by lia)
theorem late_ord {a b : It} (ha : GL a) (hb : GL b) (h : tLt (zL b) (zL a) = false) : ¬ b.full < a.full := by
 rcases zL_le h with h1 | ⟨h1, h2⟩
 ·exact (wr_late hb.lx h1).nlt
 ·have eb : b.full = wr b.c b.d b.t a.d := by unfold It.full It.tx; rw [← h1]
  rw [eb]
  rcases h2 with h2 | ⟨h2, h4⟩
  ·exact (wr_core (ha.co.nx hb.co h2) ha.ok.tl a.d (Nat.le_refl _) (h1 ▸ Nat.le_refl _)).2
  ·rw [← h2, ← h1]; exact wr_tail h4 a.d (Nat.le_refl _)
theorem abc_inj : ∀ i j : Fin 15, lAbc.getD i.val 0 = lAbc.getD j.val 0 → i = j := by decide +kernel
theorem nm_last (k : Nat) (u : List Nat) : (u ++ nmC k).getLast? = some (lAbc.getD k 0) := by
 unfold nmC
 rw [← List.append_assoc, List.getLast?_append]
 rfl
theorem late_last {k : Nat} {x : Int} (hk : k < 15) (h : lateB (itX k x) = true) : (itX k x).c.getLast? = some (lAbc.getD k 0) := by
 have ec : (itX k x).c = coC k x (sgX x) := rfl
 have lx := ((giX hk x).late h).2
 cases it_shape k x with
 | row e => rw [ec, e, show sgX x ++ (32 :: nmC k) = (sgX x ++ [32]) ++ nmC k by rw [List.append_assoc]; rfl]; exact nm_last k _
 | port e => rw [ec, e, portC_eq] at lx; exact absurd lx (by simp [Lx.cons])
 | rep e => rw [ec, e] at lx; exact absurd lx (by simp [Lx.cons])
 | is e => rw [ec, e]; exact nm_last k _
 | sp e =>
  exfalso
  refine un_0_3 (sp_R1 k x) fun _ h3 _ => ?_
  rw [ec, e] at lx
  revert lx h3
  generalize spC k x = s
  intro lx h3
  match s, h3 with
  | a :: b :: c :: s, h3 =>
   have e := List.cons.inj h3
   have e2 := List.cons.inj e.2
   rw [e.1, e2.1] at lx
   simp [Lx.cons] at lx
theorem pw_all {α : Type} {R : α → α → Prop} : ∀ l : List α, (∀ a ∈ l, ∀ b, R a b) → l.Pairwise R
 | [], _ => .nil
 | a :: l, h => .cons (fun b _ => h a (.head _) b) (pw_all l fun x hx => h x (.tail _ hx))
theorem lv_len {late : List It} {j : Nat} {L : List (List Nat)} (h : Lv late j L) : L.length ≤ 2 * late.length * j := by
 induction h with
 | zero => exact Nat.zero_le _
 | @succ j L S _ hp _ ih =>
  have h1 := lvB_le S (2 - j)
  have h2 := hp.length_eq
  have h3 := List.length_filter_le (fun i : It => decide (2 - j ≤ i.d)) late
  rw [List.length_append, Nat.mul_succ]; lia
theorem law_run {xs : List Int} (hx : xs.length ≤ 15) {E Z : List It} {L : List (List Nat)} (D : Due (itm xs xs.length) E Z L) :
  Runs (txs xs xs.length) (E.flatMap logE ++ L) (E.flatMap refE) ∧ (E.flatMap logE ++ L).length ≤ 9999 ∧ (E.map It.full ++ Z.map It.full).Perm (txs xs xs.length) ∧ (E.map It.full ++ Z.map It.full).Pairwise fun x y => sL y x = false := by
 have hits : ∀ i ∈ itm xs xs.length, ∃ k x, k < 15 ∧ i = itX k x := fun i h => by
  refine un_1_2 (List.mem_map.mp h) fun k hk e591x2 => ?_; subst e591x2
  exact ⟨k, _, Nat.lt_of_lt_of_le (List.mem_range.mp hk) hx, rfl⟩
 have hg : ∀ i ∈ itm xs xs.length, GI i := fun i h => by obtain ⟨k, x, hk, rfl⟩ := hits i h; exact giX hk x
 have etx : txs xs xs.length = (itm xs xs.length).map It.full := by
  unfold txs itm
  rw [List.map_map]
  exact List.map_congr_left fun k _ => txX_eq k _
 have hE : ∀ i ∈ E, i ∈ itm xs xs.length ∧ GE i := fun i h => by
  have := List.mem_filter.mp (D.pe.mem_iff.mp h)
  have g := hg i this.1
  exact ⟨this.1, g.ok, g.co, (g.early this.2).1, (g.early this.2).2⟩
 have hL0 : ∀ i ∈ (itm xs xs.length).filter lateB, GL i := fun i h => by
  have := List.mem_filter.mp h
  have g := hg i this.1
  exact ⟨g.ok, g.co, (g.late this.2).1, (g.late this.2).2⟩
 have hZ : ∀ i ∈ Z, GL i := fun i h => hL0 i (D.pz.mem_iff.mp h)
 have hT : ∀ i ∈ E, ∀ j ∈ latE i, GL j := fun i h j hj => by
  refine un_0_4 (latE_gi (hits i (hE i h).1) hj) fun a b c d => ?_
  exact ⟨a, b, c, d⟩
 have hLa : ∀ j ∈ (itm xs xs.length).filter lateB ++ E.flatMap latE, GL j := fun j hj => by
  rcases List.mem_append.mp hj with h | h
  ·exact hL0 j h
  ·obtain ⟨i, hi, hj⟩ := List.mem_flatMap.mp h; exact hT i hi j hj
 have hdist : (itm xs xs.length).Pairwise fun a b => lateB a = true → lateB b = true → a.c ≠ b.c := by
  unfold itm
  rw [List.pairwise_map]
  refine List.Pairwise.imp_of_mem (fun {a b} ha hb hne l1 l2 e => ?_) (List.nodup_range (n := xs.length))
  have ka := Nat.lt_of_lt_of_le (List.mem_range.mp ha) hx
  have kb := Nat.lt_of_lt_of_le (List.mem_range.mp hb) hx
  have h1 := late_last ka l1
  have h2 := late_last kb l2
  rw [e, h2] at h1
  have := abc_inj ⟨a, ka⟩ ⟨b, kb⟩ (Option.some.inj h1).symm
  exact hne (Fin.mk.inj this)
 have hD : ((itm xs xs.length).filter lateB ++ E.flatMap latE).Pairwise Dst := by
  have hd0 : ∀ j ∈ E.flatMap latE, j.d = 0 := fun j hj => by
   refine un_1_2 (List.mem_flatMap.mp hj) fun i hi hj => ?_
   unfold latE at hj
   split at hj
   ·cases hj
   ·split at hj
    ·cases hj
    ·rw [List.mem_singleton] at hj; rw [hj]
  refine List.pairwise_append.mpr ⟨?_, pw_all _ (fun a ha b _ => .inl (hd0 a ha)), fun a _ b hb _ => .inr (hd0 b hb)⟩
  refine List.Pairwise.imp_of_mem (fun {a b} ha hb q e => absurd e (q (List.mem_filter.mp ha).2 (List.mem_filter.mp hb).2)) (hdist.filter _)
 have hrun := runs_early E _ (fun i h => (hE i h).2) D.oe (fun j h => (hL0 j h).lx) (fun i h j hj => (hT i h j hj).lx) (runs_late hLa hD D.lv)
 rw [List.append_nil] at hrun
 have hpart := List.filter_append_perm earlyB (itm xs xs.length)
 have hfl : (itm xs xs.length).filter lateB = (itm xs xs.length).filter fun i => !earlyB i := List.filter_congr fun i h => (hg i h).part
 have nI : (itm xs xs.length).length = xs.length := by unfold itm; rw [List.length_map, List.length_range]
 have nE : E.length ≤ 15 := by rw [D.pe.length_eq]; exact Nat.le_trans (List.length_filter_le _ _) (by rw [nI]; exact hx)
 have nL : ((itm xs xs.length).filter lateB).length ≤ 15 := Nat.le_trans (List.length_filter_le _ _) (by rw [nI]; exact hx)
 have h1 := flat_le (f := logE) (n := 4) E fun i h => by
  have := logE_le i
  have := (hE i h).2.ok.d2
  lia
 have h2 := flat_le E fun i _ => latE_le i
 have h3 := lv_len D.lv
 rw [List.length_append] at h3
 have hperm : (E ++ Z).Perm (itm xs xs.length) := (D.pe.append D.pz).trans (by rw [hfl]; exact hpart)
 refine ⟨?_, by rw [List.length_append]; lia, by rw [etx, ← List.map_append]; exact hperm.map _, ?_⟩
 ·rw [etx]
  refine hrun.perm ?_
  rw [← List.map_append]
  refine List.Perm.map _ ((hpart.symm.trans ?_))
  rw [← hfl]
  exact D.pe.symm.append_right _
 ·refine List.pairwise_append.mpr ⟨?_, ?_, fun x hx y hy => ?_⟩
  ·rw [List.pairwise_map]
   exact List.Pairwise.imp_of_mem (fun {a b} ha hb q => decide_eq_false (early_hR (hE a ha).2 (hE b hb).2 q a.d (Nat.le_refl _))) D.oe
  ·rw [List.pairwise_map]
   exact List.Pairwise.imp_of_mem (fun {a b} ha hb q => decide_eq_false (late_ord (hZ a ha) (hZ b hb) q)) D.oz
  ·refine un_1_2 (List.mem_map.mp hx) fun a ha e594x2 => ?_; subst e594x2
   refine un_1_2 (List.mem_map.mp hy) fun b hb e595x2 => ?_; subst e595x2
   exact decide_eq_false (wr_both (hE a ha).2.lx (hZ b hb).lx a.d b.d).nlt
theorem law_ok (s : List Int) : LawOk (numX s) := by
 have hx : (numX s).length ≤ 15 := by unfold numX; rw [List.length_append, List.length_take]; show _ + 11 ≤ 15; lia
 exact ⟨kinds_ok, fmX_len, fun k x hk => okX hk x, fun k x hk => coX_eq hk x, nx_rt, fun E Z L D => law_run hx D⟩
end Mine
namespace Mine
open PySem PySem.W PyProof.Rows PySem.Calls
noncomputable def isFn (K : Frag) (a : Addr) : Bool := match K.lookup a with | some ⟨_, _, .func _, _⟩ => true | _ => false
noncomputable def fdOf (K : Frag) (a : Addr) : FuncData := match K.lookup a with | some ⟨_, _, .func fd, _⟩ => fd | _ => default
noncomputable def okD (K : Frag) (fd : FuncData) (xs : List Str) : Bool := codeIn K fd.code fd.qualname && fd.closure.isEmpty && !fd.scope.isCoroutine && !fd.scope.isGenerator &&
 decide (fd.scope.kind = .function ∧ fd.globals = mainGlobals ∧ fd.builtins = builtinsNs ∧ xs.Nodup)
noncomputable def locD (fd : FuncData) (xs : List Str) : Bool := decide ((∀ x ∈ fd.scope.names, x.2 ≠ .cell) ∧ ∀ x ∈ xs, fd.scope.names.lookup x = some .local)
noncomputable def locC (fd : FuncData) (xs : List Str) : Bool := decide (((cellsFrom 0 fd.scope.names []).map (·.1)).Nodup ∧ ∀ x ∈ xs, (fd.scope.names.lookup x = some .local ∧ x ∉ (cellsFrom 0 fd.scope.names []).map (·.1)) ∨ (fd.scope.names.lookup x = some .cell ∧ x ∈ (cellsFrom 0 fd.scope.names []).map (·.1)))
noncomputable def BindN (fd : FuncData) : List Str → Prop
 | [p] => ∀ x, bindArgs fd ⟨[x], []⟩ = pure [(p, x)]
 | [p, q] => ∀ x y, bindArgs fd ⟨[x, y], []⟩ = pure [(p, x), (q, y)]
 | [p, q, r] => ∀ x y z, bindArgs fd ⟨[x, y, z], []⟩ = pure [(p, x), (q, y), (r, z)]
 | _ => False
theorem bindN_to {fd : FuncData} {s : Shared} {ps : List Str} {xs : List Value} (h : BindN fd ps) (hl : xs.length = ps.length) : BindsTo s fd ⟨xs, []⟩ (ps.zip xs) := by
 cases ps with
 | nil => exact False.elim h
 | cons p ps =>
  cases xs with
  | nil => cases hl
  | cons x xs =>
   have h1 := Nat.succ.inj hl
   cases ps with
   | nil => cases xs with
    | nil => exact .of_eq (h x)
    | cons _ _ => cases h1
   | cons q ps => cases xs with
    | nil => cases h1
    | cons y xs =>
     have h2 := Nat.succ.inj h1
     cases ps with
     | nil => cases xs with
      | nil => exact .of_eq (h x y)
      | cons _ _ => cases h2
     | cons r ps => cases xs with
      | nil => cases h2
      | cons z xs =>
       have h3 := Nat.succ.inj h2
       cases ps with
       | nil => cases xs with
        | nil => exact .of_eq (h x y z)
        | cons _ _ => cases h3
       | cons _ _ => exact False.elim h
structure DefK (K : Frag) (a i : Nat) (ps rest : List Str) : Prop where
 fn : isFn K a = true
 ok : okD K (fdOf K a) (ps ++ rest) = true
 loc : locD (fdOf K a) (ps ++ rest) = true
 body : (fdOf K a).body = .stmts (bd i)
 sc : (fdOf K a).scope = sc i
 bind : BindN (fdOf K a) ps
structure DefKC (K : Frag) (a i : Nat) (ps rest : List Str) : Prop where
 fn : isFn K a = true
 ok : okD K (fdOf K a) (ps ++ rest) = true
 loc : locC (fdOf K a) (ps ++ rest) = true
 body : (fdOf K a).body = .stmts (bd i)
 sc : (fdOf K a).scope = sc i
section
variable {C : Cst} {K : Frag}
theorem fn_at (X : K.In C.h0) {a : Addr} (h : isFn K a = true) : ∃ o, C.h0.get? a = some o ∧ o.data = .func (fdOf K a) := by
 unfold isFn at h
 unfold fdOf
 split at h
 ·rename_i e
  exact ⟨_, X _ _ e, rfl⟩
 ·cases h
theorem def_of (X : K.In C.h0) {a i : Nat} {ps rest : List Str} (H : DefK K a i ps rest) : Def C a i ps rest := by
 obtain ⟨h1, h2, h3, h4, h5, h6⟩ := H
 unfold okD at h2
 unfold locD at h3
 obtain ⟨l1, l2⟩ := of_decide_eq_true h3
 simp only [Bool.and_eq_true, Bool.not_eq_true'] at h2
 obtain ⟨⟨⟨⟨k1, k2⟩, k3⟩, k4⟩, k5⟩ := h2
 refine un_0_4 (of_decide_eq_true k5) fun m1 m2 m3 m4 => ?_
 exact ⟨_, ⟨fn_at X h1, codeRec_of X k1, h4, l1, m1, k3, k4, m2, m3, m4, l2⟩, h5, fun s xs _ hl => bindN_to h6 hl⟩
theorem defC_of (X : K.In C.h0) {a i nd : Nat} {ps rest : List Str} (H : DefKC K a i ps rest)
  (hb : ∀ (s : Shared) (xs : List Value), C.h0.StaysIn s.heap → xs.length + nd = ps.length → BindsTo s (fdOf K a) ⟨xs, []⟩ (ps.zip (xs ++ List.replicate nd Value.none))) : DefC C a i ps rest nd := by
 obtain ⟨h1, h2, h3, h4, h5⟩ := H
 unfold okD at h2
 unfold locC at h3
 obtain ⟨l1, l2⟩ := of_decide_eq_true h3
 simp only [Bool.and_eq_true, Bool.not_eq_true'] at h2
 obtain ⟨⟨⟨⟨k1, k2⟩, k3⟩, k4⟩, k5⟩ := h2
 refine un_0_4 (of_decide_eq_true k5) fun m1 m2 m3 m4 => ?_
 refine ⟨_, ⟨fn_at X h1, codeRec_of X k1, h4, List.isEmpty_iff.mp k2, m1, k3, k4, m2, m3, m4, l1, fun L x hx => ?_⟩, h5, hb⟩
 have hn := cellsFrom_names (fdOf K a).scope.names 0 (L + 1) [] [] rfl
 rcases l2 x hx with ⟨q1, q2⟩ | ⟨q1, q2⟩
 ·refine .inl ⟨q1, ?_⟩
  cases e : (csOf (fdOf K a).scope.names L).lookup x with
  | none => rfl
  | some c => exact absurd (hn ▸ List.mem_map_of_mem (f := (·.1)) (mem_of_lookup e)) q2
 ·refine .inr ⟨q1, ?_⟩
  rw [hn] at q2
  refine un_1_2 (List.mem_map.mp q2) fun p hp e600x2 => ?_; subst e600x2
  cases e : (csOf (fdOf K a).scope.names L).lookup p.1 with
  | some c => rfl
  | none => have := List.lookup_eq_none_iff.mp e p hp; simp at this
theorem bindC_1 {a : Addr} {p : Str} (h : BindN (fdOf K a) [p]) : ∀ (s : Shared) (xs : List Value), C.h0.StaysIn s.heap → xs.length + 0 = [p].length → BindsTo s (fdOf K a) ⟨xs, []⟩ ([p].zip (xs ++ List.replicate 0 Value.none)) :=
 fun s xs _ hl => by rw [List.replicate_zero, List.append_nil]; exact bindN_to h hl
noncomputable def dfltNone (K : Frag) (v : Value) : Bool := match v with | .ref T => (match K.lookup T with | some ⟨_, _, .seq its _, _⟩ => (match its.toList with | [.none] => true | _ => false) | _ => false) | _ => false
theorem two_of {xs : List Value} (h : xs.length + 1 = 3) : ∃ x y, xs = [x, y] := by
 cases xs with
 | nil => cases h
 | cons x xs => cases xs with
  | nil => cases h
  | cons y xs => cases xs with
   | nil => exact ⟨x, y, rfl⟩
   | cons z xs => have := Nat.succ.inj (Nat.succ.inj (Nat.succ.inj h)); cases this
theorem bindC_3 (X : K.In C.h0) {a : Addr} {p1 p2 p3 : Pos} {d : Expr} (hp : (fdOf K a).params = ⟨[], [⟨Str.ofString "n", none, p1⟩, ⟨Str.ofString "iterable", none, p2⟩, ⟨Str.ofString "key", none, p3⟩], none, [], [], none, [d]⟩) (hk : (fdOf K a).kwdefaults = .none) (hd : dfltNone K (fdOf K a).defaults = true) :
  ∀ (s : Shared) (xs : List Value), C.h0.StaysIn s.heap → xs.length + 1 = ps16.length → BindsTo s (fdOf K a) ⟨xs, []⟩ (ps16.zip (xs ++ List.replicate 1 Value.none)) := by
 intro s xs hs hl
 revert hp hd hk
 generalize fdOf K a = fd
 intro hp hk hd
 obtain ⟨nm, qn, params, body, scope, gl, cl, df, kd, doc, pm, an, code, ct, bt⟩ := fd
 dsimp only at hp hd hk
 subst hp hk
 unfold dfltNone at hd
 split at hd
 ·rename_i T
  split at hd
  ·rename_i its n sl e
   split at hd
   ·rename_i hv
    obtain ⟨x, y, rfl⟩ : ∃ x y, xs = [x, y] := two_of hl
    ·refine BindsTo.of_defaults (T := T) rfl (hs _ _ (X _ _ e)) rfl rfl ?_
     have : its = #[.none] := by cases its; simp only at hv; rw [hv]
     rw [this]
     kernel_rfl
   ·cases hd
  ·cases hd
 ·cases hd
noncomputable def vin (K : Frag) : Nat → V → Value → Bool
 | _, .int i, .int j _ => i == j
 | _, .str u, .str s _ => u == s.cps.toList
 | n + 1, .tup l, .ref a => (match K.lookup a with | some ⟨c, _, .seq its _, _⟩ => c == .type "tuple" && l.length == its.toList.length && (l.zip its.toList).all (fun p => vin K n p.1 p.2) | _ => false)
 | _, _, _ => false
theorem vrs_zip {h : Heap} {l : List V} {xs : List Value} (hl : l.length = xs.length) (hp : ∀ p ∈ l.zip xs, VR [] h p.1 p.2) : VRs [] h l xs := by
 induction l generalizing xs with
 | nil => cases xs with
  | nil => exact VRs.nil
  | cons _ _ => cases hl
 | cons v l ih => cases xs with
  | nil => cases hl
  | cons x xs => exact VRs.cons (hp (v, x) (.head _)) (ih (Nat.succ.inj hl) fun p hp' => hp p (.tail _ hp'))
theorem vin_ok {h : Heap} (X : K.In h) : ∀ (n : Nat) (v : V) (x : Value), vin K n v x = true → VR [] h v x := by
 intro n
 induction n with
 | zero =>
  intro v x e
  unfold vin at e
  split at e
  ·rw [beq_iff_eq.mp e]; exact ⟨_, rfl⟩
  ·rename_i s _
   rw [beq_iff_eq.mp e]; exact ⟨_, rfl⟩
  ·rename_i q; cases q
  ·cases e
 | succ n ih =>
  intro v x e
  unfold vin at e
  split at e
  ·rw [beq_iff_eq.mp e]; exact ⟨_, rfl⟩
  ·rename_i s _
   rw [beq_iff_eq.mp e]; exact ⟨_, rfl⟩
  ·rename_i q
   cases q
   split at e
   ·rename_i k
    simp only [Bool.and_eq_true, beq_iff_eq] at e
    obtain ⟨⟨e1, e2⟩, e3⟩ := e
    subst e1
    refine ⟨_, _, _, _, rfl, X _ _ k, rfl, rfl, vrs_zip e2 fun p hp => ih _ _ (List.all_eq_true.mp e3 p hp)⟩
   ·cases e
  ·cases e
noncomputable def tabIn (K : Frag) (x : Str) (v : V) : Bool := match nsIn K mainGlobals x with | some (some y) => vin K 3 v y | _ => false
theorem tab_of (X : K.In C.h0) {x : Str} {v : V} (e : tabIn K x v = true) : ∃ y, C.mg x = some y ∧ VR [] C.h0 v y := by
 unfold tabIn at e
 split at e
 ·rename_i y q; exact ⟨y, mg_of X C.g q, vin_ok X _ _ _ e⟩
 ·cases e
noncomputable def obK (K : Frag) (a : Addr) : Obj := (K.lookup a).getD ⟨.none, none, .plain, #[]⟩
noncomputable def clK (o : Obj) : ClassData := match o.data with | .cls cd => cd | _ => default
noncomputable def nwK : Option Value := some (.builtin "Exception.__new__")
structure OwnK (K : Frag) (Ca Eb : Addr) : Prop where
 at_ : K.lookup Ca = some (obK K Ca)
 cls : (obK K Ca).cls = .type "type"
 data : (obK K Ca).data = .cls (clK (obK K Ca))
 sl : (obK K Ca).slots = #[(obK K Ca).slots.getD 0 none, (obK K Ca).slots.getD 1 none, (obK K Ca).slots.getD 2 none, (obK K Ca).slots.getD 3 none, nwK, (obK K Ca).slots.getD 5 none]
 mro : (clK (obK K Ca)).mro = .ref Ca :: .ref Eb :: bmE
 del : (clK (obK K Ca)).hasDel = false
 ns : (nsOkIn K (clK (obK K Ca)).ns && nsIn K (clK (obK K Ca)).ns "__init__" == some none && nsIn K (clK (obK K Ca)).ns "__str__" == some none) = true
structure SupK (K : Frag) (Eb : Addr) : Prop where
 at_ : K.lookup Eb = some (obK K Eb)
 data : (obK K Eb).data = .cls (clK (obK K Eb))
 ns : (nsOkIn K (clK (obK K Eb)).ns && nsIn K (clK (obK K Eb)).ns "__init__" == some none && nsIn K (clK (obK K Eb)).ns "__str__" == some none) = true
theorem own_of (X : K.In C.h0) {x : Str} {Ca Eb : Addr} (e : C.mg x = some (.ref Ca)) (q : OwnK K Ca Eb) (q2 : SupK K Eb) : OwnX C x Ca Eb := by
 obtain ⟨h1, h2, h3, h4, h5, h6, h7⟩ := q
 obtain ⟨g1, g3, g7⟩ := q2
 have h1 := X _ _ h1
 have g1 := X _ _ g1
 revert h1 h2 h3 h4 h5 h6 h7 g1 g3 g7
 generalize obK K Ca = o
 generalize obK K Eb = o'
 intro h2 h3 h4 h5 h6 h7 g3 g7 h1 g1
 simp only [Bool.and_eq_true, beq_iff_eq] at h7 g7
 refine ⟨e, ?_, ?_⟩
 ·obtain ⟨⟨a1, a2⟩, a3⟩ := h7
  revert h3 h5 h6
  revert a3
  revert a2
  revert a1
  generalize clK o = cd
  intro a1 a2 a3 h3 h5 h6
  obtain ⟨c, d, dat, sl⟩ := o
  obtain ⟨nm, bs, mro, ns, qn, hd, sn, sub, ab, col, del⟩ := cd
  dsimp only at h2 h3 h4 h5 h6 a1 a2 a3
  rw [h2, h3, h4, h5, h6] at h1
  exact ⟨ns, nm, qn, bs, hd, sn, sub, ab, col, d, _, _, _, _, _, _, h1, .of_isNs (isNs_of_in X a1), nsMap_none_of_in X a1 a2, nsMap_none_of_in X a1 a3⟩
 ·obtain ⟨⟨a1, a2⟩, a3⟩ := g7
  obtain ⟨c, d, dat, sl⟩ := o'
  dsimp only at g3 g1
  rw [g3] at g1
  exact ⟨_, _, _, _, _, g1, .of_isNs (isNs_of_in X a1), nsMap_none_of_in X a1 a2, nsMap_none_of_in X a1 a3⟩
end
end Mine
namespace Mine
open PySem PySem.W PyProof.Rows PySem.Calls
noncomputable def glN : List (Str × Addr) := [("heappop", 72), ("heapreplace", 79), ("heapify", 86), ("_heapreplace_max", 93), ("_heapify_max", 100), ("_siftdown", 107), ("_siftup", 114), ("_siftdown_max", 121), ("_siftup_max", 128), ("nsmallest", 134), ("nlargest", 140), ("S_IFMT", 147), ("S_ISDIR", 154), ("S_ISCHR", 161), ("S_ISBLK", 168), ("S_ISREG", 175), ("S_ISFIFO", 182), ("S_ISLNK", 189), ("S_ISSOCK", 196), ("filemode", 236), ("_law_mode", 243), ("_law_signs", 250), ("_law_core", 257), ("_law_wrapped", 264), ("_law_read", 271), ("_law_taken", 278), ("_law_due", 283), ("parse229", 58), ("parse257", 65), ("law", 288)]
noncomputable def noN : List Str := ["len", "int", "str", "reversed", "range", "iter", "zip", "sorted", "enumerate"]
noncomputable def refIn (K : Frag) (x : Str) : Addr := match nsIn K mainGlobals x with | some (some (.ref a)) => a | _ => 0
noncomputable def dA : Arg := ⟨Str.ofString "n", none, ⟨0, 0, 0, 0⟩⟩
noncomputable def dE : Expr := .Name (Str.ofString "n") ⟨0, 0, 0, 0⟩
noncomputable def Par3 (fd : FuncData) : Prop := fd.params = ⟨[], [⟨Str.ofString "n", none, (fd.params.args.getD 0 dA).pos⟩, ⟨Str.ofString "iterable", none, (fd.params.args.getD 1 dA).pos⟩, ⟨Str.ofString "key", none, (fd.params.args.getD 2 dA).pos⟩], none, [], [], none, [fd.params.defaults.getD 0 dE]⟩ ∧ fd.kwdefaults = .none
structure HeapK (K : Frag) : Prop where
 d4 : DefK K 58 4 ["resp", "peer"] ["left", "right", "parts", "host", "port"]
 d5 : DefK K 65 5 ["resp"] ["dirname", "i", "n", "c"]
 d7 : DefK K 72 7 ["heap"] ["lastelt", "returnitem"]
 d8 : DefK K 79 8 ["heap", "item"] ["returnitem"]
 d9 : DefK K 86 9 ["x"] ["n", "i"]
 d10 : DefK K 93 10 ["heap", "item"] ["returnitem"]
 d11 : DefK K 100 11 ["x"] ["n", "i"]
 d12 : DefK K 107 12 ["heap", "startpos", "pos"] ["newitem", "parentpos", "parent"]
 d13 : DefK K 114 13 ["heap", "pos"] ["endpos", "startpos", "newitem", "childpos", "rightpos"]
 d14 : DefK K 121 14 ["heap", "startpos", "pos"] ["newitem", "parentpos", "parent"]
 d15 : DefK K 128 15 ["heap", "pos"] ["endpos", "startpos", "newitem", "childpos", "rightpos"]
 d19 : DefK K 147 19 ["mode"] []
 d27 : DefK K 154 27 ["mode"] []
 d28 : DefK K 161 28 ["mode"] []
 d29 : DefK K 168 29 ["mode"] []
 d30 : DefK K 175 30 ["mode"] []
 d31 : DefK K 182 31 ["mode"] []
 d32 : DefK K 189 32 ["mode"] []
 d33 : DefK K 196 33 ["mode"] []
 d47 : DefK K 236 47 ["mode"] ["perm", "index", "table", "bit", "char"]
 d49 : DefK K 243 49 ["x"] []
 d50 : DefK K 250 50 ["mode"] ["text", "k", "bit", "set_bit"]
 d51 : DefK K 257 51 ["k", "x", "signs"] ["name", "mark", "port", "spoilt"]
 d52 : DefK K 264 52 ["core", "depth", "tail"] ["text", "level"]
 d53 : DefK K 271 53 ["text", "code"] ["host", "mode", "error"]
 d54 : DefK K 278 54 ["texts"] ["heap", "log", "refused", "top", "told", "refusal"]
 d16 : DefKC K 134 16 ps16 rs16
 p16 : Par3 (fdOf K 134)
 v16 : dfltNone K (fdOf K 134).defaults = true
 d17 : DefKC K 140 17 ps16 rs16
 p17 : Par3 (fdOf K 140)
 v17 : dfltNone K (fdOf K 140).defaults = true
 d55 : DefKC K 283 55 ps55 rs55
 b55 : BindN (fdOf K 283) ps55
 d56 : DefKC K 288 56 ps56 rs56
 b56 : BindN (fdOf K 288) ps56
 gl : glN.all (fun p => nsIn K mainGlobals p.1 == some (some (.ref p.2))) = true
 no : noN.all (fun x => nsIn K mainGlobals x == some none) = true
 tab : tabIn K (Str.ofString "_filemode_table") ftV = true
 i27 : tabIn K (Str.ofString "S_IFDIR") (.int 16384) = true
 i28 : tabIn K (Str.ofString "S_IFCHR") (.int 8192) = true
 i29 : tabIn K (Str.ofString "S_IFBLK") (.int 24576) = true
 i30 : tabIn K (Str.ofString "S_IFREG") (.int 32768) = true
 i31 : tabIn K (Str.ofString "S_IFIFO") (.int 4096) = true
 i32 : tabIn K (Str.ofString "S_IFLNK") (.int 40960) = true
 i33 : tabIn K (Str.ofString "S_IFSOCK") (.int 49152) = true
 e1 : nsIn K mainGlobals (Str.ofString "error_reply") = some (some (.ref (refIn K (Str.ofString "error_reply"))))
 e2 : nsIn K mainGlobals (Str.ofString "error_proto") = some (some (.ref (refIn K (Str.ofString "error_proto"))))
 o1 : OwnK K (refIn K (Str.ofString "error_reply")) (refIn K (Str.ofString "Error"))
 o2 : OwnK K (refIn K (Str.ofString "error_proto")) (refIn K (Str.ofString "Error"))
 oE : SupK K (refIn K (Str.ofString "Error"))
 ne : decide (refIn K (Str.ofString "error_reply") ≠ refIn K (Str.ofString "Error") ∧ refIn K (Str.ofString "error_proto") ≠ refIn K (Str.ofString "Error") ∧ refIn K (Str.ofString "error_proto") ≠ refIn K (Str.ofString "error_reply")) = true
section
variable {C : Cst} {K : Frag}
theorem gl_of (X : K.In C.h0) (H : HeapK K) {i : Nat} {x : Str} {a : Addr} (e : glN[i]? = some (x, a)) : C.mg x = some (.ref a) :=
 mg_of X C.g (beq_iff_eq.mp (List.all_eq_true.mp H.gl (x, a) (List.mem_of_getElem? e)))
theorem no_of (X : K.In C.h0) (H : HeapK K) {i : Nat} {x : Str} (e : noN[i]? = some x) : C.mg x = none :=
 ns_none_of X C.g (beq_iff_eq.mp (List.all_eq_true.mp H.no x (List.mem_of_getElem? e)))
theorem ghp (X : K.In C.h0) (H : HeapK K) : GHp C := ⟨(def_of X H.d9), (def_of X H.d12), (def_of X H.d13), (def_of X H.d11), (def_of X H.d14), (def_of X H.d15), (no_of X H (i := 0) rfl), (no_of X H (i := 3) rfl), (no_of X H (i := 4) rfl), (gl_of X H (i := 5) rfl), (gl_of X H (i := 6) rfl), (gl_of X H (i := 7) rfl), (gl_of X H (i := 8) rfl)⟩
theorem gdu (X : K.In C.h0) (H : HeapK K) : GDu C := ⟨defC_of X H.d55 (bindC_1 H.b55), (def_of X H.d52), (gl_of X H (i := 23) rfl), (no_of X H (i := 4) rfl), (no_of X H (i := 7) rfl)⟩
theorem gfm (X : K.In C.h0) (H : HeapK K) : GFm C := ⟨(def_of X H.d47), (def_of X H.d19), (gl_of X H (i := 11) rfl), (no_of X H (i := 8) rfl), tab_of X H.tab⟩
theorem gex (X : K.In C.h0) (H : HeapK K) : GEx C (refIn K (Str.ofString "error_reply")) (refIn K (Str.ofString "error_proto")) (refIn K (Str.ofString "Error")) :=
 let ⟨h1, h2, h3⟩ := of_decide_eq_true H.ne
 ⟨own_of X (mg_of X C.g H.e1) H.o1 H.oE, own_of X (mg_of X C.g H.e2) H.o2 H.oE, h1, h2, h3⟩
theorem grd (X : K.In C.h0) (H : HeapK K) : GRd C (refIn K (Str.ofString "error_reply")) (refIn K (Str.ofString "error_proto")) (refIn K (Str.ofString "Error")) :=
 ⟨(def_of X H.d53), gex X H, (def_of X H.d4), (def_of X H.d5), gfm X H, (no_of X H (i := 0) rfl), (no_of X H (i := 1) rfl), (no_of X H (i := 2) rfl), (gl_of X H (i := 27) rfl), (gl_of X H (i := 28) rfl), (gl_of X H (i := 19) rfl)⟩
theorem gtk (X : K.In C.h0) (H : HeapK K) : GTk C (refIn K (Str.ofString "error_reply")) (refIn K (Str.ofString "error_proto")) (refIn K (Str.ofString "Error")) :=
 ⟨(def_of X H.d54), grd X H, ghp X H, (def_of X H.d7), (def_of X H.d8), (gl_of X H (i := 0) rfl), (gl_of X H (i := 1) rfl), (gl_of X H (i := 2) rfl), (gl_of X H (i := 24) rfl)⟩
theorem gns (X : K.In C.h0) (H : HeapK K) : GNs C := ⟨defC_of X H.d16 (bindC_3 X H.p16.1 H.p16.2 H.v16), ghp X H, (def_of X H.d10), (gl_of X H (i := 4) rfl), (gl_of X H (i := 3) rfl), (no_of X H (i := 5) rfl), (no_of X H (i := 6) rfl)⟩
theorem gnl (X : K.In C.h0) (H : HeapK K) : GNl C := ⟨defC_of X H.d17 (bindC_3 X H.p17.1 H.p17.2 H.v17), ghp X H, (def_of X H.d8), (gl_of X H (i := 2) rfl), (gl_of X H (i := 1) rfl), (no_of X H (i := 5) rfl), (no_of X H (i := 6) rfl)⟩
theorem ask_of (X : K.In C.h0) (H : HeapK K) : ∀ p ∈ askL, (Ex2 fun o fd => C.h0.get? p.1 = some o ∧ o.data = .func fd) ∧ ∀ {Γ : Fm} {loc : List (Option V)} {sto : List SO} {m : Int}, 2 ≤ Γ.room → EL C Γ loc sto (callF (.ref p.1)) [.int m] (.bool (Builtin.bitAnd m 61440 == p.2.1)) loc sto := by
 have D1 : Def C 147 19 ["mode"] [] := (def_of X H.d19)
 have g1 : C.mg "S_IFMT" = some (.ref 147) := (gl_of X H (i := 11) rfl)
 have F : ∀ a, isFn K a = true → Ex2 fun o fd => C.h0.get? a = some o ∧ o.data = .func fd := fun a h => let ⟨o, h1, h2⟩ := fn_at X h; ⟨o, _, h1, h2⟩
 intro p hp
 simp only [askL, List.mem_cons, List.not_mem_nil, or_false] at hp
 rcases hp with rfl | rfl | rfl | rfl | rfl | rfl | rfl
 ·refine un_1_2 (tab_of X H.i30) fun y g2 g3 => ?_
  exact ⟨F _ H.d30.fn, fun hr => c_isreg (def_of X H.d30) D1 g1 g2 g3 hr⟩
 ·refine un_1_2 (tab_of X H.i27) fun y g2 g3 => ?_
  exact ⟨F _ H.d27.fn, fun hr => c_isdir (def_of X H.d27) D1 g1 g2 g3 hr⟩
 ·refine un_1_2 (tab_of X H.i32) fun y g2 g3 => ?_
  exact ⟨F _ H.d32.fn, fun hr => c_islnk (def_of X H.d32) D1 g1 g2 g3 hr⟩
 ·refine un_1_2 (tab_of X H.i28) fun y g2 g3 => ?_
  exact ⟨F _ H.d28.fn, fun hr => c_ischr (def_of X H.d28) D1 g1 g2 g3 hr⟩
 ·refine un_1_2 (tab_of X H.i29) fun y g2 g3 => ?_
  exact ⟨F _ H.d29.fn, fun hr => c_isblk (def_of X H.d29) D1 g1 g2 g3 hr⟩
 ·refine un_1_2 (tab_of X H.i31) fun y g2 g3 => ?_
  exact ⟨F _ H.d31.fn, fun hr => c_isfifo (def_of X H.d31) D1 g1 g2 g3 hr⟩
 ·refine un_1_2 (tab_of X H.i33) fun y g2 g3 => ?_
  exact ⟨F _ H.d33.fn, fun hr => c_issock (def_of X H.d33) D1 g1 g2 g3 hr⟩
theorem glw (X : K.In C.h0) (H : HeapK K) : GLw C (refIn K (Str.ofString "error_reply")) (refIn K (Str.ofString "error_proto")) (refIn K (Str.ofString "Error")) where
 d := defC_of X H.d56 (bindC_1 H.b56)
 du := gdu X H
 tk := gtk X H
 co := ⟨(def_of X H.d51), (def_of X H.d49), (gl_of X H (i := 20) rfl), (no_of X H (i := 2) rfl)⟩
 ns := gns X H
 nl := gnl X H
 sg := (def_of X H.d50)
 ask := ask_of X H
 enu := (no_of X H (i := 8) rfl)
 g1 := (gl_of X H (i := 20) rfl)
 a1 := (gl_of X H (i := 15) rfl)
 a2 := (gl_of X H (i := 12) rfl)
 a3 := (gl_of X H (i := 17) rfl)
 a4 := (gl_of X H (i := 13) rfl)
 a5 := (gl_of X H (i := 14) rfl)
 a6 := (gl_of X H (i := 16) rfl)
 a7 := (gl_of X H (i := 18) rfl)
 gw := (gl_of X H (i := 23) rfl)
 gc := (gl_of X H (i := 22) rfl)
 gf := (gl_of X H (i := 19) rfl)
 gs := (gl_of X H (i := 21) rfl)
 gd := (gl_of X H (i := 26) rfl)
 gn := (gl_of X H (i := 9) rfl)
 gl := (gl_of X H (i := 10) rfl)
 gt := (gl_of X H (i := 25) rfl)
theorem law_runs {C1 C2 Eb : Addr} (G : GLw C C1 C2 Eb) {st : Shared} (hh : st.heap = C.h0) (hg : st.gens = #[]) (ho : st.os = C.os) {sa : Addr} {l : List Int} (hk : RawL C sa (l.map V.int)) (hl : l.length ≤ 1000) :
  wpAny (model C.prog C.w) callerA (callF (.ref 288) [.ref sa]) (fun v s' => v = .bool true ∧ C.h0.StaysIn s'.heap ∧ s'.gens = #[] ∧ s'.os = st.os) (fun _ _ => False) st := by
 refine un_1_3 (G.d.fn) fun fd f hs hb => ?_
 have hkp : C.h0.StaysIn st.heap := fun b o e => by rw [hh]; exact e
 have hlc : fd.scope.names.lookup (Str.ofString "script") = some .local := by rw [hs]; kernel_rfl
 refine callC_core (Γ := ⟨callerA, callEnvC fd 0 0, [], [], [], 6⟩) (as := []) (sto := []) (argv := [.raw (.ref sa)]) (ys := [.ref sa]) f (show 1 ≤ 6 by decide) rfl
  ⟨hkp, rfl, (fun k a so e => by simp at e), List.nodup_nil, (fun a h => by cases h), hg, ho, Nat.one_pos⟩ (env_one f.kind hlc) rfl rfl (fun _ h => by cases h) (show callerA.depth + 6 < recursionLimit by decide) (show callerA.units + 8 * 6 < cLine by decide) (VRs.cons jW VRs.nil) (hb st [.ref sa] hkp rfl) fun L h1 tk F1 hk1 hown => ?_
 have := c_law (A := callerA.deeper (callEnvC fd L 288)) (env := callEnvC fd L 288) (frs := [callEnvC fd L 288]) (L := L) (own := L :: (csOf (sc 56).names L).map (·.2)) (room := 5) (sto := []) G (by decide) hk hl rfl (law_ok l) hs (show cellsFrom _ fd.scope.names [] = _ by rw [hs]; rfl) (fun x c hx => by
  rw [← sl56_eq L] at hx
  refine un_1_2 (List.mem_map.mp hx) fun z _ e => ?_
  injection e with e1 e2
  exact .tail _ (List.mem_map_of_mem (f := (·.2)) (mem_of_lookup e2)))
 rw [← sl56_eq L, ← hs] at this
 refine wpAny_mono (this _ [] F1) ?_ ?_
 ·rintro fl s' ⟨as', loc', sto', out, P, r', v, rfl, rfl⟩
  refine un_1_2 (r') fun y e617x1 ry => ?_; (try clear r'); subst e617x1
  exact ⟨y, rfl, ry, P.rep.g.keep, P.rep.g.gens, P.rep.g.os.trans ho.symm⟩
 ·rintro e s' ⟨_, _, _, _, _, _, q⟩
  exact q.elim
end
end Mine
set_option compiler.extract_closed false
open PySem PySem.W PyProof.Rows
namespace Mine
noncomputable def keep : List Nat := [1, 2, 3, 4, 5, 7, 8, 9, 10, 11, 12, 13, 14, 15, 19, 20, 21, 22, 23, 24, 25, 26, 27, 28, 29, 30, 31, 32, 33, 34, 35, 36, 37, 38, 39, 40, 41, 42, 43, 44, 45, 46, 47, 49, 50, 51, 52, 53, 54, 55, 56]
noncomputable def vw : Program := view PySem.Challenge.rw_pe0286_01.row.prog keep
noncomputable def ls : List Str := [Str.ofString "nsmallest", Str.ofString "nlargest", Str.ofString "_filemode_table"]
set_option maxRecDepth 100000 in
set_option maxHeartbeats 8000000 in
theorem said : PySem.Challenge.rw_pe0286_01.wellSaid = true := by kernel_rfl
end Mine
namespace Mine
theorem fa_eq {mg : Str → Option Value} {n : Str} {p : Arguments} {b : List Stmt} {sc : Scope} {q : Pos} {fa c : Addr} (h1 : mg (DefRec.mk n p b sc q).name = some (.ref fa)) (h2 : mg n = some (.ref c)) : fa = c := by
  have h := h1.symm.trans h2
  injection h with h
  injection h
theorem ints_vrs {h : Heap} : ∀ {vs : List Value} {l : List Int}, IntsAre vs l → VRs [] h (l.map V.int) vs
  | _, _, h => by
    induction h with
    | nil => exact VRs.nil
    | cons _ _ _ ih => exact VRs.cons ⟨_, rfl⟩ ih
end Mine
local macro_rules | `(tactic| o_head $H:term) => `(tactic| (
  refine holds_open (q := Mine.vw) (loose := Mine.ls) (Xt := fun s => xlAt Mine.vw [] s && recOk (RowW.records PySem.Challenge.rw_pe0286_01.row.toRowW) s) (XP := XL Mine.vw []) (Yf := Hook.obs $H) (Ya := Hook.val $H) (YP := Hook.says $H) (N := 3968) ?hl (Hook.of $H) (Hook.keeps $H) (fun s e => xl_of s (Bool.and_eq_true_iff.mp e).1) XL.keeps (by rfl) (by rfl) (by rfl) (fun s e => recFacts_of (Bool.and_eq_true_iff.mp e).2) (by first | rfl | fail "open_line: no head takes a call that writes beside a table") (by first | assumption | decide +kernel) (by decide +kernel) ⟨rfl, rfl, rfl, rfl, rfl, by decide +kernel⟩ ?hw ?hc
  case hl => intro w; kernel_rfl))
set_option maxRecDepth 100000 in
set_option maxHeartbeats 8000000 in
theorem PySem.Challenge.cw_pe0286_01_holds : PySem.Challenge.rw_pe0286_01.Holds := by
  w_on; refine holds_law Mine.said (fun said => ?_); k_head; (case hw => w_witness2)
  intro w s₀ s₁ mg mb G Y fa o pm cd doc dV kV ho hd hcd hD hmg hg args vals as hpre hlay hrd hwl hlo
  have KX := kIn_of Y
  have T := G.T
  clear Y hd hcd ho hD
  wrow_args hpre hlay hrd hwl hlo
  rename_i nums _ _ _ _ _ _ _ sa vs _ hL _ _ _ hI _ hc _
  have HK : Mine.HeapK (PySem.Challenge.cw_pe0286_01_holds.heap_1 w.params) := by
    constructor
    all_goals first
      | (as_aux_lemma => kernel_rfl)
      | (refine ⟨by as_aux_lemma => kernel_rfl, by as_aux_lemma => kernel_rfl, by as_aux_lemma => kernel_rfl, by as_aux_lemma => kernel_rfl, by as_aux_lemma => kernel_rfl, ?_⟩; first | (intro x y z; as_aux_lemma => kernel_rfl) | (intro x y; as_aux_lemma => kernel_rfl) | (intro x; as_aux_lemma => kernel_rfl))
      | exact ⟨by as_aux_lemma => kernel_rfl, by as_aux_lemma => kernel_rfl, by as_aux_lemma => kernel_rfl, by as_aux_lemma => kernel_rfl, by as_aux_lemma => kernel_rfl⟩
      | exact ⟨by as_aux_lemma => kernel_rfl, by as_aux_lemma => kernel_rfl⟩
      | exact ⟨by as_aux_lemma => kernel_rfl, by as_aux_lemma => kernel_rfl, by as_aux_lemma => kernel_rfl, by as_aux_lemma => kernel_rfl, by as_aux_lemma => kernel_rfl, by as_aux_lemma => kernel_rfl, by as_aux_lemma => kernel_rfl⟩
      | exact ⟨by as_aux_lemma => kernel_rfl, by as_aux_lemma => kernel_rfl, by as_aux_lemma => kernel_rfl⟩
      | (intro x; as_aux_lemma => kernel_rfl)
  have X : (PySem.Challenge.cw_pe0286_01_holds.heap_1 w.params).In ({ prog := PySem.Challenge.rw_pe0286_01.row.prog, w := w, K := [], h0 := s₁.heap, mg := mg, mb := mb, os := s₁.os, kin := (fun _ _ h => by cases h), g := T.g, b := T.b, bb := T.builtins, nolimit := T.nolimit, nodigits := T.nodigits } : Mine.Cst).h0 := KX
  obtain rfl : fa = 288 := Mine.fa_eq hmg (Mine.gl_of X HK (i := 29) rfl)
  refine wpAny_mono (Mine.law_runs (Mine.glw X HK) rfl hg rfl (sa := sa) (l := nums) ⟨_, hL, Mine.ints_vrs hI⟩ (Nat.le_trans (Nat.le_of_not_lt fun h => hc (Int.ofNat_lt.mpr h)) (show 63 ≤ 1000 by decide))) ?_ ?_
  · rintro v s' ⟨rfl, hk, hg', ho'⟩
    exact ⟨.inl ⟨_, .bool true, [], rfl, raisesW_false (by wrow_none_raised), .bool true, by wrow_post, fun _ => ⟨List.nodup_nil, fun _ h => by cases h⟩⟩, .of_keep hk, ho', .of_eq hg'⟩
  · intro e s' h
    exact h.elim
