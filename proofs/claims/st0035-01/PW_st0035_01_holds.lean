import PyProof.Rows.All
import Wide.All
import OpenK.AllK
import Wide.FinOn
import PySem.Challenge.RW_st0035_01
set_option Elab.async false

/-! part M1 -/
section
set_option maxRecDepth 10000
set_option linter.unusedVariables false
open PySem PyProof.Rows
namespace Mine

/-- small values: tokens are forgotten, addresses are places in a list of the objects that the call has made -/
inductive V where
  | none
  | bool (b : Bool)
  | int (i : Int)
  | str (x : Str)
  | ref (k : Nat)
  | typ (T : String)
  | base (a : Addr)
deriving DecidableEq

inductive O where
  | list (xs : List V)
  | iter (l i : Nat)
  | range (a b c : Int)
  | dead
deriving DecidableEq

noncomputable abbrev Lo := List (Option V)
noncomputable abbrev Hp := List O

inductive F where
  | next
  | ret (v : V)
deriving DecidableEq

inductive VR (α : List Addr) : V → Value → Prop
  | none : VR α .none .none
  | bool (b : Bool) : VR α (.bool b) (.bool b)
  | int (i : Int) (t : Tok) : VR α (.int i) (.int i t)
  | str (x : Str) (t : Tok) : VR α (.str x) (.str x t)
  | ref {k : Nat} {a : Addr} (h : α[k]? = some a) : VR α (.ref k) (.ref a)
  | typ (T : String) : VR α (.typ T) (.type T)
  | base (a : Addr) : VR α (.base a) (.ref a)

theorem VR.more {α δ : List Addr} {v : V} {c : Value} (x : VR α v c) : VR (α ++ δ) v c := by
  cases x with
  | none => exact .none
  | bool b => exact .bool b
  | int i t => exact .int i t
  | str x t => exact .str x t
  | typ T => exact .typ T
  | base a => exact .base a
  | @ref k a h =>
    refine .ref ?_
    have hk : k < α.length := by
      rcases Nat.lt_or_ge k α.length with h1 | h1
      · exact h1
      · rw [List.getElem?_eq_none h1] at h; cases h
    rw [List.getElem?_append_left hk]; exact h

theorem Paired.mono' {α β : Type} {F G : α → β → Prop} (h : ∀ a b, F a b → G a b) : ∀ {l₁ : List α} {l₂ : List β}, Paired F l₁ l₂ → Paired G l₁ l₂
  | _, _, .nil => .nil
  | _, _, .cons x t => .cons (h _ _ x) (Paired.mono' h t)
theorem Paired.get {α β : Type} {F : α → β → Prop} : ∀ {l₁ : List α} {l₂ : List β} {i : Nat} {a : α}, Paired F l₁ l₂ → l₁[i]? = some a → ∃ b, l₂[i]? = some b ∧ F a b
  | _, _, i, a, .nil, h => by simp at h
  | _, _, 0, a, .cons x t, h => by
    simp only [List.getElem?_cons_zero, Option.some.injEq] at h ⊢
    subst h; exact ⟨_, rfl, x⟩
  | _, _, i + 1, a, .cons x t, h => by
    simp only [List.getElem?_cons_succ] at h ⊢
    exact Paired.get t h
theorem Paired.set {α β : Type} {F : α → β → Prop} : ∀ {l₁ : List α} {l₂ : List β} (i : Nat) {a : α} {b : β}, Paired F l₁ l₂ → F a b → Paired F (l₁.set i a) (l₂.set i b)
  | _, _, i, a, b, .nil, _ => by simpa using Paired.nil
  | _, _, 0, a, b, .cons x t, h => by simpa using Paired.cons h t
  | _, _, i + 1, a, b, .cons x t, h => by simpa using Paired.cons x (Paired.set i t h)
theorem Paired.app {α β : Type} {F : α → β → Prop} : ∀ {l₁ m₁ : List α} {l₂ m₂ : List β}, Paired F l₁ l₂ → Paired F m₁ m₂ → Paired F (l₁ ++ m₁) (l₂ ++ m₂)
  | _, _, _, _, .nil, y => y
  | _, _, _, _, .cons x t, y => .cons x (Paired.app t y)
theorem Paired.take' {α β : Type} {F : α → β → Prop} : ∀ {l₁ : List α} {l₂ : List β} (n : Nat), Paired F l₁ l₂ → Paired F (l₁.take n) (l₂.take n)
  | _, _, 0, _ => by simpa using Paired.nil
  | _, _, n + 1, .nil => by simpa using Paired.nil
  | _, _, n + 1, .cons x t => by simpa using Paired.cons x (Paired.take' n t)
theorem Paired.drop' {α β : Type} {F : α → β → Prop} : ∀ {l₁ : List α} {l₂ : List β} (n : Nat), Paired F l₁ l₂ → Paired F (l₁.drop n) (l₂.drop n)
  | _, _, 0, h => h
  | _, _, n + 1, .nil => by simpa using Paired.nil
  | _, _, n + 1, .cons x t => by simpa using Paired.drop' n t
theorem Paired.rep {α β : Type} {F : α → β → Prop} {a : α} {b : β} (h : F a b) : ∀ n : Nat, Paired F (List.replicate n a) (List.replicate n b)
  | 0 => .nil
  | n + 1 => .cons h (Paired.rep h n)

theorem VR.int_inv {α : List Addr} {i : Int} {c : Value} (h : VR α (.int i) c) : ∃ t, c = .int i t := by cases h; exact ⟨_, rfl⟩
theorem VR.str_inv {α : List Addr} {x : Str} {c : Value} (h : VR α (.str x) c) : ∃ t, c = .str x t := by cases h; exact ⟨_, rfl⟩
theorem VR.bool_inv {α : List Addr} {b : Bool} {c : Value} (h : VR α (.bool b) c) : c = .bool b := by cases h; rfl
theorem VR.none_inv {α : List Addr} {c : Value} (h : VR α .none c) : c = .none := by cases h; rfl
theorem VR.ref_inv {α : List Addr} {k : Nat} {c : Value} (h : VR α (.ref k) c) : ∃ a, c = .ref a ∧ α[k]? = some a := by cases h; exact ⟨_, rfl, by assumption⟩
theorem VR.base_inv {α : List Addr} {a : Addr} {c : Value} (h : VR α (.base a) c) : c = .ref a := by cases h; rfl
theorem VR.typ_inv {α : List Addr} {T : String} {c : Value} (h : VR α (.typ T) c) : c = .type T := by cases h; rfl
theorem Paired.one {β γ : Type} {F : β → γ → Prop} {v : β} {cs : List γ} (h : Paired F [v] cs) : ∃ c, cs = [c] ∧ F v c := by
  cases h with
  | cons r t => cases t; exact ⟨_, rfl, r⟩
theorem Paired.two {β γ : Type} {F : β → γ → Prop} {u v : β} {cs : List γ} (h : Paired F [u, v] cs) : ∃ c d, cs = [c, d] ∧ F u c ∧ F v d := by
  cases h with
  | cons r t => obtain ⟨d, rfl, q⟩ := Paired.one t; exact ⟨_, _, rfl, r, q⟩
theorem Paired.three {β γ : Type} {F : β → γ → Prop} {u v x : β} {cs : List γ} (h : Paired F [u, v, x] cs) : ∃ c d e, cs = [c, d, e] ∧ F u c ∧ F v d ∧ F x e := by
  cases h with
  | cons r t => obtain ⟨d, e, rfl, q, q'⟩ := Paired.two t; exact ⟨_, _, _, rfl, r, q, q'⟩

noncomputable def OR (h : Heap) (α : List Addr) (a : Addr) : O → Prop
  | .list xs => ∃ vs : List Value, h.PlainList a vs.toArray ∧ Paired (VR α) xs vs
  | .iter l i => ∃ al, α[l]? = some al ∧ h.IsListIter a al i
  | .range x y z => ∃ t u v, IsRange h a x y z t u v
  | .dead => True

theorem OR.more {h : Heap} {α δ : List Addr} {a : Addr} {o : O} (x : OR h α a o) : OR h (α ++ δ) a o := by
  cases o with
  | list xs => obtain ⟨vs, h1, h2⟩ := x; exact ⟨vs, h1, Paired.mono' (fun _ _ y => y.more) h2⟩
  | iter l i =>
    obtain ⟨al, h1, h2⟩ := x
    have hk : l < α.length := by
      rcases Nat.lt_or_ge l α.length with h3 | h3
      · exact h3
      · rw [List.getElem?_eq_none h3] at h1; cases h1
    exact ⟨al, by rw [List.getElem?_append_left hk]; exact h1, h2⟩
  | range _ _ _ => exact x
  | dead => trivial
theorem OR.at {h h' : Heap} {α : List Addr} {a : Addr} {o : O} (x : OR h α a o) (hk : ∀ ob, h.get? a = some ob → h'.get? a = some ob) : OR h' α a o := by
  cases o with
  | list xs => obtain ⟨vs, h1, h2⟩ := x; exact ⟨vs, h1.at hk, h2⟩
  | iter l i => obtain ⟨al, h1, ⟨ob, h2, h3⟩⟩ := x; exact ⟨al, h1, ob, hk _ h2, h3⟩
  | range _ _ _ => obtain ⟨t, u, v, ob⟩ := x; exact ⟨t, u, v, hk _ ob⟩
  | dead => trivial

/-- the small heap stands in the heap -/
structure SR (B : Heap) (α : List Addr) (H : Hp) (h : Heap) : Prop where
  base : ∀ b o, B.get? b = some o → h.get? b = some o
  len : α.length = H.length
  nd : α.Nodup
  obj : ∀ (k : Nat) (a : Addr) (o : O), α[k]? = some a → H[k]? = some o → OR h α a o
  new : ∀ a ∈ α, B.get? a = none
  live : ∀ a ∈ α, (h.get? a).isSome = true

noncomputable def GX (a b : Array GenState) : Prop := (∀ (i : Nat) x, a[i]? = some x → b[i]? = some x) ∧ (AllBare a → AllBare b)
theorem GX.refl (a : Array GenState) : GX a a := ⟨fun _ _ e => e, fun e => e⟩
theorem GX.trans {a b c : Array GenState} (x : GX a b) (y : GX b c) : GX a c := ⟨fun i u e => y.1 i u (x.1 i u e), fun e => y.2 (x.2 e)⟩

structure Step (W : List Addr) (α : List Addr) (s : Shared) (α' : List Addr) (s' : Shared) : Prop where
  ext : ∃ δ, α' = α ++ δ ∧ ∀ a ∈ δ, s.heap.get? a = none
  keep : ∀ b o, s.heap.get? b = some o → b ∉ α → b ∉ W → s'.heap.get? b = some o
  os : s'.os = s.os
  gens : GX s.gens s'.gens

theorem Step.refl (W α : List Addr) (s : Shared) : Step W α s α s := ⟨⟨[], by simp, by simp⟩, fun _ _ e _ _ => e, rfl, GX.refl _⟩
/-- only tokens part -/
theorem Step.tok (W α : List Addr) (s : Shared) (t : Nat) : Step W α s α { s with toks := t } := ⟨⟨[], by simp, by simp⟩, fun _ _ e _ _ => e, rfl, GX.refl _⟩
/-- a heap that keeps all -/
theorem Step.kept {W α : List Addr} {s : Shared} {h' : Heap} {tk : Nat} (hk : ∀ b o, s.heap.get? b = some o → h'.get? b = some o) : Step W α s α { s with heap := h', toks := tk } :=
  ⟨⟨[], by simp, by simp⟩, fun b o e _ _ => hk b o e, rfl, GX.refl _⟩
theorem Step.weak {W W' α : List Addr} {s : Shared} {α' : List Addr} {s' : Shared} (x : Step W α s α' s') (h : ∀ a ∈ W, a ∈ W') : Step W' α s α' s' :=
  ⟨x.ext, fun b o e h1 h2 => x.keep b o e h1 fun h3 => h2 (h _ h3), x.os, x.gens⟩

theorem Step.trans {W α : List Addr} {s : Shared} {α₁ : List Addr} {s₁ : Shared} {α₂ : List Addr} {s₂ : Shared} (x : Step W α s α₁ s₁) (y : Step W α₁ s₁ α₂ s₂)
    (nd : α₂.Nodup) (live : ∀ a ∈ W, (s.heap.get? a).isSome = true → (s₁.heap.get? a).isSome = true) : Step W α s α₂ s₂ := by
  obtain ⟨δ, rfl, hδ⟩ := x.ext
  obtain ⟨ε, rfl, hε⟩ := y.ext
  refine ⟨⟨δ ++ ε, by rw [List.append_assoc], fun a ha => ?_⟩, fun b o e h1 h2 => ?_, y.os.trans x.os, x.gens.trans y.gens⟩
  · rcases List.mem_append.mp ha with ha | ha
    · exact hδ a ha
    · cases e : s.heap.get? a with
      | none => rfl
      | some o =>
        exfalso
        have h0 := hε a ha
        have hα : a ∉ α := fun h => by
          have := List.nodup_append.mp nd
          exact this.2.2 a (List.mem_append_left _ h) a ha rfl
        by_cases hw : a ∈ W
        · have := live a hw (by rw [e]; rfl)
          rw [h0] at this; cases this
        · rw [x.keep a o e hα hw] at h0; cases h0
  · have hδ' : b ∉ α ++ δ := fun h => by
      rcases List.mem_append.mp h with h | h
      · exact h1 h
      · rw [hδ b h] at e; cases e
    exact y.keep b o (x.keep b o e h1 h2) hδ' h2
theorem Step.trans0 {α : List Addr} {s : Shared} {α₁ : List Addr} {s₁ : Shared} {α₂ : List Addr} {s₂ : Shared} (x : Step [] α s α₁ s₁) (y : Step [] α₁ s₁ α₂ s₂)
    (nd : α₂.Nodup) : Step [] α s α₂ s₂ := x.trans y nd fun _ h => nomatch h

theorem SR.tok {B : Heap} {α : List Addr} {H : Hp} {h : Heap} (x : SR B α H h) : SR B α H h := x
/-- another heap that keeps the tracked objects and the base -/
theorem SR.at {B : Heap} {α : List Addr} {H : Hp} {h h' : Heap} (x : SR B α H h) (hk : ∀ b o, h.get? b = some o → h'.get? b = some o) : SR B α H h' :=
  ⟨fun b o e => hk b o (x.base b o e), x.len, x.nd, fun k a o e1 e2 => (x.obj k a o e1 e2).at fun ob => hk a ob, x.new, fun a ha => by
    obtain ⟨o, e⟩ := Option.isSome_iff_exists.mp (x.live a ha)
    rw [hk a o e]; rfl⟩
/-- a new object at the end -/
theorem SR.push {B : Heap} {α : List Addr} {H : Hp} {h h' : Heap} {a : Addr} {o : O} (x : SR B α H h) (hk : ∀ b o, h.get? b = some o → h'.get? b = some o) (ha : h.get? a = none) (hl : (h'.get? a).isSome = true)
    (ho : OR h' (α ++ [a]) a o) : SR B (α ++ [a]) (H ++ [o]) h' := by
  have hα : a ∉ α := fun hm => by have := x.live a hm; rw [ha] at this; cases this
  refine ⟨fun b o e => hk b o (x.base b o e), by simp [x.len], ?_, fun k b q e1 e2 => ?_, fun b hb => ?_, fun b hb => ?_⟩
  · exact List.nodup_append.mpr ⟨x.nd, by simp, fun u hu v hv => by
      rw [List.mem_singleton.mp hv]; rintro rfl; exact hα hu⟩
  · rcases Nat.lt_trichotomy k α.length with hk' | hk' | hk'
    · rw [List.getElem?_append_left hk'] at e1
      rw [List.getElem?_append_left (x.len ▸ hk')] at e2
      exact ((x.obj k b q e1 e2).at fun ob => hk b ob).more
    · subst hk'
      simp at e1
      rw [x.len] at e2
      simp at e2
      subst e1 e2
      exact ho
    · rw [List.getElem?_eq_none (by simp; omega)] at e1; cases e1
  · rcases List.mem_append.mp hb with hb | hb
    · exact x.new b hb
    · rw [List.mem_singleton.mp hb]
      cases e : B.get? a with
      | none => rfl
      | some o => rw [x.base _ _ e] at ha; cases ha
  · rcases List.mem_append.mp hb with hb | hb
    · obtain ⟨o, e⟩ := Option.isSome_iff_exists.mp (x.live b hb)
      rw [hk b o e]; rfl
    · rw [List.mem_singleton.mp hb]; exact hl
/-- an object changed -/
theorem SR.put {B : Heap} {α : List Addr} {H : Hp} {h h' : Heap} {k : Nat} {a : Addr} {o : O} (x : SR B α H h) (ha : α[k]? = some a) (hs : Heap.ExtBut a h h')
    (hl : (h'.get? a).isSome = true) (ho : OR h' α a o) : SR B α (H.set k o) h' := by
  have hm : a ∈ α := List.mem_of_getElem? ha
  refine ⟨fun b ob e => hs b ob (fun e' => ?_) (x.base b ob e), by simp [x.len], x.nd, fun i b q e1 e2 => ?_, x.new, fun b hb => ?_⟩
  · subst e'; rw [x.new b hm] at e; cases e
  · by_cases hik : i = k
    · subst hik
      rw [ha] at e1; cases e1
      have hl : i < H.length := by
        rcases Nat.lt_or_ge i H.length with h1 | h1
        · exact h1
        · rw [List.getElem?_eq_none (by simpa using h1)] at e2; cases e2
      rw [List.getElem?_set_self hl] at e2; cases e2
      exact ho
    · rw [List.getElem?_set_ne (Ne.symm hik)] at e2
      have hba : b ≠ a := fun e => by
        subst e
        exact hik (List.getElem?_inj (by
          rcases Nat.lt_or_ge i α.length with h1 | h1
          · exact h1
          · rw [List.getElem?_eq_none h1] at e1; cases e1) x.nd |>.mp (e1.trans ha.symm))
      exact (x.obj i b q e1 e2).at fun ob e => hs b ob hba e
  · by_cases hba : b = a
    · rw [hba]; exact hl
    · obtain ⟨ob, e⟩ := Option.isSome_iff_exists.mp (x.live b hb)
      rw [hs b ob hba e]; rfl

/-- the frame's names -/
structure ER (B : Heap) (vm : List Str) (env : Env) (ρ : Lo) (α : List Addr) (h : Heap) : Prop where
  nd : vm.Nodup
  loc : ∃ m, h.Ns env.locals m ∧ ∀ (n : Nat) (x : Str) (v : V), vm[n]? = some x → env.kindOf x = some .local → ρ[n]? = some (some v) → ∃ c, m x = some c ∧ VR α v c
  cel : ∀ (n : Nat) (x : Str) (v : V), vm[n]? = some x → env.kindOf x = some .cell ∨ env.kindOf x = some .free → ρ[n]? = some (some v) → ∃ a c, env.cells.lookup x = some a ∧ h.IsCell a (some c) ∧ VR α v c
  has : ∀ x, env.kindOf x = some .cell ∨ env.kindOf x = some .free → ∃ a c, env.cells.lookup x = some a ∧ h.IsCell a c
  La : env.locals ∉ α
  Ca : ∀ p ∈ env.cells, p.2 ∉ α ∧ p.2 ≠ env.locals ∧ ∃ c, h.IsCell p.2 c
  Cn : (env.cells.map (·.2)).Nodup
  Lb : B.get? env.locals = none
  Cb : ∀ p ∈ env.cells, B.get? p.2 = none

noncomputable def own (env : Env) : List Addr := env.locals :: env.cells.map (·.2)

theorem ER.live {B : Heap} {vm : List Str} {env : Env} {ρ : Lo} {α : List Addr} {h : Heap} (x : ER B vm env ρ α h) : ∀ a ∈ own env, (h.get? a).isSome = true := by
  intro a ha
  rcases List.mem_cons.mp ha with rfl | ha
  · obtain ⟨m, ⟨o, es, ep, e, _⟩, _⟩ := x.loc
    rw [e]; rfl
  · obtain ⟨p, hp, rfl⟩ := List.mem_map.mp ha
    obtain ⟨_, _, c, o, e, _⟩ := x.Ca p hp
    rw [e]; rfl

/-- after an expression -/
theorem ER.step {B : Heap} {vm : List Str} {env : Env} {ρ : Lo} {α α' : List Addr} {s s' : Shared} (x : ER B vm env ρ α s.heap) (y : Step [] α s α' s') : ER B vm env ρ α' s'.heap := by
  obtain ⟨δ, rfl, hδ⟩ := y.ext
  have kL : ∀ o, s.heap.get? env.locals = some o → s'.heap.get? env.locals = some o := fun o e => y.keep _ o e x.La (fun h => nomatch h)
  have kC : ∀ p ∈ env.cells, ∀ o, s.heap.get? p.2 = some o → s'.heap.get? p.2 = some o := fun p hp o e => y.keep _ o e (x.Ca p hp).1 (fun h => nomatch h)
  have kc : ∀ n a c, env.cells.lookup n = some a → s.heap.IsCell a c → s'.heap.IsCell a c := fun n a c hl ⟨o, e, d⟩ => ⟨o, kC _ (mem_of_lookup hl) o e, d⟩
  refine ⟨x.nd, ?_, fun n z v h1 h2 h3 => ?_, fun z h1 => ?_, ?_, fun p hp => ?_, x.Cn, x.Lb, x.Cb⟩
  · obtain ⟨m, hn, hm⟩ := x.loc
    exact ⟨m, hn.at' kL, fun n z v h1 h2 h3 => let ⟨c, e, r⟩ := hm n z v h1 h2 h3; ⟨c, e, r.more⟩⟩
  · obtain ⟨a, c, e, r, q⟩ := x.cel n z v h1 h2 h3
    exact ⟨a, c, e, kc _ _ _ e r, q.more⟩
  · obtain ⟨a, c, e, r⟩ := x.has z h1
    exact ⟨a, c, e, kc _ _ _ e r⟩
  · intro h
    rcases List.mem_append.mp h with h | h
    · exact x.La h
    · have := x.live _ (List.mem_cons_self ..)
      rw [hδ _ h] at this; cases this
  · obtain ⟨h1, h2, c, h3⟩ := x.Ca p hp
    refine ⟨fun h => ?_, h2, c, ?_⟩
    · rcases List.mem_append.mp h with h | h
      · exact h1 h
      · obtain ⟨o, e, _⟩ := h3
        rw [hδ _ h] at e; cases e
    · obtain ⟨o, e, d⟩ := h3
      exact ⟨o, kC p hp o e, d⟩

structure EO (env : Env) (sc : Scope) : Prop where
  scE : env.scope = sc
  kind : sc.kind = .function
  glob : env.globals = mainGlobals
  blt : env.builtins = builtinsNs

noncomputable def Room (A : Around) (k : Nat) : Prop := A.handled = none ∧ A.depth + k + 1 < recursionLimit ∧ A.units + 8 * k + 30 < cLine
theorem Room.in1 {A : Around} {k : Nat} (x : Room A (k + 1)) : Room A.in1 k := ⟨x.1, by have := x.2.1; simp; omega, by have := x.2.2; simp; omega⟩
theorem Room.deeper {A : Around} {k : Nat} {env : Env} (x : Room A (k + 1)) : Room (A.deeper env) k := ⟨x.1, by have := x.2.1; show A.depth + 1 + k + 1 < _; omega, by have := x.2.2; show A.units + 3 + 8 * k + 30 < _; omega⟩
theorem Room.depth {A : Around} {k : Nat} (x : Room A k) : A.depth < recursionLimit := by have := x.2.1; omega
theorem Room.units {A : Around} {k : Nat} (x : Room A k) : A.units < cLine := by have := x.2.2; omega

noncomputable abbrev Ex := Lo → Hp → Option (V × Hp)
noncomputable abbrev Tx := Lo → Hp → Option (Bool × Hp)
noncomputable abbrev Sx := Lo → Hp → Option (F × Lo × Hp)

inductive EPost (B : Heap) (α : List Addr) (s : Shared) (H' : Hp) (v : V) (c : Value) (s' : Shared) : Prop
  | mk (α' : List Addr) (st : Step [] α s α' s') (S : SR B α' H' s'.heap) (r : VR α' v c) : EPost B α s H' v c s'
noncomputable abbrev noE : Value → Shared → Prop := fun _ _ => False

variable (prog : Program) (w : World) (B : Heap)

/-- an expression, as a function -/
noncomputable def SE (k : Nat) (sc : Scope) (vm : List Str) (ex : Expr) (f : Ex) : Prop :=
  ∀ (ρ : Lo) (H : Hp) (v : V) (H' : Hp), f ρ H = some (v, H') → ∀ (A : Around) (env : Env) (s : Shared) (α : List Addr), EO env sc → Room A k → ER B vm env ρ α s.heap → SR B α H s.heap →
    wpAny (model prog w) A (eval ex env) (EPost B α s H' v) noE s
/-- a test -/
noncomputable def ST (k : Nat) (sc : Scope) (vm : List Str) (ex : Expr) (f : Tx) : Prop :=
  ∀ (ρ : Lo) (H : Hp) (b : Bool) (H' : Hp), f ρ H = some (b, H') → ∀ (A : Around) (env : Env) (s : Shared) (α : List Addr), EO env sc → Room A k → ER B vm env ρ α s.heap → SR B α H s.heap →
    wpAny (model prog w) A (isTrue ex env (eval ex env)) (fun c s' => c = b ∧ ∃ α', Step [] α s α' s' ∧ SR B α' H' s'.heap) noE s

inductive FR (α : List Addr) : F → Flow → Prop
  | next : FR α .next .next
  | ret {v : V} {c : Value} (h : VR α v c) : FR α (.ret v) (.ret c)

inductive SPost (B : Heap) (vm : List Str) (env : Env) (α : List Addr) (s : Shared) (f : F) (ρ' : Lo) (H' : Hp) (c : Flow) (s' : Shared) : Prop
  | mk (α' : List Addr) (st : Step (own env) α s α' s') (S : SR B α' H' s'.heap) (R : ER B vm env ρ' α' s'.heap) (r : FR α' f c) : SPost B vm env α s f ρ' H' c s'
/-- statements, as a function -/
noncomputable def SS (k : Nat) (sc : Scope) (vm : List Str) (st : List Stmt) (g : Sx) : Prop :=
  ∀ (ρ : Lo) (H : Hp) (f : F) (ρ' : Lo) (H' : Hp), g ρ H = some (f, ρ', H') → ∀ (A : Around) (env : Env) (s : Shared) (α : List Addr), EO env sc → Room A k → ER B vm env ρ α s.heap → SR B α H s.heap →
    wpAny (model prog w) A (execs st env) (SPost B vm env α s f ρ' H') noE s
noncomputable def S1 (k : Nat) (sc : Scope) (vm : List Str) (st : Stmt) (g : Sx) : Prop :=
  ∀ (ρ : Lo) (H : Hp) (f : F) (ρ' : Lo) (H' : Hp), g ρ H = some (f, ρ', H') → ∀ (A : Around) (env : Env) (s : Shared) (α : List Addr), EO env sc → Room A k → ER B vm env ρ α s.heap → SR B α H s.heap →
    wpAny (model prog w) A (exec st env) (SPost B vm env α s f ρ' H') noE s

end Mine
end

/-! part M2 -/
section
set_option maxRecDepth 10000
set_option linter.unusedVariables false
open PySem PyProof.Rows
namespace Mine
section
variable {prog : Program} {w : World} {B : Heap} {k : Nat} {sc : Scope} {vm : List Str}

/-! ## ends -/
theorem EPost.same {α : List Addr} {s : Shared} {H : Hp} {v : V} {c : Value} (x : SR B α H s.heap) (h : VR α v c) : EPost B α s H v c s := ⟨α, Step.refl .., x, h⟩
theorem EPost.tok {α : List Addr} {s : Shared} {H : Hp} {v : V} {c : Value} {t : Nat} (x : SR B α H s.heap) (h : VR α v c) : EPost B α s H v c { s with toks := t } := ⟨α, Step.tok .., x, h⟩
theorem EPost.kept {α : List Addr} {s : Shared} {H : Hp} {v : V} {c : Value} {h' : Heap} {tk : Nat} (x : SR B α H s.heap) (hk : ∀ b o, s.heap.get? b = some o → h'.get? b = some o) (h : VR α v c) :
    EPost B α s H v c { s with heap := h', toks := tk } := ⟨α, Step.kept hk, x.at hk, h⟩
theorem EPost.trans {α α₁ : List Addr} {s s₁ : Shared} {H : Hp} {v : V} {c : Value} {s' : Shared} (x : Step [] α s α₁ s₁) (y : EPost B α₁ s₁ H v c s') : EPost B α s H v c s' := by
  obtain ⟨α', y1, y2, y3⟩ := y
  exact ⟨α', x.trans0 y1 y2.nd, y2, y3⟩
theorem EPost.step {α α₁ : List Addr} {s s₁ : Shared} {H : Hp} {v : V} {t : Sem Value} {A : Around} (x : Step [] α s α₁ s₁) (y : wpAny (model prog w) A t (EPost B α₁ s₁ H v) noE s₁) :
    wpAny (model prog w) A t (EPost B α s H v) noE s₁ := wpAny_mono y (fun _ _ h => h.trans x) fun _ _ h => h
theorem fresh_size (h : Heap) : h.get? h.objs.size = none := by
  cases e : h.get? h.objs.size with
  | none => rfl
  | some o => exact absurd (Heap.lt_size e) (Nat.lt_irrefl _)
/-! ## names, constants -/
noncomputable def eVar (n : Nat) : Ex := fun ρ H => match ρ[n]? with | some (some v) => some (v, H) | _ => none
noncomputable def eVal (v : V) : Ex := fun _ H => some (v, H)

theorem eVar_some {n : Nat} {ρ : Lo} {H H' : Hp} {v : V} (h : eVar n ρ H = some (v, H')) : ρ[n]? = some (some v) ∧ H = H' := by
  unfold eVar at h
  split at h
  · cases h; exact ⟨by assumption, rfl⟩
  · cases h

theorem load_ok {n : Nat} {x : Str} {ρ : Lo} {v : V} {A : Around} {env : Env} {s : Shared} {α : List Addr} {Q : Value → Shared → Prop} {E : Value → Shared → Prop} (hv : ρ[n]? = some (some v)) (hn : vm[n]? = some x)
    (hkd : sc.names.lookup x = some .local ∨ sc.names.lookup x = some .cell ∨ sc.names.lookup x = some .free) (hcd : (x == ("__classdict__" : Str)) = false)
    (O : EO env sc) (R : ER B vm env ρ α s.heap) (hQ : ∀ c, VR α v c → Q c s) : wpAny (model prog w) A (loadName env x) Q E s := by
  have hk : env.scope.kind = .function := by rw [O.scE]; exact O.kind
  have hko : env.kindOf x = sc.names.lookup x := by unfold Env.kindOf; rw [O.scE]
  rcases hkd with h | h | h
  · obtain ⟨m, hm, hl⟩ := R.loc
    obtain ⟨c, e, r⟩ := hl n x v hn (hko.trans h) hv
    exact wpAny_loadName_local hk (hko.trans h) hm e (hQ c r)
  · obtain ⟨a, c, e, r, q⟩ := R.cel n x v hn (.inl (hko.trans h)) hv
    exact wpAny_loadName_cell hk (hko.trans h) e r (hQ c q)
  · obtain ⟨a, c, e, r, q⟩ := R.cel n x v hn (.inr (hko.trans h)) hv
    exact wpAny_loadName_free hk (hko.trans h) e r (hQ c q) hcd

theorem SE.var {n : Nat} {x : Str} {pos : Pos} (hn : vm[n]? = some x) (hkd : sc.names.lookup x = some .local ∨ sc.names.lookup x = some .cell ∨ sc.names.lookup x = some .free)
    (hcd : (x == ("__classdict__" : Str)) = false := by decide) (hd : (x == ("__debug__" : Str)) = false := by decide) : SE prog w B k sc vm (.Name x pos) (eVar n) := by
  intro ρ H v H' h A env s α O Rm R S
  obtain ⟨hv, rfl⟩ := eVar_some h
  exact wpAny_Name (load_ok hv hn hkd hcd O R fun c r => .same S r) hd

theorem SE.int {i : Int} {kk : Nat} {pos : Pos} : SE prog w B k sc vm (.Constant (.int i) kk pos) (eVal (.int i)) := by
  intro ρ H v H' h A env s α O Rm R S
  cases h
  exact wpAny_Constant_int (.tok S (.int _ _))
theorem SE.str {x y : Str} {kk : Nat} {pos : Pos} (hxy : x = y) : SE prog w B k sc vm (.Constant (.str x) kk pos) (eVal (.str y)) := by
  subst hxy
  intro ρ H v H' h A env s α O Rm R S
  cases h
  exact wpAny_Constant_str (.tok S (.str _ _))
theorem SE.bool {b : Bool} {kk : Nat} {pos : Pos} : SE prog w B k sc vm (.Constant (.bool b) kk pos) (eVal (.bool b)) := by
  intro ρ H v H' h A env s α O Rm R S
  cases h
  exact wpAny_Constant_bool (.same S (.bool _))
theorem SE.none {kk : Nat} {pos : Pos} : SE prog w B k sc vm (.Constant .none kk pos) (eVal .none) := by
  intro ρ H v H' h A env s α O Rm R S
  cases h
  exact wpAny_Constant_none (.same S .none)

/-- two in a row -/
noncomputable def bind2 (f g : Ex) (h : V → V → Hp → Option (V × Hp)) : Ex := fun ρ H => (f ρ H).bind fun p => (g ρ p.2).bind fun q => h p.1 q.1 q.2
theorem bind2_some {f g : Ex} {h : V → V → Hp → Option (V × Hp)} {ρ : Lo} {H H' : Hp} {v : V} (e : bind2 f g h ρ H = some (v, H')) :
    ∃ a H₁ b H₂, f ρ H = some (a, H₁) ∧ g ρ H₁ = some (b, H₂) ∧ h a b H₂ = some (v, H') := by
  unfold bind2 at e
  obtain ⟨⟨a, H₁⟩, e1, e2⟩ := Option.bind_eq_some_iff.mp e
  obtain ⟨⟨b, H₂⟩, e3, e4⟩ := Option.bind_eq_some_iff.mp e2
  exact ⟨a, H₁, b, H₂, e1, e3, e4⟩

/-- what an operation on two values does -/
noncomputable def OpOk (prog : Program) (w : World) (B : Heap) (k : Nat) (t : Value → Value → Sem Value) (h : V → V → Hp → Option (V × Hp)) : Prop :=
  ∀ (a b : V) (H : Hp) (v : V) (H' : Hp), h a b H = some (v, H') → ∀ (A : Around) (s : Shared) (α : List Addr) (ca cb : Value), Room A k → SR B α H s.heap → VR α a ca → VR α b cb →
    wpAny (model prog w) A (t ca cb) (EPost B α s H' v) noE s

/-- evaluate two -/
theorem two_ok {f g : Ex} {ea eb : Expr} {ρ : Lo} {H : Hp} {a b : V} {H₁ H₂ : Hp} {A : Around} {env : Env} {s : Shared} {α : List Addr} {Q : Value → Value → Shared → Prop}
    (hf : SE prog w B k sc vm ea f) (hg : SE prog w B k sc vm eb g) (e1 : f ρ H = some (a, H₁)) (e2 : g ρ H₁ = some (b, H₂))
    (O : EO env sc) (Rm : Room A k) (R : ER B vm env ρ α s.heap) (S : SR B α H s.heap)
    (hQ : ∀ ca cb s' α', Step [] α s α' s' → SR B α' H₂ s'.heap → ER B vm env ρ α' s'.heap → VR α' a ca → VR α' b cb → Q ca cb s') :
    wpAny (model prog w) A (eval ea env) (fun ca s₁ => wpAny (model prog w) A (eval eb env) (fun cb s₂ => Q ca cb s₂) noE s₁) noE s := by
  refine wpAny_mono (hf ρ H a H₁ e1 A env s α O Rm R S) (fun ca s₁ h₁ => ?_) fun _ _ h => h
  obtain ⟨α₁, st₁, S₁, r₁⟩ := h₁
  refine wpAny_mono (hg ρ H₁ b H₂ e2 A env s₁ α₁ O Rm (R.step st₁) S₁) (fun cb s₂ h₂ => ?_) fun _ _ h => h
  obtain ⟨α₂, st₂, S₂, r₂⟩ := h₂
  refine hQ ca cb s₂ α₂ (st₁.trans0 st₂ S₂.nd) S₂ ((R.step st₁).step st₂) ?_ r₂
  obtain ⟨δ, rfl, _⟩ := st₂.ext
  exact r₁.more

theorem SE.bin {op : Operator} {l r : Expr} {pos : Pos} {f g : Ex} {h : V → V → Hp → Option (V × Hp)} (hf : SE prog w B k sc vm l f) (hg : SE prog w B k sc vm r g)
    (ho : OpOk prog w B k (binaryOp op) h) : SE prog w B k sc vm (.BinOp l op r pos) (bind2 f g h) := by
  intro ρ H v H' e A env s α O Rm R S
  obtain ⟨a, H₁, b, H₂, e1, e2, e3⟩ := bind2_some e
  refine wpAny_BinOp (two_ok hf hg e1 e2 O Rm R S fun ca cb s' α' st S' R' r1 r2 => ?_)
  exact EPost.step st (ho a b H₂ v H' e3 A s' α' ca cb Rm S' r1 r2)

theorem SE.cmp {op : CmpOp} {l r : Expr} {pos : Pos} {f g : Ex} {h : V → V → Hp → Option (V × Hp)} (hf : SE prog w B k sc vm l f) (hg : SE prog w B k sc vm r g)
    (ho : OpOk prog w B k (compareOp op) h) (hm : behindInMarks op r = false := by with_unfolding_all rfl) : SE prog w B k sc vm (.Compare l [op] [r] pos) (bind2 f g h) := by
  intro ρ H v H' e A env s α O Rm R S
  obtain ⟨a, H₁, b, H₂, e1, e2, e3⟩ := bind2_some e
  refine wpAny_Compare1 (two_ok hf hg e1 e2 O Rm R S fun ca cb s' α' st S' R' r1 r2 => ?_) hm
  exact EPost.step st (ho a b H₂ v H' e3 A s' α' ca cb Rm S' r1 r2)

/-! ## truth -/
noncomputable def truth : V → Hp → Option Bool
  | .none, _ => some false
  | .bool b, _ => some b
  | .int i, _ => some (i != 0)
  | .str x, _ => if x.length < 1000000000 then some (x.length != 0) else none
  | .ref k, H => match H[k]? with | some (.list xs) => if xs.length < 1000000000 then some (xs.length != 0) else none | _ => none
  | .typ _, _ => none
  | .base _, _ => none

end
end Mine
end

/-! part M3 -/
section
set_option maxRecDepth 10000
set_option linter.unusedVariables false
open PySem PyProof.Rows
namespace Mine
section
variable {prog : Program} {w : World} {B : Heap} {k : Nat} {sc : Scope} {vm : List Str}

theorem Paired.size {α : List Addr} {xs : List V} {vs : List Value} (h : Paired (VR α) xs vs) : vs.toArray.size = xs.length := by
  rw [List.size_toArray]; exact h.length.symm

theorem SR.list {α : List Addr} {H : Hp} {h : Heap} {kk : Nat} {a : Addr} {xs : List V} (S : SR B α H h) (ha : α[kk]? = some a) (hx : H[kk]? = some (.list xs)) :
    ∃ vs : List Value, h.PlainList a vs.toArray ∧ Paired (VR α) xs vs := S.obj kk a _ ha hx

theorem str_truth (n : Nat) : ((n : Int) != 0) = (n != 0) := by
  rcases n with _ | n
  · rfl
  · rfl

theorem truth_ok {v : V} {H : Hp} {b : Bool} {α : List Addr} {c : Value} {s : Shared} {A : Around} (e : truth v H = some b) (S : SR B α H s.heap) (r : VR α v c) :
    wpAny (model prog w) A (truthy c) (fun b' s' => b' = b ∧ ∃ t, s' = { s with toks := t }) noE s := by
  cases r with
  | none => cases e; exact truthy_none ⟨rfl, s.toks, rfl⟩
  | bool x => cases e; exact wpAny_truthy_bool ⟨rfl, s.toks, rfl⟩
  | int i t => cases e; exact P.truthy_int ⟨rfl, s.toks, rfl⟩
  | str x t =>
    simp only [truth] at e
    split at e
    · rename_i hl
      cases e
      exact P.truthy_str (by omega) ⟨str_truth _, _, rfl⟩
    · cases e
  | @ref kk a ha =>
    simp only [truth] at e
    split at e
    · rename_i xs hx
      split at e
      · rename_i hl
        cases e
        obtain ⟨vs, hp, hv⟩ := S.list ha hx
        refine wpAny_truthy_list hp.isList (by rw [Paired.size hv]; omega) ⟨?_, _, rfl⟩
        cases hv <;> simp
      · cases e
    · cases e
  | typ T => cases e
  | base a => cases e

theorem tok_step {α : List Addr} {s : Shared} {t : Nat} {W : List Addr} : Step W α s α { s with toks := t } := Step.tok ..
theorem ER.tok {ρ : Lo} {env : Env} {α : List Addr} {s : Shared} {t : Nat} (R : ER B vm env ρ α s.heap) : ER B vm env ρ α ({ s with toks := t } : Shared).heap := R

/-! ## tests -/
noncomputable def tVal (f : Ex) : Tx := fun ρ H => (f ρ H).bind fun p => (truth p.1 p.2).map fun b => (b, p.2)
noncomputable def tNot (f : Tx) : Tx := fun ρ H => (f ρ H).map fun p => (!p.1, p.2)
noncomputable def tAnd (f g : Tx) : Tx := fun ρ H => (f ρ H).bind fun p => if p.1 then g ρ p.2 else some (false, p.2)
noncomputable def tOr (f g : Tx) : Tx := fun ρ H => (f ρ H).bind fun p => if p.1 then some (true, p.2) else g ρ p.2
noncomputable def tTrue : Tx := fun _ H => some (true, H)
noncomputable def tFalse : Tx := fun _ H => some (false, H)

/-- the test's end -/
noncomputable abbrev TPost (B : Heap) (α : List Addr) (s : Shared) (H' : Hp) (b : Bool) : Bool → Shared → Prop := fun c s' => c = b ∧ ∃ α', Step [] α s α' s' ∧ SR B α' H' s'.heap

theorem ST.of {ex : Expr} {f : Ex} (hf : SE prog w B k sc vm ex f) (he : ∀ env, isTrue ex env (eval ex env) = (do let v ← eval ex env; standAt ex.pos; holding [v] (truthy v)) := by intro _; rfl) :
    ST prog w B k sc vm ex (tVal f) := by
  intro ρ H b H' e A env s α O Rm R S
  obtain ⟨⟨v, H₁⟩, e1, e2⟩ := Option.bind_eq_some_iff.mp e
  obtain ⟨b', e3, e4⟩ := Option.map_eq_some_iff.mp e2
  cases e4
  refine wpAny_isTrue_value (wpAny_mono (hf ρ H v H₁ e1 A env s α O Rm R S) (fun c s₁ h₁ => ?_) fun _ _ h => h) (he env)
  obtain ⟨α₁, st, S₁, r⟩ := h₁
  refine wpAny_mono (truth_ok e3 S₁ r) (fun b' s' h => ?_) fun _ _ h => h
  obtain ⟨rfl, t, rfl⟩ := h
  exact ⟨rfl, α₁, st.trans0 tok_step S₁.nd, S₁⟩

theorem ST.cmp {op : CmpOp} {l r : Expr} {pos : Pos} {f g : Ex} {h : V → V → Hp → Option (V × Hp)} (hf : SE prog w B k sc vm l f) (hg : SE prog w B k sc vm r g)
    (ho : OpOk prog w B k (compareOp op) h) (hm : behindInMarks op r = false := by with_unfolding_all rfl) : ST prog w B k sc vm (.Compare l [op] [r] pos) (tVal (bind2 f g h)) := by
  intro ρ H b H' e A env s α O Rm R S
  obtain ⟨⟨v, H₁⟩, e1, e2⟩ := Option.bind_eq_some_iff.mp e
  obtain ⟨b', e3, e4⟩ := Option.map_eq_some_iff.mp e2
  cases e4
  obtain ⟨a, H₁', b, H₂, f1, f2, f3⟩ := bind2_some e1
  refine wpAny_isTrue_Compare1 (two_ok hf hg f1 f2 O Rm R S fun ca cb s' α' st S' R' r1 r2 => ?_) hm
  refine wpAny_mono (ho a b H₂ v H₁ f3 A s' α' ca cb Rm S' r1 r2) (fun c s₂ h₂ => ?_) fun _ _ h => h
  obtain ⟨α₂, st₂, S₂, r⟩ := h₂
  refine wpAny_mono (truth_ok e3 S₂ r) (fun b' s' h => ?_) fun _ _ h => h
  obtain ⟨rfl, t, rfl⟩ := h
  exact ⟨rfl, α₂, (st.trans0 st₂ S₂.nd).trans0 tok_step S₂.nd, S₂⟩

theorem ST.not {x : Expr} {pos : Pos} {f : Tx} (hf : ST prog w B k sc vm x f) : ST prog w B k sc vm (.UnaryOp .Not x pos) (tNot f) := by
  intro ρ H b H' e A env s α O Rm R S
  obtain ⟨⟨b', H₁⟩, e1, e2⟩ := Option.map_eq_some_iff.mp e
  cases e2
  refine wpAny_isTrue_Not (wpAny_mono (hf ρ H b' H₁ e1 A env s α O Rm R S) (fun c s₁ h₁ => ?_) fun _ _ h => h)
  obtain ⟨rfl, h⟩ := h₁
  exact ⟨rfl, h⟩

/-- all of a row of tests -/
noncomputable def SA (prog : Program) (w : World) (B : Heap) (k : Nat) (sc : Scope) (vm : List Str) (op : BoolOp) (es : List Expr) (f : Tx) : Prop :=
  ∀ (ρ : Lo) (H : Hp) (b : Bool) (H' : Hp), f ρ H = some (b, H') → ∀ (A : Around) (env : Env) (s : Shared) (α : List Addr), EO env sc → Room A k → ER B vm env ρ α s.heap → SR B α H s.heap →
    wpAny (model prog w) A (allTrue op es env) (TPost B α s H' b) noE s
theorem SA.andNil : SA prog w B k sc vm .And [] tTrue := by
  intro ρ H b H' e A env s α O Rm R S
  cases e
  exact wpAny_allTrue_And_nil ⟨rfl, α, Step.refl .., S⟩
theorem SA.orNil : SA prog w B k sc vm .Or [] tFalse := by
  intro ρ H b H' e A env s α O Rm R S
  cases e
  exact wpAny_allTrue_Or_nil ⟨rfl, α, Step.refl .., S⟩
theorem SA.and {x : Expr} {rest : List Expr} {f g : Tx} (hf : ST prog w B k sc vm x f) (hg : SA prog w B k sc vm .And rest g) : SA prog w B k sc vm .And (x :: rest) (tAnd f g) := by
  intro ρ H b H' e A env s α O Rm R S
  obtain ⟨⟨b₁, H₁⟩, e1, e2⟩ := Option.bind_eq_some_iff.mp e
  refine wpAny_allTrue_And_cons (wpAny_mono (hf ρ H b₁ H₁ e1 A env s α O Rm R S) (fun c s₁ h₁ => ?_) fun _ _ h => h)
  obtain ⟨rfl, α₁, st, S₁⟩ := h₁
  cases c with
  | true =>
    simp only [if_true] at e2 ⊢
    refine wpAny_mono (hg ρ H₁ b H' e2 A env s₁ α₁ O Rm (R.step st) S₁) (fun c s₂ h₂ => ?_) fun _ _ h => h
    obtain ⟨rfl, α₂, st₂, S₂⟩ := h₂
    exact ⟨rfl, α₂, st.trans0 st₂ S₂.nd, S₂⟩
  | false =>
    simp only [Bool.false_eq_true, if_false] at e2 ⊢
    cases e2
    exact ⟨rfl, α₁, st, S₁⟩
theorem SA.or {x : Expr} {rest : List Expr} {f g : Tx} (hf : ST prog w B k sc vm x f) (hg : SA prog w B k sc vm .Or rest g) : SA prog w B k sc vm .Or (x :: rest) (tOr f g) := by
  intro ρ H b H' e A env s α O Rm R S
  obtain ⟨⟨b₁, H₁⟩, e1, e2⟩ := Option.bind_eq_some_iff.mp e
  refine wpAny_allTrue_Or_cons (wpAny_mono (hf ρ H b₁ H₁ e1 A env s α O Rm R S) (fun c s₁ h₁ => ?_) fun _ _ h => h)
  obtain ⟨rfl, α₁, st, S₁⟩ := h₁
  cases c with
  | true =>
    simp only [if_true] at e2 ⊢
    cases e2
    exact ⟨rfl, α₁, st, S₁⟩
  | false =>
    simp only [Bool.false_eq_true, if_false] at e2 ⊢
    refine wpAny_mono (hg ρ H₁ b H' e2 A env s₁ α₁ O Rm (R.step st) S₁) (fun c s₂ h₂ => ?_) fun _ _ h => h
    obtain ⟨rfl, α₂, st₂, S₂⟩ := h₂
    exact ⟨rfl, α₂, st.trans0 st₂ S₂.nd, S₂⟩
theorem ST.bools {op : BoolOp} {es : List Expr} {pos : Pos} {f : Tx} (hf : SA prog w B k sc vm op es f) : ST prog w B k sc vm (.BoolOp op es pos) f := by
  intro ρ H b H' e A env s α O Rm R S
  exact wpAny_isTrue_BoolOp (hf ρ H b H' e A env s α O Rm R S)

/-! ## and, or as values; a conditional -/
noncomputable def eAnd (f g : Ex) : Ex := fun ρ H => (f ρ H).bind fun p => (truth p.1 p.2).bind fun b => if b then g ρ p.2 else some p
noncomputable def eOr (f g : Ex) : Ex := fun ρ H => (f ρ H).bind fun p => (truth p.1 p.2).bind fun b => if b then some p else g ρ p.2
noncomputable def eIf (t : Tx) (f g : Ex) : Ex := fun ρ H => (t ρ H).bind fun p => if p.1 then f ρ p.2 else g ρ p.2

theorem SE.and {x y : Expr} {pos : Pos} {f g : Ex} (hf : SE prog w B k sc vm x f) (hg : SE prog w B k sc vm y g) : SE prog w B k sc vm (.BoolOp .And [x, y] pos) (eAnd f g) := by
  intro ρ H v H' e A env s α O Rm R S
  obtain ⟨⟨a, H₁⟩, e1, e2⟩ := Option.bind_eq_some_iff.mp e
  obtain ⟨b, e3, e4⟩ := Option.bind_eq_some_iff.mp e2
  refine wpAny_And2 (wpAny_mono (hf ρ H a H₁ e1 A env s α O Rm R S) (fun c s₁ h₁ => ?_) fun _ _ h => h)
  obtain ⟨α₁, st, S₁, r⟩ := h₁
  refine wpAny_mono (truth_ok e3 S₁ r) (fun b' s' h => ?_) fun _ _ h => h
  obtain ⟨rfl, t, rfl⟩ := h
  have st' := st.trans0 (tok_step (t := t)) S₁.nd
  cases b' with
  | true =>
    simp only [if_true] at e4 ⊢
    exact EPost.step st' (hg ρ H₁ v H' e4 A env _ α₁ O Rm (R.step st') S₁)
  | false =>
    simp only [Bool.false_eq_true, if_false] at e4 ⊢
    cases e4
    exact ⟨α₁, st', S₁, r⟩
theorem SE.or {x y : Expr} {pos : Pos} {f g : Ex} (hf : SE prog w B k sc vm x f) (hg : SE prog w B k sc vm y g) : SE prog w B k sc vm (.BoolOp .Or [x, y] pos) (eOr f g) := by
  intro ρ H v H' e A env s α O Rm R S
  obtain ⟨⟨a, H₁⟩, e1, e2⟩ := Option.bind_eq_some_iff.mp e
  obtain ⟨b, e3, e4⟩ := Option.bind_eq_some_iff.mp e2
  refine wpAny_Or2 (wpAny_mono (hf ρ H a H₁ e1 A env s α O Rm R S) (fun c s₁ h₁ => ?_) fun _ _ h => h)
  obtain ⟨α₁, st, S₁, r⟩ := h₁
  refine wpAny_mono (truth_ok e3 S₁ r) (fun b' s' h => ?_) fun _ _ h => h
  obtain ⟨rfl, t, rfl⟩ := h
  have st' := st.trans0 (tok_step (t := t)) S₁.nd
  cases b' with
  | true =>
    simp only [if_true] at e4 ⊢
    cases e4
    exact ⟨α₁, st', S₁, r⟩
  | false =>
    simp only [Bool.false_eq_true, if_false] at e4 ⊢
    exact EPost.step st' (hg ρ H₁ v H' e4 A env _ α₁ O Rm (R.step st') S₁)
theorem SE.ifexp {t x y : Expr} {pos : Pos} {ft : Tx} {f g : Ex} (ht : ST prog w B k sc vm t ft) (hf : SE prog w B k sc vm x f) (hg : SE prog w B k sc vm y g) :
    SE prog w B k sc vm (.IfExp t x y pos) (eIf ft f g) := by
  intro ρ H v H' e A env s α O Rm R S
  obtain ⟨⟨b, H₁⟩, e1, e2⟩ := Option.bind_eq_some_iff.mp e
  refine wpAny_IfExp (wpAny_mono (ht ρ H b H₁ e1 A env s α O Rm R S) (fun c s₁ h₁ => ?_) fun _ _ h => h)
  obtain ⟨rfl, α₁, st, S₁⟩ := h₁
  cases c with
  | true =>
    simp only [if_true] at e2 ⊢
    exact EPost.step st (hf ρ H₁ v H' e2 A env _ α₁ O Rm (R.step st) S₁)
  | false =>
    simp only [Bool.false_eq_true, if_false] at e2 ⊢
    exact EPost.step st (hg ρ H₁ v H' e2 A env _ α₁ O Rm (R.step st) S₁)

/-! ## rows of expressions -/
noncomputable def eRow : List Ex → Lo → Hp → Option (List V × Hp)
  | [], _, H => some ([], H)
  | f :: fs, ρ, H => (f ρ H).bind fun p => (eRow fs ρ p.2).bind fun q => some (p.1 :: q.1, q.2)

noncomputable def SL (prog : Program) (w : World) (B : Heap) (k : Nat) (sc : Scope) (vm : List Str) (es : List Expr) (fs : List Ex) : Prop :=
  ∀ (ρ : Lo) (H : Hp) (vs : List V) (H' : Hp), eRow fs ρ H = some (vs, H') → ∀ (pos : Pos) (A : Around) (env : Env) (s : Shared) (α : List Addr), EO env sc → Room A k → ER B vm env ρ α s.heap → SR B α H s.heap →
    wpAny (model prog w) A (spliced (backTo pos (starEach es env))) (fun cs s' => ∃ α', Step [] α s α' s' ∧ SR B α' H' s'.heap ∧ Paired (VR α') vs cs) noE s
theorem SL.nil : SL prog w B k sc vm [] [] := by
  intro ρ H vs H' e pos A env s α O Rm R S
  cases e
  exact wpAny_items_nil ⟨α, Step.refl .., S, .nil⟩
theorem SL.cons {e : Expr} {es : List Expr} {f : Ex} {fs : List Ex} (hf : SE prog w B k sc vm e f) (hs : SL prog w B k sc vm es fs)
    (hst : ∀ env, starEach (e :: es) env = (false, eval e env) :: starEach es env := by intro _; rfl) : SL prog w B k sc vm (e :: es) (f :: fs) := by
  intro ρ H vs H' q pos A env s α O Rm R S
  obtain ⟨⟨v, H₁⟩, e1, e2⟩ := Option.bind_eq_some_iff.mp q
  obtain ⟨⟨us, H₂⟩, e3, e4⟩ := Option.bind_eq_some_iff.mp e2
  cases e4
  refine wpAny_items_cons (wpAny_mono (hf ρ H v H₁ e1 A env s α O Rm R S) (fun c s₁ h₁ => ?_) fun _ _ h => h) (hst env)
  obtain ⟨α₁, st, S₁, r⟩ := h₁
  refine wpAny_mono (hs ρ H₁ us H₂ e3 pos A env s₁ α₁ O Rm (R.step st) S₁) (fun cs s₂ h₂ => ?_) fun _ _ h => h
  obtain ⟨α₂, st₂, S₂, r₂⟩ := h₂
  obtain ⟨δ, rfl, _⟩ := st₂.ext
  exact ⟨_, st.trans0 st₂ S₂.nd, S₂, .cons r.more r₂⟩

/-- a new list -/
theorem new_list {α : List Addr} {s s₁ : Shared} {H : Hp} {vs : List V} {cs : List Value} {α₁ : List Addr} (st : Step [] α s α₁ s₁) (S₁ : SR B α₁ H s₁.heap) (r : Paired (VR α₁) vs cs) {tk : Nat} :
    EPost B α s (H ++ [.list vs]) (.ref H.length) (.ref s₁.heap.objs.size) { s₁ with heap := s₁.heap.push { cls := .type "list", data := .seq cs.toArray }, toks := tk } := by
  have e := Heap.get?_push_size s₁.heap (o := { cls := .type "list", data := .seq cs.toArray }) rfl
  have S₂ : SR B (α₁ ++ [s₁.heap.objs.size]) (H ++ [.list vs]) (s₁.heap.push { cls := .type "list", data := .seq cs.toArray }) :=
    S₁.push (fun b o h => Heap.get?_push_of_some _ h) (fresh_size _) (by rw [e]; rfl) ⟨cs, ⟨0, e⟩, Paired.mono' (fun _ _ y => y.more) r⟩
  refine ⟨α₁ ++ [s₁.heap.objs.size], st.trans0 ?_ S₂.nd, S₂, .ref ?_⟩
  · exact ⟨⟨_, rfl, fun a ha => by rw [List.mem_singleton.mp ha]; exact fresh_size _⟩, fun b o h _ _ => Heap.get?_push_of_some _ h, rfl, GX.refl _⟩
  · rw [← S₁.len]; simp

noncomputable def eList (fs : List Ex) : Ex := fun ρ H => (eRow fs ρ H).map fun p => (.ref p.2.length, p.2 ++ [.list p.1])

theorem eRow_length : ∀ {fs : List Ex} {ρ : Lo} {H H' : Hp} {vs : List V}, eRow fs ρ H = some (vs, H') → vs.length = fs.length
  | [], _, _, _, _, h => by cases h; rfl
  | f :: fs, ρ, H, H', vs, h => by
    obtain ⟨⟨v, H₁⟩, e1, e2⟩ := Option.bind_eq_some_iff.mp h
    obtain ⟨⟨us, H₂⟩, e3, e4⟩ := Option.bind_eq_some_iff.mp e2
    cases e4
    simp [eRow_length e3]

theorem SE.list {es : List Expr} {fs : List Ex} {pos : Pos} (h : SL prog w B k sc vm es fs) (hl : fs.length ≤ sizeLine := by decide) : SE prog w B k sc vm (.List es pos) (eList fs) := by
  intro ρ H v H' e A env s α O Rm R S
  obtain ⟨⟨vs, H₁⟩, e1, e2⟩ := Option.map_eq_some_iff.mp e
  cases e2
  refine wpAny_List (wpAny_mono (h ρ H vs H₁ e1 pos A env s α O Rm R S) (fun cs s₁ h₁ => ?_) fun _ _ h => h)
  obtain ⟨α₁, st, S₁, r⟩ := h₁
  exact ⟨by rw [← r.length, eRow_length e1]; exact hl, new_list st S₁ r⟩

end
end Mine
end

/-! part M4 -/
section
set_option maxRecDepth 10000
set_option linter.unusedVariables false
open PySem PyProof.Rows
namespace Mine
section
variable {prog : Program} {w : World} {B : Heap} {k : Nat} {sc : Scope} {vm : List Str}

theorem pair_some {α β : Type} {a c : α} {b d : β} (h : some (a, b) = some (c, d)) : a = c ∧ b = d := by cases h; exact ⟨rfl, rfl⟩
theorem size_line {n : Nat} (h : n ≤ 1000000) : n ≤ sizeLine := by rw [sizeLine_eq]; omega

/-! ## operators -/
noncomputable def oAdd : V → V → Hp → Option (V × Hp)
  | .int a, .int b, H => some (.int (a + b), H)
  | .str x, .str y, H => if x.length + y.length ≤ 1000000 then some (.str (x ++ y), H) else none
  | .ref a, .ref b, H => match H[a]?, H[b]? with
    | some (.list xs), some (.list ys) => if xs.length + ys.length ≤ 1000000 then some (.ref H.length, H ++ [.list (xs ++ ys)]) else none
    | _, _ => none
  | _, _, _ => none
theorem PlainList.isL {h : Heap} {a : Addr} {items : Array Value} (x : h.PlainList a items) : ∃ n, IsL h a items n := x

theorem oAdd_ok : OpOk prog w B k (binaryOp .Add) oAdd := by
  intro a b H v H' e A s α ca cb Rm S ra rb
  unfold oAdd at e
  split at e
  · first | (obtain ⟨rfl, rfl⟩ := pair_some e) | cases e
    obtain ⟨_, rfl⟩ := ra.int_inv
    obtain ⟨_, rfl⟩ := rb.int_inv
    exact add_int (.tok S (.int _ _))
  · split at e
    · rename_i hl
      first | (obtain ⟨rfl, rfl⟩ := pair_some e) | cases e
      obtain ⟨_, rfl⟩ := ra.str_inv
      obtain ⟨_, rfl⟩ := rb.str_inv
      exact add_str (fun t' tk => .tok S (.str _ _)) (size_line hl)
    · first | (obtain ⟨rfl, rfl⟩ := pair_some e) | cases e
  · split at e
    · rename_i xs ys hx hy
      split at e
      · rename_i hl
        first | (obtain ⟨rfl, rfl⟩ := pair_some e) | cases e
        obtain ⟨aa, rfl, hka⟩ := ra.ref_inv
        obtain ⟨ab, rfl, hkb⟩ := rb.ref_inv
        obtain ⟨vs, ⟨n, pv⟩, rv⟩ := S.list hka hx
        obtain ⟨us, ⟨n', pu⟩, ru⟩ := S.list hkb hy
        refine P.add_list pv pu ?_ (by rw [Paired.size rv, Paired.size ru]; exact size_line hl)
        have := new_list (s := s) (s₁ := s) (tk := s.toks) (Step.refl [] α s) S (Paired.app rv ru)
        simpa using this
      · first | (obtain ⟨rfl, rfl⟩ := pair_some e) | cases e
    · first | (obtain ⟨rfl, rfl⟩ := pair_some e) | cases e
  · first | (obtain ⟨rfl, rfl⟩ := pair_some e) | cases e
noncomputable def oSub : V → V → Hp → Option (V × Hp)
  | .int a, .int b, H => some (.int (a - b), H)
  | _, _, _ => none
theorem oSub_ok : OpOk prog w B k (binaryOp .Sub) oSub := by
  intro a b H v H' e A s α ca cb Rm S ra rb
  unfold oSub at e
  split at e
  · first | (obtain ⟨rfl, rfl⟩ := pair_some e) | cases e
    obtain ⟨_, rfl⟩ := ra.int_inv
    obtain ⟨_, rfl⟩ := rb.int_inv
    exact sub_int (.tok S (.int _ _))
  · first | (obtain ⟨rfl, rfl⟩ := pair_some e) | cases e
noncomputable def oMul : V → V → Hp → Option (V × Hp)
  | .int a, .int b, H => if a.natAbs < 1000000 then some (.int (a * b), H) else none
  | .ref a, .int n, H => match H[a]? with
    | some (.list xs) => if 0 ≤ n ∧ n ≤ 1000 ∧ xs.length ≤ 1000 then some (.ref H.length, H ++ [.list (List.replicate n.toNat xs).flatten]) else none
    | _ => none
  | _, _, _ => none
theorem Paired.flat {α β : Type} {F : α → β → Prop} {xs : List α} {ys : List β} (h : Paired F xs ys) : ∀ n : Nat, Paired F (List.replicate n xs).flatten (List.replicate n ys).flatten
  | 0 => .nil
  | n + 1 => by simp only [List.replicate_succ, List.flatten_cons]; exact Paired.app h (Paired.flat h n)
theorem mul_listN {s : Shared} {A : Around} {E : Value → Shared → Prop} {l : Addr} {items : List Value} {n : Nat} {x : Int} {u : Tok} {Q : Value → Shared → Prop} (hl : IsL s.heap l items.toArray n) (h0 : 0 ≤ x) (h1 : x ≤ 1000) (h2 : items.length ≤ 1000)
    (h : Q (.ref s.heap.objs.size) { s with heap := s.heap.push { cls := .type "list", data := .seq (List.replicate x.toNat items).flatten.toArray } }) : wpAny (model prog w) A (binaryOp .Mult (.ref l) (.int x u)) Q E s := by
  have hsz : items.toArray.size * x.toNat ≤ 2 ^ 24 := by
    rw [List.size_toArray]
    have : x.toNat ≤ 1000 := by omega
    calc items.length * x.toNat ≤ 1000 * 1000 := Nat.mul_le_mul h2 this
      _ ≤ 2 ^ 24 := by decide
  refine wpAny_binaryOp_repeat_ref (T := "list") (U := "int") (by decide) ⟨_, hl, rfl⟩ (fun s' => typeIs_int s' x u) noFill_list_mul F.fills_int_mul F.slot_int_rmul repeat_list F.slot_int_index.lookup
    (call_meets F.slot_int_rmul (typeIs_int s x u) F.entry_int_rmul (F.args_int_rmul_2 _ _) (int___rmul___int_list x u l items.toArray n)
      ⟨hl, rfl, ⟨_, hl, rfl⟩, call_meets F.slot_list_mul ⟨_, hl, rfl⟩ F.entry_list_mul (F.args_list_mul_2 _ _)
        (AutoListH.list___mul___list_int_3 l items.toArray n x u (by simp [Builtin.List.listFitsIndex]; omega) (by omega) (by simp [Builtin.List.listTooLong, sizeLine] at hsz ⊢; omega))
        ⟨hl, ?_⟩⟩)
  rw [listMul_foldl_if]
  exact h
theorem oMul_ok : OpOk prog w B k (binaryOp .Mult) oMul := by
  intro a b H v H' e A s α ca cb Rm S ra rb
  unfold oMul at e
  split at e
  · split at e
    · rename_i hl
      first | (obtain ⟨rfl, rfl⟩ := pair_some e) | cases e
      obtain ⟨_, rfl⟩ := ra.int_inv
      obtain ⟨_, rfl⟩ := rb.int_inv
      exact mul_int (.tok S (.int _ _)) (IntMulOk.of_left (intBits_le_64 (by omega) (by omega)))
    · first | (obtain ⟨rfl, rfl⟩ := pair_some e) | cases e
  · split at e
    · rename_i xs hx
      split at e
      · rename_i hl
        first | (obtain ⟨rfl, rfl⟩ := pair_some e) | cases e
        obtain ⟨aa, rfl, hka⟩ := ra.ref_inv
        obtain ⟨_, rfl⟩ := rb.int_inv
        obtain ⟨vs, ⟨m, pv⟩, rv⟩ := S.list hka hx
        refine mul_listN pv hl.1 hl.2.1 (by rw [← rv.length]; exact hl.2.2) ?_
        exact new_list (s := s) (s₁ := s) (tk := s.toks) (Step.refl [] α s) S (Paired.flat rv _)
      · first | (obtain ⟨rfl, rfl⟩ := pair_some e) | cases e
    · first | (obtain ⟨rfl, rfl⟩ := pair_some e) | cases e
  · first | (obtain ⟨rfl, rfl⟩ := pair_some e) | cases e

noncomputable def oMod : V → V → Hp → Option (V × Hp)
  | .int a, .int b, H => if b = 0 then none else some (.int (a.fmod b), H)
  | _, _, _ => none
theorem oMod_ok : OpOk prog w B k (binaryOp .Mod) oMod := by
  intro a b H v H' e A s α ca cb Rm S ra rb
  unfold oMod at e
  split at e
  · split at e
    · first | (obtain ⟨rfl, rfl⟩ := pair_some e) | cases e
    · rename_i hb
      first | (obtain ⟨rfl, rfl⟩ := pair_some e) | cases e
      obtain ⟨_, rfl⟩ := ra.int_inv
      obtain ⟨_, rfl⟩ := rb.int_inv
      exact mod_int' hb (.tok S (.int _ _))
  · first | (obtain ⟨rfl, rfl⟩ := pair_some e) | cases e
theorem noPylong {a b : Int} (hb : b.natAbs < 1000000) : Builtin.divisionGoesByPylong a b = false := by
  unfold Builtin.divisionGoesByPylong
  by_cases h : (b == 0) = true
  · simp [h]
  · have : b.natAbs.log2 / 30 + 1 ≤ 300 := by
      have h1 : b.natAbs.log2 < 20 := by
        have hne : b.natAbs ≠ 0 := by simpa using h
        exact (Nat.log2_lt hne).mpr (by omega)
      omega
    have h2 : (b == 0) = false := by simpa using h
    simp only [h2, Bool.false_eq_true, if_false]
    simp only [Bool.and_eq_false_imp, decide_eq_true_eq]
    intro h3
    omega
noncomputable def oDiv : V → V → Hp → Option (V × Hp)
  | .int a, .int b, H => if b = 0 ∨ 1000000 ≤ b.natAbs then none else some (.int (a.fdiv b), H)
  | _, _, _ => none
theorem oDiv_ok : OpOk prog w B k (binaryOp .FloorDiv) oDiv := by
  intro a b H v H' e A s α ca cb Rm S ra rb
  unfold oDiv at e
  split at e
  · split at e
    · first | (obtain ⟨rfl, rfl⟩ := pair_some e) | cases e
    · rename_i hb
      first | (obtain ⟨rfl, rfl⟩ := pair_some e) | cases e
      obtain ⟨_, rfl⟩ := ra.int_inv
      obtain ⟨_, rfl⟩ := rb.int_inv
      exact floordiv_int (fun h => hb (.inl h)) (.tok S (.int _ _)) (.inl (noPylong (by omega)))
  · first | (obtain ⟨rfl, rfl⟩ := pair_some e) | cases e
noncomputable def oAnd : V → V → Hp → Option (V × Hp)
  | .int a, .int b, H => some (.int (Builtin.bitAnd a b), H)
  | _, _, _ => none
theorem oAnd_ok : OpOk prog w B k (binaryOp .BitAnd) oAnd := by
  intro a b H v H' e A s α ca cb Rm S ra rb
  unfold oAnd at e
  split at e
  · first | (obtain ⟨rfl, rfl⟩ := pair_some e) | cases e
    obtain ⟨_, rfl⟩ := ra.int_inv
    obtain ⟨_, rfl⟩ := rb.int_inv
    exact and_int (.tok S (.int _ _))
  · first | (obtain ⟨rfl, rfl⟩ := pair_some e) | cases e
/-! ## comparisons -/
noncomputable def strIn (y x : Str) : Bool := !(Builtin.Str.occurrences x y 0 x.length 1).isEmpty
noncomputable def cEq : V → V → Hp → Option (V × Hp)
  | .int a, .int b, H => some (.bool (a == b), H)
  | .str x, .str y, H => some (.bool (x == y), H)
  | _, _, _ => none
theorem cEq_ok : OpOk prog w B k (compareOp .Eq) cEq := by
  intro a b H v H' e A s α ca cb Rm S ra rb
  unfold cEq at e
  split at e
  · first | (obtain ⟨rfl, rfl⟩ := pair_some e) | cases e
    obtain ⟨_, rfl⟩ := ra.int_inv
    obtain ⟨_, rfl⟩ := rb.int_inv
    exact eq_int (.same S (.bool _))
  · first | (obtain ⟨rfl, rfl⟩ := pair_some e) | cases e
    obtain ⟨_, rfl⟩ := ra.str_inv
    obtain ⟨_, rfl⟩ := rb.str_inv
    exact eq_str (.same S (.bool _))
  · first | (obtain ⟨rfl, rfl⟩ := pair_some e) | cases e
noncomputable def cNe : V → V → Hp → Option (V × Hp)
  | .int a, .int b, H => some (.bool (a != b), H)
  | .str x, .str y, H => some (.bool (x != y), H)
  | _, _, _ => none
theorem cNe_ok : OpOk prog w B k (compareOp .NotEq) cNe := by
  intro a b H v H' e A s α ca cb Rm S ra rb
  unfold cNe at e
  split at e
  · first | (obtain ⟨rfl, rfl⟩ := pair_some e) | cases e
    obtain ⟨_, rfl⟩ := ra.int_inv
    obtain ⟨_, rfl⟩ := rb.int_inv
    exact ne_int (.same S (.bool _))
  · first | (obtain ⟨rfl, rfl⟩ := pair_some e) | cases e
    obtain ⟨_, rfl⟩ := ra.str_inv
    obtain ⟨_, rfl⟩ := rb.str_inv
    exact ne_str (.same S (.bool _))
  · first | (obtain ⟨rfl, rfl⟩ := pair_some e) | cases e
noncomputable def cLt : V → V → Hp → Option (V × Hp)
  | .int a, .int b, H => some (.bool (decide (a < b)), H)
  | _, _, _ => none
theorem cLt_ok : OpOk prog w B k (compareOp .Lt) cLt := by
  intro a b H v H' e A s α ca cb Rm S ra rb
  unfold cLt at e
  split at e
  · first | (obtain ⟨rfl, rfl⟩ := pair_some e) | cases e
    obtain ⟨_, rfl⟩ := ra.int_inv
    obtain ⟨_, rfl⟩ := rb.int_inv
    exact wpAny_lt_int (.same S (.bool _))
  · first | (obtain ⟨rfl, rfl⟩ := pair_some e) | cases e
noncomputable def cGt : V → V → Hp → Option (V × Hp)
  | .int a, .int b, H => some (.bool (decide (b < a)), H)
  | _, _, _ => none
theorem cGt_ok : OpOk prog w B k (compareOp .Gt) cGt := by
  intro a b H v H' e A s α ca cb Rm S ra rb
  unfold cGt at e
  split at e
  · first | (obtain ⟨rfl, rfl⟩ := pair_some e) | cases e
    obtain ⟨_, rfl⟩ := ra.int_inv
    obtain ⟨_, rfl⟩ := rb.int_inv
    exact gt_int (.same S (.bool _))
  · first | (obtain ⟨rfl, rfl⟩ := pair_some e) | cases e
noncomputable def cGe : V → V → Hp → Option (V × Hp)
  | .int a, .int b, H => some (.bool (decide (b ≤ a)), H)
  | _, _, _ => none
theorem cGe_ok : OpOk prog w B k (compareOp .GtE) cGe := by
  intro a b H v H' e A s α ca cb Rm S ra rb
  unfold cGe at e
  split at e
  · first | (obtain ⟨rfl, rfl⟩ := pair_some e) | cases e
    obtain ⟨_, rfl⟩ := ra.int_inv
    obtain ⟨_, rfl⟩ := rb.int_inv
    exact ge_int (.same S (.bool _))
  · first | (obtain ⟨rfl, rfl⟩ := pair_some e) | cases e
noncomputable def cIn : V → V → Hp → Option (V × Hp)
  | .str y, .str x, H => some (.bool (strIn y x), H)
  | _, _, _ => none
theorem cIn_ok : OpOk prog w B k (compareOp .In) cIn := by
  intro a b H v H' e A s α ca cb Rm S ra rb
  unfold cIn at e
  split at e
  · first | (obtain ⟨rfl, rfl⟩ := pair_some e) | cases e
    obtain ⟨_, rfl⟩ := ra.str_inv
    obtain ⟨_, rfl⟩ := rb.str_inv
    exact in_str (.same S (.bool _))
  · first | (obtain ⟨rfl, rfl⟩ := pair_some e) | cases e
noncomputable def cNotIn : V → V → Hp → Option (V × Hp)
  | .str y, .str x, H => some (.bool (!strIn y x), H)
  | _, _, _ => none
theorem cNotIn_ok : OpOk prog w B k (compareOp .NotIn) cNotIn := by
  intro a b H v H' e A s α ca cb Rm S ra rb
  unfold cNotIn at e
  split at e
  · first | (obtain ⟨rfl, rfl⟩ := pair_some e) | cases e
    obtain ⟨_, rfl⟩ := ra.str_inv
    obtain ⟨_, rfl⟩ := rb.str_inv
    exact P.notIn_str (.same S (.bool _))
  · first | (obtain ⟨rfl, rfl⟩ := pair_some e) | cases e
noncomputable def cIsNot : V → V → Hp → Option (V × Hp)
  | .bool a, .bool b, H => some (.bool (a != b), H)
  | .none, .none, H => some (.bool false, H)
  | .str _, .none, H => some (.bool true, H)
  | .int _, .none, H => some (.bool true, H)
  | _, _, _ => none
theorem bool_bne (a b : Bool) : (!(Value.bool a == Value.bool b)) = (a != b) := by cases a <;> cases b <;> decide
theorem cIsNot_ok : OpOk prog w B k (compareOp .IsNot) cIsNot := by
  intro a b H v H' e A s α ca cb Rm S ra rb
  unfold cIsNot at e
  split at e
  · first | (obtain ⟨rfl, rfl⟩ := pair_some e) | cases e
    obtain rfl := ra.bool_inv
    obtain rfl := rb.bool_inv
    exact wpAny_isNot_plain rfl (by rw [bool_bne]; exact .same S (.bool _))
  · first | (obtain ⟨rfl, rfl⟩ := pair_some e) | cases e
    obtain rfl := ra.none_inv
    obtain rfl := rb.none_inv
    exact isNot_none (.same S (.bool _))
  · first | (obtain ⟨rfl, rfl⟩ := pair_some e) | cases e
    obtain ⟨_, rfl⟩ := ra.str_inv
    obtain rfl := rb.none_inv
    exact isNot_none (.same S (.bool _))
  · first | (obtain ⟨rfl, rfl⟩ := pair_some e) | cases e
    obtain ⟨_, rfl⟩ := ra.int_inv
    obtain rfl := rb.none_inv
    exact isNot_none (.same S (.bool _))
  · first | (obtain ⟨rfl, rfl⟩ := pair_some e) | cases e
noncomputable def cIs : V → V → Hp → Option (V × Hp)
  | .bool a, .bool b, H => some (.bool (a == b), H)
  | .none, .none, H => some (.bool true, H)
  | .str _, .none, H => some (.bool false, H)
  | .int _, .none, H => some (.bool false, H)
  | _, _, _ => none

end
end Mine
end

/-! part M5 -/
section
set_option maxRecDepth 10000
set_option linter.unusedVariables false
open PySem PyProof.Rows
namespace Mine
section
variable {prog : Program} {w : World} {B : Heap} {k : Nat} {sc : Scope} {vm : List Str}

/-! ## items -/
noncomputable def plainSlice : Expr → Bool
  | .Slice .. => false
  | _ => true
theorem subscripted_plain {slice : Expr} (h : plainSlice slice = true) (o i : Value) : subscripted slice false o i = operate [o, i] (getItem o i) := by
  cases slice <;> first | rfl | cases h

theorem wp_Subscript {A : Around} {env : Env} {s : Shared} {value slice : Expr} {pos : Pos} {Q : Value → Shared → Prop} (hs : plainSlice slice = true)
    (h : wpAny (model prog w) A (eval value env) (fun o s₁ => wpAny (model prog w) A (eval slice env) (fun i s₂ => ∃ T id, typeLookup (.type T) (Str.ofString "__getitem__") = pure (some (Value.builtin id)) ∧ s₂.TypeIs o T ∧
      wpAny (model prog w) A (getItem o i) Q noE s₂) noE s₁) noE s) : wpAny (model prog w) A (eval (.Subscript value slice pos) env) Q noE s := by
  rw [eval_Subscript]
  refine wpAny_bind (wpAny_mono h (fun o s₁ h₁ => wpAny_bind (wpAny_holding (wpAny_mono h₁ (fun i s₂ h₂ => wpAny_bind (wpAny_standAt ?_)) fun _ _ x => x))) fun _ _ x => x)
  obtain ⟨T, id, hl, hT, hg⟩ := h₂
  refine wpAny_bind ?_
  rw [getitemInPython_of_ne hT.not_modules]
  refine wpAny_bind (wpAny_specialOf hT hl ?_)
  have fin : wpAny (model prog w) A (operate [o, i] (getItem o i)) (fun r s₃ => wpAny (model prog w) A (letTemporaryGo value o r >>= fun _ => pure r) Q noE s₃) noE s₂ :=
    wpAny_operating (wpAny_mono hg (fun r s₃ h₃ => wpAny_bind (wpAny_letTemporaryGo (wpAny_pure h₃))) fun _ _ x => x)
  refine wpAny_pure (wpAny_bind ?_)
  rw [subscripted_plain hs]
  exact fin

noncomputable def listAt (xs : List V) (i : Int) : Option V := if 0 ≤ i ∧ i < 1000000 then xs[i.toNat]? else none
noncomputable def sub : V → V → Hp → Option (V × Hp)
  | .ref a, .int i, H => match H[a]? with
    | some (.list xs) => (listAt xs i).map fun v => (v, H)
    | _ => none
  | .str x, .int i, H => if -1000000 ≤ i ∧ i < 1000000 then ((seqIndex? i x.length).bind (x.cps[·]?)).map fun c => (.str ⟨#[c]⟩, H) else none
  | _, _, _ => none

theorem SE.sub {value slice : Expr} {pos : Pos} {f g : Ex} (hf : SE prog w B k sc vm value f) (hg : SE prog w B k sc vm slice g) (hs : plainSlice slice = true := by rfl) :
    SE prog w B k sc vm (.Subscript value slice pos) (bind2 f g sub) := by
  intro ρ H v H' e A env s α O Rm R S
  obtain ⟨a, H₁, b, H₂, e1, e2, e3⟩ := bind2_some e
  refine wp_Subscript hs (two_ok hf hg e1 e2 O Rm R S fun ca cb s' α' st S' R' r1 r2 => ?_)
  unfold Mine.sub at e3
  split at e3
  · split at e3
    · rename_i xs hx
      obtain ⟨aa, rfl, hka⟩ := r1.ref_inv
      obtain ⟨t, rfl⟩ := r2.int_inv
      obtain ⟨u, h1, h2⟩ := Option.map_eq_some_iff.mp e3
      cases h2
      obtain ⟨vs, hp, hv⟩ := S'.list hka hx
      unfold listAt at h1
      split at h1
      · rename_i hi
        obtain ⟨c, hc, hr⟩ := Paired.get hv h1
        exact ⟨"list", _, F.slot_list_getitem.lookup, hp.isList.typeIs, wpAny_getItem_list hp.isList hi.1 (by omega) (by simpa using hc) ⟨α', st, S', hr⟩⟩
      · cases h1
    · cases e3
  · split at e3
    · rename_i hi
      obtain ⟨t, rfl⟩ := r1.str_inv
      obtain ⟨t', rfl⟩ := r2.int_inv
      obtain ⟨c, h1, h2⟩ := Option.map_eq_some_iff.mp e3
      cases h2
      refine ⟨"str", _, F.slot_str_getitem.lookup, typeIs_str _ _ t, P.getItem_str ?_ h1 ⟨α', st.trans0 tok_step S'.nd, S', .str _ _⟩⟩
      simp only [Bool.or_eq_false_iff, decide_eq_false_iff_not]
      omega
    · cases e3
  · cases e3

/-! ## slices -/
noncomputable def sFrom (lo : Option Int) (n : Nat) : Nat := lo.elim 0 (clipAt n)
noncomputable def sTo (hi : Option Int) (n : Nat) : Nat := hi.elim n (clipAt n)
noncomputable def cut {α : Type} (xs : List α) (lo hi : Option Int) : List α := (xs.drop (sFrom lo xs.length)).take (sTo hi xs.length - sFrom lo xs.length)
noncomputable def cutS (x : Str) (lo hi : Option Int) : Str := ⟨(cut x.cps.toList lo hi).toArray⟩

theorem clip_le (n : Nat) (i : Int) : clipAt n i ≤ n := by
  have := clipAt_cast n i
  omega
theorem strIdx_eq (l u : Option Int) (n : Nat) : Builtin.Str.strSliceIndices l u 1 n = (List.range (sTo u n - sFrom l n)).map (sFrom l n + ·) := by
  have h := sliceBounds_plain l u n
  have h1 : Builtin.Str.strSliceIndices l u 1 n = sliceRange (sliceBounds l u none n).1 (sliceBounds l u none n).2.1 1 := rfl
  rw [h1, h]
  exact sliceRange_one _ _
theorem picked_cut (x : Str) (l u : Option (Int × Tok)) : ((slicePicked x l u none).filterMap (x.cps[·]?)) = cut x.cps.toList (l.map (·.1)) (u.map (·.1)) := by
  unfold slicePicked cut
  have e : Builtin.Str.strSliceIndices (l.map (·.1)) (u.map (·.1)) (((Option.none : Option (Int × Tok)).map (·.1)).getD 1) x.length = _ := strIdx_eq _ _ _
  rw [e, pick_run]
  simp [Str.length]
theorem cut_whole {α : Type} (xs : List α) (lo hi : Option Int) (h : sTo hi xs.length - sFrom lo xs.length = xs.length) : cut xs lo hi = xs := by
  unfold cut
  have h1 : sTo hi xs.length ≤ xs.length := by
    unfold sTo; cases hi with
    | none => exact Nat.le_refl _
    | some i => exact clip_le _ _
  by_cases hz : xs.length = 0
  · have : xs = [] := List.eq_nil_of_length_eq_zero hz
    subst this; simp
  · have h2 : sFrom lo xs.length = 0 := by omega
    rw [h, h2]; simp

noncomputable def partV : V → Option (Option Int)
  | .none => some none
  | .int i => some (some i)
  | _ => none
theorem partV_ok {α : List Addr} {v : V} {c : Value} {i : Option Int} (h : partV v = some i) (r : VR α v c) : ∃ q : Option (Int × Tok), c = partValue q ∧ q.map (·.1) = i := by
  cases r <;> simp only [partV] at h <;> cases h
  · exact ⟨none, rfl, rfl⟩
  · rename_i i t; exact ⟨some (i, t), rfl, rfl⟩
theorem isPart_of (q : Option (Int × Tok)) : IsPart (partValue q) (q.map (·.1)) := by
  rcases q with _ | ⟨i, t⟩
  · exact .none
  · exact .int i t

noncomputable def cutV : V → V → V → Hp → Option (V × Hp)
  | .str x, l, u, H => (partV l).bind fun l => (partV u).bind fun u => if x.length ≤ 1000000 then some (.str (cutS x l u), H) else none
  | .ref a, l, u, H => match H[a]? with
    | some (.list xs) => (partV l).bind fun l => (partV u).bind fun u => if xs.length ≤ 1000000 then some (.ref H.length, H ++ [.list (cut xs l u)]) else none
    | _ => none
  | _, _, _, _ => none
noncomputable def eCut (f fl fu : Ex) : Ex := fun ρ H => (f ρ H).bind fun p => (fl ρ p.2).bind fun q => (fu ρ q.2).bind fun r => cutV p.1 q.1 r.1 r.2

noncomputable def SP (prog : Program) (w : World) (B : Heap) (k : Nat) (sc : Scope) (vm : List Str) (e : Option Expr) (f : Ex) : Prop :=
  ∀ (ρ : Lo) (H : Hp) (v : V) (H' : Hp), f ρ H = some (v, H') → ∀ (A : Around) (env : Env) (s : Shared) (α : List Addr), EO env sc → Room A k → ER B vm env ρ α s.heap → SR B α H s.heap →
    wpAny (model prog w) A (evalPart e env) (EPost B α s H' v) noE s
theorem SP.none : SP prog w B k sc vm none (eVal .none) := by
  intro ρ H v H' e A env s α O Rm R S
  cases e
  rw [evalPart_none]
  exact wpAny_pure (.same S .none)
theorem SP.some {e : Expr} {f : Ex} (h : SE prog w B k sc vm e f) : SP prog w B k sc vm (some e) f := by
  intro ρ H v H' q A env s α O Rm R S
  exact wpAny_evalPart_some (h ρ H v H' q A env s α O Rm R S)

theorem wp_Slice {A : Around} {env : Env} {s : Shared} {value : Expr} {lo hi : Option Expr} {p pos : Pos} {Q : Value → Shared → Prop}
    (h : wpAny (model prog w) A (eval value env) (fun o s₁ => wpAny (model prog w) A (evalPart lo env) (fun l s₂ => wpAny (model prog w) A (evalPart hi env) (fun u s₃ =>
      ∃ T id, typeLookup (.type T) (Str.ofString "__getitem__") = pure (some (Value.builtin id)) ∧ ({ s₃ with heap := s₃.heap.push { cls := .type "slice", data := .fields #[l, u, .none] } } : Shared).TypeIs o T ∧
      wpAny (model prog w) A (getItem o (.ref s₃.heap.objs.size)) Q noE { s₃ with heap := s₃.heap.push { cls := .type "slice", data := .fields #[l, u, .none] } }) noE s₂) noE s₁) noE s) :
    wpAny (model prog w) A (eval (.Subscript value (.Slice lo hi none p) pos) env) Q noE s := by
  rw [eval_Subscript]
  refine wpAny_bind (wpAny_mono h (fun o s₁ h₁ => wpAny_bind (wpAny_holding (wpAny_Slice (wpAny_mono h₁ (fun l s₂ h₂ => wpAny_mono h₂ (fun u s₃ h₃ => ?_) fun _ _ x => x) fun _ _ x => x)))) fun _ _ x => x)
  rw [evalPart_none]
  refine wpAny_pure (wpAny_bind (wpAny_standAt ?_))
  obtain ⟨T, id, hl, hT, hg⟩ := h₃
  refine wpAny_bind ?_
  rw [getitemInPython_of_ne hT.not_modules]
  refine wpAny_bind (wpAny_specialOf hT hl ?_)
  have fin : wpAny (model prog w) A (operate [.ref s₃.heap.objs.size, o] (getItem o (.ref s₃.heap.objs.size))) (fun r s₄ => wpAny (model prog w) A (letTemporaryGo value o r >>= fun _ => pure r) Q noE s₄) noE
      { s₃ with heap := s₃.heap.push { cls := .type "slice", data := .fields #[l, u, .none] } } :=
    wpAny_operating (wpAny_mono hg (fun r s₃ h₃ => wpAny_bind (wpAny_letTemporaryGo (wpAny_pure h₃))) fun _ _ x => x)
  exact wpAny_pure (wpAny_bind fin)

theorem SE.slice {value : Expr} {lo hi : Option Expr} {p pos : Pos} {f fl fu : Ex} (hf : SE prog w B k sc vm value f) (hl : SP prog w B k sc vm lo fl) (hu : SP prog w B k sc vm hi fu) :
    SE prog w B k sc vm (.Subscript value (.Slice lo hi Option.none p) pos) (eCut f fl fu) := by
  intro ρ H v H' e A env s α O Rm R S
  obtain ⟨⟨a, H₁⟩, e1, e⟩ := Option.bind_eq_some_iff.mp e
  obtain ⟨⟨l, H₂⟩, e2, e⟩ := Option.bind_eq_some_iff.mp e
  obtain ⟨⟨u, H₃⟩, e3, e⟩ := Option.bind_eq_some_iff.mp e
  dsimp only at e2 e3 e
  refine wp_Slice (wpAny_mono (hf ρ H a H₁ e1 A env s α O Rm R S) (fun ca s₁ h₁ => ?_) fun _ _ h => h)
  obtain ⟨α₁, st₁, S₁, r₁⟩ := h₁
  refine wpAny_mono (hl ρ H₁ l H₂ e2 A env s₁ α₁ O Rm (R.step st₁) S₁) (fun cl s₂ h₂ => ?_) fun _ _ h => h
  obtain ⟨α₂, st₂, S₂, r₂⟩ := h₂
  refine wpAny_mono (hu ρ H₂ u H₃ e3 A env s₂ α₂ O Rm ((R.step st₁).step st₂) S₂) (fun cu s₃ h₃ => ?_) fun _ _ h => h
  obtain ⟨α₃, st₃, S₃, r₃⟩ := h₃
  have st := (st₁.trans0 st₂ S₂.nd).trans0 st₃ S₃.nd
  have keep : ∀ b o, s₃.heap.get? b = some o → (s₃.heap.push { cls := .type "slice", data := .fields #[cl, cu, .none] }).get? b = some o := fun b o h => Heap.get?_push_of_some _ h
  have S₄ : SR B α₃ H₃ (s₃.heap.push { cls := .type "slice", data := .fields #[cl, cu, .none] }) := S₃.at keep
  have st₄ : Step [] α s α₃ { s₃ with heap := s₃.heap.push { cls := .type "slice", data := .fields #[cl, cu, .none] } } := st.trans0 (Step.kept keep (tk := s₃.toks)) S₃.nd
  have ra : VR α₃ a ca := by
    obtain ⟨δ, rfl, _⟩ := st₂.ext
    obtain ⟨ε, rfl, _⟩ := st₃.ext
    exact r₁.more.more
  have hsl := Heap.get?_push_size s₃.heap (o := { cls := .type "slice", data := .fields #[cl, cu, .none] }) rfl
  unfold cutV at e
  split at e
  · rename_i x l' u'
    obtain ⟨t, rfl⟩ := ra.str_inv
    obtain ⟨i, p1, e⟩ := Option.bind_eq_some_iff.mp e
    obtain ⟨j, p2, e⟩ := Option.bind_eq_some_iff.mp e
    split at e
    · rename_i hx
      cases e
      obtain ⟨q1, c1, m1⟩ := partV_ok p1 r₂
      obtain ⟨q2, c2, m2⟩ := partV_ok p2 r₃
      subst c1 c2 m1 m2
      refine ⟨"str", _, F.slot_str_getitem.lookup, typeIs_str _ x t, wpAny_getItem_str_slice (l := q1) (u := q2) (st := Option.none) ⟨_, hsl, rfl, rfl⟩ rfl ?_⟩
      unfold sliceMade
      split
      · rename_i hw
        have hw' : (slicePicked x q1 q2 Option.none).length = x.length := by simpa using hw
        have hc : cutS x (q1.map (·.1)) (q2.map (·.1)) = x := by
          unfold cutS
          rw [cut_whole]
          have e : Builtin.Str.strSliceIndices (q1.map (·.1)) (q2.map (·.1)) (((Option.none : Option (Int × Tok)).map (·.1)).getD 1) x.length = _ := strIdx_eq _ _ _
          unfold slicePicked at hw'
          rw [e] at hw'
          simpa [Str.length] using hw'
        rw [hc]
        exact ⟨α₃, st₄, S₄, .str _ _⟩
      · rw [picked_cut]
        refine ⟨?_, α₃, st₄.trans0 tok_step S₃.nd, S₄, .str _ _⟩
        refine size_line ?_
        have : (cut x.cps.toList (q1.map (·.1)) (q2.map (·.1))).length ≤ x.length := by
          unfold cut
          rw [List.length_take, List.length_drop]
          simp only [Str.length, Array.length_toList]
          omega
        simp only [Str.length, List.size_toArray] at this ⊢
        simp only [Str.length] at hx
        omega
    · cases e
  · rename_i ka l' u'
    obtain ⟨aa, rfl, hka⟩ := ra.ref_inv
    split at e
    · rename_i xs hx
      obtain ⟨i, p1, e⟩ := Option.bind_eq_some_iff.mp e
      obtain ⟨j, p2, e⟩ := Option.bind_eq_some_iff.mp e
      split at e
      · rename_i hlen
        cases e
        obtain ⟨q1, c1, m1⟩ := partV_ok p1 r₂
        obtain ⟨q2, c2, m2⟩ := partV_ok p2 r₃
        subst c1 c2 m1 m2
        obtain ⟨vs, hp, hv⟩ := S₄.list hka hx
        refine ⟨"list", _, F.slot_list_getitem.lookup, hp.isList.typeIs, wpAny_getItem_list_slice hp.isList ⟨_, hsl, rfl, rfl⟩ (isPart_of q1) (isPart_of q2) IsPart.none (by decide) ?_ (by rw [Paired.size hv]; exact size_line hlen)⟩
        rw [slicePick_plain]
        have := new_list (s := s) (tk := s₃.toks) st₄ S₄ (Paired.take' (sTo (q2.map (·.1)) xs.length - sFrom (q1.map (·.1)) xs.length) (Paired.drop' (sFrom (q1.map (·.1)) xs.length) hv))
        rw [Paired.size hv]
        exact this
      · cases e
    · cases e
  · cases e
end
end Mine
end

/-! part M6 -/
section
set_option maxRecDepth 10000
set_option linter.unusedVariables false
open PySem PyProof.Rows
namespace Mine
section
variable {prog : Program} {w : World} {B : Heap} {k : Nat} {sc : Scope} {vm : List Str}

/-- the top's names, as the call finds them -/
structure GF (B : Heap) (mg : Str → Option Value) : Prop where
  g : B.Ns mainGlobals mg
  b : ∃ mb, B.Ns builtinsNs mb ∧ ∀ x : Str, x ≠ "__name__" → mb x = bootBuiltins x
  lim : B.NoLimit

noncomputable def NameIs (mg : Str → Option Value) (x : Str) (f : Value) : Prop := mg x = some f ∨ (mg x = none ∧ bootBuiltins x = some f ∧ x ≠ "__name__")

theorem global_ok {mg : Str → Option Value} {x : Str} {f : Value} {A : Around} {env : Env} {s : Shared} {pos : Pos} {Q : Value → Shared → Prop} {E : Value → Shared → Prop} {α : List Addr} {H : Hp}
    (G : GF B mg) (hx : NameIs mg x f) (hk : sc.names.lookup x = some .globalImplicit) (O : EO env sc) (S : SR B α H s.heap) (h : Q f s) (hd : (x == ("__debug__" : Str)) = false) :
    wpAny (model prog w) A (eval (.Name x pos) env) Q E s := by
  have hkd : env.scope.kind = .function := by rw [O.scE]; exact O.kind
  have hko : env.kindOf x = some .globalImplicit := by unfold Env.kindOf; rw [O.scE]; exact hk
  have hg : s.heap.Ns env.globals mg := by rw [O.glob]; exact G.g.keeps S.base
  rcases hx with hx | ⟨h1, h2, h3⟩
  · exact Calls.Name_function_global hkd hko (Calls.loadGlobal_global hg hx h) hd
  · obtain ⟨mb, hb, hq⟩ := G.b
    have hb' : s.heap.Ns env.builtins mb := by rw [O.blt]; exact hb.keeps S.base
    exact Calls.Name_function_global hkd hko (Calls.loadGlobal_builtin hg h1 hb' ((hq x h3).trans h2) h) hd

theorem SE.globInt {mg : Str → Option Value} {x : Str} {i : Int} {pos : Pos} (G : GF B mg) (hx : ∃ t, mg x = some (.int i t)) (hk : sc.names.lookup x = some .globalImplicit)
    (hd : (x == ("__debug__" : Str)) = false := by decide) : SE prog w B k sc vm (.Name x pos) (eVal (.int i)) := by
  intro ρ H v H' e A env s α O Rm R S
  cases e
  obtain ⟨t, ht⟩ := hx
  exact global_ok G (.inl ht) hk O S (.same S (.int _ _)) hd

/-- what a call does -/
noncomputable def CallOk (prog : Program) (w : World) (B : Heap) (k : Nat) (f : Value) (h : List V → Hp → Option (V × Hp)) : Prop :=
  ∀ (vs : List V) (H : Hp) (v : V) (H' : Hp), h vs H = some (v, H') → ∀ (A : Around) (s : Shared) (α : List Addr) (cs : List Value), Room A k → SR B α H s.heap → Paired (VR α) vs cs →
    wpAny (model prog w) A (call f cs) (EPost B α s H' v) noE s

noncomputable def Callee (B : Heap) (f : Value) : Prop := (∃ id, f = .builtin id) ∨ (∃ T, f = .type T) ∨ ∃ a o fd, f = .ref a ∧ B.get? a = some o ∧ o.data = .func fd

noncomputable def eCall (fs : List Ex) (h : List V → Hp → Option (V × Hp)) : Ex := fun ρ H => (eRow fs ρ H).bind fun p => h p.1 p.2

theorem SE.call {mg : Str → Option Value} {x : Str} {f : Value} {e : Expr} {es : List Expr} {fs : List Ex} {h : List V → Hp → Option (V × Hp)} {p pos : Pos} (G : GF B mg) (hx : NameIs mg x f)
    (hc : Callee B f) (hk : sc.names.lookup x = some .globalImplicit) (hs : SL prog w B k sc vm (e :: es) fs) (ho : CallOk prog w B k f h)
    (hst : ∀ env, starEach (e :: es) env = (false, eval e env) :: starEach es env := by intro _; rfl) (hpl : ∀ pos env, (backTo pos (starEach es env)).any (·.1) = false := by intro _ _; rfl)
    (hd : (x == ("__debug__" : Str)) = false := by decide) :
    SE prog w B k sc vm (.Call (.Name x p) (e :: es) [] pos) (eCall fs h) := by
  intro ρ H v H' q A env s α O Rm R S
  obtain ⟨⟨vs, H₁⟩, e1, e2⟩ := Option.bind_eq_some_iff.mp q
  refine Call_Name rfl (global_ok G hx hk O S ?_ hd)
  have main := hs ρ H vs H₁ e1 pos A env s α O Rm R S
  have hplain : (backTo pos (starEach (e :: es) env)).any (·.1) = false := by
    rw [hst]
    show (false || (backTo pos (starEach es env)).any (·.1)) = false
    rw [hpl]; rfl
  have args : ∀ g : Value, wpAny (model prog w) A (evalArgs g true (backTo pos (starEach (e :: es) env)) []) (fun a s' => a.kw = [] ∧ ∃ α', Step [] α s α' s' ∧ SR B α' H₁ s'.heap ∧ Paired (VR α') vs a.pos) noE s := by
    intro g
    rw [hst] at main ⊢
    exact Calls.evalArgs_plain (wpAny_mono main (fun cs s' h => ⟨rfl, h⟩) fun _ _ h => h)
  have fin : ∀ (a : Args) (s' : Shared), (a.kw = [] ∧ ∃ α', Step [] α s α' s' ∧ SR B α' H₁ s'.heap ∧ Paired (VR α') vs a.pos) → wpAny (model prog w) A (PySem.call f ([] ++ a.pos) a.kw) (EPost B α s H' v) noE s' := by
    rintro ⟨cs, kw⟩ s' ⟨hkw, α', st, S', r⟩
    dsimp only at hkw r ⊢
    subst hkw
    exact EPost.step st (ho vs H₁ v H' e2 A s' α' cs Rm S' r)
  rcases hc with ⟨id, rfl⟩ | ⟨T, rfl⟩ | ⟨a, o, fd, rfl, hb, hd⟩
  · exact Calls.callWith_builtin hplain (wpAny_mono (args _) fin fun _ _ h => h)
  · exact PySem.callWith_type hplain (wpAny_mono (args _) fin fun _ _ h => h)
  · refine Calls.callWith_function (o := o) (fd := fd) (wpAny_mono (args _) (fun a' s' h => ?_) fun _ _ h => h)
    obtain ⟨_, α', st, S', _⟩ := id h
    exact ⟨⟨S'.base _ _ hb, hd⟩, fin a' s' h⟩

/-! ## built-in functions -/
noncomputable def bOrd : List V → Hp → Option (V × Hp)
  | [.str x], H => if x.length = 1 then some (.int (x.cps.getD 0 0 : Nat), H) else none
  | _, _ => none
theorem bOrd_ok : CallOk prog w B k (.builtin "ord") bOrd := by
  intro vs H v H' e A s α cs Rm S r
  unfold bOrd at e
  split at e
  · rename_i x
    split at e
    · rename_i h1
      cases e
      obtain ⟨_, rfl, r₁⟩ := Paired.one r
      first | (obtain ⟨_, rfl⟩ := r₁.int_inv) | (obtain ⟨_, rfl⟩ := r₁.str_inv)
      exact ord_of_one h1 (.tok S (.int _ _))
    · cases e
  · cases e
noncomputable def bChr : List V → Hp → Option (V × Hp)
  | [.int i], H => if 0 ≤ i ∧ i ≤ 1114111 then some (.str ⟨#[i.toNat]⟩, H) else none
  | _, _ => none
theorem bChr_ok : CallOk prog w B k (.builtin "chr") bChr := by
  intro vs H v H' e A s α cs Rm S r
  unfold bChr at e
  split at e
  · split at e
    · rename_i h1
      cases e
      obtain ⟨_, rfl, r₁⟩ := Paired.one r
      first | (obtain ⟨_, rfl⟩ := r₁.int_inv) | (obtain ⟨_, rfl⟩ := r₁.str_inv)
      exact chr_of_range h1.1 h1.2 (.tok S (.str _ _))
    · cases e
  · cases e
noncomputable def bLen : List V → Hp → Option (V × Hp)
  | [.str x], H => if x.length < 1000000000 then some (.int x.length, H) else none
  | [.ref a], H => match H[a]? with
    | some (.list xs) => if xs.length < 1000000000 then some (.int xs.length, H) else none
    | _ => none
  | _, _ => none
theorem bLen_ok : CallOk prog w B k (.builtin "len") bLen := by
  intro vs H v H' e A s α cs Rm S r
  unfold bLen at e
  split at e
  · split at e
    · rename_i h1
      cases e
      obtain ⟨_, rfl, r₁⟩ := Paired.one r
      first | (obtain ⟨_, rfl⟩ := r₁.int_inv) | (obtain ⟨_, rfl⟩ := r₁.str_inv)
      exact P.len_str (by omega) (.tok S (.int _ _))
    · cases e
  · split at e
    · rename_i xs hx
      split at e
      · rename_i h1
        cases e
        obtain ⟨_, rfl, r₁⟩ := Paired.one r
        obtain ⟨_, rfl, ha⟩ := r₁.ref_inv
        obtain ⟨us, hp, hv⟩ := S.list ha hx
        refine Calls.call_len_list hp.isList (by rw [Paired.size hv]; omega) ?_
        rw [Paired.size hv]
        exact .tok S (.int _ _)
      · cases e
    · cases e
  · cases e
end
end Mine
end

/-! part M7 -/
section
set_option maxRecDepth 10000
set_option linter.unusedVariables false
open PySem PyProof.Rows
namespace Mine
section
variable {prog : Program} {w : World} {B : Heap} {k : Nat} {sc : Scope} {vm : List Str}

theorem Paired.of_get {α β : Type} {F : α → β → Prop} : ∀ {l₁ : List α} {l₂ : List β}, l₁.length = l₂.length → (∀ (i : Nat) a b, l₁[i]? = some a → l₂[i]? = some b → F a b) → Paired F l₁ l₂
  | [], [], _, _ => .nil
  | a :: l₁, b :: l₂, h, hf => .cons (hf 0 a b rfl rfl) (Paired.of_get (by simpa using h) fun i a b h1 h2 => hf (i + 1) a b (by simpa using h1) (by simpa using h2))
  | [], _ :: _, h, _ => by simp at h
  | _ :: _, [], h, _ => by simp at h

/-- a new object -/
theorem new_obj {α : List Addr} {s : Shared} {H : Hp} {ob : Obj} {o : O} {tk : Nat} (S : SR B α H s.heap) (hf : ob.isFreed = false)
    (ho : OR (s.heap.push ob) (α ++ [s.heap.objs.size]) s.heap.objs.size o) : EPost B α s (H ++ [o]) (.ref H.length) (.ref s.heap.objs.size) { s with heap := s.heap.push ob, toks := tk } := by
  have e := Heap.get?_push_size s.heap hf
  have S₂ : SR B (α ++ [s.heap.objs.size]) (H ++ [o]) (s.heap.push ob) := S.push (fun b o h => Heap.get?_push_of_some _ h) (fresh_size _) (by rw [e]; rfl) ho
  refine ⟨α ++ [s.heap.objs.size], ⟨⟨_, rfl, fun a ha => by rw [List.mem_singleton.mp ha]; exact fresh_size _⟩, fun b o h _ _ => Heap.get?_push_of_some _ h, rfl, GX.refl _⟩, S₂, .ref ?_⟩
  rw [← S.len]; simp
/-- a new object, told by what the heap holds -/
theorem new_at {α : List Addr} {s : Shared} {H : Hp} {o : O} {tk : Nat} {h' : Heap} {a : Addr} (S : SR B α H s.heap) (hk : ∀ b o, s.heap.get? b = some o → h'.get? b = some o) (ha : s.heap.get? a = none)
    (hl : (h'.get? a).isSome = true) (ho : OR h' (α ++ [a]) a o) : EPost B α s (H ++ [o]) (.ref H.length) (.ref a) { s with heap := h', toks := tk } := by
  have S₂ : SR B (α ++ [a]) (H ++ [o]) h' := S.push hk ha hl ho
  refine ⟨α ++ [a], ⟨⟨_, rfl, fun b hb => by rw [List.mem_singleton.mp hb]; exact ha⟩, fun b o h _ _ => hk b o h, rfl, GX.refl _⟩, S₂, .ref ?_⟩
  rw [← S.len]; simp

/-! ## ranges -/
noncomputable def bRange : List V → Hp → Option (V × Hp)
  | [.int n], H => some (.ref H.length, H ++ [.range 0 n 1])
  | [.int a, .int b], H => some (.ref H.length, H ++ [.range a b 1])
  | [.int a, .int b, .int c], H => if c = 0 ∨ 1000000 ≤ c.natAbs then none else some (.ref H.length, H ++ [.range a b c])
  | _, _ => none
theorem bRange_ok : CallOk prog w B k (.type "range") bRange := by
  intro vs H v H' e A s α cs Rm S r
  unfold bRange at e
  split at e
  · cases e
    obtain ⟨_, rfl, r₁⟩ := Paired.one r
    first | (obtain ⟨_, rfl⟩ := r₁.int_inv) | (obtain ⟨_, rfl⟩ := r₁.str_inv)
    exact call_range_1 (new_obj S rfl ⟨_, _, _, Heap.get?_push_size _ rfl⟩)
  · cases e
    obtain ⟨_, _, rfl, r₁, q₁⟩ := Paired.two r
    first | (obtain ⟨_, rfl⟩ := r₁.int_inv) | (obtain ⟨_, rfl⟩ := r₁.str_inv) | (obtain rfl := r₁.typ_inv)
    first | (obtain ⟨_, rfl⟩ := q₁.int_inv) | (obtain ⟨_, rfl⟩ := q₁.str_inv) | (obtain rfl := q₁.typ_inv)
    exact call_range_2 (new_obj S rfl ⟨_, _, _, Heap.get?_push_size _ rfl⟩)
  · split at e
    · cases e
    · rename_i hc
      cases e
      obtain ⟨_, _, _, rfl, r₁, q₁, p₁⟩ := Paired.three r
      obtain ⟨_, rfl⟩ := r₁.int_inv
      obtain ⟨_, rfl⟩ := q₁.int_inv
      obtain ⟨_, rfl⟩ := p₁.int_inv
      exact call_range_3 (fun h => hc (.inl h)) (new_obj S rfl ⟨_, _, _, Heap.get?_push_size _ rfl⟩) (.inl (noPylong (by omega)))
  · cases e

noncomputable def rangeN (a b c : Int) : Nat := (Builtin.Range.rangeSize a b c).toNat
noncomputable def rangeL (a b c : Int) : List V := (List.range (rangeN a b c)).map fun (i : Nat) => V.int (a + (i : Int) * c)
noncomputable def smallR (a b c : Int) : Bool := decide (a.natAbs < 1000000) && decide (b.natAbs < 1000000) && decide (0 < c) && decide (c < 1000000)
theorem rangeSize_le {a b c : Int} (h : smallR a b c = true) : 0 ≤ Builtin.Range.rangeSize a b c ∧ Builtin.Range.rangeSize a b c ≤ 2000000 := by
  simp only [smallR, Bool.and_eq_true, decide_eq_true_eq] at h
  obtain ⟨⟨⟨h1, h2⟩, h3⟩, h4⟩ := h
  unfold Builtin.Range.rangeSize
  rw [if_pos h3]
  split
  · have h5 : 0 ≤ (b - a - 1) / c := Int.ediv_nonneg (by omega) (by omega)
    have h6 : (b - a - 1) / c ≤ b - a - 1 := Int.ediv_le_self _ (by omega)
    omega
  · omega
theorem small_ok {a b c : Int} (h : smallR a b c = true) : Builtin.Range.small a b c = true := by
  have hs := rangeSize_le h
  simp only [smallR, Bool.and_eq_true, decide_eq_true_eq] at h
  obtain ⟨⟨⟨h1, h2⟩, h3⟩, h4⟩ := h
  unfold Builtin.Range.small Builtin.Range.rangeFitsLong
  generalize Builtin.Range.rangeSize a b c = n at hs
  simp only [Bool.and_eq_true, Bool.or_eq_true, decide_eq_true_eq, beq_iff_eq]
  refine ⟨⟨⟨⟨⟨by omega, by omega⟩, ⟨by omega, by omega⟩⟩, ⟨by omega, by omega⟩⟩, ⟨by omega, by omega⟩⟩, .inr ?_⟩
  rw [if_pos h3]
  simp only [Bool.and_eq_true, decide_eq_true_eq]
  exact ⟨by omega, by omega⟩
theorem rangeN_eq {a b c : Int} (h : smallR a b c = true) : Builtin.Range.rangeSize a b c = (rangeN a b c : Int) := by
  unfold rangeN; have := (rangeSize_le h).1; omega

/-- list(..) of a range, or of an iterator that is at its end -/
noncomputable def bList : List V → Hp → Option (V × Hp)
  | [.ref a], H => match H[a]? with
    | some (.range x y z) => if smallR x y z then some (.ref H.length, H ++ [.list (rangeL x y z)]) else none
    | some (.iter l i) => match H[l]? with
      | some (.list xs) => if xs.length = i then some (.ref H.length, H.set a .dead ++ [.list []]) else none
      | _ => none
    | _ => none
  | _, _ => none

theorem items_paired {α : List Addr} {a c : Int} {n : Nat} {acc : Array Value} (h : ItemsOf (fun i v => ∃ t, v = .int (a + i * c) t) acc n) :
    Paired (VR α) ((List.range n).map fun (i : Nat) => V.int (a + (i : Int) * c)) acc.toList := by
  refine Paired.of_get (by simp [h.1]) fun i x y h1 h2 => ?_
  obtain ⟨t, rfl⟩ := h.2 i y (by simpa using h2)
  simp only [List.getElem?_map, Option.map_eq_some_iff] at h1
  obtain ⟨j, hj, rfl⟩ := h1
  have : j = i := by
    have := List.getElem?_eq_some_iff.mp hj
    obtain ⟨_, e⟩ := this
    simpa using e.symm
  subst this
  exact .int _ _

/-! ## the least -/
noncomputable def intsOf : List V → Option (List Int)
  | [] => some []
  | .int i :: r => (intsOf r).map (i :: ·)
  | _ => none
noncomputable def minL : List Int → Option Int
  | [] => none
  | x :: xs => some (xs.foldl (fun m y => if y < m then y else m) x)
theorem ints_items {α : List Addr} : ∀ {xs : List V} {vs : List Value} {ns : List Int}, intsOf xs = some ns → Paired (VR α) xs vs → ∃ ts : List (Int × Tok), vs = ts.map (fun p => Value.int p.1 p.2) ∧ ts.map (·.1) = ns
  | [], _, _, h, .nil => by cases h; exact ⟨[], rfl, rfl⟩
  | .int i :: r, _, ns, h, .cons x t => by
    obtain ⟨ms, h1, h2⟩ := Option.map_eq_some_iff.mp h
    cases x with
    | int _ tk =>
      obtain ⟨ts, e1, e2⟩ := ints_items h1 t
      exact ⟨(i, tk) :: ts, by rw [e1]; rfl, by rw [← h2, ← e2]; rfl⟩
  | .none :: _, _, _, h, _ => by cases h
  | .bool _ :: _, _, _, h, _ => by cases h
  | .str _ :: _, _, _, h, _ => by cases h
  | .ref _ :: _, _, _, h, _ => by cases h
  | .typ _ :: _, _, _, h, _ => by cases h
  | .base _ :: _, _, _, h, _ => by cases h
theorem argBest_lt (f : Nat → Int) : ∀ n, argBest (fun i j => decide (f i < f j)) n ≤ n
  | 0 => Nat.le_refl _
  | n + 1 => by
    unfold argBest
    split
    · exact Nat.le_refl _
    · exact Nat.le_succ_of_le (argBest_lt f n)
theorem argBest_min (f : Nat → Int) : ∀ n, f (argBest (fun i j => decide (f i < f j)) n) = ((List.range n).map fun i => f (i + 1)).foldl (fun m y => if y < m then y else m) (f 0)
  | 0 => rfl
  | n + 1 => by
    rw [List.range_succ, List.map_append, List.foldl_append, ← argBest_min f n]
    simp only [argBest, List.map_cons, List.map_nil, List.foldl_cons, List.foldl_nil, decide_eq_true_eq]
    split <;> rfl
theorem minL_get (ts : List (Int × Tok)) (hne : 0 < ts.length) : ∃ t, (ts.map fun p => Value.int p.1 p.2)[argBest (fun i j => decide (numAt ts.toArray i < numAt ts.toArray j)) (ts.length - 1)]? = some (.int ((ts.map (·.1)).tail.foldl (fun m y => if y < m then y else m) ((ts.map (·.1)).headD 0)) t) := by
  have hlt := argBest_lt (numAt ts.toArray) (ts.length - 1)
  have hmin := argBest_min (numAt ts.toArray) (ts.length - 1)
  generalize argBest (fun i j => decide (numAt ts.toArray i < numAt ts.toArray j)) (ts.length - 1) = q at hlt hmin
  have hq : q < ts.length := by omega
  have hn : ∀ i, (hi : i < ts.length) → numAt ts.toArray i = (ts[i]).1 := fun i hi => by simp [numAt, hi]
  refine ⟨(ts[q]).2, ?_⟩
  rw [List.getElem?_map, List.getElem?_eq_getElem hq]
  simp only [Option.map_some]
  rw [← hn q hq, hmin]
  congr 3
  · cases ts with
    | nil => simp at hne
    | cons x xs => simp [numAt]
  · cases ts with
    | nil => simp at hne
    | cons x xs =>
      apply List.ext_getElem?
      intro i
      simp only [List.map_cons, List.tail_cons, List.length_cons, Nat.add_sub_cancel, List.getElem?_map]
      by_cases hi : i < xs.length
      · rw [List.getElem?_eq_getElem (by simpa using hi), List.getElem?_eq_getElem hi]
        simp only [List.getElem_range, Option.map_some]
        rw [hn (i + 1) (by simp; omega)]
        simp
      · rw [List.getElem?_eq_none (by simp; omega), List.getElem?_eq_none (by omega)]; rfl

noncomputable def bMin : List V → Hp → Option (V × Hp)
  | [.int a, .int b], H => some (.int (if b < a then b else a), H)
  | [.ref a], H => match H[a]? with
    | some (.list xs) => (intsOf xs).bind fun ns => (minL ns).map fun m => (.int m, H)
    | _ => none
  | _, _ => none
theorem bMin_ok : CallOk prog w B k (.builtin "min") bMin := by
  intro vs H v H' e A s α cs Rm S r
  unfold bMin at e
  split at e
  · cases e
    obtain ⟨_, _, rfl, r₁, q₁⟩ := Paired.two r
    first | (obtain ⟨_, rfl⟩ := r₁.int_inv) | (obtain ⟨_, rfl⟩ := r₁.str_inv) | (obtain rfl := r₁.typ_inv)
    first | (obtain ⟨_, rfl⟩ := q₁.int_inv) | (obtain ⟨_, rfl⟩ := q₁.str_inv) | (obtain rfl := q₁.typ_inv)
    refine min_two_ints Rm.1 fun h' tk hk => ?_
    split
    · exact .kept S hk (.int _ _)
    · exact .kept S hk (.int _ _)
  · split at e
    · rename_i xs hx
      obtain ⟨ns, h1, h2⟩ := Option.bind_eq_some_iff.mp e
      obtain ⟨m, h3, h4⟩ := Option.map_eq_some_iff.mp h2
      cases h4
      obtain ⟨_, rfl, r₁⟩ := Paired.one r
      obtain ⟨aa, rfl, ha⟩ := r₁.ref_inv
      obtain ⟨us, hp, hv⟩ := S.list ha hx
      obtain ⟨ts, e1, e2⟩ := ints_items h1 hv
      have hl : s.heap.IsList aa (intItems ts.toArray) := by
        have := hp.isList
        rw [e1] at this
        simpa [intItems] using this
      have hne : 0 < ts.length := by
        cases ts with
        | nil => subst e2; cases h3
        | cons => simp
      refine min_intList Rm.1 hl (by simpa using hne) fun v h' tk hq hk => ?_
      obtain ⟨t, ht⟩ := minL_get ts hne
      have hv' : v = .int m t := by
        have e3 : (intItems ts.toArray)[argBest (fun i j => decide (numAt ts.toArray i < numAt ts.toArray j)) (ts.toArray.size - 1)]? = some (Value.int m t) := by
          have hm : m = (ts.map (·.1)).tail.foldl (fun m y => if y < m then y else m) ((ts.map (·.1)).headD 0) := by
            rw [e2]
            cases ns with
            | nil => cases h3
            | cons x xs => cases h3; rfl
          rw [hm]
          simpa [intItems] using ht
        rw [e3] at hq
        exact (Option.some.inj hq).symm
      subst hv'
      exact .kept S hk (.int _ _)
    · cases e
  · cases e

noncomputable def bIsInst : List V → Hp → Option (V × Hp)
  | [.int _, .typ "bool"], H => some (.bool false, H)
  | _, _ => none
theorem bIsInst_ok : CallOk prog w B k (.builtin "isinstance") bIsInst := by
  intro vs H v H' e A s α cs Rm S r
  unfold bIsInst at e
  split at e
  · cases e
    obtain ⟨_, _, rfl, r₁, q₁⟩ := Paired.two r
    first | (obtain ⟨_, rfl⟩ := r₁.int_inv) | (obtain ⟨_, rfl⟩ := r₁.str_inv) | (obtain rfl := r₁.typ_inv)
    first | (obtain ⟨_, rfl⟩ := q₁.int_inv) | (obtain ⟨_, rfl⟩ := q₁.str_inv) | (obtain rfl := q₁.typ_inv)
    exact IsiPair.int_bool (.tok S (.bool _))
  · cases e
end
end Mine
end

/-! part M8 -/
section
set_option maxRecDepth 10000
set_option linter.unusedVariables false
open PySem PyProof.Rows
namespace Mine
section
variable {prog : Program} {w : World} {B : Heap} {k : Nat} {sc : Scope} {vm : List Str}

/-- an iterator at its end, and still there -/
theorem next_end {A : Around} {s : Shared} {E : Value → Shared → Prop} {it l : Addr} {i : Nat} {items : Array Value} {Q : Option Value → Shared → Prop} (hh : A.handled = none)
    (hit : s.heap.IsListIter it l i) (hl : s.heap.IsList l items) (hx : items[i]? = none)
    (hQ : ∀ h', Heap.ExtBut it s.heap h' → (h'.get? it).isSome = true → Q none { s with heap := h' }) : wpAny (model prog w) A (pyNext (.ref it)) Q E s := by
  obtain ⟨o, ho, hc, hd⟩ := id hit
  obtain ⟨ol, hol, _, nl, hdl⟩ := hl
  unfold pyNext
  refine wpAny_bind (wpAny_attempt (wpAny_callSpecial?_slot (name := Str.ofString "__next__") hit.typeIs slot_listiter_next
    (wpAny_call_entry slot_listiter_next hit.typeIs entry_listiter_next ?_ (args_listiter_next _))))
  show wpAny _ _ (field (.ref it) 0 >>= _) _ _ s
  refine wpAny_bind (wpAny_field ho hd (x := .ref l) rfl ?_)
  show wpAny _ _ (if (Value.ref l == Value.none) = true then _ else _) _ _ s
  rw [if_neg (show ¬ ((Value.ref l == Value.none) = true) from Bool.false_ne_true)]
  show wpAny _ _ (field (.ref it) 1 >>= _) _ _ s
  refine wpAny_bind (wpAny_field ho hd (x := .int i 0) rfl ?_)
  show wpAny _ _ (seqItems? (.ref l) >>= _) _ _ s
  refine wpAny_bind (wpAny_seqItems hol hdl ?_)
  simp only [Int.toNat_natCast, hx]
  refine wpAny_bind (wpAny_rule (wpAny_bind (wpAny_setField ho hd (by simp) ?_)))
  show wpAny _ _ (newExc (.type "StopIteration") [] >>= _) _ _ _
  refine wpAny_bind ?_
  simp only [newExc, newTuple]
  refine wpAny_bind (wpAny_newObj_type ?_ (by size_fits))
  refine wpAny_bind (m := firstArgMember _ _) (wpAny_of_eq (a := Value.none) (by first | rfl | (simp only [firstArgMember]; rfl)) ?_)
  refine wpAny_newObj_type ?_ (by size_fits)
  simp only [raiseNew]
  refine wpAny_bind (wpAny_handled ?_)
  rw [show A.in1.handled = none from hh]
  refine wpAny_bind (wpAny_pure (wpAny_throw ?_))
  refine wpAny_bind (wpAny_isInstance (T := "StopIteration") (b := true) ⟨_, Heap.get?_push_size _ rfl, rfl⟩ isSubtype_stop ?_)
  have e := Heap.get?_update_self (fun o => o.mapFields (·.setIfInBounds 0 Value.none)) ho (Obj.isFreed_of_fields (Obj.data_mapFields hd _))
  exact wpAny_pure (hQ _ (((Heap.SameBut.update ..).extBut.push _).push _) (Option.isSome_iff_exists.mpr ⟨_, Heap.get?_push_of_some _ (Heap.get?_push_of_some _ e)⟩))

theorem list_iter_end {A : Around} {s : Shared} {E : Value → Shared → Prop} {it l : Addr} {i : Nat} {items : Array Value} {Q : Value → Shared → Prop} (hh : A.handled = none)
    (hit : s.heap.IsListIter it l i) (hl : s.heap.IsList l items) (hx : items[i]? = none)
    (hQ : ∀ h' tk, Heap.ExtBut it s.heap h' → (h'.get? it).isSome = true → h'.PlainList s.heap.objs.size #[] → Q (.ref s.heap.objs.size) { s with heap := h', toks := tk }) :
    wpAny (model prog w) A (call (.type "list") [.ref it]) Q E s := by
  refine callType_codes (Q₁ := fun obj s₁ => obj = .ref s.heap.objs.size ∧ s₁ = { s with heap := s.heap.push { cls := .type "list", data := .seq #[] } }) F.called_list (F.typeCall_list_1 _) F.entry_list_init
    (code_list_new _ ⟨rfl, rfl⟩) fun obj s₁ h₁ => ?_
  obtain ⟨rfl, rfl⟩ := h₁
  have hS : (s.heap.push { cls := .type "list", data := .seq #[] }).get? s.heap.objs.size = some { cls := .type "list", data := .seq #[] } := Heap.get?_push_size _ rfl
  refine ⟨⟨_, hS, rfl⟩, F.args_list_init_2 _ _, ?_⟩
  have hne : s.heap.objs.size ≠ it := fun e => by
    obtain ⟨o, ho, _⟩ := hit
    exact Nat.lt_irrefl _ (e ▸ Heap.lt_size ho)
  have hneL : s.heap.objs.size ≠ l := fun e => by
    obtain ⟨o, ho, _⟩ := hl
    exact Nat.lt_irrefl _ (e ▸ Heap.lt_size ho)
  show wpAny _ _ (do let old ← Builtin.List.listItems (.ref s.heap.objs.size); Builtin.List.listUpdate (.ref s.heap.objs.size) (fun _ => #[]); letGo old.toList.reverse; Builtin.List.listExtendWith (.ref s.heap.objs.size) (.ref it) .none) _ _ _
  refine wpAny_bind ?_
  unfold Builtin.List.listItems
  refine wpAny_bind (wpAny_seqItems hS rfl (wpAny_pure ?_))
  show wpAny _ _ (updateSeq s.heap.objs.size (fun _ => #[]) >>= fun _ => letGo (#[] : Array Value).toList.reverse >>= fun _ => Builtin.List.listExtendWith (.ref s.heap.objs.size) (.ref it) .none) _ _ _
  refine wpAny_bind (wpAny_updateSeq hS rfl ?_)
  have hS₂ := Heap.get?_update_self (Obj.mapSeq (fun _ => (#[] : Array Value))) hS rfl
  have oth : ∀ b o, s.heap.get? b = some o → ((s.heap.push { cls := .type "list", data := .seq #[] }).update s.heap.objs.size (Obj.mapSeq (fun _ => (#[] : Array Value)))).get? b = some o :=
    fun b o e => (Heap.get?_update_other _ _ (fun e' => Nat.lt_irrefl _ (e' ▸ Heap.lt_size e))).trans (Heap.get?_push_of_some _ e)
  refine wpAny_bind (wpAny_letGo ?_)
  generalize hH : (s.heap.push { cls := .type "list", data := .seq #[] }).update s.heap.objs.size (Obj.mapSeq (fun _ => (#[] : Array Value))) = H₂ at hS₂ oth ⊢
  have hit₂ : H₂.IsListIter it l i := by obtain ⟨o, ho, r⟩ := hit; exact ⟨o, oth _ _ ho, r⟩
  have hl₂ : H₂.IsList l items := by obtain ⟨o, ho, r⟩ := hl; exact ⟨o, oth _ _ ho, r⟩
  have hT : ({ s with heap := H₂ } : Shared).TypeIs (.ref it) "list_iterator" := Heap.IsListIter.typeIs (s := { s with heap := H₂ }) hit₂
  have h1 : Builtin.List.listSameRef (.ref s.heap.objs.size) (.ref it) = false := by simp [Builtin.List.listSameRef, hne]
  unfold Builtin.List.listExtendWith
  refine wpAny_bind (wpAny_typeOf hT ?_)
  rw [if_neg (by rw [h1]; decide)]
  refine wpAny_bind (wpAny_pyIter_listiter (s := { s with heap := H₂ }) hit₂ ?_)
  refine wpAny_bind (wpAny_holding ?_)
  unfold Builtin.List.listLengthHint
  refine wpAny_bind (wpAny_specialOf hT F.nolen_li ?_)
  show wpAny _ A.in1.in1 (specialOf (Value.ref it) (Str.ofString "__length_hint__") >>= _) _ _ _
  refine wpAny_bind (wpAny_specialOf hT F.hint_li ?_)
  generalize hid : ("list_iterator.__length_hint__" : String) = id0
  wp_delta
  rw [show splitId id0 = some ("list_iterator", "__length_hint__") from by subst hid; decide +kernel]
  subst hid
  refine wpAny_bind (wpAny_isInstance (b := true) hT (by rw [isSubtype_type]; kernel_rfl) ?_)
  refine wpAny_pure ?_
  rw [if_neg (by decide)]
  refine wpAny_pure ⟨plainId_quiet F.plain_extend_loop _, codeAny_builtin F.entry_extend_loop ?_⟩
  rw [Around.under_plainId F.plain_extend_loop _]
  show wpAny _ _ (pyNext (.ref it) >>= _) _ _ _
  refine wpAny_bind (next_end (s := { s with heap := H₂ }) (by exact hh) hit₂ hl₂ hx fun h' hx' hlv => ?_)
  refine wpAny_pure ⟨rfl, hQ h' _ (fun b o hb e => hx' b o hb (oth b o e)) hlv ⟨_, hx' _ _ hne hS₂⟩⟩

theorem bList_ok : CallOk prog w B k (.type "list") bList := by
  intro vs H v H' e A s α cs Rm S r
  unfold bList at e
  split at e
  · rename_i a
    obtain ⟨_, rfl, r₁⟩ := Paired.one r
    obtain ⟨aa, rfl, ha⟩ := r₁.ref_inv
    split at e
    · rename_i x y z hx
      split at e
      · rename_i hs
        cases e
        obtain ⟨t, u, v, hr⟩ := S.obj _ _ _ ha hx
        refine call_list_range Rm.1 hr (small_ok hs) (rangeN_eq hs) ?_ fun h' tk acc' c' hk hl hi => ?_
        · have := (rangeSize_le hs).2
          have := rangeN_eq hs
          omega
        · exact new_at S hk (fresh_size _) (by rw [hl]; rfl) ⟨acc'.toList, ⟨c', by simpa using hl⟩, items_paired hi⟩
      · cases e
    · rename_i l i hx
      split at e
      · rename_i xs hl
        split at e
        · rename_i hn
          cases e
          obtain ⟨al, hal, hit⟩ := S.obj _ _ _ ha hx
          obtain ⟨us, hp, hv⟩ := S.list hal hl
          have hnone : us.toArray[i]? = none := by
            rw [List.getElem?_toArray]
            exact List.getElem?_eq_none (by rw [← hv.length]; omega)
          refine list_iter_end Rm.1 hit hp.isList hnone fun h' tk hx' hlv hnew => ?_
          have hne : s.heap.objs.size ≠ aa := fun e => by
            obtain ⟨o, ho, _⟩ := hit
            exact Nat.lt_irrefl _ (e ▸ Heap.lt_size ho)
          have S₁ : SR B α (H.set a .dead) h' := S.put ha hx' hlv trivial
          have hαm : aa ∈ α := List.mem_of_getElem? ha
          have S₂ : SR B (α ++ [s.heap.objs.size]) (H.set a .dead ++ [.list []]) h' := by
            refine ⟨S₁.base, by simp [S₁.len], ?_, fun i b q e1 e2 => ?_, fun b hb => ?_, fun b hb => ?_⟩
            · exact List.nodup_append.mpr ⟨S.nd, by simp, fun u hu v hv => by
                rw [List.mem_singleton.mp hv]
                rintro rfl
                have := S.live _ hu
                rw [fresh_size] at this; cases this⟩
            · rcases Nat.lt_trichotomy i α.length with h1 | h1 | h1
              · rw [List.getElem?_append_left h1] at e1
                rw [List.getElem?_append_left (by rw [← S₁.len]; exact h1)] at e2
                exact (S₁.obj i b q e1 e2).more
              · have e3 : (H.set a O.dead).length = i := by rw [← S₁.len, h1]
                subst h1
                simp at e1
                rw [List.getElem?_append_right (by omega), e3] at e2
                simp at e2
                subst e1 e2
                exact ⟨[], hnew, .nil⟩
              · rw [List.getElem?_eq_none (by simp; omega)] at e1; cases e1
            · rcases List.mem_append.mp hb with hb | hb
              · exact S.new b hb
              · rw [List.mem_singleton.mp hb]
                cases e : B.get? s.heap.objs.size with
                | none => rfl
                | some o => have := S.base _ _ e; rw [fresh_size] at this; cases this
            · rcases List.mem_append.mp hb with hb | hb
              · exact S₁.live b hb
              · obtain ⟨n, e⟩ := hnew
                rw [List.mem_singleton.mp hb, e]; rfl
          refine ⟨α ++ [s.heap.objs.size], ⟨⟨_, rfl, fun b hb => by rw [List.mem_singleton.mp hb]; exact fresh_size _⟩, fun b o h h1 _ => hx' b o (fun e => h1 (e ▸ hαm)) h, rfl, GX.refl _⟩, S₂, .ref ?_⟩
          rw [← S.len]; simp
        · cases e
      · cases e
    · cases e
  · cases e
end
end Mine
end

/-! part M9 -/
section
set_option maxRecDepth 10000
set_option linter.unusedVariables false
open PySem PyProof.Rows
namespace Mine
section
variable {prog : Program} {w : World} {B : Heap} {k : Nat} {sc : Scope} {vm : List Str}

/-! ## empty lists -/
noncomputable def cEqL : V → V → Hp → Option (V × Hp)
  | .ref a, .ref b, H => match H[a]?, H[b]? with
    | some (.list []), some (.list []) => some (.bool true, H)
    | _, _ => none
  | _, _, _ => none
noncomputable def cNeL : V → V → Hp → Option (V × Hp)
  | .ref a, .ref b, H => match H[a]?, H[b]? with
    | some (.list []), some (.list []) => some (.bool false, H)
    | _, _ => none
  | _, _, _ => none
theorem cEqL_ok : OpOk prog w B k (compareOp .Eq) cEqL := by
  intro a b H v H' e A s α ca cb Rm S ra rb
  unfold cEqL at e
  split at e
  · split at e
    · rename_i h1 h2
      first | (obtain ⟨rfl, rfl⟩ := pair_some e) | cases e
      obtain ⟨_, rfl, ha⟩ := ra.ref_inv
      obtain ⟨_, rfl, hb⟩ := rb.ref_inv
      obtain ⟨us, hp, hv⟩ := S.list ha h1
      obtain ⟨vs, hq, hw⟩ := S.list hb h2
      cases hv
      cases hw
      exact SeqAt.RcAt.lists (e := fun _ => true) hp.isList hq.isList rfl Rm.units (fun j h => by simp at h) prog w _ _ (.same S (.bool _))
    · first | (obtain ⟨rfl, rfl⟩ := pair_some e) | cases e
  · first | (obtain ⟨rfl, rfl⟩ := pair_some e) | cases e
theorem cNeL_ok : OpOk prog w B k (compareOp .NotEq) cNeL := by
  intro a b H v H' e A s α ca cb Rm S ra rb
  unfold cNeL at e
  split at e
  · split at e
    · rename_i h1 h2
      first | (obtain ⟨rfl, rfl⟩ := pair_some e) | cases e
      obtain ⟨_, rfl, ha⟩ := ra.ref_inv
      obtain ⟨_, rfl, hb⟩ := rb.ref_inv
      obtain ⟨us, hp, hv⟩ := S.list ha h1
      obtain ⟨vs, hq, hw⟩ := S.list hb h2
      cases hv
      cases hw
      exact SeqAt.RcNeAt.lists (e := fun _ => true) hp.isList hq.isList rfl Rm.units (fun j h => by simp at h) prog w _ _ (.same S (.bool _))
    · first | (obtain ⟨rfl, rfl⟩ := pair_some e) | cases e
  · first | (obtain ⟨rfl, rfl⟩ := pair_some e) | cases e

/-! ## iter, next -/
theorem entry_iter : entryFor table "iter" = some Builtin.«iter» := entryFor_of_fast (by kernel_rfl)
theorem entry_next : entryFor table "next" = some Builtin.«next» := entryFor_of_fast (by kernel_rfl)
theorem args_iter (a : Value) : argsOk "iter" ⟨[a], []⟩ := by unfold argsOk; kernel_rfl
theorem args_next (a : Value) : argsOk "next" ⟨[a], []⟩ := by unfold argsOk; kernel_rfl

noncomputable def bIter : List V → Hp → Option (V × Hp)
  | [.ref a], H => match H[a]? with
    | some (.list _) => some (.ref H.length, H ++ [.iter a 0])
    | _ => none
  | _, _ => none
theorem VR.at {α : List Addr} {kk : Nat} {a : Addr} (r : VR α (.ref kk) (.ref a)) : α[kk]? = some a := by cases r; assumption
theorem bIter_ok : CallOk prog w B k (.builtin "iter") bIter := by
  intro vs H v H' e A s α cs Rm S r
  unfold bIter at e
  split at e
  · rename_i a
    split at e
    · rename_i xs hx
      first | (obtain ⟨rfl, rfl⟩ := pair_some e) | cases e
      obtain ⟨_, rfl, r₁⟩ := Paired.one r
      obtain ⟨aa, rfl, ha⟩ := r₁.ref_inv
      obtain ⟨us, hp, hv⟩ := S.list ha hx
      refine Calls.call_function_entry (by decide +kernel) (by decide +kernel) entry_iter (args_iter _) ?_
      unfold Builtin.«iter»
      refine wpAny_bind (m := someArgs "iter" 1 2 _) (wpAny_of_eq (a := [Value.ref aa]) (by first | rfl | kernel_rfl!) ?_)
      show wpAny _ _ (pyIter (.ref aa) >>= _) _ _ _
      refine wpAny_bind (wpAny_pyIter_list hp.isList ?_)
      refine wpAny_pure ⟨_, rfl, new_obj (tk := s.toks) S rfl ⟨aa, ?_, ⟨_, Heap.get?_push_size _ rfl, rfl, rfl⟩⟩⟩
      have hk : a < α.length := (List.getElem?_eq_some_iff.mp ha).1
      rw [List.getElem?_append_left hk]; exact ha
    · first | (obtain ⟨rfl, rfl⟩ := pair_some e) | cases e
  · first | (obtain ⟨rfl, rfl⟩ := pair_some e) | cases e

noncomputable def bNext : List V → Hp → Option (V × Hp)
  | [.ref a], H => match H[a]? with
    | some (.iter l i) => match H[l]? with
      | some (.list xs) => xs[i]?.map fun v => (v, H.set a (.iter l (i + 1)))
      | _ => none
    | _ => none
  | _, _ => none
theorem bNext_ok : CallOk prog w B k (.builtin "next") bNext := by
  intro vs H v H' e A s α cs Rm S r
  unfold bNext at e
  split at e
  · rename_i a
    split at e
    · rename_i l i hx
      split at e
      · rename_i xs hl
        obtain ⟨u, h1, h2⟩ := Option.map_eq_some_iff.mp e
        cases h2
        obtain ⟨_, rfl, r₁⟩ := Paired.one r
        obtain ⟨aa, rfl, ha⟩ := r₁.ref_inv
        obtain ⟨al, hal, hit⟩ := S.obj _ _ _ ha hx
        obtain ⟨us, hp, hv⟩ := S.list hal hl
        obtain ⟨c, hc, hr⟩ := Paired.get hv h1
        refine Calls.call_function_entry (by decide +kernel) (by decide +kernel) entry_next (args_next _) ?_
        unfold Builtin.«next»
        refine wpAny_bind (m := someArgs "next" 1 2 _) (wpAny_of_eq (a := [Value.ref aa]) (by first | rfl | kernel_rfl!) ?_)
        dsimp only
        refine wpAny_bind (wpAny_specialOf (name := Str.ofString "__next__") hit.typeIs slot_listiter_next.lookup ?_)
        refine wpAny_ite_split (fun hab => absurd hab (by decide)) (fun _ => ?_)
        obtain ⟨o, ho, hcl, hd⟩ := id hit
        obtain ⟨nl, hol⟩ := hp
        have hca : us.toArray[i]? = some c := by simpa using hc
        refine wpAny_bind (wpAny_callSpecial?_slot (name := Str.ofString "__next__") hit.typeIs slot_listiter_next
          (wpAny_call_entry slot_listiter_next hit.typeIs entry_listiter_next ?_ (args_listiter_next _)))
        show wpAny _ _ (field (.ref aa) 0 >>= _) _ _ s
        refine wpAny_bind (wpAny_field ho hd (x := .ref al) rfl ?_)
        show wpAny _ _ (if (Value.ref al == Value.none) = true then _ else _) _ _ s
        rw [if_neg (show ¬ ((Value.ref al == Value.none) = true) from Bool.false_ne_true)]
        show wpAny _ _ (field (.ref aa) 1 >>= _) _ _ s
        refine wpAny_bind (wpAny_field ho hd (x := .int i 0) rfl ?_)
        show wpAny _ _ (seqItems? (.ref al) >>= _) _ _ s
        refine wpAny_bind (wpAny_seqItems hol rfl ?_)
        simp only [Int.toNat_natCast, hca]
        refine wpAny_bind (wpAny_setField ho hd (by simp) (wpAny_pure ⟨c, rfl, wpAny_pure ⟨_, rfl, ?_⟩⟩))
        have e1 := Heap.get?_update_self (fun o => o.mapFields (·.setIfInBounds 1 (rawInt (i + 1)))) ho (Obj.isFreed_of_fields (Obj.data_mapFields hd _))
        have S₁ := S.put (o := .iter l (i + 1)) ha (Heap.SameBut.update ..).extBut (by rw [e1]; rfl) ⟨al, hal, _, e1, (Obj.cls_mapFields ..).trans hcl, by
          rw [Obj.data_mapFields hd]; simp [rawInt]⟩
        have hαm : aa ∈ α := List.mem_of_getElem? ha
        exact ⟨α, ⟨⟨[], by simp, by simp⟩, fun b o h h1 _ => (Heap.SameBut.update ..).extBut b o (fun e => h1 (e ▸ hαm)) h, rfl, GX.refl _⟩, S₁, hr⟩
      · first | (obtain ⟨rfl, rfl⟩ := pair_some e) | cases e
    · first | (obtain ⟨rfl, rfl⟩ := pair_some e) | cases e
  · first | (obtain ⟨rfl, rfl⟩ := pair_some e) | cases e

/-! ## methods -/
noncomputable def isTy : V → Hp → String → Bool
  | .str _, _, T => T == "str"
  | .ref a, H, T => match H[a]? with
    | some (.list _) => T == "list"
    | _ => false
  | _, _, _ => false
theorem isTy_ok {v : V} {H : Hp} {T : String} {α : List Addr} {s : Shared} {c : Value} (h : isTy v H T = true) (S : SR B α H s.heap) (r : VR α v c) :
    s.TypeIs c T ∧ ∀ a, c = .ref a → ∃ ob, s.heap.get? a = some ob ∧ ob.dict = none := by
  cases r <;> simp only [isTy] at h <;> try cases h
  · rename_i x t
    have e : T = "str" := by simpa using h
    subst e
    exact ⟨typeIs_str _ x t, fun a e => nomatch e⟩
  · rename_i ka aa ha
    split at h
    · rename_i xs hx
      have e : T = "list" := by simpa using h
      subst e
      obtain ⟨us, hp, hv⟩ := S.list ha hx
      refine ⟨hp.isList.typeIs, fun a e => ?_⟩
      first | (obtain ⟨rfl, rfl⟩ := pair_some e) | cases e
      obtain ⟨n, e⟩ := hp
      exact ⟨_, e, rfl⟩
    · cases h

noncomputable def eMeth (T : String) (f : Ex) (fs : List Ex) (h : List V → Hp → Option (V × Hp)) : Ex :=
  fun ρ H => (f ρ H).bind fun p => if isTy p.1 p.2 T then (eRow fs ρ p.2).bind fun q => h (p.1 :: q.1) q.2 else none

theorem SE.meth0 {o : Expr} {name : Str} {T id : String} {f : Ex} {h : List V → Hp → Option (V × Hp)} {apos pos : Pos} (pa : PlainAttrs T) (slot : Slot T name id) (hty : typeOf (.builtin id) = pure (.type "method_descriptor"))
    (ho : CallOk prog w B k (.builtin id) h) (hf : SE prog w B k sc vm o f)
    (hbase : ∀ env, attributeBase o name env (eval o env) = eval o env := by intro _; rfl)
    (hline : (apos.endLine == pos.line) = true := by rfl) : SE prog w B k sc vm (.Call (.Attribute o name apos) [] [] pos) (eMeth T f [] h) := by
  intro ρ H v H' q A env s α O Rm R S
  obtain ⟨⟨a, H₁⟩, e1, e2⟩ := Option.bind_eq_some_iff.mp q
  dsimp only at e2
  split at e2
  · rename_i hT
    obtain ⟨⟨us, H₂⟩, e3, e4⟩ := Option.bind_eq_some_iff.mp e2
    first | (obtain ⟨rfl, rfl⟩ := pair_some e3) | cases e3
    refine wpAny_Call_method (T := T) (id := id) (hbase env) rfl hline pa slot hty (wpAny_mono (hf ρ H a H₁ e1 A env s α O Rm R S) (fun c s₁ h₁ => ?_) fun _ _ h => h)
    obtain ⟨α₁, st, S₁, r⟩ := h₁
    obtain ⟨t1, t2⟩ := isTy_ok hT S₁ r
    refine ⟨t1, t2, Calls.callWith_builtin rfl ?_⟩
    refine PySem.evalArgs_none ?_
    exact EPost.step st (ho [a] H₁ v H' e4 A s₁ α₁ [c] Rm S₁ (.cons r .nil))
  · first | (obtain ⟨rfl, rfl⟩ := pair_some e2) | cases e2

theorem SE.meth1 {o x : Expr} {name : Str} {T id : String} {f g : Ex} {h : List V → Hp → Option (V × Hp)} {apos pos : Pos} (pa : PlainAttrs T) (slot : Slot T name id) (hty : typeOf (.builtin id) = pure (.type "method_descriptor"))
    (ho : CallOk prog w B k (.builtin id) h) (hf : SE prog w B k sc vm o f) (hg : SE prog w B k sc vm x g)
    (hbase : ∀ env, attributeBase o name env (eval o env) = eval o env := by intro _; rfl)
    (hfew : ∀ env, ((backTo pos (starEach [x] env)).all (fun x => !x.1) && (backToKw pos (keywordEach [] env)).all (fun x => x.1.isSome)
      && decide ([x].length + ([] : List Keyword).length + (if ([] : List Keyword).isEmpty then 0 else 1) < 30)) = true := by intro _; rfl)
    (hst : ∀ env, starEach [x] env = [(false, eval x env)] := by intro _; rfl)
    (hline : (apos.endLine == pos.line) = true := by rfl) : SE prog w B k sc vm (.Call (.Attribute o name apos) [x] [] pos) (eMeth T f [g] h) := by
  intro ρ H v H' q A env s α O Rm R S
  obtain ⟨⟨a, H₁⟩, e1, e2⟩ := Option.bind_eq_some_iff.mp q
  dsimp only at e2
  split at e2
  · rename_i hT
    obtain ⟨⟨us, H₂⟩, e3, e4⟩ := Option.bind_eq_some_iff.mp e2
    refine wpAny_Call_method (T := T) (id := id) (hbase env) (hfew env) hline pa slot hty (wpAny_mono (hf ρ H a H₁ e1 A env s α O Rm R S) (fun c s₁ h₁ => ?_) fun _ _ h => h)
    obtain ⟨α₁, st, S₁, r⟩ := h₁
    obtain ⟨t1, t2⟩ := isTy_ok hT S₁ r
    refine ⟨t1, t2, Calls.callWith_builtin (by rw [hst]; rfl) ?_⟩
    have main := SL.cons hg SL.nil hst ρ H₁ us H₂ e3 pos A env s₁ α₁ O Rm (R.step st) S₁
    rw [hst] at main ⊢
    refine Calls.evalArgs_plain (wpAny_mono main (fun cs s' h => ?_) fun _ _ h => h)
    obtain ⟨α₂, st₂, S₂, r₂⟩ := h
    have ra : VR α₂ a c := by obtain ⟨δ, rfl, _⟩ := st₂.ext; exact r.more
    exact EPost.step (st.trans0 st₂ S₂.nd) (ho (a :: us) H₂ v H' e4 A s' α₂ (c :: cs) Rm S₂ (.cons ra r₂))
  · first | (obtain ⟨rfl, rfl⟩ := pair_some e2) | cases e2

noncomputable def mLower : List V → Hp → Option (V × Hp)
  | [.str x], H => if Builtin.Str.tooLong (Txt.lower x).length = false then some (.str (Txt.lower x), H) else none
  | _, _ => none
theorem mLower_ok : CallOk prog w B k (.builtin "str.lower") mLower := by
  intro vs H v H' e A s α cs Rm S r
  unfold mLower at e
  split at e
  · split at e
    · rename_i h1
      first | (obtain ⟨rfl, rfl⟩ := pair_some e) | cases e
      obtain ⟨_, rfl, r₁⟩ := Paired.one r
      first | (obtain ⟨_, rfl⟩ := r₁.int_inv) | (obtain ⟨_, rfl⟩ := r₁.str_inv)
      exact SC.lower h1 (.tok S (.str _ _))
    · first | (obtain ⟨rfl, rfl⟩ := pair_some e) | cases e
  · first | (obtain ⟨rfl, rfl⟩ := pair_some e) | cases e
noncomputable def mCount : List V → Hp → Option (V × Hp)
  | [.str x, .str y], H => some (.int (Txt.count x y), H)
  | _, _ => none
theorem mCount_ok : CallOk prog w B k (.builtin "str.count") mCount := by
  intro vs H v H' e A s α cs Rm S r
  unfold mCount at e
  split at e
  · first | (obtain ⟨rfl, rfl⟩ := pair_some e) | cases e
    obtain ⟨_, _, rfl, r₁, q₁⟩ := Paired.two r
    first | (obtain ⟨_, rfl⟩ := r₁.int_inv) | (obtain ⟨_, rfl⟩ := r₁.str_inv) | (obtain rfl := r₁.typ_inv)
    first | (obtain ⟨_, rfl⟩ := q₁.int_inv) | (obtain ⟨_, rfl⟩ := q₁.str_inv) | (obtain rfl := q₁.typ_inv)
    exact SC.count (.tok S (.int _ _))
  · first | (obtain ⟨rfl, rfl⟩ := pair_some e) | cases e
noncomputable def strsOf : List V → Option (List Str)
  | [] => some []
  | .str x :: r => (strsOf r).map (x :: ·)
  | _ => none
theorem strs_items {α : List Addr} : ∀ {xs : List V} {vs : List Value} {ns : List Str}, strsOf xs = some ns → Paired (VR α) xs vs → ∃ ts : List (Str × Tok), vs = strValues ts ∧ ts.map (·.1) = ns
  | [], _, _, h, .nil => by cases h; exact ⟨[], rfl, rfl⟩
  | .str i :: r, _, ns, h, .cons x t => by
    obtain ⟨ms, h1, h2⟩ := Option.map_eq_some_iff.mp h
    cases x with
    | str _ tk =>
      obtain ⟨ts, e1, e2⟩ := strs_items h1 t
      exact ⟨(i, tk) :: ts, by rw [e1]; rfl, by rw [← h2, ← e2]; rfl⟩
  | .none :: _, _, _, h, _ => by cases h
  | .bool _ :: _, _, _, h, _ => by cases h
  | .int _ :: _, _, _, h, _ => by cases h
  | .ref _ :: _, _, _, h, _ => by cases h
  | .typ _ :: _, _, _, h, _ => by cases h
  | .base _ :: _, _, _, h, _ => by cases h
noncomputable def mJoin : List V → Hp → Option (V × Hp)
  | [.str x, .ref a], H => match H[a]? with
    | some (.list xs) => (strsOf xs).bind fun ts => if JoinOk x ts then some (.str (Txt.join x ts), H) else none
    | _ => none
  | _, _ => none
theorem mJoin_ok : CallOk prog w B k (.builtin "str.join") mJoin := by
  intro vs H v H' e A s α cs Rm S r
  unfold mJoin at e
  split at e
  · split at e
    · rename_i xs hx
      obtain ⟨ts, h1, h2⟩ := Option.bind_eq_some_iff.mp e
      split at h2
      · rename_i hj
        cases h2
        cases r with
        | cons r r' => cases r' with
          | cons q q' =>
            cases q'
            cases r
            cases q with
            | ref ha =>
              obtain ⟨us, hp, hv⟩ := S.list ha hx
              obtain ⟨l, e1, e2⟩ := strs_items h1 hv
              subst e1
              exact SC.join hp.isList e2 hj fun t' k => .tok S (.str _ _)
      · cases h2
    · first | (obtain ⟨rfl, rfl⟩ := pair_some e) | cases e
  · first | (obtain ⟨rfl, rfl⟩ := pair_some e) | cases e
noncomputable def mAppend : List V → Hp → Option (V × Hp)
  | [.ref a, v], H => match H[a]? with
    | some (.list xs) => if xs.length ≤ 1000000 then some (.none, H.set a (.list (xs ++ [v]))) else none
    | _ => none
  | _, _ => none
theorem changed {α : List Addr} {s : Shared} {H : Hp} {v : V} {c : Value} {h' : Heap} {tk : Nat} {kk : Nat} {a : Addr} {o : O} (S : SR B α H s.heap) (ha : α[kk]? = some a) (hs : Heap.ExtBut a s.heap h')
    (hl : (h'.get? a).isSome = true) (ho : OR h' α a o) (r : VR α v c) : EPost B α s (H.set kk o) v c { s with heap := h', toks := tk } :=
  ⟨α, ⟨⟨[], by simp, by simp⟩, fun b o h h1 _ => hs b o (fun e => h1 (e ▸ List.mem_of_getElem? ha)) h, rfl, GX.refl _⟩, S.put ha hs hl ho, r⟩
theorem mAppend_ok : CallOk prog w B k (.builtin "list.append") mAppend := by
  intro vs H v H' e A s α cs Rm S r
  unfold mAppend at e
  split at e
  · split at e
    · rename_i xs hx
      split at e
      · rename_i hl
        first | (obtain ⟨rfl, rfl⟩ := pair_some e) | cases e
        cases r with
        | cons r r' => cases r' with
          | cons q q' =>
            cases q'
            cases r with
            | @ref _ aa ha =>
              obtain ⟨us, hp, hv⟩ := S.list ha hx
              refine wpAny_list_append_plain hp (fun h' hl' hs => ?_) (by rw [Paired.size hv]; exact size_line hl)
              refine changed (tk := s.toks) S ha hs.extBut (by obtain ⟨n, e⟩ := hl'; rw [e]; rfl) ⟨us ++ [_], by simpa using hl', Paired.app hv (.cons q .nil)⟩ .none
      · first | (obtain ⟨rfl, rfl⟩ := pair_some e) | cases e
    · first | (obtain ⟨rfl, rfl⟩ := pair_some e) | cases e
  · first | (obtain ⟨rfl, rfl⟩ := pair_some e) | cases e

/-! ## the table and the set of the top -/
noncomputable def eSetIn (f : Ex) (S : Int → Bool) : Ex := fun ρ H => (f ρ H).bind fun p => match p.1 with
  | .int i => some (.bool (S i), p.2)
  | _ => none
theorem SE.setIn {mg : Str → Option Value} {l : Expr} {x : Str} {f : Ex} {S : Int → Bool} {n : Nat} {a : Addr} {p pos : Pos} (G : GF B mg) (hx : mg x = some (.ref a)) (hk : sc.names.lookup x = some .globalImplicit)
    (hs : ∀ h : Heap, (∀ b o, B.get? b = some o → h.get? b = some o) → h.SetOf (intKind prog w) a S n) (hf : SE prog w B k sc vm l f) (hd : (x == ("__debug__" : Str)) = false := by decide) :
    SE prog w B k sc vm (.Compare l [.In] [.Name x p] pos) (eSetIn f S) := by
  intro ρ H v H' e A env s α O Rm R S₀
  obtain ⟨⟨a', H₁⟩, e1, e2⟩ := Option.bind_eq_some_iff.mp e
  cases a' with
  | int i =>
    first | (obtain ⟨rfl, rfl⟩ := pair_some e2) | cases e2
    refine wpAny_Compare1 (wpAny_mono (hf ρ H _ H₁ e1 A env s α O Rm R S₀) (fun c s₁ h₁ => ?_) fun _ _ h => h)
    obtain ⟨α₁, st, S₁, r⟩ := h₁
    cases r with
    | int _ t =>
      refine global_ok G (.inl hx) hk O S₁ ?_ hd
      exact wpAny_inSet_of (knd := intKind prog w) (by simp [intKind, Value.isInt]) rfl (hs _ S₁.base) (EPost.trans st (.tok S₁ (.bool _)))
  | none => cases e2
  | bool => cases e2
  | str => cases e2
  | ref => cases e2
  | typ => cases e2
  | base => cases e2

noncomputable def eGet (f : Ex) (tb : Int → Option Str) : Ex := fun ρ H => (f ρ H).bind fun p => match p.1 with
  | .int i => some ((tb i).elim .none .str, p.2)
  | _ => none
theorem SE.dictGet {mg : Str → Option Value} {e : Expr} {x : Str} {f : Ex} {tb : Int → Option Str} {a : Addr} {p apos pos : Pos} (G : GF B mg) (hx : mg x = some (.ref a)) (hk : sc.names.lookup x = some .globalImplicit)
    (hs : ∀ h : Heap, (∀ b o, B.get? b = some o → h.get? b = some o) → ∃ F, h.MapOf (intKind prog w) a F ∧ ∀ i, (tb i = Option.none → F i = Option.none) ∧ ∀ y, tb i = some y → ∃ t, F i = some (.str y t)) (hm : (a == sysModules) = false)
    (hf : SE prog w B k sc vm e f) (hd : (x == ("__debug__" : Str)) = false := by decide)
    (hbase : ∀ env, attributeBase (.Name x p) "get" env (eval (.Name x p) env) = eval (.Name x p) env := by intro _; rfl)
    (hfew : ∀ env, ((backTo pos (starEach [e] env)).all (fun x => !x.1) && (backToKw pos (keywordEach [] env)).all (fun x => x.1.isSome)
      && decide ([e].length + ([] : List Keyword).length + (if ([] : List Keyword).isEmpty then 0 else 1) < 30)) = true := by intro _; rfl)
    (hst : ∀ env, starEach [e] env = [(false, eval e env)] := by intro _; rfl)
    (hline : (apos.endLine == pos.line) = true := by rfl) :
    SE prog w B k sc vm (.Call (.Attribute (.Name x p) "get" apos) [e] [] pos) (eGet f tb) := by
  intro ρ H v H' q A env s α O Rm R S
  obtain ⟨⟨a', H₁⟩, e1, e2⟩ := Option.bind_eq_some_iff.mp q
  cases a' with
  | int i =>
    first | (obtain ⟨rfl, rfl⟩ := pair_some e2) | cases e2
    refine wpAny_Call_method (T := "dict") (id := "dict.get") (hbase env) (hfew env) hline F.plainAttrs_dict F.slot_dict_get F.type_dict_get (global_ok G (.inl hx) hk O S ?_ hd)
    obtain ⟨F, hF, hT⟩ := hs _ S.base
    obtain ⟨o, es, ep, h1, h2, h3, h4⟩ := id hF
    refine ⟨hF.typeIs, fun a' e => ?_, ?_⟩
    · first | (obtain ⟨rfl, rfl⟩ := pair_some e) | cases e
      exact ⟨o, h1, h2.2.1⟩
    rw [hst]
    show wpAny _ _ (callWith pos (.builtin "dict.get") [.ref a] [(false, eval e env)] []) _ _ _
    refine wpAny_dict_get1 (knd := intKind prog w) hm ?_
    refine wpAny_mono (hf ρ H _ H₁ e1 A env s α O Rm R S) (fun c s₁ h₁ => ?_) fun _ _ h => h
    obtain ⟨α₁, st, S₁, r⟩ := h₁
    cases r with
    | int _ t =>
      obtain ⟨F₁, hF₁, hT₁⟩ := hs _ S₁.base
      refine ⟨i, F₁, by simp [intKind, Value.isInt], hF₁, ?_⟩
      cases hb : tb i with
      | none =>
        rw [(hT₁ i).1 hb]
        exact EPost.trans st (.tok S₁ .none)
      | some y =>
        obtain ⟨t', e'⟩ := (hT₁ i).2 y hb
        rw [e']
        exact EPost.trans st (.tok S₁ (.str _ _))
  | none => cases e2
  | bool => cases e2
  | str => cases e2
  | ref => cases e2
  | typ => cases e2
  | base => cases e2
end
end Mine
end

/-! part M10 -/
section
set_option maxRecDepth 10000
set_option linter.unusedVariables false
open PySem PyProof.Rows
namespace Mine
section
variable {prog : Program} {w : World} {B : Heap} {k : Nat} {sc : Scope} {vm : List Str}

/-! ## in-place operators -/
theorem iadd_list_facts : typeLookup (.type "list") (dunderI "add") = pure (some (.builtin "list.__iadd__")) := by rw [typeLookup_type, builtinLookup_eq_fast]; kernel_rfl
theorem iadd_list_seq : isSeqSlot (some (.builtin "list.__iadd__")) = true := by decide +kernel
theorem iadd_list {A : Around} {E : Value → Shared → Prop} {s : Shared} {l b : Addr} {items items2 : Array Value} {n n2 : Nat} {Q : Value → Shared → Prop} (hl : IsL s.heap l items n) (hb : IsL s.heap b items2 n2)
    (hsz : items.size + items2.size ≤ 1000000) (h : Q (.ref l) { s with heap := s.heap.update l (Obj.mapSeq fun x => x ++ items2), toks := s.toks }) :
    wpAny (model prog w) A (inplaceOp .Add (.ref l) (.ref b)) Q E s := by
  have ha : s.TypeIs (.ref l) "list" := ⟨_, hl, rfl⟩
  have hb' : s.TypeIs (.ref b) "list" := ⟨_, hb, rfl⟩
  unfold inplaceOp
  refine wpAny_holding ?_
  have hfi : fillsInplaceSlot (.type "list") "add" (Operator.Add == .Add) = pure false := by
    unfold fillsInplaceSlot
    show (typeLookup (.type "list") (dunderI "add") >>= fun fi => pure (fi.isSome && !isSeqSlot fi)) = pure false
    rw [iadd_list_facts, pure_bind, iadd_list_seq]; rfl
  have hsi : seqSlot? (.type "list") (dunderI "add") = pure (some (.builtin "list.__iadd__")) := PySem.seqSlot_of iadd_list_facts iadd_list_seq
  refine wpAny_bind (wpAny_typeOf ha (wpAny_bind (wpAny_of_eq hfi ?_)))
  show wpAny _ _ (if false = true then _ else _) Q E s
  rw [if_neg Bool.false_ne_true]
  refine wpAny_bind (wpAny_binaryOp1_none (nm := "add") ha hb' noFill_list_add ?_)
  refine wpAny_bind (wpAny_of_eq hsi ?_)
  refine wpAny_bind (wpAny_rule ?_)
  have hlt : Builtin.List.listTooLong (items.size + items2.size) = false := by
    unfold Builtin.List.listTooLong; rw [sizeLine_eq]; simp only [decide_eq_false_iff_not]; omega
  refine call_meets (S := _) F.slot_list_iadd ha F.entry_list_iadd (F.args_list_iadd_2 _ _) (AutoSeq1.list___iadd___list_list_0 l items n b items2 n2 (by rw [hlt]; simp) (by rw [sizeLine_eq]; omega) (by rw [sizeLine_eq]; omega)) ?_
  exact ⟨hl, hb, h⟩

noncomputable def iAdd : V → V → Hp → Option (V × Hp)
  | .int a, .int b, H => some (.int (a + b), H)
  | .ref a, .ref b, H => match H[a]?, H[b]? with
    | some (.list xs), some (.list ys) => if xs.length + ys.length ≤ 1000000 then some (.ref a, H.set a (.list (xs ++ ys))) else none
    | _, _ => none
  | _, _, _ => none
theorem iAdd_ok : OpOk prog w B k (inplaceOp .Add) iAdd := by
  intro a b H v H' e A s α ca cb Rm S ra rb
  unfold iAdd at e
  split at e
  · first | (obtain ⟨rfl, rfl⟩ := pair_some e) | cases e
    obtain ⟨_, rfl⟩ := ra.int_inv
    obtain ⟨_, rfl⟩ := rb.int_inv
    exact wpAny_iadd_int (.tok S (.int _ _))
  · split at e
    · rename_i xs ys hx hy
      split at e
      · rename_i hl
        first | (obtain ⟨rfl, rfl⟩ := pair_some e) | cases e
        obtain ⟨aa, rfl, hka⟩ := ra.ref_inv
        obtain ⟨ab, rfl, hkb⟩ := rb.ref_inv
        obtain ⟨vs, ⟨n, pv⟩, rv⟩ := S.list hka hx
        obtain ⟨us, ⟨n', pu⟩, ru⟩ := S.list hkb hy
        refine iadd_list pv pu (by rw [Paired.size rv, Paired.size ru]; exact hl) ?_
        have e := Heap.get?_update_self (Obj.mapSeq fun x => x ++ us.toArray) pv rfl
        refine changed (tk := s.toks) S hka (Heap.SameBut.update ..).extBut (by rw [e]; rfl) ⟨vs ++ us, ⟨_, e.trans (by simp [Obj.mapSeq]; rfl)⟩, Paired.app rv ru⟩ (.ref hka)
      · first | (obtain ⟨rfl, rfl⟩ := pair_some e) | cases e
    · first | (obtain ⟨rfl, rfl⟩ := pair_some e) | cases e
  · first | (obtain ⟨rfl, rfl⟩ := pair_some e) | cases e
noncomputable def iSub : V → V → Hp → Option (V × Hp)
  | .int a, .int b, H => some (.int (a - b), H)
  | _, _, _ => none
theorem iSub_ok : OpOk prog w B k (inplaceOp .Sub) iSub := by
  intro a b H v H' e A s α ca cb Rm S ra rb
  unfold iSub at e
  split at e
  · first | (obtain ⟨rfl, rfl⟩ := pair_some e) | cases e
    obtain ⟨_, rfl⟩ := ra.int_inv
    obtain ⟨_, rfl⟩ := rb.int_inv
    exact isub_int (.tok S (.int _ _))
  · first | (obtain ⟨rfl, rfl⟩ := pair_some e) | cases e
noncomputable def iDiv : V → V → Hp → Option (V × Hp)
  | .int a, .int b, H => if b = 0 ∨ 1000000 ≤ b.natAbs then none else some (.int (a.fdiv b), H)
  | _, _, _ => none
theorem iDiv_ok : OpOk prog w B k (inplaceOp .FloorDiv) iDiv := by
  intro a b H v H' e A s α ca cb Rm S ra rb
  unfold iDiv at e
  split at e
  · split at e
    · first | (obtain ⟨rfl, rfl⟩ := pair_some e) | cases e
    · first | (obtain ⟨rfl, rfl⟩ := pair_some e) | cases e
      obtain ⟨_, rfl⟩ := ra.int_inv
      obtain ⟨_, rfl⟩ := rb.int_inv
      exact ifloordiv_int (by omega) (.tok S (.int _ _)) (.inl (noPylong (by omega)))
  · first | (obtain ⟨rfl, rfl⟩ := pair_some e) | cases e
noncomputable def iShl : V → V → Hp → Option (V × Hp)
  | .int a, .int n, H => if 0 ≤ n ∧ n ≤ 1000 ∧ Builtin.Int.intBits a ≤ 1000 then some (.int (a * 2 ^ n.toNat), H) else none
  | _, _, _ => none
theorem iShl_ok : OpOk prog w B k (inplaceOp .LShift) iShl := by
  intro a b H v H' e A s α ca cb Rm S ra rb
  unfold iShl at e
  split at e
  · split at e
    · rename_i h
      first | (obtain ⟨rfl, rfl⟩ := pair_some e) | cases e
      obtain ⟨_, rfl⟩ := ra.int_inv
      obtain ⟨_, rfl⟩ := rb.int_inv
      exact ilshift_int h.1 (by have : (2 : Int) ^ 27 = 134217728 := by decide
                                omega) (.tok S (.int _ _))
    · first | (obtain ⟨rfl, rfl⟩ := pair_some e) | cases e
  · first | (obtain ⟨rfl, rfl⟩ := pair_some e) | cases e
noncomputable def iOr : V → V → Hp → Option (V × Hp)
  | .int a, .int b, H => some (.int (Builtin.bitOr a b), H)
  | _, _, _ => none
theorem iOr_ok : OpOk prog w B k (inplaceOp .BitOr) iOr := by
  intro a b H v H' e A s α ca cb Rm S ra rb
  unfold iOr at e
  split at e
  · first | (obtain ⟨rfl, rfl⟩ := pair_some e) | cases e
    obtain ⟨_, rfl⟩ := ra.int_inv
    obtain ⟨_, rfl⟩ := rb.int_inv
    exact ior_int (.tok S (.int _ _))
  · first | (obtain ⟨rfl, rfl⟩ := pair_some e) | cases e

/-! ## storing a name -/
theorem ER.kept {env : Env} {ρ : Lo} {α α' : List Addr} {h h' : Heap} (x : ER B vm env ρ α h) (hα : ∃ δ, α' = α ++ δ ∧ ∀ a ∈ δ, h.get? a = none)
    (hk : ∀ a ∈ own env, ∀ o, h.get? a = some o → h'.get? a = some o) : ER B vm env ρ α' h' := by
  obtain ⟨δ, rfl, hδ⟩ := hα
  have kL : ∀ o, h.get? env.locals = some o → h'.get? env.locals = some o := hk _ (List.mem_cons_self ..)
  have kC : ∀ p ∈ env.cells, ∀ o, h.get? p.2 = some o → h'.get? p.2 = some o := fun p hp => hk _ (List.mem_cons_of_mem _ (List.mem_map_of_mem hp))
  have kc : ∀ n a c, env.cells.lookup n = some a → h.IsCell a c → h'.IsCell a c := fun n a c hl ⟨o, e, d⟩ => ⟨o, kC _ (mem_of_lookup hl) o e, d⟩
  refine ⟨x.nd, ?_, fun n z v h1 h2 h3 => ?_, fun z h1 => ?_, ?_, fun p hp => ?_, x.Cn, x.Lb, x.Cb⟩
  · obtain ⟨m, hn, hm⟩ := x.loc
    exact ⟨m, hn.at' kL, fun n z v h1 h2 h3 => let ⟨c, e, r⟩ := hm n z v h1 h2 h3; ⟨c, e, r.more⟩⟩
  · obtain ⟨a, c, e, r, q⟩ := x.cel n z v h1 h2 h3
    exact ⟨a, c, e, kc _ _ _ e r, q.more⟩
  · obtain ⟨a, c, e, r⟩ := x.has z h1
    exact ⟨a, c, e, kc _ _ _ e r⟩
  · intro h
    rcases List.mem_append.mp h with h | h
    · exact x.La h
    · have := x.live _ (List.mem_cons_self ..)
      rw [hδ _ h] at this; cases this
  · obtain ⟨h1, h2, c, h3⟩ := x.Ca p hp
    refine ⟨fun h => ?_, h2, c, ?_⟩
    · rcases List.mem_append.mp h with h | h
      · exact h1 h
      · obtain ⟨o, e, _⟩ := h3
        rw [hδ _ h] at e; cases e
    · obtain ⟨o, e, d⟩ := h3
      exact ⟨o, kC p hp o e, d⟩

theorem own_not {env : Env} {ρ : Lo} {α : List Addr} {h : Heap} (x : ER B vm env ρ α h) : ∀ a ∈ own env, a ∉ α := by
  intro a ha
  rcases List.mem_cons.mp ha with rfl | ha
  · exact x.La
  · obtain ⟨p, hp, rfl⟩ := List.mem_map.mp ha
    exact (x.Ca p hp).1
theorem own_base {env : Env} {ρ : Lo} {α : List Addr} {h : Heap} (x : ER B vm env ρ α h) : ∀ a ∈ own env, B.get? a = none := by
  intro a ha
  rcases List.mem_cons.mp ha with rfl | ha
  · exact x.Lb
  · obtain ⟨p, hp, rfl⟩ := List.mem_map.mp ha
    exact x.Cb p hp

/-- an address outside changes -/
theorem SR.out {α : List Addr} {H : Hp} {h h' : Heap} {a : Addr} (S : SR B α H h) (ha : a ∉ α) (hb : B.get? a = none) (hs : Heap.ExtBut a h h') : SR B α H h' :=
  ⟨fun b o e => hs b o (fun e' => by subst e'; rw [hb] at e; cases e) (S.base b o e), S.len, S.nd, fun k b q e1 e2 => (S.obj k b q e1 e2).at fun ob e => hs b ob (fun e' => ha (e' ▸ List.mem_of_getElem? e1)) e, S.new, fun b hm => by
    obtain ⟨o, e⟩ := Option.isSome_iff_exists.mp (S.live b hm)
    rw [hs b o (fun e' => ha (e' ▸ hm)) e]; rfl⟩

noncomputable def put (n : Nat) (v : V) (ρ : Lo) : Lo := ρ.set n (some v)

/-- how a name is held -/
noncomputable def Held (sc : Scope) (x : Str) : Prop := sc.names.lookup x = some .local ∨ sc.names.lookup x = some .cell

theorem cell_uniq {cells : List (Str × Addr)} (hn : (cells.map (·.2)).Nodup) {x y : Str} {a : Addr} (hx : cells.lookup x = some a) (hy : cells.lookup y = some a) : x = y := by
  have h1 := mem_of_lookup hx
  have h2 := mem_of_lookup hy
  induction cells with
  | nil => cases h1
  | cons p r ih =>
    rw [List.map_cons, List.nodup_cons] at hn
    rcases List.mem_cons.mp h1 with e1 | e1 <;> rcases List.mem_cons.mp h2 with e2 | e2
    · rw [← e1] at e2; exact (Prod.mk.inj e2).1.symm
    · exact absurd (List.mem_map_of_mem (f := (·.2)) e2) (by rw [← e1] at hn; exact hn.1)
    · exact absurd (List.mem_map_of_mem (f := (·.2)) e1) (by rw [← e2] at hn; exact hn.1)
    · exact ih hn.2 (by
        rw [List.lookup_cons] at hx
        split at hx
        · cases hx
          exact absurd (List.mem_map_of_mem (f := (·.2)) e1) hn.1
        · exact hx) (by
        rw [List.lookup_cons] at hy
        split at hy
        · cases hy
          exact absurd (List.mem_map_of_mem (f := (·.2)) e2) hn.1
        · exact hy) e1 e2

theorem nodup_at {x : Str} {n n' : Nat} (nd : vm.Nodup) (h : vm[n]? = some x) (h' : vm[n']? = some x) : n = n' :=
  (List.getElem?_inj (List.getElem?_eq_some_iff.mp h).1 nd).mp (h.trans h'.symm)

theorem store_ok {n : Nat} {x : Str} {ρ : Lo} {H : Hp} {v : V} {c : Value} {A : Around} {env : Env} {s : Shared} {α : List Addr} {Q : Unit → Shared → Prop} {E : Value → Shared → Prop}
    (hn : vm[n]? = some x) (hkd : Held sc x) (O : EO env sc) (R : ER B vm env ρ α s.heap) (S : SR B α H s.heap) (r : VR α v c)
    (hQ : ∀ s', Step (own env) α s α s' → SR B α H s'.heap → ER B vm env (put n v ρ) α s'.heap → Q () s') : wpAny (model prog w) A (storeName env x c) Q E s := by
  have hk : env.scope.kind = .function := by rw [O.scE]; exact O.kind
  have hko : env.kindOf x = sc.names.lookup x := by unfold Env.kindOf; rw [O.scE]
  have step : ∀ (a : Addr) (h' : Heap) (tk : Nat), a ∈ own env → Heap.SameBut a s.heap h' → Step (own env) α s α { s with heap := h', toks := tk } := fun a h' tk ha hs =>
    ⟨⟨[], by simp, by simp⟩, fun b o e _ h2 => hs.extBut b o (fun e' => h2 (e' ▸ ha)) e, rfl, GX.refl _⟩
  have putget : ∀ (n' : Nat) (u : V), (put n v ρ)[n']? = some (some u) → n' ≠ n → ρ[n']? = some (some u) := fun n' u h h1 => by
    unfold put at h; rwa [List.getElem?_set_ne (Ne.symm h1)] at h
  have putself : ∀ (u : V), (put n v ρ)[n]? = some (some u) → u = v := fun u h => by
    unfold put at h
    by_cases hl : n < ρ.length
    · rw [List.getElem?_set_self hl] at h; cases h; rfl
    · rw [List.getElem?_eq_none (by simpa using hl)] at h; cases h
  rcases hkd with h | h
  · obtain ⟨m, hm, hl⟩ := R.loc
    have hxl := hko.trans h
    refine wpAny_storeName_local hxl hm (fun h' hn' hs => ?_) (by rw [hk]; rfl)
    have hown : env.locals ∈ own env := List.mem_cons_self ..
    refine hQ _ (step _ _ _ hown hs) (S.out R.La R.Lb hs.extBut) ?_
    have kc : ∀ p ∈ env.cells, ∀ c, s.heap.IsCell p.2 c → h'.IsCell p.2 c := fun p hp c ⟨o, e, d⟩ => ⟨o, hs.extBut _ _ (R.Ca p hp).2.1 e, d⟩
    refine ⟨R.nd, ⟨_, hn', fun n' y u h1 h2 h3 => ?_⟩, fun n' y u h1 h2 h3 => ?_, fun y h1 => ?_, R.La, fun p hp => ?_, R.Cn, R.Lb, R.Cb⟩
    · by_cases hyx : y = x
      · subst hyx
        have := nodup_at R.nd h1 hn
        subst this
        rw [putself u h3]
        exact ⟨c, by simp, r⟩
      · obtain ⟨c', e', r'⟩ := hl n' y u h1 h2 (putget n' u h3 fun e => hyx (by subst e; rw [hn] at h1; exact (Option.some.inj h1).symm))
        exact ⟨c', by simp [hyx, e'], r'⟩
    · have hyx : y ≠ x := fun e => by subst e; rw [hxl] at h2; rcases h2 with h2 | h2 <;> cases h2
      obtain ⟨a, c', e', r', q'⟩ := R.cel n' y u h1 h2 (putget n' u h3 fun e => hyx (by subst e; rw [hn] at h1; exact (Option.some.inj h1).symm))
      exact ⟨a, c', e', kc _ (mem_of_lookup e') _ r', q'⟩
    · obtain ⟨a, c', e', r'⟩ := R.has y h1
      exact ⟨a, c', e', kc _ (mem_of_lookup e') _ r'⟩
    · obtain ⟨h1, h2, c', h3⟩ := R.Ca p hp
      exact ⟨h1, h2, c', kc p hp _ h3⟩
  · have hxl := hko.trans h
    obtain ⟨a, c₀, hlk, hcell⟩ := R.has x (.inl hxl)
    have hmem := mem_of_lookup hlk
    have hown : a ∈ own env := List.mem_cons_of_mem _ (List.mem_map_of_mem (f := (·.2)) hmem)
    refine wpAny_storeName_cell hk hxl hlk hcell fun h' hc' hs => ?_
    refine hQ _ (step _ _ _ hown hs) (S.out (R.Ca _ hmem).1 (R.Cb _ hmem) hs.extBut) ?_
    have kc : ∀ y b c, env.cells.lookup y = some b → y ≠ x → s.heap.IsCell b c → h'.IsCell b c := fun y b c hl hyx ⟨o, e, d⟩ =>
      ⟨o, hs.extBut _ _ (fun e' => hyx (cell_uniq R.Cn (e' ▸ hl) hlk)) e, d⟩
    refine ⟨R.nd, ?_, fun n' y u h1 h2 h3 => ?_, fun y h1 => ?_, R.La, fun p hp => ?_, R.Cn, R.Lb, R.Cb⟩
    · obtain ⟨m, hm, hl⟩ := R.loc
      refine ⟨m, hm.at' fun o e => hs.extBut _ _ (fun e' => (R.Ca _ hmem).2.1 e'.symm) e, fun n' y u h1 h2 h3 => ?_⟩
      have hyx : y ≠ x := fun e => by subst e; rw [hxl] at h2; cases h2
      exact hl n' y u h1 h2 (putget n' u h3 fun e => hyx (by subst e; rw [hn] at h1; exact (Option.some.inj h1).symm))
    · by_cases hyx : y = x
      · subst hyx
        have := nodup_at R.nd h1 hn
        subst this
        rw [putself u h3]
        exact ⟨a, c, hlk, hc', r⟩
      · obtain ⟨b, c', e', r', q'⟩ := R.cel n' y u h1 h2 (putget n' u h3 fun e => hyx (by subst e; rw [hn] at h1; exact (Option.some.inj h1).symm))
        exact ⟨b, c', e', kc y b _ e' hyx r', q'⟩
    · by_cases hyx : y = x
      · subst hyx; exact ⟨a, some c, hlk, hc'⟩
      · obtain ⟨b, c', e', r'⟩ := R.has y h1
        exact ⟨b, c', e', kc y b _ e' hyx r'⟩
    · obtain ⟨h1, h2, c', h3⟩ := R.Ca p hp
      by_cases hpa : p.2 = a
      · exact ⟨h1, h2, some c, hpa ▸ hc'⟩
      · obtain ⟨o, e, d⟩ := h3
        exact ⟨h1, h2, c', o, hs.extBut _ _ hpa e, d⟩

/-! ## statements -/
theorem Step.after {W : List Addr} {α : List Addr} {s : Shared} {α₁ : List Addr} {s₁ : Shared} {α₂ : List Addr} {s₂ : Shared} (x : Step [] α s α₁ s₁) (y : Step W α₁ s₁ α₂ s₂)
    (nd : α₂.Nodup) (live : ∀ a ∈ W, a ∉ α ∧ (s.heap.get? a).isSome = true) : Step W α s α₂ s₂ :=
  (x.weak (fun _ h => nomatch h)).trans y nd fun a ha hl => by
    obtain ⟨o, e⟩ := Option.isSome_iff_exists.mp hl
    rw [x.keep a o e (live a ha).1 (fun h => nomatch h)]; rfl
theorem own_live {env : Env} {ρ : Lo} {α : List Addr} {h : Heap} (x : ER B vm env ρ α h) : ∀ a ∈ own env, a ∉ α ∧ (h.get? a).isSome = true := fun a ha => ⟨own_not x a ha, x.live a ha⟩

noncomputable def gAssign (n : Nat) (f : Ex) : Sx := fun ρ H => (f ρ H).map fun p => (.next, put n p.1 ρ, p.2)
theorem S1.assign {n : Nat} {x : Str} {e : Expr} {p pos : Pos} {f : Ex} (hn : vm[n]? = some x) (hkd : Held sc x) (hf : SE prog w B k sc vm e f)
    (hs : ∀ env, swapsWith e (some (.Name x p)) pos.line env = pure false := by intro _; rfl) : S1 prog w B k sc vm (.Assign [.Name x p] e pos) (gAssign n f) := by
  intro ρ H f' ρ' H' q A env s α O Rm R S
  obtain ⟨⟨v, H₁⟩, e1, e2⟩ := Option.map_eq_some_iff.mp q
  first | (obtain ⟨rfl, rfl⟩ := pair_some e2) | cases e2
  refine wpAny_Assign_Name (wpAny_mono (hf ρ H v H₁ e1 A env s α O Rm R S) (fun c s₁ h₁ => ?_) fun _ _ h => h) (hs env)
  obtain ⟨α₁, st, S₁, r⟩ := h₁
  refine store_ok hn hkd O (R.step st) S₁ r fun s₂ st₂ S₂ R₂ => ?_
  exact ⟨α₁, st.after st₂ S₂.nd (own_live R), S₂, R₂, .next⟩

noncomputable def gAssign2 (n n' : Nat) (f : Ex) : Sx := fun ρ H => (f ρ H).map fun p => (.next, put n' p.1 (put n p.1 ρ), p.2)
theorem Step.both {W : List Addr} {α : List Addr} {s : Shared} {α₁ : List Addr} {s₁ : Shared} {α₂ : List Addr} {s₂ : Shared} (x : Step W α s α₁ s₁) (y : Step W α₁ s₁ α₂ s₂)
    (nd : α₂.Nodup) (live : ∀ a ∈ W, (s₁.heap.get? a).isSome = true) : Step W α s α₂ s₂ := x.trans y nd fun a ha _ => live a ha
theorem S1.assign2 {n n' : Nat} {x y : Str} {e : Expr} {p p' pos : Pos} {f : Ex} (hn : vm[n]? = some x) (hkd : Held sc x) (hn' : vm[n']? = some y) (hkd' : Held sc y) (hf : SE prog w B k sc vm e f)
    (hsw : ∀ env, swappedStores [.Name x p, .Name y p'] e env = pure Option.none := by intro _; rfl) : S1 prog w B k sc vm (.Assign [.Name x p, .Name y p'] e pos) (gAssign2 n n' f) := by
  intro ρ H f' ρ' H' q A env s α O Rm R S
  obtain ⟨⟨v, H₁⟩, e1, e2⟩ := Option.map_eq_some_iff.mp q
  first | (obtain ⟨rfl, rfl⟩ := pair_some e2) | cases e2
  refine wpAny_Assign_two (wpAny_mono (hf ρ H v H₁ e1 A env s α O Rm R S) (fun c s₁ h₁ => ?_) fun _ _ h => h) rfl (hsw env)
  obtain ⟨α₁, st, S₁, r⟩ := h₁
  refine wpAny_assign_Name (store_ok hn hkd O (R.step st) S₁ r fun s₂ st₂ S₂ R₂ => ?_)
  refine wpAny_assign_Name (store_ok hn' hkd' O R₂ S₂ r fun s₃ st₃ S₃ R₃ => ?_)
  exact ⟨α₁, (st.after st₂ S₂.nd (own_live R)).both st₃ S₃.nd R₂.live, S₃, R₃, .next⟩

noncomputable def gAug (n : Nat) (f : Ex) (h : V → V → Hp → Option (V × Hp)) : Sx := fun ρ H => (bind2 (eVar n) f h ρ H).map fun p => (.next, put n p.1 ρ, p.2)
theorem S1.aug {n : Nat} {x : Str} {op : Operator} {e : Expr} {p pos : Pos} {f : Ex} {h : V → V → Hp → Option (V × Hp)} (hn : vm[n]? = some x) (hkd : Held sc x) (hf : SE prog w B k sc vm e f)
    (ho : OpOk prog w B k (inplaceOp op) h) (hcd : (x == ("__classdict__" : Str)) = false := by decide) : S1 prog w B k sc vm (.AugAssign (.Name x p) op e pos) (gAug n f h) := by
  intro ρ H f' ρ' H' q A env s α O Rm R S
  obtain ⟨⟨v, H₃⟩, e0, e4⟩ := Option.map_eq_some_iff.mp q
  first | (obtain ⟨rfl, rfl⟩ := pair_some e4) | cases e4
  obtain ⟨a, H₁, b, H₂, e1, e2, e3⟩ := bind2_some e0
  obtain ⟨hv, rfl⟩ := eVar_some e1
  refine wpAny_AugAssign_Name (load_ok hv hn (hkd.elim .inl fun h => .inr (.inl h)) hcd O R fun c rc => ?_)
  refine wpAny_mono (hf ρ H b H₂ e2 A env s α O Rm R S) (fun c₁ s₁ h₁ => ?_) fun _ _ h => h
  obtain ⟨α₁, st, S₁, r⟩ := h₁
  have rc' : VR α₁ a c := by obtain ⟨δ, rfl, _⟩ := st.ext; exact rc.more
  refine wpAny_mono (ho a b H₂ v _ e3 A s₁ α₁ c c₁ Rm S₁ rc' r) (fun c₂ s₂ h₂ => ?_) fun _ _ h => h
  obtain ⟨α₂, st₂, S₂, r₂⟩ := h₂
  have st' := st.trans0 st₂ S₂.nd
  refine store_ok hn hkd O (R.step st') S₂ r₂ fun s₃ st₃ S₃ R₃ => ?_
  exact ⟨α₂, st'.after st₃ S₃.nd (own_live R), S₃, R₃, .next⟩

noncomputable def gExpr (f : Ex) : Sx := fun ρ H => (f ρ H).map fun p => (.next, ρ, p.2)
theorem S1.expr {e : Expr} {pos : Pos} {f : Ex} (hf : SE prog w B k sc vm e f)
    (hi : ∀ env : Env, env.scope.kind = .function → interactive env = false := by intro env h; simp [interactive, h]) (hs : ∀ env, swapsWith e Option.none pos.line env = pure false := by intro _; rfl) :
    S1 prog w B k sc vm (.Expr e pos) (gExpr f) := by
  intro ρ H f' ρ' H' q A env s α O Rm R S
  obtain ⟨⟨v, H₁⟩, e1, e2⟩ := Option.map_eq_some_iff.mp q
  first | (obtain ⟨rfl, rfl⟩ := pair_some e2) | cases e2
  refine wpAny_Expr_any (wpAny_mono (hf ρ H v H₁ e1 A env s α O Rm R S) (fun c s₁ h₁ => ?_) fun _ _ h => h) (hi env (by rw [O.scE]; exact O.kind)) (hs env)
  obtain ⟨α₁, st, S₁, r⟩ := h₁
  exact ⟨α₁, st.weak (fun _ h => nomatch h), S₁, R.step st, .next⟩

noncomputable def gRet (f : Ex) : Sx := fun ρ H => (f ρ H).map fun p => (.ret p.1, ρ, p.2)
theorem S1.ret {e : Expr} {pos : Pos} {f : Ex} (hf : SE prog w B k sc vm e f) : S1 prog w B k sc vm (.Return (some e) pos) (gRet f) := by
  intro ρ H f' ρ' H' q A env s α O Rm R S
  obtain ⟨⟨v, H₁⟩, e1, e2⟩ := Option.map_eq_some_iff.mp q
  first | (obtain ⟨rfl, rfl⟩ := pair_some e2) | cases e2
  refine wpAny_Return_some (wpAny_mono (hf ρ H v H₁ e1 A env s α O Rm R S) (fun c s₁ h₁ => ?_) fun _ _ h => h)
  obtain ⟨α₁, st, S₁, r⟩ := h₁
  exact ⟨α₁, st.weak (fun _ h => nomatch h), S₁, R.step st, .ret r⟩

noncomputable def gNil : Sx := fun ρ H => some (.next, ρ, H)
noncomputable def gSeq (a b : Sx) : Sx := fun ρ H => (a ρ H).bind fun p => match p with
  | (.next, ρ₁, H₁) => b ρ₁ H₁
  | p => some p
theorem SS.nil : SS prog w B k sc vm [] gNil := by
  intro ρ H f' ρ' H' q A env s α O Rm R S
  first | (obtain ⟨rfl, rfl⟩ := pair_some q) | cases q
  exact wpAny_execs_nil ⟨α, Step.refl .., S, R, .next⟩
theorem SPost.after {env : Env} {α α₁ : List Addr} {s s₁ : Shared} {f : F} {ρ' : Lo} {H' : Hp} {c : Flow} {s' : Shared} (x : Step (own env) α s α₁ s₁) (live : ∀ a ∈ own env, (s₁.heap.get? a).isSome = true) (y : SPost B vm env α₁ s₁ f ρ' H' c s') : SPost B vm env α s f ρ' H' c s' := by
  obtain ⟨α', y1, y2, y3, y4⟩ := y
  exact ⟨α', x.both y1 y2.nd live, y2, y3, y4⟩
theorem SS.cons {st : Stmt} {rest : List Stmt} {a b : Sx} (ha : S1 prog w B k sc vm st a) (hb : SS prog w B k sc vm rest b) : SS prog w B k sc vm (st :: rest) (gSeq a b) := by
  intro ρ H f' ρ' H' q A env s α O Rm R S
  obtain ⟨⟨f, ρ₁, H₁⟩, e1, e2⟩ := Option.bind_eq_some_iff.mp q
  refine wpAny_execs_cons (wpAny_mono (ha ρ H f ρ₁ H₁ e1 A env s α O Rm R S) (fun c s₁ h₁ => ?_) fun _ _ h => h)
  cases f with
  | next =>
    dsimp only at e2
    obtain ⟨α₁, st, S₁, R₁, fr⟩ := h₁
    cases fr
    exact wpAny_mono (hb ρ₁ H₁ f' ρ' H' e2 A env s₁ α₁ O Rm R₁ S₁) (fun c s₂ h₂ => h₂.after st R₁.live) fun _ _ h => h
  | ret v =>
    first | (obtain ⟨rfl, rfl⟩ := pair_some e2) | cases e2
    obtain ⟨α₁, st, S₁, R₁, fr⟩ := h₁
    cases fr with
    | ret h => exact ⟨α₁, st, S₁, R₁, .ret h⟩
noncomputable def gIf (t : Tx) (a b : Sx) : Sx := fun ρ H => (t ρ H).bind fun p => if p.1 then a ρ p.2 else b ρ p.2
theorem S1.ite {t : Expr} {xs ys : List Stmt} {pos : Pos} {ft : Tx} {a b : Sx} (ht : ST prog w B k sc vm t ft) (ha : SS prog w B k sc vm xs a) (hb : SS prog w B k sc vm ys b) :
    S1 prog w B k sc vm (.If t xs ys pos) (gIf ft a b) := by
  intro ρ H f' ρ' H' q A env s α O Rm R S
  obtain ⟨⟨c, H₁⟩, e1, e2⟩ := Option.bind_eq_some_iff.mp q
  refine wpAny_If (wpAny_mono (ht ρ H c H₁ e1 A env s α O Rm R S) (fun c s₁ h₁ => ?_) fun _ _ h => h)
  obtain ⟨rfl, α₁, st, S₁⟩ := h₁
  have st' : Step (own env) α s α₁ s₁ := st.weak (fun _ h => nomatch h)
  cases c with
  | true =>
    simp only [if_true] at e2 ⊢
    exact wpAny_mono (ha ρ H₁ f' ρ' H' e2 A env s₁ α₁ O Rm (R.step st) S₁) (fun c s₂ h₂ => h₂.after st' (R.step st).live) fun _ _ h => h
  | false =>
    simp only [Bool.false_eq_true, if_false] at e2 ⊢
    exact wpAny_mono (hb ρ H₁ f' ρ' H' e2 A env s₁ α₁ O Rm (R.step st) S₁) (fun c s₂ h₂ => h₂.after st' (R.step st).live) fun _ _ h => h

noncomputable def gSetItem (f g h : Ex) : Sx := fun ρ H => (f ρ H).bind fun p => (g ρ p.2).bind fun q => (h ρ q.2).bind fun r => match q.1, r.1 with
  | .ref a, .int i => match r.2[a]? with
    | some (.list xs) => if 0 ≤ i ∧ i < xs.length ∧ i < 1000000 then some (.next, ρ, r.2.set a (.list (xs.set i.toNat p.1))) else none
    | _ => none
  | _, _ => none
end
end Mine
end

/-! part M11 -/
section
set_option maxRecDepth 10000
set_option linter.unusedVariables false
open PySem PyProof.Rows
namespace Mine
section
variable {prog : Program} {w : World} {B : Heap} {k : Nat} {sc : Scope} {vm : List Str}

/-! ## an item is set -/
theorem setItem_list {A : Around} {E : Value → Shared → Prop} {s : Shared} {l : Addr} {items : Array Value} {i : Int} {t : Tok} {v : Value} {Q : Unit → Shared → Prop} (hl : s.heap.PlainList l items)
    (h0 : 0 ≤ i) (hfit : i < 2 ^ 63) (hn : i < items.size)
    (hQ : ∀ h', h'.PlainList l (items.setIfInBounds i.toNat v) → Heap.SameBut l s.heap h' → Q () { s with heap := h' }) :
    wpAny (model prog w) A (setItem (.ref l) (.int i t) v) Q E s := by
  have hl' := hl.isList
  obtain ⟨ne, ho⟩ := hl
  unfold setItem
  try with_reducible refine wpAny_holding ?_
  first | refine wpAny_bind (wpAny_pure ?_) | skip
  refine wpAny_bind (wpAny_sequenceKey hl'.typeIs (by decide) ?_)
  refine wpAny_bind (wpAny_callSpecial?_slot (name := Str.ofString "__setitem__") hl'.typeIs slot_list_setitem
    (wpAny_call_entry slot_list_setitem hl'.typeIs entry_list_setitem ?_ (args_list_setitem _ _ _)))
  show wpAny _ _ (Builtin.List.listSubscript? (.int i t) >>= _) _ _ s
  refine wpAny_bind (wpAny_listSubscript_int (fitsIndex_of h0 hfit) ?_)
  clear hfit
  obtain ⟨j, rfl⟩ := Int.eq_ofNat_of_zero_le h0
  have hj : j < items.size := by omega
  have hx' : items[j]? = some items[j] := Array.getElem?_eq_getElem hj
  show wpAny _ _ ((seqItemAt l j >>= fun r => pure (r.map (j, ·))) >>= _) _ _ s
  refine wpAny_bind (wpAny_bind (wpAny_seqItemAt ho rfl (wpAny_pure ?_)))
  rw [hx']
  show wpAny _ _ (setSeqItemAt l j v >>= _) _ _ s
  have hfin : (s.heap.update l (Obj.mapSeq (·.setIfInBounds j v))).PlainList l (items.setIfInBounds j v) := by
    exact ⟨_, (Heap.get?_update_self _ ho rfl).trans rfl⟩
  refine wpAny_bind (wpAny_setSeqItemAt ho rfl ?_)
  first
    | exact wpAny_bind (wpAny_pure (wpAny_pure ⟨.none, rfl, wpAny_pure (hQ _ hfin (Heap.SameBut.update ..))⟩))
    | exact wpAny_pure ⟨.none, rfl, wpAny_pure (hQ _ hfin (Heap.SameBut.update ..))⟩

theorem Paired.setIf {α : List Addr} {xs : List V} {vs : List Value} (i : Nat) {v : V} {c : Value} (h : Paired (VR α) xs vs) (r : VR α v c) : ∃ us : List Value, vs.toArray.setIfInBounds i c = us.toArray ∧ Paired (VR α) (xs.set i v) us :=
  ⟨vs.set i c, by simp, Paired.set i h r⟩

theorem S1.setItem {e o i : Expr} {p pos : Pos} {f g h : Ex} (hf : SE prog w B k sc vm e f) (hg : SE prog w B k sc vm o g) (hh : SE prog w B k sc vm i h)
    (hs : ∀ env, swapsWith e (some (.Subscript o i p)) pos.line env = pure false := by intro _; rfl) : S1 prog w B k sc vm (.Assign [.Subscript o i p] e pos) (gSetItem f g h) := by
  intro ρ H f' ρ' H' q A env s α O Rm R S
  obtain ⟨⟨v, H₁⟩, e1, q⟩ := Option.bind_eq_some_iff.mp q
  obtain ⟨⟨o', H₂⟩, e2, q⟩ := Option.bind_eq_some_iff.mp q
  obtain ⟨⟨i', H₃⟩, e3, q⟩ := Option.bind_eq_some_iff.mp q
  dsimp only at e2 e3 q
  refine wpAny_Assign_Subscript (wpAny_mono (hf ρ H v H₁ e1 A env s α O Rm R S) (fun c s₁ h₁ => ?_) fun _ _ h => h) (hs env)
  obtain ⟨α₁, st₁, S₁, r₁⟩ := h₁
  refine two_ok hg hh e2 e3 O Rm (R.step st₁) S₁ fun ca cb s₂ α₂ st₂ S₂ R₂ ra rb => ?_
  have r₁' : VR α₂ v c := by obtain ⟨δ, rfl, _⟩ := st₂.ext; exact r₁.more
  split at q
  · rename_i _ k' i _
    split at q
    · rename_i xs hx
      split at q
      · rename_i hb
        first | (obtain ⟨rfl, rfl⟩ := pair_some q) | cases q
        obtain ⟨aa, rfl, ha⟩ := ra.ref_inv
        obtain ⟨t, rfl⟩ := rb.int_inv
        obtain ⟨us, hp, hv⟩ := S₂.list ha hx
        refine setItem_list hp hb.1 (by omega) (by rw [Paired.size hv]; exact hb.2.1) fun h' hl' hs' => ?_
        obtain ⟨us', e', r'⟩ := Paired.setIf i.toNat hv r₁'
        have st := st₁.trans0 st₂ S₂.nd
        have hm : aa ∈ α₂ := List.mem_of_getElem? ha
        have S₃ := S₂.put (o := .list (xs.set i.toNat v)) ha hs'.extBut (by obtain ⟨n, e⟩ := hl'; rw [e]; rfl) ⟨us', e' ▸ hl', r'⟩
        have st₃ : Step [] α₂ s₂ α₂ { s₂ with heap := h' } := ⟨⟨[], by simp, by simp⟩, fun b o e h1 _ => hs'.extBut b o (fun e' => h1 (e' ▸ hm)) e, rfl, GX.refl _⟩
        have st' := st.trans0 st₃ S₃.nd
        exact ⟨α₂, st'.weak (fun _ h => nomatch h), S₃, R.step st', .next⟩
      · first | (obtain ⟨rfl, rfl⟩ := pair_some q) | cases q
    · first | (obtain ⟨rfl, rfl⟩ := pair_some q) | cases q
  · first | (obtain ⟨rfl, rfl⟩ := pair_some q) | cases q

/-! ## two names swapped -/
noncomputable def gSwap (n n' : Nat) : Sx := fun ρ H => match ρ[n]?, ρ[n']? with
  | some (some a), some (some b) => some (.next, put n b (put n' a ρ), H)
  | _, _ => none
theorem S1.swap {n n' : Nat} {x y : Str} {c1 c2 : Nat} {p p' q q' p1 p2 pos : Pos} (hn : vm[n]? = some x) (hn' : vm[n']? = some y) (hx : sc.names.lookup x = some .local) (hy : sc.names.lookup y = some .local)
    (hsw : ∀ env, EO env sc → swappedStores [.Tuple [.Name x p, .Name y p'] c1 p1] (.Tuple [.Name y q, .Name x q'] c2 p2) env = pure (some [x, y]))
    (hcx : (x == ("__classdict__" : Str)) = false := by decide) (hcy : (y == ("__classdict__" : Str)) = false := by decide)
    (hdx : (x == ("__debug__" : Str)) = false := by decide) (hdy : (y == ("__debug__" : Str)) = false := by decide) :
    S1 prog w B k sc vm (.Assign [.Tuple [.Name x p, .Name y p'] c1 p1] (.Tuple [.Name y q, .Name x q'] c2 p2) pos) (gSwap n n') := by
  intro ρ H f' ρ' H' e A env s α O Rm R S
  unfold gSwap at e
  split at e
  · rename_i a b ha hb
    first | (obtain ⟨rfl, rfl⟩ := pair_some e) | cases e
    rw [exec_Assign_arm]
    refine wpAny_bind (wpAny_standAt ?_)
    have hs : swapsWithSole [.Tuple [.Name x p, .Name y p'] c1 p1] (.Tuple [.Name y q, .Name x q'] c2 p2) pos.line env = pure false := rfl
    rw [hs]
    refine wpAny_bind (wpAny_pure ?_)
    rw [if_neg (by decide)]
    refine wpAny_bind ?_
    have L : SL prog w B k sc vm [.Name y q, .Name x q'] [eVar n', eVar n] := SL.cons (SE.var hn' (.inl hy) hcy hdy) (SL.cons (SE.var hn (.inl hx) hcx hdx) SL.nil)
    refine wpAny_Tuple_spliced (wpAny_mono (L ρ H [b, a] H (by simp [eRow, eVar, ha, hb]) p2 A env s α O Rm R S) (fun cs s₁ h₁ => ?_) fun _ _ h => h)
    obtain ⟨α₁, st, S₁, r⟩ := h₁
    cases r with
    | @cons _ cb _ _ rb r => cases r with
      | @cons _ ca _ _ ra r =>
        cases r
        refine ⟨size_line (by simp), ?_⟩
        rw [hsw env O]
        refine wpAny_bind (wpAny_pure ?_)
        unfold assignStores
        refine wpAny_bind (wpAny_rule ?_)
        have hT : (s₁.heap.push { cls := .type "tuple", data := .seq [cb, ca].toArray }).IsTuple s₁.heap.objs.size #[cb, ca] := ⟨_, Heap.get?_push_size _ rfl, rfl, _, rfl⟩
        have keep : ∀ b o, s₁.heap.get? b = some o → (s₁.heap.push { cls := .type "tuple", data := .seq [cb, ca].toArray }).get? b = some o := fun b o h => Heap.get?_push_of_some _ h
        refine wpAny_bind (wpAny_unpackItems_tuple (s := { s₁ with heap := s₁.heap.push { cls := .type "tuple", data := .seq [cb, ca].toArray } }) (items := #[cb, ca]) Rm.1 hT fun h' hx' => ?_)
        have keep' : ∀ b o, s₁.heap.get? b = some o → h'.get? b = some o := fun b o h => hx' b o (fun e => by
          have := Heap.lt_size (keep b o h)
          rw [e] at this; exact Nat.lt_irrefl _ this) (keep b o h)
        have st₁ : Step [] α s α₁ { s₁ with heap := h' } := st.trans0 (Step.kept keep' (tk := s₁.toks)) S₁.nd
        have S₂ : SR B α₁ H h' := S₁.at keep'
        show wpAny _ _ (do assignInOrder [fun v => bindName env y v, fun v => bindName env x v] [ca, cb]; pure Flow.next) _ _ _
        refine wpAny_bind ?_
        show wpAny _ _ (do holding [cb] (bindName env y ca); assignInOrder [fun v => bindName env x v] [cb]) _ _ _
        refine wpAny_bind (wpAny_holding (wpAny_bindName (store_ok (s := { s₁ with heap := h' }) hn' (.inl hy) O (R.step st₁) S₂ ra fun s₃ st₃ S₃ R₃ => ?_)))
        show wpAny _ _ (do holding [] (bindName env x cb); assignInOrder [] []) _ _ _
        refine wpAny_bind (wpAny_holding (wpAny_bindName (store_ok hn (.inl hx) O R₃ S₃ rb fun s₄ st₄ S₄ R₄ => ?_)))
        show wpAny _ _ (pure ()) _ _ _
        refine wpAny_pure (wpAny_pure ⟨α₁, (st₁.after st₃ S₃.nd (own_live R)).both st₄ S₄.nd R₃.live, S₄, R₄, FR.next⟩)
  · first | (obtain ⟨rfl, rfl⟩ := pair_some e) | cases e

/-! ## while -/
noncomputable def gWhile (t : Tx) (b : Sx) : Nat → Sx
  | 0, _, _ => none
  | n + 1, ρ, H => (t ρ H).bind fun p => if p.1 then (b ρ p.2).bind fun r => match r with
      | (.next, ρ₁, H₁) => gWhile t b n ρ₁ H₁
      | r => some r
    else some (.next, ρ, p.2)
inductive WhI (B : Heap) (vm : List Str) (ft : Tx) (b : Sx) (f' : F) (ρ' : Lo) (H' : Hp) (env : Env) (α : List Addr) (s : Shared) (n : Nat) (s' : Shared) : Prop
  | mk (ρ₁ : Lo) (H₁ : Hp) (α₁ : List Addr) (e : gWhile ft b n ρ₁ H₁ = some (f', ρ', H')) (st : Step (own env) α s α₁ s') (S₁ : SR B α₁ H₁ s'.heap) (R₁ : ER B vm env ρ₁ α₁ s'.heap) : WhI B vm ft b f' ρ' H' env α s n s'
theorem S1.while {t : Expr} {xs : List Stmt} {pos : Pos} {ft : Tx} {b : Sx} (N : Nat) (ht : ST prog w B k sc vm t ft) (hb : SS prog w B k sc vm xs b) :
    S1 prog w B k sc vm (.While t xs [] pos) (gWhile ft b N) := by
  intro ρ H f' ρ' H' q A env s α O Rm R S
  refine wpAny_While ?_
  refine codeAny_whileLoop (WhI B vm ft b f' ρ' H' env α s) ?_ N ⟨ρ, H, α, q, Step.refl .., S, R⟩
  rintro n s' ⟨ρ₁, H₁, α₁, e, st, S₁, R₁⟩
  cases n with
  | zero => cases e
  | succ n =>
    obtain ⟨⟨c, H₂⟩, e1, e2⟩ := Option.bind_eq_some_iff.mp e
    refine wpAny_mono (ht ρ₁ H₁ c H₂ e1 A env s' α₁ O Rm R₁ S₁) (fun c s₂ h₂ => ?_) fun _ _ h => h.elim
    obtain ⟨rfl, α₂, st₂, S₂⟩ := h₂
    have R₂ := R₁.step st₂
    have st' := st.both (st₂.weak (fun _ h => nomatch h)) S₂.nd R₁.live
    cases c with
    | true =>
      simp only [if_true] at e2 ⊢
      obtain ⟨⟨f, ρ₃, H₃⟩, e3, e4⟩ := Option.bind_eq_some_iff.mp e2
      refine wpAny_mono (hb ρ₁ H₂ f ρ₃ H₃ e3 A env s₂ α₂ O Rm R₂ S₂) (fun c s₃ h₃ => ?_) fun _ _ h => h.elim
      obtain ⟨α₃, st₃, S₃, R₃, fr⟩ := h₃
      have st'' := st'.both st₃ S₃.nd R₂.live
      cases fr with
      | next => exact ⟨n, Nat.lt_succ_self _, ρ₃, H₃, α₃, e4, st'', S₃, R₃⟩
      | ret h => cases e4; exact ⟨α₃, st'', S₃, R₃, .ret h⟩
    | false =>
      simp only [Bool.false_eq_true, if_false] at e2 ⊢
      first | (obtain ⟨rfl, rfl⟩ := pair_some e2) | cases e2
      exact wpAny_execs_nil ⟨α₂, st', S₂, R₂, .next⟩

/-! ## iterators -/
noncomputable def okAt : Option Nat → List V → Hp → Bool
  | none, _, _ => true
  | some l, xs, H => decide (H[l]? = some (.list xs))
noncomputable def chars (x : Str) : List V := x.cps.toList.map fun c => .str ⟨#[c]⟩
noncomputable def iterKind : V → Hp → Option (Option Nat × List V)
  | .str x, _ => some (none, chars x)
  | .ref l, H => match H[l]? with
    | some (.list xs) => some (some l, xs)
    | some (.range a b c) => if smallR a b c then some (none, rangeL a b c) else none
    | _ => none
  | _, _ => none

noncomputable def ownKinds : List String := ["enumerate", "zip", "dict_itemiterator", "dict_reverseitemiterator", "odict_iterator", "itertools.zip_longest", "itertools.pairwise"]
structure Src (prog : Program) (w : World) (B : Heap) (I : Addr) (kd : Option Nat) (xs : List V) (α₀ : List Addr) (Iv : Nat → Obj → Prop) : Prop where
  item : ∀ (A : Around) (i : Nat) (s : Shared) (α : List Addr) (H : Hp) (v : V) (Q : Option Value → Shared → Prop) (E : Value → Shared → Prop), A.handled = none → xs[i]? = some v → okAt kd xs H = true → (∃ δ, α = α₀ ++ δ) →
    SR B α H s.heap → I ∉ α → (∃ o, s.heap.get? I = some o ∧ Iv i o) → (∀ c h' tk, VR α v c → (∃ o, h'.get? I = some o ∧ Iv (i + 1) o) → Heap.ExtBut I s.heap h' → Q (some c) { s with heap := h', toks := tk }) →
    wpAny (model prog w) A (pyNext (.ref I)) Q E s
  done : ∀ (A : Around) (s : Shared) (α : List Addr) (H : Hp) (Q : Option Value → Shared → Prop) (E : Value → Shared → Prop), A.handled = none → okAt kd xs H = true → (∃ δ, α = α₀ ++ δ) →
    SR B α H s.heap → I ∉ α → (∃ o, s.heap.get? I = some o ∧ Iv xs.length o) → (∀ h' tk, Heap.ExtBut I s.heap h' → Q none { s with heap := h', toks := tk }) →
    wpAny (model prog w) A (pyNext (.ref I)) Q E s
  cls : ∀ (i : Nat) (s : Shared), (∃ o, s.heap.get? I = some o ∧ Iv i o) → ∃ o T, s.heap.get? I = some o ∧ o.cls = .type T ∧ ownKinds.contains T = false
  self : ∀ (A : Around) (i : Nat) (s : Shared) (Q : Value → Shared → Prop) (E : Value → Shared → Prop), (∃ o, s.heap.get? I = some o ∧ Iv i o) → Q (.ref I) s → wpAny (model prog w) A (pyIter (.ref I)) Q E s

theorem Src.list {I : Addr} {l : Nat} {ax : Addr} {xs : List V} {α₀ : List Addr} (hl : α₀[l]? = some ax) : Src prog w B I (some l) xs α₀ (fun i o => ∀ h : Heap, h.get? I = some o → h.IsListIter I ax i) where
  item := fun A i s α H v Q E hh hx hok ⟨δ, hα⟩ S hI ⟨o, ho, hIv⟩ hQ => by
    have hl' : α[l]? = some ax := by rw [hα, List.getElem?_append_left (List.getElem?_eq_some_iff.mp hl).1]; exact hl
    obtain ⟨vs, hp, hv⟩ := S.list hl' (of_decide_eq_true hok)
    obtain ⟨c, hc, r⟩ := Paired.get hv hx
    refine wpAny_pyNext_list_item (hIv _ ho) hp.isList (x := c) (by simpa using hc) fun h' hit hs => ?_
    obtain ⟨o', ho', r'⟩ := hit
    exact hQ c h' s.toks r ⟨o', ho', fun h e => ⟨o', e, r'⟩⟩ hs.extBut
  done := fun A s α H Q E hh hok ⟨δ, hα⟩ S hI ⟨o, ho, hIv⟩ hQ => by
    have hl' : α[l]? = some ax := by rw [hα, List.getElem?_append_left (List.getElem?_eq_some_iff.mp hl).1]; exact hl
    obtain ⟨vs, hp, hv⟩ := S.list hl' (of_decide_eq_true hok)
    exact wpAny_pyNext_list_end hh (hIv _ ho) hp.isList (by
      rw [List.getElem?_toArray]
      exact List.getElem?_eq_none (by rw [← hv.length]; exact Nat.le_refl _)) fun h' hs => hQ h' s.toks hs
  cls := fun i s ⟨o, ho, hIv⟩ => let ⟨o', ho', hc, _⟩ := hIv _ ho; ⟨o', _, ho', hc, by decide⟩
  self := fun A i s Q E ⟨o, ho, hIv⟩ hQ => wpAny_pyIter_listiter (hIv _ ho) hQ
theorem chars_get {x : Str} {i : Nat} {v : V} (h : (chars x)[i]? = some v) : ∃ c, x.cps[i]? = some c ∧ v = .str ⟨#[c]⟩ := by
  unfold chars at h
  rw [List.getElem?_map, Option.map_eq_some_iff] at h
  obtain ⟨c, h1, h2⟩ := h
  exact ⟨c, by simpa using h1, h2.symm⟩
theorem Src.ascii {I : Addr} {x : Str} {t : Tok} {α₀ : List Addr} : Src prog w B I none (chars x) α₀ (fun i o => ∀ h : Heap, h.get? I = some o → h.IsStrIter I "str_ascii_iterator" x t i) where
  item := fun A i s α H v Q E hh hx hok _ S hI ⟨o, ho, hIv⟩ hQ => by
    obtain ⟨c, hc, rfl⟩ := chars_get hx
    refine wpAny_pyNext_ascii_item (hIv _ ho) hc fun h' hit hs => ?_
    obtain ⟨o', ho', r'⟩ := hit
    exact hQ _ h' _ (.str _ _) ⟨o', ho', fun h e => ⟨o', e, r'⟩⟩ hs.extBut
  done := fun A s α H Q E hh hok _ S hI ⟨o, ho, hIv⟩ hQ =>
    wpAny_pyNext_ascii_end hh (hIv _ ho) (Array.getElem?_eq_none (by simp [chars])) fun h' hs => hQ h' s.toks hs
  cls := fun i s ⟨o, ho, hIv⟩ => let ⟨o', ho', hc, _⟩ := hIv _ ho; ⟨o', _, ho', hc, by decide⟩
  self := fun A i s Q E ⟨o, ho, hIv⟩ hQ => wpAny_pyIter_striter_ascii (hIv _ ho) hQ
theorem Src.wide {I : Addr} {x : Str} {t : Tok} {α₀ : List Addr} : Src prog w B I none (chars x) α₀ (fun i o => ∀ h : Heap, h.get? I = some o → h.IsStrIter I "str_iterator" x t i) where
  item := fun A i s α H v Q E hh hx hok _ S hI ⟨o, ho, hIv⟩ hQ => by
    obtain ⟨c, hc, rfl⟩ := chars_get hx
    refine wpAny_pyNext_wide_item (hIv _ ho) hc fun h' hit hs => ?_
    obtain ⟨o', ho', r'⟩ := hit
    exact hQ _ h' _ (.str _ _) ⟨o', ho', fun h e => ⟨o', e, r'⟩⟩ hs.extBut
  done := fun A s α H Q E hh hok _ S hI ⟨o, ho, hIv⟩ hQ =>
    wpAny_pyNext_wide_end hh (hIv _ ho) (Array.getElem?_eq_none (by simp [chars])) fun h' hs => hQ h' s.toks hs
  cls := fun i s ⟨o, ho, hIv⟩ => let ⟨o', ho', hc, _⟩ := hIv _ ho; ⟨o', _, ho', hc, by decide⟩
  self := fun A i s Q E ⟨o, ho, hIv⟩ hQ => wpAny_pyIter_striter_wide (hIv _ ho) hQ
theorem rangeL_get {a b c : Int} {i : Nat} {v : V} (h : (rangeL a b c)[i]? = some v) : i < rangeN a b c ∧ v = .int (a + (i : Int) * c) := by
  unfold rangeL at h
  rw [List.getElem?_map, Option.map_eq_some_iff] at h
  obtain ⟨j, h1, h2⟩ := h
  obtain ⟨h3, h4⟩ := List.getElem?_eq_some_iff.mp h1
  simp at h3 h4
  subst h4
  exact ⟨h3, h2.symm⟩
theorem Src.range {I : Addr} {a b c : Int} {α₀ : List Addr} : Src prog w B I none (rangeL a b c) α₀ (fun i o => ∀ h : Heap, h.get? I = some o → IsRangeIter h I (a + (i : Int) * c) ((rangeN a b c : Int) - (i : Int)) c) where
  item := fun A i s α H v Q E hh hx hok _ S hI ⟨o, ho, hIv⟩ hQ => by
    obtain ⟨hi, rfl⟩ := rangeL_get hx
    refine wpAny_pyNext_range_item (hIv _ ho) (by omega) fun h' hit hs => ?_
    refine hQ _ h' _ (.int _ _) ⟨_, hit, fun h e => ?_⟩ hs.extBut
    have e1 : a + ((i + 1 : Nat) : Int) * c = a + (i : Int) * c + c := by push_cast; rw [Int.add_mul]; omega
    have e2 : (rangeN a b c : Int) - ((i + 1 : Nat) : Int) = (rangeN a b c : Int) - (i : Int) - 1 := by push_cast; omega
    rw [e1, e2]; exact e
  done := fun A s α H Q E hh hok _ S hI ⟨o, ho, hIv⟩ hQ =>
    wpAny_pyNext_range_end hh (hIv _ ho) (by simp [rangeL]) fun h' hs => hQ h' s.toks hs
  cls := fun i s ⟨o, ho, hIv⟩ => ⟨_, _, hIv _ ho, rfl, by decide⟩
  self := fun A i s Q E ⟨o, ho, hIv⟩ hQ => wpAny_pyIter_rangeiter (hIv _ ho) hQ

noncomputable def calmTarget : Expr → Bool
  | .Name .. => true
  | .Tuple .. => true
  | _ => false
theorem letgo_ok {t : Expr} {I : Addr} {v : Value} {A : Around} {s : Shared} {Q : Unit → Shared → Prop} {E : Value → Shared → Prop} (ht : calmTarget t = true) (hI : ∃ o T, s.heap.get? I = some o ∧ o.cls = .type T ∧ ownKinds.contains T = false) (hQ : Q () s) :
    wpAny (model prog w) A (letOwnedTupleGo t (.ref I) v) Q E s := by
  obtain ⟨o, T, ho, hc, hT⟩ := hI
  have hT' : (["enumerate", "zip", "dict_itemiterator", "dict_reverseitemiterator", "odict_iterator", "itertools.zip_longest", "itertools.pairwise"] : List String).contains T = false := hT
  cases t <;> simp only [calmTarget, Bool.false_eq_true] at ht
  · exact wpAny_pure hQ
  · cases v with
    | ref a =>
      unfold letOwnedTupleGo
      refine wpAny_bind (wpAny_load ho ?_)
      rw [hc]
      cases o.data <;> first
        | exact wpAny_pure hQ
        | (show wpAny _ A (if (["enumerate", "zip", "dict_itemiterator", "dict_reverseitemiterator", "odict_iterator", "itertools.zip_longest", "itertools.pairwise"].contains T && _) = true then _ else _) Q E s
           rw [hT', Bool.false_and, if_neg Bool.false_ne_true]
           exact wpAny_pure hQ)
    | _ => exact wpAny_pure hQ

theorem iter_ok {v : V} {H : Hp} {kd : Option Nat} {xs : List V} {α : List Addr} {c : Value} {s : Shared} {A : Around} {Q : Value → Shared → Prop} {E : Value → Shared → Prop} (e : iterKind v H = some (kd, xs)) (S : SR B α H s.heap) (r : VR α v c)
    (hQ : ∀ h' tk Iv, Src prog w B s.heap.objs.size kd xs α Iv → (∃ o, h'.get? s.heap.objs.size = some o ∧ Iv 0 o) → (∀ b o, s.heap.get? b = some o → h'.get? b = some o) → Q (.ref s.heap.objs.size) { s with heap := h', toks := tk }) :
    wpAny (model prog w) A (pyIter c) Q E s := by
  cases r with
  | none => cases e
  | bool => cases e
  | int => cases e
  | typ => cases e
  | base => cases e
  | str x t =>
    first | (obtain ⟨rfl, rfl⟩ := pair_some e) | cases e
    cases ha : x.cps.all (· < 128) with
    | true => exact wpAny_pyIter_ascii ha (hQ _ s.toks _ Src.ascii ⟨_, Heap.get?_push_size _ rfl, fun h e => ⟨_, e, rfl, rfl⟩⟩ fun b o h => Heap.get?_push_of_some _ h)
    | false => exact wpAny_pyIter_wide ha (hQ _ s.toks _ Src.wide ⟨_, Heap.get?_push_size _ rfl, fun h e => ⟨_, e, rfl, rfl⟩⟩ fun b o h => Heap.get?_push_of_some _ h)
  | @ref l ax hl =>
    simp only [iterKind] at e
    split at e
    · rename_i ys hx
      first | (obtain ⟨rfl, rfl⟩ := pair_some e) | cases e
      obtain ⟨us, hp, hv⟩ := S.list hl hx
      exact wpAny_pyIter_list hp.isList (hQ _ s.toks _ (Src.list hl) ⟨_, Heap.get?_push_size _ rfl, fun h e => ⟨_, e, rfl, rfl⟩⟩ fun b o h => Heap.get?_push_of_some _ h)
    · rename_i a b d hx
      split at e
      · rename_i hs
        first | (obtain ⟨rfl, rfl⟩ := pair_some e) | cases e
        obtain ⟨t, u, v, hr⟩ := S.obj _ _ _ hl hx
        refine wpAny_pyIter_range hr (small_ok hs) ?_
        refine hQ _ s.toks _ (Src.range (b := b)) ⟨_, Heap.get?_push_size _ rfl, fun h e => ?_⟩ fun b o h => Heap.get?_push_of_some _ h
        rw [← rangeN_eq hs]
        simpa [IsRangeIter] using e
      · first | (obtain ⟨rfl, rfl⟩ := pair_some e) | cases e
    · first | (obtain ⟨rfl, rfl⟩ := pair_some e) | cases e
end
end Mine
end

/-! part M12 -/
section
set_option maxRecDepth 10000
set_option linter.unusedVariables false
open PySem PyProof.Rows
namespace Mine
section
variable {prog : Program} {w : World} {B : Heap} {k : Nat} {sc : Scope} {vm : List Str}

/-! ## targets -/
noncomputable abbrev Tg := V → Lo → Hp → Option Lo
noncomputable def SG (prog : Program) (w : World) (B : Heap) (k : Nat) (sc : Scope) (vm : List Str) (Wf : Env → List Addr) (t : Expr) (tg : Tg) : Prop :=
  ∀ (v : V) (ρ : Lo) (H : Hp) (ρ' : Lo), tg v ρ H = some ρ' → ∀ (A : Around) (env : Env) (s : Shared) (α : List Addr) (c : Value), EO env sc → Room A k → ER B vm env ρ α s.heap → SR B α H s.heap → VR α v c →
    wpAny (model prog w) A (assign t env c) (fun _ s' => Step (Wf env) α s α s' ∧ SR B α H s'.heap ∧ ER B vm env ρ' α s'.heap) noE s
noncomputable def tName (n : Nat) : Tg := fun v ρ _ => some (put n v ρ)
noncomputable def tPair (n n' : Nat) : Tg := fun v ρ H => match v with
  | .ref l => match H[l]? with
    | some (.list [a, b]) => some (put n' b (put n a ρ))
    | _ => none
  | _ => none
theorem SG.name {n : Nat} {x : Str} {p : Pos} (hn : vm[n]? = some x) (hkd : Held sc x) : SG prog w B k sc vm own (.Name x p) (tName n) := by
  intro v ρ H ρ' e A env s α c O Rm R S r
  first | (obtain ⟨rfl, rfl⟩ := pair_some e) | cases e
  exact wpAny_assign_Name (store_ok hn hkd O R S r fun s' st S' R' => ⟨st, S', R'⟩)

theorem store_loc {n : Nat} {x : Str} {ρ : Lo} {H : Hp} {v : V} {c : Value} {A : Around} {env : Env} {s : Shared} {α : List Addr} {Q : Unit → Shared → Prop} {E : Value → Shared → Prop}
    (hn : vm[n]? = some x) (h : sc.names.lookup x = some .local) (O : EO env sc) (R : ER B vm env ρ α s.heap) (S : SR B α H s.heap) (r : VR α v c)
    (hQ : ∀ s', Step [env.locals] α s α s' → SR B α H s'.heap → ER B vm env (put n v ρ) α s'.heap → Q () s') : wpAny (model prog w) A (storeName env x c) Q E s := by
  have hk : env.scope.kind = .function := by rw [O.scE]; exact O.kind
  have hko : env.kindOf x = sc.names.lookup x := by unfold Env.kindOf; rw [O.scE]
  have step : ∀ (a : Addr) (h' : Heap) (tk : Nat), a ∈ [env.locals] → Heap.SameBut a s.heap h' → Step [env.locals] α s α { s with heap := h', toks := tk } := fun a h' tk ha hs =>
    ⟨⟨[], by simp, by simp⟩, fun b o e _ h2 => hs.extBut b o (fun e' => h2 (e' ▸ ha)) e, rfl, GX.refl _⟩
  have putget : ∀ (n' : Nat) (u : V), (put n v ρ)[n']? = some (some u) → n' ≠ n → ρ[n']? = some (some u) := fun n' u h h1 => by
    unfold put at h; rwa [List.getElem?_set_ne (Ne.symm h1)] at h
  have putself : ∀ (u : V), (put n v ρ)[n]? = some (some u) → u = v := fun u h => by
    unfold put at h
    by_cases hl : n < ρ.length
    · rw [List.getElem?_set_self hl] at h; cases h; rfl
    · rw [List.getElem?_eq_none (by simpa using hl)] at h; cases h
  obtain ⟨m, hm, hl⟩ := R.loc
  have hxl := hko.trans h
  refine wpAny_storeName_local hxl hm (fun h' hn' hs => ?_) (by rw [hk]; rfl)
  refine hQ _ (step _ _ _ (List.mem_singleton.mpr rfl) hs) (S.out R.La R.Lb hs.extBut) ?_
  have kc : ∀ p ∈ env.cells, ∀ c, s.heap.IsCell p.2 c → h'.IsCell p.2 c := fun p hp c ⟨o, e, d⟩ => ⟨o, hs.extBut _ _ (R.Ca p hp).2.1 e, d⟩
  refine ⟨R.nd, ⟨_, hn', fun n' y u h1 h2 h3 => ?_⟩, fun n' y u h1 h2 h3 => ?_, fun y h1 => ?_, R.La, fun p hp => ?_, R.Cn, R.Lb, R.Cb⟩
  · by_cases hyx : y = x
    · subst hyx
      have := nodup_at R.nd h1 hn
      subst this
      rw [putself u h3]
      exact ⟨c, by simp, r⟩
    · obtain ⟨c', e', r'⟩ := hl n' y u h1 h2 (putget n' u h3 fun e => hyx (by subst e; rw [hn] at h1; exact (Option.some.inj h1).symm))
      exact ⟨c', by simp [hyx, e'], r'⟩
  · have hyx : y ≠ x := fun e => by subst e; rw [hxl] at h2; rcases h2 with h2 | h2 <;> cases h2
    obtain ⟨a, c', e', r', q'⟩ := R.cel n' y u h1 h2 (putget n' u h3 fun e => hyx (by subst e; rw [hn] at h1; exact (Option.some.inj h1).symm))
    exact ⟨a, c', e', kc _ (mem_of_lookup e') _ r', q'⟩
  · obtain ⟨a, c', e', r'⟩ := R.has y h1
    exact ⟨a, c', e', kc _ (mem_of_lookup e') _ r'⟩
  · obtain ⟨h1, h2, c', h3⟩ := R.Ca p hp
    exact ⟨h1, h2, c', kc p hp _ h3⟩
noncomputable abbrev loc1 : Env → List Addr := fun env => [env.locals]
theorem SG.local {n : Nat} {x : Str} {p : Pos} (hn : vm[n]? = some x) (h : sc.names.lookup x = some .local) : SG prog w B k sc vm loc1 (.Name x p) (tName n) := by
  intro v ρ H ρ' e A env s α c O Rm R S r
  first | (obtain ⟨rfl, rfl⟩ := pair_some e) | cases e
  exact wpAny_assign_Name (store_loc hn h O R S r fun s' st S' R' => ⟨st, S', R'⟩)

theorem draw_list {A : Around} {E : Value → Shared → Prop} {it l : Addr} {items : Array Value} (hne : l ≠ it) : ∀ (n i : Nat) (s : Shared) (Q : List Value → Shared → Prop), s.heap.IsListIter it l i → s.heap.IsList l items → i + n ≤ items.size →
    (∀ h', h'.IsListIter it l (i + n) → Heap.SameBut it s.heap h' → Q ((items.toList.drop i).take n) { s with heap := h' }) → wpAny (model prog w) A (draw (.ref it) n) Q E s
  | 0, i, s, Q, hit, _, _, hQ => by
    show wpAny _ _ (pure []) Q E s
    exact wpAny_pure (by simpa using hQ s.heap hit (Heap.SameBut.refl ..))
  | n + 1, i, s, Q, hit, ht, hle, hQ => by
    have hlt : i < items.size := by omega
    show wpAny _ _ (pyNext (.ref it) >>= _) Q E s
    refine wpAny_bind (wpAny_pyNext_list_item hit ht (x := items[i]) (by simp [hlt]) fun h₁ hit₁ hs₁ => ?_)
    refine wpAny_bind (wpAny_holding (draw_list hne n (i + 1) _ _ hit₁ (ht.extBut hs₁.extBut hne) (by omega) fun h₂ hit₂ hs₂ => wpAny_pure ?_))
    have hd : items.toList.drop i = items[i] :: items.toList.drop (i + 1) := by simp [List.drop_eq_getElem_cons, hlt]
    have := hQ h₂ (by rw [show i + (n + 1) = i + 1 + n by omega]; exact hit₂) (hs₁.trans hs₂)
    rw [hd, List.take_succ_cons] at this
    exact this
theorem unpack_list {A : Around} {E : Value → Shared → Prop} {s : Shared} {t : Addr} {items : Array Value} {Q : List Value → Shared → Prop} (hh : A.handled = none) (ht : s.heap.IsList t items)
    (hQ : ∀ h', Heap.ExtBut s.heap.objs.size s.heap h' → Q items.toList { s with heap := h' }) : wpAny (model prog w) A (unpackItems (.ref t) items.size none) Q E s := by
  have hlt : t ≠ s.heap.objs.size := by obtain ⟨o, ho, _⟩ := ht; exact Nat.ne_of_lt (Heap.lt_size ho)
  unfold unpackItems
  refine wpAny_bind ?_
  · unfold notIterableAtAll
    refine wpAny_bind (wpAny_specialOf ht.typeIs slot_list_iter.lookup ?_)
    refine wpAny_pure ?_
    simp only [Bool.false_eq_true, if_false]
    refine wpAny_bind (wpAny_holding (wpAny_pyIter_list ht ?_))
    refine wpAny_bind (wpAny_holding (draw_list hlt items.size 0 _ _ ⟨_, Heap.get?_push_size _ rfl, rfl, rfl⟩ (ht.push _) (by omega) fun h₁ hit₁ hs₁ => ?_))
    have hall : List.take items.size (List.drop 0 items.toList) = items.toList := by
      rw [List.drop_zero]; exact List.take_of_length_le (by simp)
    rw [hall]
    rw [if_neg (by simp)]
    have ht₁ : h₁.IsList t items := (ht.push _).extBut hs₁.extBut hlt
    refine wpAny_bind (wpAny_holding (wpAny_pyNext_list_end hh hit₁ ht₁ (by simp) fun h₂ he₂ => ?_))
    simp only [Option.isSome_none, Bool.false_eq_true, if_false]
    refine wpAny_pure (hQ h₂ fun b o hb e => he₂ b o hb (hs₁.extBut b o hb (Heap.get?_push_of_some _ e)))

theorem SG.pair {n n' : Nat} {x y : Str} {c1 : Nat} {p p' p1 : Pos} (hn : vm[n]? = some x) (h : sc.names.lookup x = some .local) (hn' : vm[n']? = some y) (h' : sc.names.lookup y = some .local)
    (he : ∀ env, assignEach [.Name x p, .Name y p'] env = [(false, assign (.Name x p) env), (false, assign (.Name y p') env)] := by intro _; rfl) :
    SG prog w B k sc vm loc1 (.Tuple [.Name x p, .Name y p'] c1 p1) (tPair n n') := by
  intro v ρ H ρ' e A env s α c O Rm R S r
  cases r with
  | @ref l al hl =>
    simp only [tPair] at e
    split at e
    · rename_i a b hx
      first | (obtain ⟨rfl, rfl⟩ := pair_some e) | cases e
      obtain ⟨vs, hp, hv⟩ := S.list hl hx
      cases hv with
      | @cons _ ca _ _ ra hv => cases hv with
        | @cons _ cb _ _ rb hv =>
          cases hv
          rw [arm_assign_Tuple]
          refine wpAny_bind (wpAny_standAt ?_)
          rw [he]
          show wpAny _ _ (unpack (.ref al) [(false, assign (.Name x p) env), (false, assign (.Name y p') env)]) _ _ _
          unfold unpack
          refine wpAny_bind (wpAny_holding ?_)
          refine unpack_list (items := #[ca, cb]) Rm.1 hp.isList fun h₂ hx => ?_
          have keep : ∀ b o, s.heap.get? b = some o → h₂.get? b = some o := fun b o h => hx b o (fun e => by
            have := Heap.lt_size h
            rw [e] at this; exact Nat.lt_irrefl _ this) h
          have st₁ : Step [] α s α { s with heap := h₂ } := Step.kept keep (tk := s.toks)
          have S₁ : SR B α H h₂ := S.at keep
          have R₁ : ER B vm env ρ α h₂ := R.step st₁
          show wpAny _ _ (do holding [cb] (assign (.Name x p) env ca); assignInOrder [assign (.Name y p') env] [cb]) _ _ _
          refine wpAny_bind (wpAny_holding (wpAny_assign_Name (store_loc (s := { s with heap := h₂ }) hn h O R₁ S₁ ra fun s₃ st₃ S₃ R₃ => ?_)))
          show wpAny _ _ (do holding [] (assign (.Name y p') env cb); assignInOrder [] []) _ _ _
          refine wpAny_bind (wpAny_holding (wpAny_assign_Name (store_loc hn' h' O R₃ S₃ rb fun s₄ st₄ S₄ R₄ => ?_)))
          have live : ∀ u ∈ [env.locals], (s₃.heap.get? u).isSome = true := fun u hu => R₃.live u (by rw [List.mem_singleton.mp hu]; exact List.mem_cons_self ..)
          refine wpAny_pure ⟨(st₁.after st₃ S₃.nd ?_).both st₄ S₄.nd live, S₄, R₄⟩
          exact fun u hu => own_live R u (by rw [List.mem_singleton.mp hu]; exact List.mem_cons_self ..)
    · first | (obtain ⟨rfl, rfl⟩ := pair_some e) | cases e
  | none => cases e
  | bool => cases e
  | int => cases e
  | str => cases e
  | typ => cases e
  | base => cases e

/-! ## the loop's invariant -/
structure LI (B : Heap) (vm : List Str) (W : List Addr) (env : Env) (I : Addr) (Iv : Nat → Obj → Prop) (α₀ : List Addr) (s₀ : Shared) (i : Nat) (α : List Addr) (ρ : Lo) (H : Hp) (s : Shared) : Prop where
  st : Step W α₀ s₀ α s
  S : SR B α H s.heap
  R : ER B vm env ρ α s.heap
  it : ∃ o, s.heap.get? I = some o ∧ Iv i o
  nI : I ∉ α
  oI : I ∉ own env
  fI : s₀.heap.get? I = none
  WO : ∀ a ∈ W, a ∈ own env

theorem LI.bI {W : List Addr} {env : Env} {I : Addr} {Iv : Nat → Obj → Prop} {α₀ : List Addr} {s₀ : Shared} {i : Nat} {α : List Addr} {ρ : Lo} {H : Hp} {s : Shared} (x : LI B vm W env I Iv α₀ s₀ i α ρ H s) (hb : ∀ b o, B.get? b = some o → s₀.heap.get? b = some o) : B.get? I = none := by
  cases e : B.get? I with
  | none => rfl
  | some o => have := hb _ _ e; rw [x.fI] at this; cases this
theorem LI.end {W : List Addr} {env : Env} {I : Addr} {Iv : Nat → Obj → Prop} {α₀ : List Addr} {s₀ : Shared} {i : Nat} {α : List Addr} {ρ : Lo} {H : Hp} {s : Shared} {h' : Heap} {tk : Nat} (x : LI B vm W env I Iv α₀ s₀ i α ρ H s)
    (hb : B.get? I = none) (hs : Heap.ExtBut I s.heap h') : Step W α₀ s₀ α { s with heap := h', toks := tk } ∧ SR B α H h' ∧ ER B vm env ρ α h' := by
  refine ⟨⟨x.st.ext, fun b o e h1 h2 => hs b o (fun e' => by subst e'; rw [x.fI] at e; cases e) (x.st.keep b o e h1 h2), x.st.os, x.st.gens⟩, x.S.out x.nI hb hs, ?_⟩
  exact x.R.kept ⟨[], by simp, by simp⟩ fun a ha o e => hs a o (fun e' => x.oI (e' ▸ ha)) e
theorem LI.next {W : List Addr} {env : Env} {I : Addr} {Iv : Nat → Obj → Prop} {α₀ : List Addr} {s₀ : Shared} {i : Nat} {α : List Addr} {ρ : Lo} {H : Hp} {s : Shared} {h' : Heap} {tk : Nat} (x : LI B vm W env I Iv α₀ s₀ i α ρ H s)
    (hb : B.get? I = none) (hs : Heap.ExtBut I s.heap h') (hit : ∃ o, h'.get? I = some o ∧ Iv (i + 1) o) : LI B vm W env I Iv α₀ s₀ (i + 1) α ρ H { s with heap := h', toks := tk } := by
  obtain ⟨a, b, c⟩ := x.end (tk := tk) hb hs
  exact ⟨a, b, c, hit, x.nI, x.oI, x.fI, x.WO⟩
theorem LI.go {W : List Addr} {env : Env} {I : Addr} {Iv : Nat → Obj → Prop} {α₀ : List Addr} {s₀ : Shared} {i : Nat} {α : List Addr} {ρ : Lo} {H : Hp} {s : Shared} {α' : List Addr} {ρ' : Lo} {H' : Hp} {s' : Shared} (x : LI B vm W env I Iv α₀ s₀ i α ρ H s)
    (st : Step W α s α' s') (S : SR B α' H' s'.heap) (R : ER B vm env ρ' α' s'.heap) : LI B vm W env I Iv α₀ s₀ i α' ρ' H' s' := by
  obtain ⟨o, ho, hi⟩ := x.it
  refine ⟨x.st.both st S.nd fun a ha => x.R.live a (x.WO a ha), S, R, ⟨o, st.keep _ _ ho x.nI fun h => x.oI (x.WO _ h), hi⟩, fun h => ?_, x.oI, x.fI, x.WO⟩
  obtain ⟨δ, rfl, hδ⟩ := st.ext
  rcases List.mem_append.mp h with h | h
  · exact x.nI h
  · rw [hδ _ h] at ho; cases ho

/-! ## for -/
noncomputable def gTurns (kd : Option Nat) (xs : List V) (tg : Tg) (b : Sx) : List V → Sx
  | [], ρ, H => if okAt kd xs H then some (.next, ρ, H) else none
  | v :: vs, ρ, H => if okAt kd xs H then (tg v ρ H).bind fun ρ₁ => (b ρ₁ H).bind fun r => match r with
      | (.next, ρ₂, H₂) => gTurns kd xs tg b vs ρ₂ H₂
      | r => some r
    else none
noncomputable def gFor (f : Ex) (tg : Tg) (b : Sx) : Sx := fun ρ H => (f ρ H).bind fun p => (iterKind p.1 p.2).bind fun q => gTurns q.1 q.2 tg b q.2 ρ p.2

theorem drop_step {α : Type} {xs vs : List α} {v : α} {i : Nat} (h : xs.drop i = v :: vs) : xs[i]? = some v ∧ xs.drop (i + 1) = vs := by
  have h1 : (xs.drop i)[0]? = some v := by rw [h]; rfl
  rw [List.getElem?_drop] at h1
  refine ⟨by simpa using h1, ?_⟩
  rw [← List.tail_drop, h]; rfl
theorem drop_nil {α : Type} {xs : List α} {i : Nat} (h : xs.drop i = []) (hi : i ≤ xs.length) : i = xs.length := by
  have := List.drop_eq_nil_iff.mp h
  omega

inductive ForI (B : Heap) (vm : List Str) (kd : Option Nat) (xs : List V) (tg : Tg) (b : Sx) (f : F) (ρ' : Lo) (H' : Hp) (env : Env) (I : Addr) (Iv : Nat → Obj → Prop) (α₀ : List Addr) (s₀ : Shared) (n : Nat) (s' : Shared) : Prop
  | mk (vs : List V) (ρ : Lo) (H : Hp) (α : List Addr) (i : Nat) (hn : n = vs.length) (e : gTurns kd xs tg b vs ρ H = some (f, ρ', H')) (hx : xs.drop i = vs) (hil : i ≤ xs.length) (L : LI B vm (own env) env I Iv α₀ s₀ i α ρ H s') : ForI B vm kd xs tg b f ρ' H' env I Iv α₀ s₀ n s'
theorem for_loop {I : Addr} {kd : Option Nat} {xs : List V} {α₀ : List Addr} {Iv : Nat → Obj → Prop} {t : Expr} {body : List Stmt} {tg : Tg} {b : Sx} {A : Around} {env : Env} {s₀ : Shared} {f : F} {ρ' : Lo} {H' : Hp} {R' : Result → Shared → Prop}
    (src : Src prog w B I kd xs α₀ Iv) (hb : ∀ b o, B.get? b = some o → s₀.heap.get? b = some o) (ht : SG prog w B k sc vm own t tg) (hbd : SS prog w B k sc vm body b) (O : EO env sc) (Rm : Room A k)
    (hlt : ∀ v, letOwnedTupleGo t (.ref I) v = pure ()) (hR : ∀ c s', SPost B vm env α₀ s₀ f ρ' H' c s' → R' (.ok (match c with | .ret v => .ret v | _ => .next)) s')
    {vs : List V} {ρ : Lo} {H : Hp} {α : List Addr} {s : Shared} {i : Nat} (e : gTurns kd xs tg b vs ρ H = some (f, ρ', H')) (hi : xs.drop i = vs) (hil : i ≤ xs.length) (L : LI B vm (own env) env I Iv α₀ s₀ i α ρ H s) :
    codeAny (model prog w) A (.forLoop t (.ref I) body [] env) R' s := by
  refine codeAny_forLoop (ForI B vm kd xs tg b f ρ' H' env I Iv α₀ s₀) ?_ vs.length ⟨vs, ρ, H, α, i, rfl, e, hi, hil, L⟩ hlt
  rintro n s' ⟨vs, ρ, H, α, i, rfl, e, hi, hil, L⟩
  have hbI := L.bI hb
  obtain ⟨δ, hα, _⟩ := L.st.ext
  cases vs with
  | nil =>
    simp only [gTurns] at e
    split at e
    · rename_i hok
      first | (obtain ⟨rfl, rfl⟩ := pair_some e) | cases e
      have hie := drop_nil hi hil
      subst hie
      refine src.done A s' α _ _ _ Rm.1 hok ⟨δ, hα⟩ L.S L.nI L.it fun h' tk hs => ?_
      obtain ⟨a, b, c⟩ := L.end (tk := tk) hbI hs
      exact wpAny_execs_nil (hR .next _ ⟨α, a, b, c, .next⟩)
    · first | (obtain ⟨rfl, rfl⟩ := pair_some e) | cases e
  | cons v vs =>
    simp only [gTurns] at e
    split at e
    · rename_i hok
      obtain ⟨ρ₁, e1, e⟩ := Option.bind_eq_some_iff.mp e
      obtain ⟨⟨f₁, ρ₂, H₂⟩, e2, e⟩ := Option.bind_eq_some_iff.mp e
      obtain ⟨hx, hi'⟩ := drop_step hi
      have hlt' : i < xs.length := (List.getElem?_eq_some_iff.mp hx).1
      refine src.item A i s' α H v _ _ Rm.1 hx hok ⟨δ, hα⟩ L.S L.nI L.it fun c h' tk r hit hs => ?_
      have L₁ := L.next (tk := tk) hbI hs hit
      refine wpAny_mono (ht v ρ H ρ₁ e1 A env _ α c O Rm L₁.R L₁.S r) (fun _ s₂ h₂ => ?_) fun _ _ h => h.elim
      have L₂ := L₁.go h₂.1 h₂.2.1 h₂.2.2
      refine wpAny_mono (hbd ρ₁ H f₁ ρ₂ H₂ e2 A env s₂ α O Rm L₂.R L₂.S) (fun c s₃ h₃ => ?_) fun _ _ h => h.elim
      obtain ⟨α₃, st₃, S₃, R₃, fr⟩ := h₃
      have L₃ := L₂.go st₃ S₃ R₃
      cases fr with
      | next => exact ⟨vs.length, Nat.lt_succ_self _, vs, ρ₂, H₂, α₃, i + 1, rfl, e, hi', hlt', L₃⟩
      | ret h =>
        first | (obtain ⟨rfl, rfl⟩ := pair_some e) | cases e
        exact hR (.ret _) _ ⟨α₃, L₃.st, S₃, R₃, .ret h⟩
    · first | (obtain ⟨rfl, rfl⟩ := pair_some e) | cases e

theorem S1.for {t it : Expr} {body : List Stmt} {pos : Pos} {f : Ex} {tg : Tg} {b : Sx} (hf : SE prog w B k sc vm it f) (ht : SG prog w B k sc vm own t tg) (hbd : SS prog w B k sc vm body b)
    (hs : ∀ env x, foldedSetIterable it env x = pure x := by intro _ _; rfl) (hlt : ∀ I v, letOwnedTupleGo t (.ref I) v = pure () := by intro _ _; rfl) :
    S1 prog w B k sc vm (.For t it body [] pos) (gFor f tg b) := by
  intro ρ H f' ρ' H' q A env s α O Rm R S
  obtain ⟨⟨v, H₁⟩, e1, q⟩ := Option.bind_eq_some_iff.mp q
  obtain ⟨⟨kd, xs⟩, e2, q⟩ := Option.bind_eq_some_iff.mp q
  refine wpAny_For (wpAny_mono (hf ρ H v H₁ e1 A env s α O Rm R S) (fun c s₁ h₁ => ?_) fun _ _ h => h) (hs env)
  obtain ⟨α₁, st₁, S₁, r₁⟩ := h₁
  have R₁ := R.step st₁
  refine iter_ok e2 S₁ r₁ fun h' tk Iv src hit keep => ?_
  have fr := fresh_size s₁.heap
  have st₂ : Step [] α₁ s₁ α₁ { s₁ with heap := h', toks := tk } := Step.kept keep
  refine for_loop (vs := xs) (i := 0) (s₀ := s₁) (α₀ := α₁) (f := f') (ρ' := ρ') (H' := H') src S₁.base ht hbd O Rm (hlt _) (fun c s' h => ?_) q rfl (Nat.zero_le _) ⟨st₂.weak (fun _ h => nomatch h), S₁.at keep, R₁.step st₂, hit, fun h => ?_, fun h => ?_, fr, fun _ h => h⟩
  · have h' := h.after (st₁.weak (fun _ h => nomatch h)) R₁.live
    obtain ⟨α', st', S', R', fr'⟩ := h'
    cases fr' with
    | next => exact ⟨α', st', S', R', .next⟩
    | ret hh => exact ⟨α', st', S', R', .ret hh⟩
  · have := S₁.live _ h; rw [fr] at this; cases this
  · have := R₁.live _ h; rw [fr] at this; cases this
end
end Mine
end

/-! part M13 -/
section
set_option maxRecDepth 10000
set_option linter.unusedVariables false
open PySem PyProof.Rows
namespace Mine
section
variable {prog : Program} {w : World} {B : Heap} {k : Nat} {sc : Scope} {vm : List Str}

noncomputable def cTurns (kd : Option Nat) (xs : List V) (tg : Tg) (t : Tx) (inn : Lo → Hp → Option (Lo × Hp)) : List V → Lo → Hp → Option (Lo × Hp)
  | [], ρ, H => if okAt kd xs H then some (ρ, H) else none
  | v :: vs, ρ, H => if okAt kd xs H then (tg v ρ H).bind fun ρ₁ => (t ρ₁ H).bind fun p =>
      if p.1 then (inn ρ₁ p.2).bind fun q => cTurns kd xs tg t inn vs q.1 q.2 else cTurns kd xs tg t inn vs ρ₁ p.2
    else none

noncomputable abbrev testsOf (ifs : List Expr) (env : Env) : Sem Bool := forIn ifs true fun c r => if r = true then do let ok ← isTrue c env (eval c env); pure (ForInStep.yield ok) else pure (ForInStep.yield r)
noncomputable def SI (prog : Program) (w : World) (B : Heap) (k : Nat) (sc : Scope) (vm : List Str) (ifs : List Expr) (f : Tx) : Prop :=
  ∀ (ρ : Lo) (H : Hp) (b : Bool) (H' : Hp), f ρ H = some (b, H') → ∀ (A : Around) (env : Env) (s : Shared) (α : List Addr), EO env sc → Room A k → ER B vm env ρ α s.heap → SR B α H s.heap →
    wpAny (model prog w) A (testsOf ifs env) (TPost B α s H' b) noE s
theorem SI.nil : SI prog w B k sc vm [] tTrue := by
  intro ρ H b H' e A env s α O Rm R S
  first | (obtain ⟨rfl, rfl⟩ := pair_some e) | cases e
  exact wpAny_tests_nil ⟨rfl, α, Step.refl .., S⟩
theorem SI.one {c : Expr} {f : Tx} (h : ST prog w B k sc vm c f) : SI prog w B k sc vm [c] f := by
  intro ρ H b H' e A env s α O Rm R S
  exact wpAny_tests_one (h ρ H b H' e A env s α O Rm R S)

noncomputable def SN (prog : Program) (w : World) (B : Heap) (k : Nat) (sc : Scope) (vm : List Str) (code : Value → Env → Sem Unit) (inn : Nat → Lo → Hp → Option (Lo × Hp)) : Prop :=
  ∀ (D : Nat) (ρ : Lo) (H : Hp) (ρ' : Lo) (H' : Hp), inn D ρ H = some (ρ', H') → ∀ (A : Around) (env : Env) (s : Shared) (α : List Addr) (a : Addr), EO env sc → Room A k → ER B vm env ρ α s.heap → SR B α H s.heap → α[D]? = some a →
    wpAny (model prog w) A (code (.ref a) env) (fun _ s' => ∃ α', Step [env.locals] α s α' s' ∧ SR B α' H' s'.heap ∧ ER B vm env ρ' α' s'.heap) noE s

noncomputable def cEmit (f : Ex) (D : Nat) : Lo → Hp → Option (Lo × Hp) := fun ρ H => (f ρ H).bind fun p => match p.2[D]? with
  | some (.list ys) => if ys.length ≤ 1000000 then some (ρ, p.2.set D (.list (ys ++ [p.1]))) else none
  | _ => none
noncomputable def emitOf (elt : Expr) (acc : Value) (env : Env) : Sem Unit := do let _ ← call (.builtin "list.append") [acc, ← eval elt env]

theorem at_ext {α α' : List Addr} {s s' : Shared} {W : List Addr} {D : Nat} {a : Addr} (h : α[D]? = some a) (st : Step W α s α' s') : α'[D]? = some a := by
  obtain ⟨δ, rfl, _⟩ := st.ext
  rw [List.getElem?_append_left (List.getElem?_eq_some_iff.mp h).1]; exact h

theorem SN.emit {elt : Expr} {f : Ex} (hf : SE prog w B k sc vm elt f) : SN prog w B k sc vm (emitOf elt) (cEmit f) := by
  intro D ρ H ρ' H' e A env s α a O Rm R S ha
  obtain ⟨⟨v, H₁⟩, e1, e⟩ := Option.bind_eq_some_iff.mp e
  dsimp only at e
  split at e
  · rename_i ys hy
    split at e
    · rename_i hl
      first | (obtain ⟨rfl, rfl⟩ := pair_some e) | cases e
      unfold emitOf
      refine wpAny_bind (wpAny_mono (hf ρ H v H₁ e1 A env s α O Rm R S) (fun c s₁ h₁ => ?_) fun _ _ h => h)
      obtain ⟨α₁, st, S₁, r⟩ := h₁
      have ha₁ := at_ext ha st
      have main := mAppend_ok (prog := prog) (w := w) (B := B) (k := k) [.ref D, v] H₁ .none (H₁.set D (.list (ys ++ [v]))) (by simp [mAppend, hy, hl]) A s₁ α₁ [.ref a, c] Rm S₁ (.cons (.ref ha₁) (.cons r .nil))
      refine wpAny_bind (wpAny_mono main (fun _ s₂ h₂ => wpAny_pure ?_) fun _ _ h => h)
      obtain ⟨α₂, st₂, S₂, _⟩ := h₂
      have st' := st.trans0 st₂ S₂.nd
      exact ⟨α₂, st'.weak (fun _ h => nomatch h), S₂, R.step st'⟩
    · first | (obtain ⟨rfl, rfl⟩ := pair_some e) | cases e
  · first | (obtain ⟨rfl, rfl⟩ := pair_some e) | cases e

/-- one turn of the loop of a list comprehension -/
noncomputable def TurnEq (e : Expr) (d : Nat) (target : Expr) (p : Pos) (ifs : List Expr) (code : Value → Env → Sem Unit) : Prop :=
  ∀ (it acc : Value) (env : Env), compTurn e d it acc env = (do
      standAt p
      match ← pyNext it with
      | none => pure (.done .next)
      | some v =>
        letOwnedTupleGo target it v
        assign target env v
        let mut ok := true
        for c in ifs do
          if ok then ok ← isTrue c env (eval c env)
        if ok then
          code acc env
        again (.compLoop e d it acc env))

inductive CompI (B : Heap) (vm : List Str) (kd : Option Nat) (xs : List V) (tg : Tg) (tx : Tx) (inn : Lo → Hp → Option (Lo × Hp)) (ρ' : Lo) (H' : Hp) (env : Env) (I : Addr) (Iv : Nat → Obj → Prop) (α₀ : List Addr) (s₀ : Shared) (D : Nat) (a : Addr) (n : Nat) (s' : Shared) : Prop
  | mk (vs : List V) (ρ : Lo) (H : Hp) (α : List Addr) (i : Nat) (hn : n = vs.length) (e : cTurns kd xs tg tx inn vs ρ H = some (ρ', H')) (hx : xs.drop i = vs) (hil : i ≤ xs.length) (L : LI B vm [env.locals] env I Iv α₀ s₀ i α ρ H s') (ha : α[D]? = some a) : CompI B vm kd xs tg tx inn ρ' H' env I Iv α₀ s₀ D a n s'
theorem comp_loop {elt : Expr} {gens : List Comprehension} {scope : Scope} {cpos p : Pos} {d : Nat} {code : Value → Env → Sem Unit} {t : Expr} {ifs : List Expr} {I : Addr} {kd : Option Nat} {xs : List V} {α₀ : List Addr} {Iv : Nat → Obj → Prop} {tg : Tg} {tx : Tx}
    {inn : Nat → Lo → Hp → Option (Lo × Hp)} {D : Nat} {a : Addr} {A : Around} {env : Env} {s₀ : Shared} {ρ' : Lo} {H' : Hp} {R' : Result → Shared → Prop}
    (heq : TurnEq (.ListComp elt gens scope cpos) d t p ifs code)
    (src : Src prog w B I kd xs α₀ Iv) (hb : ∀ b o, B.get? b = some o → s₀.heap.get? b = some o) (ht : SG prog w B k sc vm loc1 t tg) (hi : SI prog w B k sc vm ifs tx) (hc : SN prog w B k sc vm code inn) (O : EO env sc) (Rm : Room A k)
    (hlt : calmTarget t = true) (hR : ∀ s', (∃ α', Step [env.locals] α₀ s₀ α' s' ∧ SR B α' H' s'.heap ∧ ER B vm env ρ' α' s'.heap ∧ α'[D]? = some a) → R' (.ok .next) s')
    {vs : List V} {ρ : Lo} {H : Hp} {α : List Addr} {s : Shared} {i : Nat} (e : cTurns kd xs tg tx (inn D) vs ρ H = some (ρ', H')) (hx : xs.drop i = vs) (hil : i ≤ xs.length) (L : LI B vm [env.locals] env I Iv α₀ s₀ i α ρ H s) (ha : α[D]? = some a) :
    codeAny (model prog w) A (.compLoop (.ListComp elt gens scope cpos) d (.ref I) (.ref a) env) R' s := by
  refine codeAny_loop rfl (CompI B vm kd xs tg tx (inn D) ρ' H' env I Iv α₀ s₀ D a) ?_ vs.length ⟨vs, ρ, H, α, i, rfl, e, hx, hil, L, ha⟩
  rintro n s' ⟨vs, ρ, H, α, i, rfl, e, hx, hil, L, ha⟩
  show wpAny _ A ((compTurn (.ListComp elt gens scope cpos) d (.ref I) (.ref a) env).onRaise (fun x => do noteFrame x env; theTreesLotGoes x)) _ _ _
  refine wpAny_noted ?_
  rw [heq]
  have hbI := L.bI hb
  obtain ⟨δ, hα, _⟩ := L.st.ext
  refine wpAny_bind (wpAny_standAt (wpAny_bind ?_))
  cases vs with
  | nil =>
    simp only [cTurns] at e
    split at e
    · rename_i hok
      first | (obtain ⟨rfl, rfl⟩ := pair_some e) | cases e
      have hie := drop_nil hx hil
      subst hie
      refine src.done A s' α _ _ _ Rm.1 hok ⟨δ, hα⟩ L.S L.nI L.it fun h' tk hs => ?_
      obtain ⟨x, y, z⟩ := L.end (tk := tk) hbI hs
      exact wpAny_pure (hR _ ⟨α, x, y, z, ha⟩)
    · first | (obtain ⟨rfl, rfl⟩ := pair_some e) | cases e
  | cons v vs =>
    simp only [cTurns] at e
    split at e
    · rename_i hok
      obtain ⟨ρ₁, e1, e⟩ := Option.bind_eq_some_iff.mp e
      obtain ⟨⟨b, H₂⟩, e2, e⟩ := Option.bind_eq_some_iff.mp e
      obtain ⟨hv, hx'⟩ := drop_step hx
      have hlt' : i < xs.length := (List.getElem?_eq_some_iff.mp hv).1
      refine src.item A i s' α H v _ _ Rm.1 hv hok ⟨δ, hα⟩ L.S L.nI L.it fun c h' tk r hit hs => ?_
      have L₁ := L.next (tk := tk) hbI hs hit
      refine wpAny_bind (letgo_ok hlt (src.cls (i + 1) _ hit) ?_)
      refine wpAny_bind (wpAny_mono (ht v ρ H ρ₁ e1 A env _ α c O Rm L₁.R L₁.S r) (fun _ s₂ h₂ => ?_) fun _ _ h => h.elim)
      have L₂ := L₁.go h₂.1 h₂.2.1 h₂.2.2
      refine wpAny_bind (wpAny_mono (hi ρ₁ H b H₂ e2 A env s₂ α O Rm L₂.R L₂.S) (fun b s₃ h₃ => ?_) fun _ _ h => h.elim)
      obtain ⟨rfl, α₃, st₃, S₃⟩ := h₃
      have L₃ := L₂.go (st₃.weak (fun _ h => nomatch h)) S₃ (L₂.R.step st₃)
      have ha₃ := at_ext ha st₃
      cases b with
      | false =>
        simp only [Bool.false_eq_true, if_false] at e
        exact wpAny_pure ⟨rfl, vs.length, Nat.lt_succ_self _, vs, ρ₁, H₂, α₃, i + 1, rfl, e, hx', hlt', L₃, ha₃⟩
      | true =>
        simp only [if_true] at e
        obtain ⟨⟨ρ₄, H₄⟩, e3, e⟩ := Option.bind_eq_some_iff.mp e
        refine wpAny_bind (wpAny_mono (hc D ρ₁ H₂ ρ₄ H₄ e3 A env s₃ α₃ a O Rm L₃.R L₃.S ha₃) (fun _ s₄ h₄ => ?_) fun _ _ h => h.elim)
        obtain ⟨α₄, st₄, S₄, R₄⟩ := h₄
        exact wpAny_pure ⟨rfl, vs.length, Nat.lt_succ_self _, vs, ρ₄, H₄, α₄, i + 1, rfl, e, hx', hlt', L₃.go st₄ S₄ R₄, at_ext ha₃ st₄⟩
    · first | (obtain ⟨rfl, rfl⟩ := pair_some e) | cases e

theorem turn_one (elt target iter : Expr) (ifs : List Expr) (scope : Scope) (pos : Pos) : TurnEq (.ListComp elt [⟨target, iter, ifs, 0⟩] scope pos) 0 target iter.pos ifs (emitOf elt) := by
  intro it acc env; rfl
theorem turn_two1 (elt : Expr) (g : Comprehension) (target iter : Expr) (ifs : List Expr) (scope : Scope) (pos : Pos) : TurnEq (.ListComp elt [g, ⟨target, iter, ifs, 0⟩] scope pos) 1 target iter.pos ifs (emitOf elt) := by
  intro it acc env; rfl
noncomputable def nestOf (e : Expr) (iter : Expr) (acc : Value) (env : Env) : Sem Unit := do
  let x ← eval iter env
  standAt iter.pos
  let x ← foldedSetIterable iter env x
  let _ ← runOwn (.compStart e 1 (← holding [x] (pyIter x)) acc env) env
theorem turn_two0 (elt : Expr) (target iter target' iter' : Expr) (ifs ifs' : List Expr) (scope : Scope) (pos : Pos) :
    TurnEq (.ListComp elt [⟨target, iter, ifs, 0⟩, ⟨target', iter', ifs', 0⟩] scope pos) 0 target iter.pos ifs (nestOf (.ListComp elt [⟨target, iter, ifs, 0⟩, ⟨target', iter', ifs', 0⟩] scope pos) iter') := by
  intro it acc env
  simp only [nestOf, bind_assoc, pure_bind]
  rfl

theorem start_one {elt : Expr} {g : Comprehension} {target iter : Expr} {ifs : List Expr} {scope : Scope} {pos : Pos} {it acc : Value} {env : Env} {A : Around} {R : Result → Shared → Prop} {s : Shared}
    (h0 : codeAny (model prog w) A (.compLoop (.ListComp elt [g, ⟨target, iter, ifs, 0⟩] scope pos) 1 it acc env) R s)
    (h : wpAny (model prog w) A (pyIter it) (fun it' s' => codeAny (model prog w) A (.compLoop (.ListComp elt [g, ⟨target, iter, ifs, 0⟩] scope pos) 1 it' acc env) R s')
      (notedBy (model prog w) A env fun x s' => R (.error x) s') s) :
    codeAny (model prog w) A (.compStart (.ListComp elt [g, ⟨target, iter, ifs, 0⟩] scope pos) 1 it acc env) R s := by
  refine codeAny_of_tree ?_
  show wpAny _ _ ((compStart (.ListComp elt [g, ⟨target, iter, ifs, 0⟩] scope pos) 1 it acc env).onRaise (fun x => do noteFrame x env; standAt theWindowsPlace)) _ _ s
  refine wpAny_notedAt ?_
  unfold compStart
  show wpAny _ _ (ask >>= _) _ _ s
  refine wpAny_bind (wpAny_askSetting (wpAny_ite ?_))
  split
  · first
      | exact wpAny_bind (wpAny_pure (wpAny_pure (And.intro rfl h0)))
      | exact wpAny_pure (And.intro rfl h0)
  · first
      | exact wpAny_bind (wpAny_rule (wpAny_bind (wpAny_standAt (wpAny_bind (wpAny_mono h (fun it' s' h' => wpAny_pure (And.intro rfl h')) fun _ _ x => x)))))
      | (refine wpAny_bind (wpAny_rule ?_); show wpAny _ _ (standAt iter.pos >>= _) _ _ s; exact wpAny_bind (wpAny_standAt (wpAny_bind (wpAny_mono h (fun it' s' h' => wpAny_pure (And.intro rfl h')) fun _ _ x => x))))

noncomputable def cNest (f : Ex) (tg : Tg) (tx : Tx) (inn : Nat → Lo → Hp → Option (Lo × Hp)) (D : Nat) : Lo → Hp → Option (Lo × Hp) := fun ρ H =>
  (f ρ H).bind fun p => (iterKind p.1 p.2).bind fun q => cTurns q.1 q.2 tg tx (inn D) q.2 ρ p.2
theorem SN.nest {elt : Expr} {g : Comprehension} {target iter : Expr} {ifs : List Expr} {scope : Scope} {pos : Pos} {f : Ex} {tg : Tg} {tx : Tx} {inn : Nat → Lo → Hp → Option (Lo × Hp)}
    (hf : SE prog w B k sc vm iter f) (ht : SG prog w B k sc vm loc1 target tg) (hi : SI prog w B k sc vm ifs tx) (hc : SN prog w B k sc vm (emitOf elt) inn)
    (hs : ∀ env x, foldedSetIterable iter env x = pure x := by intro _ _; rfl) (hlt : calmTarget target = true := by rfl) :
    SN prog w B k sc vm (nestOf (.ListComp elt [g, ⟨target, iter, ifs, 0⟩] scope pos) iter) (cNest f tg tx inn) := by
  intro D ρ H ρ' H' e A env s α a O Rm R S ha
  obtain ⟨⟨v, H₁⟩, e1, e⟩ := Option.bind_eq_some_iff.mp e
  obtain ⟨⟨kd, xs⟩, e2, e⟩ := Option.bind_eq_some_iff.mp e
  unfold nestOf
  refine wpAny_bind (wpAny_mono (hf ρ H v H₁ e1 A env s α O Rm R S) (fun c s₁ h₁ => ?_) fun _ _ h => h)
  obtain ⟨α₁, st₁, S₁, r₁⟩ := h₁
  have R₁ := R.step st₁
  refine wpAny_bind (wpAny_standAt (wpAny_bind (wpAny_of_eq (hs env c) (wpAny_bind (wpAny_holding ?_)))))
  refine iter_ok e2 S₁ r₁ fun h' tk Iv src hit keep => ?_
  have fr := fresh_size s₁.heap
  have st₂ : Step [] α₁ s₁ α₁ { s₁ with heap := h', toks := tk } := Step.kept keep
  have L : LI B vm [env.locals] env s₁.heap.objs.size Iv α₁ s₁ 0 α₁ ρ H₁ { s₁ with heap := h', toks := tk } :=
    ⟨st₂.weak (fun _ h => nomatch h), S₁.at keep, R₁.step st₂, hit, fun h => (by have := S₁.live _ h; rw [fr] at this; cases this), fun h => (by have := R₁.live _ h; rw [fr] at this; cases this), fr, fun x h => by rw [List.mem_singleton.mp h]; exact List.mem_cons_self ..⟩
  have loop : codeAny (model prog w) A (.compLoop (.ListComp elt [g, ⟨target, iter, ifs, 0⟩] scope pos) 1 (.ref s₁.heap.objs.size) (.ref a) env)
      (fun r s' => match r with
        | .ok f => wpAny (model prog w) A (pure ()) (fun _ s' => ∃ α', Step [env.locals] α s α' s' ∧ SR B α' H' s'.heap ∧ ER B vm env ρ' α' s'.heap) noE s'
        | .error e => cameBackBy (model prog w) A env noE e s') { s₁ with heap := h', toks := tk } := by
    refine comp_loop (D := D) (s₀ := s₁) (α₀ := α₁) (ρ' := ρ') (H' := H') (turn_two1 elt g target iter ifs scope pos) src S₁.base ht hi hc O Rm hlt (fun s' h => ?_) e rfl (Nat.zero_le _) L (at_ext ha st₁)
    obtain ⟨α', st', S', R', _⟩ := h
    have live : ∀ u ∈ [env.locals], (s₁.heap.get? u).isSome = true := fun u hu => R₁.live u (by rw [List.mem_singleton.mp hu]; exact List.mem_cons_self ..)
    exact wpAny_pure ⟨α', (st₁.weak (fun _ h => nomatch h)).both st' S'.nd live, S', R'⟩
  refine wpAny_bind (wpAny_runOwn (start_one ?_ ?_))
  · exact loop
  · exact src.self A 0 _ _ _ hit loop

/-! ## the names of a comprehension -/
noncomputable def relab (scope sc : Scope) : Scope :=
  { scope with names := scope.names.map fun (n, k) => if (k == .free && sc.kind == .function && sc.names.lookup n == some .cell) then (n, .cell) else (n, k) }
theorem relab_eq {env : Env} (scope : Scope) (O : EO env sc) : relabel scope env = relab scope sc := by
  unfold relabel relab Env.kindOf; rw [O.scE]

noncomputable def freesOf (names : List (Str × NameKind)) : List Str := names.filterMap fun p => if p.2 == .free then some p.1 else none
noncomputable def clOf (env : Env) (frees : List Str) : List (Str × Addr) := (frees.map fun x => (x, (env.cells.lookup x).getD 0)).reverse

theorem closure_ok {env : Env} {scope : Scope} (h : ∀ x ∈ freesOf scope.names, ∃ a, env.cells.lookup x = some a) : closureFor scope env = pure (clOf env (freesOf scope.names)) := by
  have gen : ∀ (names : List (Str × NameKind)) (acc : List (Str × Addr)), (∀ x ∈ freesOf names, ∃ a, env.cells.lookup x = some a) →
      (forIn names acc fun x r => if (x.2 == NameKind.free) = true then do let a ← cellOf env x.1; pure (ForInStep.yield ((x.1, a) :: r)) else pure (ForInStep.yield r)) = (pure (clOf env (freesOf names) ++ acc) : Sem _) := by
    intro names
    induction names with
    | nil => intro acc _; rfl
    | cons p r ih =>
      intro acc hf
      obtain ⟨n, kk⟩ := p
      rw [List.forIn_cons]
      cases hk : (kk == NameKind.free) with
      | true =>
        have hfr : freesOf ((n, kk) :: r) = n :: freesOf r := by unfold freesOf; rw [List.filterMap_cons]; simp only [hk, if_true]
        rw [hfr] at hf ⊢
        obtain ⟨a, ha⟩ := hf n (List.mem_cons_self ..)
        simp only [if_true]
        have hc : cellOf env n = pure a := by unfold cellOf; rw [ha]
        rw [hc]
        simp only [pure_bind]
        rw [ih _ fun x hx => hf x (List.mem_cons_of_mem _ hx)]
        simp [clOf, ha]
      | false =>
        have hfr : freesOf ((n, kk) :: r) = freesOf r := by unfold freesOf; rw [List.filterMap_cons]; simp only [hk, Bool.false_eq_true, if_false]
        rw [hfr] at hf ⊢
        simp only [Bool.false_eq_true, if_false, pure_bind]
        exact ih acc hf
  have := gen scope.names [] h
  unfold closureFor
  rw [List.append_nil] at this
  simpa using this

theorem clOf_lookup {env : Env} {x : Str} : ∀ {frees : List Str}, x ∈ frees → (∀ y ∈ frees, ∃ a, env.cells.lookup y = some a) → (clOf env frees).lookup x = env.cells.lookup x := by
  intro frees hx hall
  have gen : ∀ (l : List (Str × Addr)), (∀ p ∈ l, env.cells.lookup p.1 = some p.2) → x ∈ l.map (·.1) → l.lookup x = env.cells.lookup x := by
    intro l
    induction l with
    | nil => intro _ h; cases h
    | cons p r ih =>
      intro hp hm
      obtain ⟨n, a⟩ := p
      rw [List.lookup_cons]
      cases hn : x == n with
      | true =>
        have : x = n := eq_of_beq hn
        subst this
        exact (hp (x, a) (List.mem_cons_self ..)).symm
      | false =>
        refine ih (fun p h => hp p (List.mem_cons_of_mem _ h)) ?_
        rw [List.map_cons, List.mem_cons] at hm
        rcases hm with h | h
        · rw [h] at hn; simp at hn
        · exact h
  refine gen _ (fun p hp => ?_) ?_
  · unfold clOf at hp
    rw [List.mem_reverse, List.mem_map] at hp
    obtain ⟨y, hy, rfl⟩ := hp
    obtain ⟨a, ha⟩ := hall y hy
    simp [ha]
  · unfold clOf
    rw [List.map_reverse, List.mem_reverse, List.map_map]
    simpa using hx

noncomputable def isCF : Option NameKind → Bool
  | some .cell => true
  | some .free => true
  | _ => false
theorem isCF_iff {o : Option NameKind} : isCF o = true ↔ o = some .cell ∨ o = some .free := by
  cases o with
  | none => simp [isCF]
  | some x => cases x <;> simp [isCF]

structure CSh (sc : Scope) (vm : List Str) (scope : Scope) (vm' : List Str) (srcs : List (Option Nat)) : Prop where
  kind : scope.kind = .function
  names : ∀ x ∈ scope.names, x.2 = .local → scope.names.lookup x.1 = some .local
  cell : ∀ x ∈ scope.names, x.2 ≠ .cell
  nd : vm'.Nodup
  frd : (freesOf scope.names).Nodup
  fr : (freesOf scope.names).all (fun x => isCF (sc.names.lookup x)) = true
  vars : (List.range vm'.length).all (fun n => match vm'[n]?, srcs[n]? with
    | some x, some (some j) => vm[j]? == some x && isCF (sc.names.lookup x) && (freesOf scope.names).contains x && isCF ((relab scope sc).names.lookup x)
    | some x, some none => (relab scope sc).names.lookup x == some .local
    | _, _ => false) = true

noncomputable def mkρ (srcs : List (Option Nat)) (ρ : Lo) : Lo := srcs.map fun
  | none => none
  | some j => (ρ[j]?).join

theorem relab_free {scope : Scope} (hc : ∀ x ∈ scope.names, x.2 ≠ .cell) {x : Str} (h : isCF ((relab scope sc).names.lookup x) = true) : x ∈ freesOf scope.names := by
  have h' : ∃ kk, (relab scope sc).names.lookup x = some kk ∧ (kk = .cell ∨ kk = .free) := by
    rcases isCF_iff.mp h with h | h
    · exact ⟨_, h, .inl rfl⟩
    · exact ⟨_, h, .inr rfl⟩
  obtain ⟨kk, hl, hk⟩ := h'
  have hm := mem_of_lookup hl
  unfold relab at hm
  simp only [List.mem_map] at hm
  obtain ⟨⟨n, k0⟩, hm, he⟩ := hm
  have hcell := hc _ hm
  unfold freesOf
  rw [List.mem_filterMap]
  refine ⟨(n, k0), hm, ?_⟩
  split at he
  · rename_i hcond
    simp only [Bool.and_eq_true] at hcond
    cases he
    simp [hcond.1.1]
  · cases he
    rcases hk with rfl | rfl
    · exact absurd rfl hcell
    · rfl

theorem comp_ER {env : Env} {scope : Scope} {vm' : List Str} {srcs : List (Option Nat)} {ρ : Lo} {α : List Addr} {h : Heap} {C : Addr} {m : Str → Option Value} (Z : CSh sc vm scope vm' srcs) (O : EO env sc) (R : ER B vm env ρ α h)
    (hC : h.Ns C m) (hCα : C ∉ α) (hCo : C ∉ own env) (hCB : B.get? C = none) :
    (∀ x ∈ freesOf scope.names, ∃ a, env.cells.lookup x = some a) ∧ EO (compEnvC scope (clOf env (freesOf scope.names)) C env) (relab scope sc) ∧ ER B vm' (compEnvC scope (clOf env (freesOf scope.names)) C env) (mkρ srcs ρ) α h := by
  have hko : ∀ x, env.kindOf x = sc.names.lookup x := fun x => by unfold Env.kindOf; rw [O.scE]
  have hfr : ∀ x ∈ freesOf scope.names, ∃ a c, env.cells.lookup x = some a ∧ h.IsCell a c := fun x hx => by
    have := List.all_eq_true.mp Z.fr x hx
    exact R.has x (by rw [hko]; exact isCF_iff.mp this)
  have hfr' : ∀ x ∈ freesOf scope.names, ∃ a, env.cells.lookup x = some a := fun x hx => let ⟨a, _, e, _⟩ := hfr x hx; ⟨a, e⟩
  have hkc : ∀ x, (compEnvC scope (clOf env (freesOf scope.names)) C env).kindOf x = (relab scope sc).names.lookup x := fun x => by
    unfold Env.kindOf compEnvC
    rw [relab_eq scope O]
  have hv : ∀ (n : Nat) (x : Str), vm'[n]? = some x → (match vm'[n]?, srcs[n]? with
    | some x, some (some j) => vm[j]? == some x && isCF (sc.names.lookup x) && (freesOf scope.names).contains x && isCF ((relab scope sc).names.lookup x)
    | some x, some none => (relab scope sc).names.lookup x == some .local
    | _, _ => false) = true := fun n x hx => List.all_eq_true.mp Z.vars n (List.mem_range.mpr (List.getElem?_eq_some_iff.mp hx).1)
  have hmem : ∀ p ∈ clOf env (freesOf scope.names), p.1 ∈ freesOf scope.names ∧ env.cells.lookup p.1 = some p.2 := fun p hp => by
    unfold clOf at hp
    rw [List.mem_reverse, List.mem_map] at hp
    obtain ⟨y, hy, rfl⟩ := hp
    obtain ⟨a, ha⟩ := hfr' y hy
    exact ⟨hy, by simp [ha]⟩
  refine ⟨hfr', ⟨relab_eq scope O, Z.kind, O.glob, O.blt⟩, Z.nd, ⟨m, hC, fun n x v h1 h2 h3 => ?_⟩, fun n x v h1 h2 h3 => ?_, fun x h1 => ?_, hCα, fun p hp => ?_, ?_, hCB, fun p hp => ?_⟩
  · exfalso
    have := hv n x h1
    rw [h1] at this
    rw [hkc] at h2
    unfold mkρ at h3
    rw [List.getElem?_map, Option.map_eq_some_iff] at h3
    obtain ⟨o, h4, h5⟩ := h3
    rw [h4] at this
    cases o with
    | none => cases h5
    | some j =>
      simp only [Bool.and_eq_true] at this
      rw [h2] at this
      exact absurd this.2 (by simp [isCF])
  · have := hv n x h1
    rw [h1] at this
    rw [hkc] at h2
    unfold mkρ at h3
    rw [List.getElem?_map, Option.map_eq_some_iff] at h3
    obtain ⟨o, h4, h5⟩ := h3
    rw [h4] at this
    cases o with
    | none => cases h5
    | some j =>
      simp only [Bool.and_eq_true, beq_iff_eq] at this
      obtain ⟨⟨⟨t1, t2⟩, t3⟩, t4⟩ := this
      have h6 : ρ[j]? = some (some v) := by
        dsimp only at h5
        cases e : ρ[j]? with
        | none => rw [e] at h5; cases h5
        | some q => rw [e] at h5; exact congrArg some h5
      obtain ⟨a, c, e1, e2, e3⟩ := R.cel j x v t1 (by rw [hko]; exact isCF_iff.mp t2) h6
      have hxf : x ∈ freesOf scope.names := by simpa using t3
      exact ⟨a, c, (clOf_lookup hxf hfr').trans e1, e2, e3⟩
  · rw [hkc] at h1
    have hxf := relab_free Z.cell (isCF_iff.mpr h1)
    obtain ⟨a, c, e1, e2⟩ := hfr x hxf
    exact ⟨a, c, (clOf_lookup hxf hfr').trans e1, e2⟩
  · obtain ⟨_, e⟩ := hmem p hp
    have hm := mem_of_lookup e
    obtain ⟨h1, h2, h3⟩ := R.Ca _ hm
    exact ⟨h1, fun e' => hCo (List.mem_cons_of_mem _ (List.mem_map.mpr ⟨_, hm, e'⟩)), h3⟩
  · show ((clOf env (freesOf scope.names)).map (·.2)).Nodup
    unfold clOf
    rw [List.map_reverse, List.map_map, List.Nodup, List.pairwise_reverse]
    refine List.Pairwise.map _ ?_ (List.Pairwise.and_mem.mp Z.frd)
    intro x y ⟨hx, hy, hne⟩ e
    obtain ⟨a, ha⟩ := hfr' x hx
    obtain ⟨b, hb⟩ := hfr' y hy
    simp only [Function.comp, ha, hb, Option.getD_some] at e
    exact hne (cell_uniq R.Cn ha (e ▸ hb))
  · obtain ⟨_, e⟩ := hmem p hp
    exact R.Cb _ (mem_of_lookup e)
end
end Mine
end

/-! part M14 -/
section
set_option maxRecDepth 10000
set_option linter.unusedVariables false
open PySem PyProof.Rows
namespace Mine
section
variable {prog : Program} {w : World} {B : Heap} {k : Nat} {sc : Scope} {vm : List Str}

noncomputable def eComp (f : Ex) (srcs : List (Option Nat)) (tg : Tg) (tx : Tx) (inn : Nat → Lo → Hp → Option (Lo × Hp)) : Ex := fun ρ H =>
  (f ρ H).bind fun p => (iterKind p.1 p.2).bind fun q => (cTurns q.1 q.2 tg tx (inn p.2.length) q.2 (mkρ srcs ρ) (p.2 ++ [.list []])).map fun r => (.ref p.2.length, r.2)

theorem size_none {h : Heap} {a : Addr} (ha : h.objs.size ≤ a) : h.get? a = none := by
  cases e : h.get? a with
  | none => rfl
  | some o => exact absurd (Heap.lt_size e) (Nat.not_lt.mpr ha)

theorem comp_core {elt target iter : Expr} {ifs : List Expr} {rest : List Comprehension} {scope : Scope} {cpos p : Pos} {code : Value → Env → Sem Unit} {f : Ex} {vm' : List Str} {srcs : List (Option Nat)} {tg : Tg} {tx : Tx}
    {inn : Nat → Lo → Hp → Option (Lo × Hp)} {use : Option (Value → Sem Unit)} {Q : Value → Shared → Prop} {ρ : Lo} {H : Hp} {v : V} {H' : Hp} {A : Around} {env : Env} {s : Shared} {α : List Addr}
    (heq : TurnEq (.ListComp elt (⟨target, iter, ifs, 0⟩ :: rest) scope cpos) 0 target iter.pos ifs code) (Z : CSh sc vm scope vm' srcs)
    (hf : SE prog w B k sc vm iter f) (ht : SG prog w B k (relab scope sc) vm' loc1 target tg) (hi : SI prog w B k (relab scope sc) vm' ifs tx) (hc : SN prog w B k (relab scope sc) vm' code inn)
    (hs : ∀ env x, foldedSetIterable iter env x = pure x) (hlt : calmTarget target = true)
    (q : eComp f srcs tg tx inn ρ H = some (v, H')) (O : EO env sc) (Rm : Room A k) (R : ER B vm env ρ α s.heap) (S : SR B α H s.heap)
    (hfin : ∀ (C a : Addr) (s' : Shared) (α' : List Addr), (∀ h' tk, Heap.ExtBut C s'.heap h' → Step [] α s α' { s' with heap := h', toks := tk } ∧ SR B α' H' h' ∧ ER B vm env ρ α' h') → C ∉ α' → C ∉ own env → s.heap.get? C = none → B.get? C = none →
      (∃ m, s'.heap.Ns C m) → VR α' v (.ref a) → compPost (model prog w) A noE use Q (.ref a) C (.ok .next) s') :
    wpAny (model prog w) A (comprehension (.ListComp elt (⟨target, iter, ifs, 0⟩ :: rest) scope cpos) scope env p (newList []) false (eval iter env) use) Q noE s := by
  obtain ⟨⟨u, H₁⟩, e1, q⟩ := Option.bind_eq_some_iff.mp q
  obtain ⟨⟨kd, xs⟩, e2, q⟩ := Option.bind_eq_some_iff.mp q
  obtain ⟨⟨ρ', H₂⟩, e3, q⟩ := Option.map_eq_some_iff.mp q
  first | (obtain ⟨rfl, rfl⟩ := pair_some q) | cases q
  dsimp only at e2 e3
  have hko : ∀ x, env.kindOf x = sc.names.lookup x := fun x => by unfold Env.kindOf; rw [O.scE]
  have hfr' : ∀ x ∈ freesOf scope.names, ∃ a, env.cells.lookup x = some a := fun x hx => by
    have := List.all_eq_true.mp Z.fr x hx
    obtain ⟨a, _, e, _⟩ := R.has x (by rw [hko]; exact isCF_iff.mp this)
    exact ⟨a, e⟩
  refine wpAny_comprehension_free (use := use) rfl (hs env) (closure_ok hfr') Z.kind Z.names (wpAny_mono (hf ρ H u H₁ e1 A env s α O Rm R S) (fun c s₁ h₁ => ?_) fun _ _ h => h)
  obtain ⟨α₁, st₁, S₁, r₁⟩ := h₁
  have R₁ := R.step st₁
  refine iter_ok e2 S₁ r₁ fun h₂ tk Iv src hit keep => ?_
  have fr := fresh_size s₁.heap
  refine wpAny_newObj_type (wpAny_newFunctionEnv Z.cell (by intro y hy; simp at hy) (fun h₄ hns hsb => ?_) Z.kind)
  dsimp only at hns hsb ⊢
  generalize hH2 : h₂.push { cls := .type "list", dict := none, data := .seq ([] : List Value).toArray } = H2 at hns hsb ⊢
  have hC : H2.objs.size = h₂.objs.size + 1 := by rw [← hH2, Heap.size_push]
  have keep₄ : ∀ b o, h₂.get? b = some o → h₄.get? b = some o := fun b o e => hsb.extBut b o (by have := Heap.lt_size e; rw [hC]; exact Nat.ne_of_lt (Nat.lt_succ_of_lt this)) (Heap.get?_push_of_some _ (hH2 ▸ Heap.get?_push_of_some _ e))
  have hacc : h₄.PlainList h₂.objs.size ([] : List Value).toArray := ⟨_, hsb.extBut _ _ (by rw [hC]; exact Nat.ne_of_lt (Nat.lt_succ_self _)) (Heap.get?_push_of_some _ (hH2 ▸ Heap.get?_push_size _ rfl))⟩
  have keep' : ∀ b o, s₁.heap.get? b = some o → h₄.get? b = some o := fun b o e => keep₄ b o (keep b o e)
  have deadUp : ∀ a, h₂.objs.size ≤ a → s₁.heap.get? a = none := fun a ha => by
    cases e : s₁.heap.get? a with
    | none => rfl
    | some o => have := keep a o e; rw [size_none ha] at this; cases this
  have ha₁ : s₁.heap.get? h₂.objs.size = none := deadUp _ (Nat.le_refl _)
  have hC₁ : s₁.heap.get? H2.objs.size = none := deadUp _ (by rw [hC]; exact Nat.le_succ _)
  have S₄ : SR B (α₁ ++ [h₂.objs.size]) (H₁ ++ [.list []]) h₄ := S₁.push keep' ha₁ (by obtain ⟨n, e⟩ := hacc; rw [e]; rfl) ⟨[], hacc, .nil⟩
  have hIlt : s₁.heap.objs.size < h₂.objs.size := by obtain ⟨o, ho, _⟩ := hit; exact Heap.lt_size ho
  generalize hC' : H2.objs.size = C at *
  have hCα : C ∉ α₁ ++ [h₂.objs.size] := fun h => by
    rcases List.mem_append.mp h with h | h
    · have := S₁.live _ h; rw [hC₁] at this; cases this
    · have := List.mem_singleton.mp h; omega
  have hCo : C ∉ own env := fun h => by have := R₁.live _ h; rw [hC₁] at this; cases this
  have hCB : B.get? C = none := by
    cases e : B.get? C with
    | none => rfl
    | some o => have := S₁.base _ _ e; rw [hC₁] at this; cases this
  have main : ∀ s₄ : Shared, s₄ = { s₁ with heap := h₄, toks := tk + ([] : List (Str × Value)).length } →
      codeAny (model prog w) A (.compLoop (.ListComp elt (⟨target, iter, ifs, 0⟩ :: rest) scope cpos) 0 (.ref s₁.heap.objs.size) (.ref h₂.objs.size) (compEnvC scope (clOf env (freesOf scope.names)) C env))
        (compPost (model prog w) A noE use Q (.ref h₂.objs.size) C) s₄ ∧ ∃ o, s₄.heap.get? s₁.heap.objs.size = some o ∧ Iv 0 o := by
    rintro s₄ rfl
    have st₄ : Step [] α₁ s₁ (α₁ ++ [h₂.objs.size]) { s₁ with heap := h₄, toks := tk + ([] : List (Str × Value)).length } :=
      ⟨⟨_, rfl, fun b hb => by rw [List.mem_singleton.mp hb]; exact ha₁⟩, fun b o e _ _ => keep' b o e, rfl, GX.refl _⟩
    have R₄ := R₁.step st₄
    obtain ⟨_, Oc, Rc⟩ := comp_ER (srcs := srcs) Z O R₄ hns hCα hCo hCB
    have hit₄ : ∃ o, h₄.get? s₁.heap.objs.size = some o ∧ Iv 0 o := let ⟨o, ho, hi⟩ := hit; ⟨o, keep₄ _ _ ho, hi⟩
    refine ⟨?_, hit₄⟩
    have L : LI B vm' [C] (compEnvC scope (clOf env (freesOf scope.names)) C env) s₁.heap.objs.size Iv α₁ s₁ 0 (α₁ ++ [h₂.objs.size]) (mkρ srcs ρ) (H₁ ++ [.list []]) { s₁ with heap := h₄, toks := tk + ([] : List (Str × Value)).length } := by
      refine ⟨st₄.weak (fun _ h => nomatch h), S₄, Rc, hit₄, fun h => ?_, fun h => ?_, fr, fun x h => ?_⟩
      · rcases List.mem_append.mp h with h | h
        · have := S₁.live _ h; rw [fr] at this; cases this
        · exact absurd (List.mem_singleton.mp h) (Nat.ne_of_lt hIlt)
      · rcases List.mem_cons.mp h with h | h
        · have h' : s₁.heap.objs.size = C := h
          exact absurd h' (Nat.ne_of_lt (by rw [hC]; exact Nat.lt_succ_of_lt hIlt))
        · obtain ⟨p, hp, e⟩ := List.mem_map.mp h
          have hp' : p ∈ clOf env (freesOf scope.names) := hp
          unfold clOf at hp'
          rw [List.mem_reverse, List.mem_map] at hp'
          obtain ⟨y, hy, rfl⟩ := hp'
          obtain ⟨b, hb⟩ := hfr' y hy
          have hm := mem_of_lookup hb
          simp only [hb, Option.getD_some] at e
          have := R₁.live b (List.mem_cons_of_mem _ (List.mem_map.mpr ⟨_, hm, rfl⟩))
          rw [e, fr] at this; cases this
      · rw [List.mem_singleton.mp h]; exact List.mem_cons_self ..
    refine comp_loop (D := H₁.length) (s₀ := s₁) (α₀ := α₁) (ρ' := ρ') (H' := H₂) heq src S₁.base ht hi hc Oc Rm hlt (fun s' h => ?_) e3 rfl (Nat.zero_le _) L (by rw [← S₁.len]; simp)
    obtain ⟨α', st', S', R', hD⟩ := h
    have st' : Step [C] α₁ s₁ α' s' := st'
    have hCs : s.heap.get? C = none := by
      cases e : s.heap.get? C with
      | none => rfl
      | some o =>
        by_cases hm : C ∈ α
        · obtain ⟨δ, rfl, _⟩ := st₁.ext
          have := S₁.live C (List.mem_append_left _ hm)
          rw [hC₁] at this; cases this
        · have := st₁.keep _ _ e hm (fun h => nomatch h)
          rw [hC₁] at this; cases this
    have hCα' : C ∉ α' := R'.La
    refine hfin C h₂.objs.size s' α' (fun h' tk' hs => ?_) hCα' hCo hCs hCB (let ⟨m, hm, _⟩ := R'.loc; ⟨m, hm⟩) (.ref hD)
    have S'' : SR B α' H₂ h' := S'.out hCα' hCB hs
    have st'' : Step [] α₁ s₁ α' { s' with heap := h', toks := tk' } := ⟨st'.ext, fun b o e h1 _ => by
      have hbC : b ≠ C := fun e' => by rw [e', hC₁] at e; cases e
      exact hs b o hbC (st'.keep b o e h1 fun h => hbC (List.mem_singleton.mp h)), st'.os, st'.gens⟩
    have st3 := st₁.trans0 st'' S''.nd
    exact ⟨st3, S'', R.step st3⟩
  obtain ⟨m1, m2⟩ := main _ rfl
  exact codeAny_compStart_list m1 (src.self A 0 _ _ _ m2 m1)

theorem SE.comp {elt target iter : Expr} {ifs : List Expr} {rest : List Comprehension} {scope : Scope} {cpos : Pos} {code : Value → Env → Sem Unit} {f : Ex} {vm' : List Str} {srcs : List (Option Nat)} {tg : Tg} {tx : Tx}
    {inn : Nat → Lo → Hp → Option (Lo × Hp)}
    (heq : TurnEq (.ListComp elt (⟨target, iter, ifs, 0⟩ :: rest) scope cpos) 0 target iter.pos ifs code) (Z : CSh sc vm scope vm' srcs)
    (hf : SE prog w B k sc vm iter f) (ht : SG prog w B k (relab scope sc) vm' loc1 target tg) (hi : SI prog w B k (relab scope sc) vm' ifs tx) (hc : SN prog w B k (relab scope sc) vm' code inn)
    (hs : ∀ env x, foldedSetIterable iter env x = pure x := by intro _ _; rfl) (hlt : calmTarget target = true := by rfl) :
    SE prog w B k sc vm (.ListComp elt (⟨target, iter, ifs, 0⟩ :: rest) scope cpos) (eComp f srcs tg tx inn) := by
  intro ρ H v H' q A env s α O Rm R S
  rw [eval_ListComp]
  refine comp_core heq Z hf ht hi hc hs hlt q O Rm R S fun C a s' α' hC h1 h2 h3 h4 h5 r => ?_
  obtain ⟨m, hm⟩ := h5
  refine ⟨m, hm, fun h' hs => ?_⟩
  obtain ⟨st, S', _⟩ := hC h' s'.toks hs.extBut
  exact ⟨α', st, S', r⟩

theorem S1.assignComp {n : Nat} {y : Str} {py spos : Pos} {elt target iter : Expr} {ifs : List Expr} {rest : List Comprehension} {scope : Scope} {cpos : Pos} {code : Value → Env → Sem Unit} {f : Ex} {vm' : List Str} {srcs : List (Option Nat)} {tg : Tg} {tx : Tx}
    {inn : Nat → Lo → Hp → Option (Lo × Hp)} (hn : vm[n]? = some y) (hkd : Held sc y)
    (hsw : ∀ env, EO env sc → swapsWith (.ListComp elt (⟨target, iter, ifs, 0⟩ :: rest) scope cpos) (some (.Name y py)) spos.line env = pure true)
    (heq : TurnEq (.ListComp elt (⟨target, iter, ifs, 0⟩ :: rest) scope cpos) 0 target iter.pos ifs code) (Z : CSh sc vm scope vm' srcs)
    (hf : SE prog w B k sc vm iter f) (ht : SG prog w B k (relab scope sc) vm' loc1 target tg) (hi : SI prog w B k (relab scope sc) vm' ifs tx) (hc : SN prog w B k (relab scope sc) vm' code inn)
    (hs : ∀ env x, foldedSetIterable iter env x = pure x := by intro _ _; rfl) (hlt : calmTarget target = true := by rfl) :
    S1 prog w B k sc vm (.Assign [.Name y py] (.ListComp elt (⟨target, iter, ifs, 0⟩ :: rest) scope cpos) spos) (gAssign n (eComp f srcs tg tx inn)) := by
  intro ρ H f' ρ' H' q A env s α O Rm R S
  obtain ⟨⟨v, H₁⟩, e1, e2⟩ := Option.map_eq_some_iff.mp q
  first | (obtain ⟨rfl, rfl⟩ := pair_some e2) | cases e2
  rw [exec_Assign_Name_used _ _ _ _ (hsw env O)]
  refine wpAny_bind (wpAny_standAt (wpAny_bind ?_))
  show wpAny _ A (do let _ ← comprehension (.ListComp elt (⟨target, iter, ifs, 0⟩ :: rest) scope cpos) scope env _ (newList []) false (eval iter env) (some (PySem.assign (.Name y py) env))) _ _ s
  refine wpAny_bind (wpAny_mono (Q := fun _ s' => SPost B vm env α s .next (put n v ρ) H₁ .next s') (comp_core heq Z hf ht hi hc hs hlt e1 O Rm R S fun C a s' α' hC h1 h2 h3 h4 h5 r => ?_) (fun _ s' hq => wpAny_pure (wpAny_pure hq)) fun _ _ e => e)
  obtain ⟨m, hm⟩ := h5
  obtain ⟨st, S', R'⟩ := hC s'.heap s'.toks fun _ _ _ e => e
  show wpAny _ A (PySem.assign (.Name y py) env (.ref a)) _ _ _
  refine wpAny_assign_Name (store_ok hn hkd O R' S' r fun s₂ st₂ S₂ R₂ => ?_)
  refine ⟨m, hm.at' fun o e => st₂.keep _ _ e h1 h2, fun h' hs' => ?_⟩
  have st3 := st.after st₂ S₂.nd (own_live R)
  refine ⟨α', ⟨st3.ext, fun b o e g1 g2 => hs'.extBut b o (fun e' => by rw [e', h3] at e; cases e) (st3.keep b o e g1 g2), st3.os, st3.gens⟩, S₂.out h1 h4 hs'.extBut, R₂.kept ⟨[], by simp, by simp⟩ fun u hu o e => hs'.extBut u o (fun e' => h2 (e' ▸ hu)) e, .next⟩
end
end Mine
end

/-! part M15 -/
section
set_option maxRecDepth 10000
set_option linter.unusedVariables false
open PySem PyProof.Rows
namespace Mine
section
variable {prog : Program} {w : World} {B : Heap} {k : Nat} {sc : Scope} {vm : List Str}

/-! ## the call of a function of the top -/
noncomputable def FnAt (B : Heap) (a : Addr) (name : Str) (params : Arguments) (body : List Stmt) (scope : Scope) : Prop :=
  ∃ o pm cd doc, B.get? a = some o ∧ o.data = .func (Calls.docDef name params body scope pm cd doc) ∧ B.CodeRec cd name
theorem FnAt.callee {a : Addr} {name : Str} {params : Arguments} {body : List Stmt} {scope : Scope} (x : FnAt B a name params body scope) : Callee B (.ref a) := by
  obtain ⟨o, pm, cd, doc, h1, h2, _⟩ := x
  exact .inr (.inr ⟨a, o, _, rfl, h1, h2⟩)

noncomputable def cellNames (names : List (Str × NameKind)) : List Str := names.filterMap fun p => if p.2 == .cell then some p.1 else none
theorem cellsFrom_keys : ∀ (names : List (Str × NameKind)) (n : Nat) (acc : List (Str × Addr)), (cellsFrom n names acc).map (·.1) = (cellNames names).reverse ++ acc.map (·.1)
  | [], n, acc => rfl
  | (x, kk) :: r, n, acc => by
    unfold cellsFrom cellNames
    rw [List.filterMap_cons]
    cases hk : (kk == NameKind.cell) with
    | true => simp only [if_true]; rw [cellsFrom_keys r]; simp [cellNames]
    | false => simp only [Bool.false_eq_true, if_false]; rw [cellsFrom_keys r]; rfl
theorem lookup_of_keys {l : List (Str × Addr)} (nd : (l.map (·.1)).Nodup) {p : Str × Addr} (h : p ∈ l) : l.lookup p.1 = some p.2 := by
  induction l with
  | nil => cases h
  | cons q r ih =>
    rw [List.map_cons, List.nodup_cons] at nd
    rw [List.lookup_cons]
    rcases List.mem_cons.mp h with rfl | h
    · simp
    · have hne : (p.1 == q.1) = false := by
        cases e : p.1 == q.1 with
        | false => rfl
        | true => exact absurd (List.mem_map_of_mem (f := (·.1)) h) (by rw [eq_of_beq e]; exact nd.1)
      rw [hne]
      exact ih nd.2 h
theorem lookup_of_key {l : List (Str × Addr)} {x : Str} (h : x ∈ l.map (·.1)) : ∃ a, l.lookup x = some a := by
  induction l with
  | nil => cases h
  | cons q r ih =>
    rw [List.lookup_cons]
    cases e : x == q.1 with
    | true => exact ⟨_, rfl⟩
    | false =>
      rw [List.map_cons, List.mem_cons] at h
      rcases h with h | h
      · rw [h] at e; simp at e
      · exact ih h
theorem mem_cellNames {names : List (Str × NameKind)} {x : Str} (h : names.lookup x = some .cell) : x ∈ cellNames names := by
  have := mem_of_lookup h
  unfold cellNames
  rw [List.mem_filterMap]
  exact ⟨_, this, by simp⟩

theorem bindL_none (kindOf : Str → Option NameKind) : ∀ (binds : List (Str × Value)) (m : Str → Option Value) (x : Str), x ∉ binds.map (·.1) → bindL kindOf binds m x = m x
  | [], m, x, _ => rfl
  | (n, v) :: r, m, x, h => by
    rw [List.map_cons, List.mem_cons] at h
    have h1 : x ≠ n := fun e => h (.inl e)
    have h2 : x ∉ r.map (·.1) := fun e => h (.inr e)
    rw [bindL, bindL_none kindOf r _ x h2]
    split
    · simp [h1]
    · rfl
theorem bindC_none (kindOf : Str → Option NameKind) : ∀ (binds : List (Str × Value)) (m : Str → Option Value) (x : Str), x ∉ binds.map (·.1) → bindC kindOf binds m x = m x
  | [], m, x, _ => rfl
  | (n, v) :: r, m, x, h => by
    rw [List.map_cons, List.mem_cons] at h
    have h1 : x ≠ n := fun e => h (.inl e)
    have h2 : x ∉ r.map (·.1) := fun e => h (.inr e)
    rw [bindC, bindC_none kindOf r _ x h2]
    split
    · rfl
    · simp [h1]
theorem bindL_get (kindOf : Str → Option NameKind) : ∀ (binds : List (Str × Value)) (m : Str → Option Value) (x : Str) (v : Value), (binds.map (·.1)).Nodup → (x, v) ∈ binds → kindOf x = some .local → bindL kindOf binds m x = some v
  | (n, u) :: r, m, x, v, nd, h, hk => by
    rw [List.map_cons, List.nodup_cons] at nd
    rw [bindL]
    rcases List.mem_cons.mp h with h | h
    · cases h
      rw [bindL_none kindOf r _ _ nd.1]
      simp [hk]
    · exact bindL_get kindOf r _ x v nd.2 h hk
theorem bindC_get (kindOf : Str → Option NameKind) : ∀ (binds : List (Str × Value)) (m : Str → Option Value) (x : Str) (v : Value), (binds.map (·.1)).Nodup → (x, v) ∈ binds → kindOf x ≠ some .local → bindC kindOf binds m x = some v
  | (n, u) :: r, m, x, v, nd, h, hk => by
    rw [List.map_cons, List.nodup_cons] at nd
    rw [bindC]
    rcases List.mem_cons.mp h with h | h
    · cases h
      rw [bindC_none kindOf r _ _ nd.1]
      simp [hk]
    · exact bindC_get kindOf r _ x v nd.2 h hk

structure FSh (params : Arguments) (scope : Scope) (xs : List Str) (vm : List Str) : Prop where
  kind : scope.kind = .function
  co : scope.isCoroutine = false
  gen : scope.isGenerator = false
  nd : vm.Nodup
  cn : (cellNames scope.names).Nodup
  fr : scope.names.all (fun p => p.2 != .free) = true
  pre : xs = vm.take xs.length
  par : xs.all (fun x => scope.names.lookup x == some .local || scope.names.lookup x == some .cell) = true

theorem zip_get {α β : Type} : ∀ {xs : List α} {ys : List β} {i : Nat} {x : α} {y : β}, xs[i]? = some x → ys[i]? = some y → (x, y) ∈ xs.zip ys
  | x :: xs, y :: ys, 0, _, _, h1, h2 => by
    simp at h1 h2; subst h1 h2; exact List.mem_cons_self ..
  | x :: xs, y :: ys, i + 1, _, _, h1, h2 => List.mem_cons_of_mem _ (zip_get (i := i) (by simpa using h1) (by simpa using h2))
  | [], _, i, _, _, h1, _ => by simp at h1
  | _ :: _, [], i, _, _, _, h2 => by simp at h2

noncomputable def run (g : Sx) (n m : Nat) : List V → Hp → Option (V × Hp) := fun vs H => if vs.length = n then (g (vs.map some ++ List.replicate m none) H).map fun r => ((match r.1 with | .ret v => v | .next => .none), r.2.2) else none

theorem CallOk.of_body {a : Addr} {name : Str} {params : Arguments} {body : List Stmt} {scope : Scope} {xs : List Str} {g : Sx} {m : Nat} (F : FnAt B a name params body scope) (lim : B.NoLimit) (Z : FSh params scope xs vm)
    (hbind : ∀ pm cd doc (vals : List Value), vals.length = xs.length → bindArgs (Calls.docDef name params body scope pm cd doc) ⟨vals, []⟩ = pure (xs.zip vals))
    (hb : SS prog w B k scope vm body g) : CallOk prog w B (k + 1) (.ref a) (run g xs.length m) := by
  intro vs H v H' e A s α cs Rm S r
  unfold run at e
  split at e
  · rename_i hlen
    obtain ⟨⟨f, ρ', H₂⟩, e1, e2⟩ := Option.map_eq_some_iff.mp e
    first | (obtain ⟨rfl, rfl⟩ := pair_some e2) | cases e2
    obtain ⟨o, pm, cd, doc, ho, hdata, hcd⟩ := F
    have hcs : cs.length = xs.length := by rw [← r.length]; exact hlen
    refine wpAny_call ?_
    have hkeys : ((xs.zip cs).map (·.1)) = xs := by rw [List.map_fst_zip]; omega
    have hxnd : xs.Nodup := by rw [Z.pre]; exact Z.nd.sublist (List.take_sublist ..)
    have hpar : ∀ x ∈ xs, scope.names.lookup x = some .local ∨ scope.names.lookup x = some .cell := fun x hx => by
      have := List.all_eq_true.mp Z.par x hx
      simpa using this
    have ckeys : ∀ n, (cellsFrom n scope.names []).map (·.1) = (cellNames scope.names).reverse := fun n => by rw [cellsFrom_keys]; simp
    have csome : ∀ n x, scope.names.lookup x = some .cell → ∃ b, (cellsFrom n scope.names []).lookup x = some b := fun n x hx => lookup_of_key (by rw [ckeys]; exact List.mem_reverse.mpr (mem_cellNames hx))
    refine codeAny_call_cells (fd := Calls.docDef name params body scope pm cd doc) (binds := xs.zip cs) Rm.depth (S.base _ _ ho) hdata (lim.keeps S.base) (hcd.keeps S.base) rfl (hbind pm cd doc cs hcs) rfl (fun x hx => ?_) (fun s₁ x₁ => ?_) Z.co Z.gen Z.kind
    · have hx1 : x.1 ∈ xs := by have := List.mem_map_of_mem (f := (·.1)) hx; rwa [hkeys] at this
      rcases hpar _ hx1 with h | h
      · exact .inl h
      · exact .inr ⟨h, by obtain ⟨b, e⟩ := csome (s.heap.objs.size + 1) _ h; show ((cellsFrom (s.heap.objs.size + 1) scope.names []).lookup x.1).isSome = true; rw [e]; rfl⟩
    · generalize henv : callEnvC (Calls.docDef name params body scope pm cd doc) s.heap.objs.size a = env at x₁
      have hsc : env.scope = scope := by rw [← henv]; rfl
      have hL : env.locals = s.heap.objs.size := by rw [← henv]; rfl
      have hcl : env.cells = cellsFrom (s.heap.objs.size + 1) scope.names [] := by rw [← henv]; rfl
      have hkd : ∀ x, env.kindOf x = scope.names.lookup x := fun x => by unfold Env.kindOf; rw [hsc]
      have O : EO env scope := ⟨hsc, Z.kind, by rw [← henv]; rfl, by rw [← henv]; rfl⟩
      have hnf : ∀ x, env.kindOf x ≠ some .free := fun x h => by
        rw [hkd] at h
        have := List.all_eq_true.mp Z.fr _ (mem_of_lookup h)
        simp at this
      obtain ⟨h₁, tk₁, es, keep⟩ := x₁.done
      have S₁ : SR B α H s₁.heap := S.at (by rw [es]; exact keep)
      have keep₁ : ∀ b o, s.heap.get? b = some o → s₁.heap.get? b = some o := by rw [es]; exact keep
      have deadL : ∀ b, s.heap.objs.size ≤ b → b ∉ α ∧ s.heap.get? b = none := fun b hb => ⟨fun h => (by
        have := S.live _ h; rw [size_none hb] at this; cases this), size_none hb⟩
      have hnoneB : ∀ b, s.heap.objs.size ≤ b → B.get? b = none := fun b hb => by
        cases e : B.get? b with
        | none => rfl
        | some o => have := S.base _ _ e; rw [size_none hb] at this; cases this
      have cnd : (env.cells.map (·.1)).Nodup := by
        rw [hcl, ckeys, List.Nodup, List.pairwise_reverse]
        exact Z.cn.imp fun h => Ne.symm h
      have cabove : ∀ p ∈ env.cells, s.heap.objs.size < p.2 := fun p hp => by have := x₁.above p.1 p.2 hp; rwa [hL] at this
      have ccell : ∀ p ∈ env.cells, ∃ c, s₁.heap.IsCell p.2 c := fun p hp => ⟨_, x₁.cell p.1 p.2 (lookup_of_keys cnd hp)⟩
      have vget : ∀ (n : Nat) (x : Str) (u : V), vm[n]? = some x → (vs.map some ++ List.replicate m none)[n]? = some (some u) → ∃ c, (x, c) ∈ xs.zip cs ∧ VR α u c ∧ x ∈ xs := fun n x u h1 h2 => by
        have hn : n < vs.length := by
          rcases Nat.lt_or_ge n vs.length with h | h
          · exact h
          · rw [List.getElem?_append_right (by simpa using h)] at h2
            simp [List.getElem?_replicate] at h2
        rw [List.getElem?_append_left (by simpa using hn), List.getElem?_map, Option.map_eq_some_iff] at h2
        obtain ⟨u', h3, h4⟩ := h2
        cases h4
        obtain ⟨c, h5, h6⟩ := Paired.get r h3
        have hx : xs[n]? = some x := by
          rw [Z.pre, List.getElem?_take_of_lt (by omega)]; exact h1
        exact ⟨c, zip_get hx h5, h6, List.mem_of_getElem? hx⟩
      have R₁ : ER B vm env (vs.map some ++ List.replicate m none) α s₁.heap := by
        refine ⟨Z.nd, ⟨_, x₁.toInCall.ns, fun n x u h1 h2 h3 => ?_⟩, fun n x u h1 h2 h3 => ?_, fun x h1 => ?_, ?_, fun p hp => ?_, ?_, ?_, fun p hp => ?_⟩
        · obtain ⟨c, hm, hr, _⟩ := vget n x u h1 h3
          exact ⟨c, bindL_get _ _ _ _ _ (by rw [hkeys]; exact hxnd) hm h2, hr⟩
        · obtain ⟨c, hm, hr, _⟩ := vget n x u h1 h3
          have hc : scope.names.lookup x = some .cell := by rw [← hkd]; exact h2.resolve_right (hnf x)
          obtain ⟨b, hb⟩ := csome (s.heap.objs.size + 1) x hc
          rw [← hcl] at hb
          have := x₁.cell x b hb
          rw [bindC_get _ _ _ _ c (by rw [hkeys]; exact hxnd) hm (by rw [hkd, hc]; simp)] at this
          exact ⟨b, c, hb, this, hr⟩
        · have hc : scope.names.lookup x = some .cell := by rw [← hkd]; exact h1.resolve_right (hnf x)
          obtain ⟨b, hb⟩ := csome (s.heap.objs.size + 1) x hc
          rw [← hcl] at hb
          exact ⟨b, _, hb, x₁.cell x b hb⟩
        · rw [hL]; exact (deadL _ (Nat.le_refl _)).1
        · exact ⟨(deadL _ (Nat.le_of_lt (cabove p hp))).1, by rw [hL]; exact Nat.ne_of_gt (cabove p hp), ccell p hp⟩
        · rw [List.Nodup, List.pairwise_map]; exact x₁.apart
        · rw [hL]; exact hnoneB _ (Nat.le_refl _)
        · exact hnoneB _ (Nat.le_of_lt (cabove p hp))
      have ownDead : ∀ b ∈ own env, s.heap.get? b = none := fun b hb => by
        rcases List.mem_cons.mp hb with rfl | hb
        · rw [hL]; exact size_none (Nat.le_refl _)
        · obtain ⟨p, hp, rfl⟩ := List.mem_map.mp hb
          exact size_none (Nat.le_of_lt (cabove p hp))
      refine wpAny_mono (hb _ H f ρ' H₂ e1 (A.deeper env) env s₁ α O Rm.deeper R₁ S₁) (fun c s' h' => ?_) fun _ _ h => h.elim
      obtain ⟨α', st, S', R', fr⟩ := h'
      have st' : Step [] α s α' s' := by
        obtain ⟨δ, hδ, hf⟩ := st.ext
        refine ⟨⟨δ, hδ, fun b hb => ?_⟩, fun b o e h1 _ => st.keep b o (keep₁ b o e) h1 fun h => (by rw [ownDead b h] at e; cases e), st.os.trans (by rw [es]), ?_⟩
        · cases e : s.heap.get? b with
          | none => rfl
          | some o => have := hf b hb; rw [keep₁ b o e] at this; cases this
        · have := st.gens
          rw [es] at this
          exact this
      cases fr with
      | next => exact ⟨α', st', S', .none⟩
      | ret h => exact ⟨α', st', S', h⟩
  · first | (obtain ⟨rfl, rfl⟩ := pair_some e) | cases e
end
end Mine
end

/-! part T1 -/
section
set_option maxRecDepth 10000
set_option linter.unusedVariables false
open PySem PySem.W PySem.Calls PyProof.Rows
namespace Mine

noncomputable def doneOf : PySem.Step → Bool
  | .halt (.done _) _ => true
  | _ => false
theorem not_done {x : PySem.Step} {f : Flow} {s' : Shared} (h : x = .halt (.done f) s') (hx : doneOf x = false) : False := by
  rw [h] at hx; cases hx
theorem halt_leaf {p : Program} {w : World} {s s' : Shared} {t : Thread} {f : Flow} (h : step (denote table) p w s t = .halt (.done f) s') : s' = s ∧ through t = true := by
  obtain ⟨cur, code, pos, stack⟩ := t
  cases cur with
  | pure fin =>
    cases fin with
    | again c => unfold step at h; dsimp only at h; cases h
    | done f' =>
      unfold step at h
      dsimp only at h
      split at h
      · unfold finish at h
        split at h
        · cases h
        · cases h; exact ⟨rfl, rfl⟩
      · cases h
      · cases h
  | _ => exact (not_done h (by first | rfl | (unfold step; dsimp only; (repeat' split) <;> first | rfl | (unfold finish; split <;> rfl)))).elim

theorem through_of_halted {p : Program} {w : World} : ∀ (n : Nat) (s : Shared) (t : Thread) (s' : Shared) (f : Flow), runN (denote table) p w n s t = .halted (.done f) s' →
    ∃ m t', runN (denote table) p w m s t = .running s' t' ∧ through t' = true
  | 0, s, t, s', f, h => by cases h
  | n + 1, s, t, s', f, h2 => by
    simp only [runN] at h2
    cases hs : step (denote table) p w s t with
    | halt o s₁ =>
      rw [hs] at h2
      have e : o = .done f ∧ s₁ = s' := by simpa using h2
      obtain ⟨rfl, rfl⟩ := e
      obtain ⟨rfl, ht⟩ := halt_leaf hs
      exact ⟨0, t, rfl, ht⟩
    | go s₁ t₁ =>
      rw [hs] at h2
      obtain ⟨m, t', h3, h4⟩ := through_of_halted n s₁ t₁ s' f h2
      exact ⟨m + 1, t', by simp only [runN, hs]; exact h3, h4⟩

theorem top_sound {p : Program} {w : World} {tree : Sem Fin} {P : Shared → Prop} {s₀ : Shared} (hr : s₀.asleep)
    (h : wpAny (model p w) callerA tree (fun fin s' => ∃ f, fin = .done f ∧ P s' ∧ s'.gens = #[]) (fun _ _ => False) s₀) :
    ∃ s₁, P s₁ ∧ s₁.gens = #[] ∧ (∃ n t, schedN (denote table) p w n (.single s₀ ⟨tree, .builtin "claim.caller" {}, default, []⟩) = .running (.single s₁ t) ∧ through t = true) ∧ s₁.heap.life = s₀.heap.life := by
  have h' := wp_of_wpAny_done (R := fun r s' => ((∃ f, r = .ok f) ∧ P s' ∧ s'.gens = #[]) ∧ leftWithCleanup s'.gens = false) caller_in
    (wpAny_mono h (fun fin s' ⟨f, e, hP, hg⟩ => ⟨f, e, ⟨⟨f, rfl⟩, hP, hg⟩, by rw [hg]; simp [leftWithCleanup]⟩) fun _ _ x => x.elim) default
  obtain ⟨n, r, s'', hn, ⟨f, rfl⟩, hP, hg⟩ := (wp_iff_halts (M := model p w) (R := fun r s' => (∃ f, r = .ok f) ∧ P s' ∧ s'.gens = #[]) ..).mp h'
  obtain ⟨s', hrun, hfo, hc⟩ := runNI_real _ _ _ hn (outcomeOf_ends _)
  obtain rfl := Shared.eq_of_forget_eq hfo hg
  obtain ⟨m, t, h1, h2⟩ := through_of_halted n _ _ _ f hrun
  have hne : ∀ k s₂, runN (denote table) p w k s₀ ⟨tree, .builtin "claim.caller" {}, default, []⟩ ≠ .halted (.unsupported "lifetime:generator-with-cleanup-left-suspended") s₂ := by
    intro k s₂ hk
    have a := runN_mono (denote table) p w n k s₀ _ _ s' hrun
    have b := runN_mono (denote table) p w k n s₀ _ _ s₂ hk
    rw [Nat.add_comm, b] at a
    injection a with a1 _
    cases a1
  exact ⟨s', hP, hg, ⟨m, t, (schedN_eq_runN (denote table) p w s₀ _ hr ⟨hc, hne⟩ m).trans (congrArg Run.lift h1), h2⟩, runN_life _ _ _ hrun⟩
end Mine
end

/-! part T2 -/
section
set_option maxRecDepth 10000
set_option linter.unusedVariables false
open PySem PyProof.Rows
namespace Mine
section
variable {prog : Program} {w : World} {K : Type} [DecidableEq K] {knd : KeyKind prog w K} {A : Around} {s : Shared}

theorem dictPut_pairs {d : Addr} {kvs : List (K × Value)} {k : K} {key v : Value} {E : Value → Shared → Prop} {Q : Unit → Shared → Prop} (hkey : knd.is k key = true) (hm : s.heap.DictOf knd d kvs)
    (hQ : ∀ h', h'.DictOf knd d (stored kvs k v) → Heap.SameBut d s.heap h' → Q () { s with heap := h' })
    (hsz : kvs.length ≤ sizeLine) :
    wpAny (model prog w) A (dictPut d (knd.hash k) key v) Q E s := by
  obtain ⟨o, es, ep, ho, hc, hd, hk, hp, hn⟩ := hm
  have hes : es.size ≤ sizeLine := by have e1 := hp.length; have e2 : es.toList.length = es.size := by simp
                                      omega
  unfold dictPut
  refine wpAny_bind (wpAny_dictFind_of hkey ho hd hk ?_)
  have hidx : (es.findIdx? fun e => knd.is k e.key) = kvs.findIdx? fun kv => decide (kv.1 = k) := by
    rw [← hp.findIdx k]; obtain ⟨l⟩ := es; simp
  cases hi : es.findIdx? fun e => knd.is k e.key with
  | some i =>
    refine wpAny_updateDict ho hd (hQ _ ⟨_, _, ep, Heap.get?_update_self _ ho (Obj.isFreed_of_dict (Obj.data_mapDict hd _)),
      hc.mapDict _, Obj.data_mapDict hd _, hk.modify _ _, ?_, ?_⟩ (Heap.SameBut.update ..))
    · rw [stored, if_pos (any_of_findIdx_some (hidx ▸ hi))]
      have hl : (es.toList.findIdx? fun e => knd.is k e.key) = some i := by rw [← hi]; obtain ⟨l⟩ := es; simp
      have := hp.modify hn hl v
      obtain ⟨l⟩ := es
      simpa using this
    · rw [stored, if_pos (any_of_findIdx_some (hidx ▸ hi)), keys_map_store]; exact hn
  | none =>
    have hnot : k ∉ kvs.map (·.1) := not_mem_of_findIdx_none (hidx ▸ hi)
    have hany : ¬ (kvs.any fun kv => decide (kv.1 = k)) = true := by
      rw [List.any_eq_true]; rintro ⟨kv, hkv, he⟩
      exact hnot (List.mem_map.mpr ⟨kv, hkv, of_decide_eq_true he⟩)
    refine wpAny_updateDictKeys (hz := hes) ho hd (hQ _ ⟨_, _, ep + 1, Heap.get?_update_self _ ho (Obj.isFreed_of_dict (Obj.data_mapDictKeys hd _)),
      hc.mapDictKeys _, Obj.data_mapDictKeys hd _, hk.push hkey _, ?_, ?_⟩ (Heap.SameBut.update ..))
    · rw [stored, if_neg hany]
      have := hp.append hkey (knd.hash k) v
      obtain ⟨l⟩ := es
      simpa using this
    · rw [stored, if_neg hany, List.map_append, List.nodup_append]
      refine ⟨hn, by simp, ?_⟩
      intro a ha b hb
      simp only [List.map_cons, List.map_nil, List.mem_singleton] at hb
      subst hb
      exact fun e => hnot (e ▸ ha)

theorem merge_ok {d o : Addr} {kvs more : List (K × Value)} {E : Value → Shared → Prop} {Q : Unit → Shared → Prop} (hdo : d ≠ o) (hoS : (o == sysModules) = false)
    (hd : s.heap.DictOf knd d kvs) (hne : kvs ≠ []) (ho : s.heap.DictOf knd o more)
    (hQ : ∀ h', h'.DictOf knd d (merged kvs more) → Heap.SameBut d s.heap h' → Q () { s with heap := h' })
    (hsz : kvs.length + more.length ≤ sizeLine) :
    wpAny (model prog w) A (mergeMapping d (.ref o) false) Q E s := by
  have hT := ho.typeIs
  obtain ⟨od, esd, epd, hod, hcd, hdd, hkd, hpd, hnd⟩ := id hd
  obtain ⟨oo, eso, epo, hoo, hco, hdo', hko, hpo, hno⟩ := id ho
  unfold mergeMapping
  refine wpAny_bind (wpAny_isInstance (b := true) hT (by rw [isSubtype_type]; kernel_rfl) ?_)
  rw [if_pos rfl]
  refine wpAny_bind (wpAny_specialOf hT F.slot_dict_iter.lookup ?_)
  refine wpAny_bind (wpAny_pure ?_)
  rw [show (some (Value.builtin "dict.__iter__") == some (Value.builtin "dict.__iter__")) = true from by simp]
  dsimp only
  rw [if_neg (by rw [hoS]; exact Bool.false_ne_true)]
  have hesd : esd.isEmpty = false := by
    have e1 := hpd.length
    cases kvs with
    | nil => exact absurd rfl hne
    | cons a r => simp at e1; simp; intro e; rw [e] at e1; simp at e1
  refine wpAny_bind (wpAny_dictEntries hod hdd ?_)
  rw [hesd]
  simp only [Bool.false_eq_true, if_false]
  have hlen : more.length = eso.size := by rw [← hpo.length]; simp
  refine wpAny_bind (wpAny_dictEntries hoo hdo' ?_)
  refine wpAny_bind (wpAny_dictEpoch hoo hdo' ?_)
  refine wpAny_bind ?_
  rw [List.range_eq_range']
  refine wpAny_forIn_list _
    (fun rest _ s' => ∃ h' i, s' = { s with heap := h' } ∧ rest = List.range' i (eso.size - i) ∧ i ≤ eso.size ∧ h'.DictOf knd d (merged kvs (more.take i)) ∧ h'.get? o = some oo ∧ Heap.SameBut d s.heap h')
    _ ?_ ?_ _ _ ⟨s.heap, 0, rfl, by simp, Nat.zero_le _, by simpa [merged] using hd, hoo, Heap.SameBut.refl _ _⟩
  · rintro x rest b s' ⟨h', i, rfl, hr, hi, hd', hoo', hs'⟩
    have hlt : i < eso.size := by
      rcases Nat.lt_or_ge i eso.size with h | h
      · exact h
      · rw [Nat.sub_eq_zero_of_le h] at hr; simp at hr
    obtain ⟨rfl, hrest⟩ : x = i ∧ rest = List.range' (i + 1) (eso.size - (i + 1)) := by
      have e : eso.size - i = (eso.size - (i + 1)) + 1 := by omega
      rw [e, List.range'_succ] at hr
      injection hr with h1 h2
      exact ⟨h1, h2⟩
    refine wpAny_bind (wpAny_dictEntries hoo' hdo' ?_)
    rw [Array.getElem?_eq_getElem hlt]
    obtain ⟨kv, hkv⟩ : ∃ kv, more[x]? = some kv := ⟨more[x]'(by rw [hlen]; exact hlt), List.getElem?_eq_getElem _⟩
    obtain ⟨k, v⟩ := kv
    obtain ⟨hkey, hval⟩ := hpo.get? (e := eso[x]) (by simp [hlt]) hkv
    obtain ⟨k', hkey', hhash⟩ := hko eso[x] (Array.getElem_mem hlt)
    obtain rfl : k' = k := knd.inj _ _ _ hkey' hkey
    have hmx : (merged kvs (more.take x)).length ≤ sizeLine := by
      have e1 := merged_length_le kvs (more.take x)
      have e2 : (more.take x).length ≤ more.length := by rw [List.length_take]; omega
      omega
    dsimp only
    refine wpAny_bind (wpAny_holding ?_)
    try rw [if_neg Bool.false_ne_true]
    rw [hhash, hval]
    refine dictPut_pairs (s := { s with heap := h' }) (hsz := hmx) hkey hd' (fun h'' hd'' hs'' => ?_)
    have hoo'' : h''.get? o = some oo := (hs''.2 o (Ne.symm hdo)).trans hoo'
    refine wpAny_bind (wpAny_dictEpoch hoo'' hdo' ?_)
    rw [if_neg (by simp)]
    exact wpAny_pure ⟨h'', x + 1, rfl, hrest, hlt, by rw [merged_take_succ kvs more x (k', v) hkv]; exact hd'', hoo'', hs'.trans hs''⟩
  · rintro b s' ⟨h', i, rfl, hr, hi, hd', hoo', hs'⟩
    have hin : i = eso.size := by
      have := congrArg List.length hr
      simp at this
      omega
    subst hin
    rw [← hlen, List.take_length] at hd'
    exact wpAny_pure (hQ _ hd' hs')
end
end Mine
end

/-! part T3 -/
section
set_option maxRecDepth 10000
set_option linter.unusedVariables false
open PySem PyProof.Rows
namespace Mine
section
variable {prog : Program} {w : World} {A : Around} {s : Shared}

noncomputable def PairOk (prog : Program) (w : World) (p : Sem Value × Sem Value) (c : Int × Str) : Prop :=
  ∀ (A : Around) (s : Shared) (Q : Value → Shared → Prop), (Q (.int c.1 s.toks) { s with toks := s.toks + 1 } → wpAny (model prog w) A p.1 Q noE s) ∧ (Q (.str c.2 s.toks) { s with toks := s.toks + 1 } → wpAny (model prog w) A p.2 Q noE s)
noncomputable def KVOf : List (Int × Str) → List (Int × Value) → Prop := Paired fun c kv => kv.1 = c.1 ∧ ∃ t, kv.2 = .str c.2 t
theorem KVOf.keys : ∀ {cs : List (Int × Str)} {kvs : List (Int × Value)}, KVOf cs kvs → kvs.map (·.1) = cs.map (·.1)
  | _, _, .nil => rfl
  | _, _, .cons h t => by rw [List.map_cons, List.map_cons, h.1, KVOf.keys t]
theorem isInt_int (i : Int) (t : Tok) : (intKind prog w).is i (.int i t) = true := by simp [intKind, Value.isInt]

theorem long_loop {d : Addr} : ∀ (pairs : List (Sem Value × Sem Value)) (cs done : List (Int × Str)) (kvs : List (Int × Value)) (s : Shared) (Q : PUnit → Shared → Prop), Paired (PairOk prog w) pairs cs → KVOf done kvs →
    s.heap.DictOf (intKind prog w) d kvs → ((done ++ cs).map (·.1)).Nodup → (done ++ cs).length ≤ 1000000 →
    (∀ h' tk kvs', KVOf (done ++ cs) kvs' → h'.DictOf (intKind prog w) d kvs' → Heap.ExtBut d s.heap h' → Q PUnit.unit { s with heap := h', toks := tk }) →
    wpAny (model prog w) A (forIn pairs PUnit.unit fun (x : Sem Value × Sem Value) (_ : PUnit) => (do
        let kv ← x.1
        let vv ← holding [kv] x.2
        holding [kv, vv] (dictSet d kv vv)
        pure (ForInStep.yield PUnit.unit) : Sem (ForInStep PUnit))) Q noE s := by
  intro pairs
  induction pairs with
  | nil =>
    intro cs done kvs s Q hps hd hm hnd hln hQ
    cases hps
    rw [List.forIn_nil]
    have := hQ s.heap s.toks kvs (by rw [List.append_nil]; exact hd) hm (fun _ _ _ e => e)
    exact wpAny_pure this
  | cons p pairs ih =>
    intro cs done kvs s Q hps hd hm hnd hln hQ
    cases hps with
    | @cons _ c _ cs hp hps =>
    rw [List.forIn_cons]
    refine wpAny_bind (wpAny_bind ((hp A s _).1 (wpAny_bind (wpAny_holding ((hp A _ _).2 ?_)))))
    have hk : kvs.map (·.1) = done.map (·.1) := hd.keys
    have hl : kvs.length = done.length := by have := congrArg List.length hk; simpa using this
    have hsz : kvs.length ≤ sizeLine := by simp at hln; rw [sizeLine_eq]; omega
    refine wpAny_bind (wpAny_holding (wpAny_dictSet_pairs (knd := intKind prog w) (kvs := kvs) (k := c.1) (hsz := hsz) (isInt_int _ _) hm fun h₁ hm₁ hs₁ => wpAny_pure ?_))
    · have hfresh : stored kvs c.1 (.str c.2 (s.toks + 1)) = kvs ++ [(c.1, .str c.2 (s.toks + 1))] := by
        unfold stored
        rw [if_neg]
        rw [List.any_eq_true]
        rintro ⟨x, hx, he⟩
        have hx' : x.1 ∈ done.map (·.1) := by rw [← hk]; exact List.mem_map_of_mem (f := (·.1)) hx
        rw [List.map_append, List.map_cons, List.nodup_append] at hnd
        exact hnd.2.2 x.1 hx' c.1 (List.mem_cons_self ..) (of_decide_eq_true he)
      rw [hfresh] at hm₁
      have e1 : done ++ [c] ++ cs = done ++ c :: cs := by simp
      refine ih cs (done ++ [c]) _ _ Q hps (Paired.app hd (.cons ⟨rfl, _, rfl⟩ .nil)) hm₁ (by rw [e1]; exact hnd) (by rw [e1]; exact hln) fun h' tk kvs' h1 h2 h3 => ?_
      rw [e1] at h1
      exact hQ h' tk kvs' h1 h2 fun b o hb e => h3 b o hb (hs₁.extBut b o hb e)

theorem subDict_long {pairs : List (Sem Value × Sem Value)} {cs : List (Int × Str)} {Q : Addr → Shared → Prop} (hp : Paired (PairOk prog w) pairs cs) (hlen : 15 < pairs.length) (hmax : cs.length ≤ 1000000) (hnd : (cs.map (·.1)).Nodup)
    (hQ : ∀ h' tk kvs, KVOf cs kvs → h'.DictOf (intKind prog w) s.heap.objs.size kvs → (∀ b o, s.heap.get? b = some o → h'.get? b = some o) → Q s.heap.objs.size { s with heap := h', toks := tk }) :
    wpAny (model prog w) A (subDict pairs) Q noE s := by
  unfold subDict
  refine wpAny_bind (wpAny_alloc ?_)
  refine wpAny_bind (wpAny_holding ?_)
  rw [if_neg (by omega)]
  refine wpAny_bind (wpAny_rule ?_)
  refine wpAny_bind (long_loop (d := s.heap.objs.size) pairs cs [] [] _ _ hp .nil (Heap.DictOf.new s.heap) (by simpa using hnd) (by simpa using hmax) fun h' tk kvs' h1 h2 h3 => ?_)
  exact wpAny_pure (wpAny_pure (hQ h' tk kvs' (by simpa using h1) h2 fun b o e => h3 b o (fun e' => by
    have := Heap.lt_size e
    rw [e'] at this; exact Nat.lt_irrefl _ this) (Heap.get?_push_of_some _ e)))

theorem short_pairs : ∀ (pairs : List (Sem Value × Sem Value)) (cs : List (Int × Str)) (s : Shared) (Q : List (Value × Value) → Shared → Prop), Paired (PairOk prog w) pairs cs →
    (∀ tk vs kvs, KVOf cs kvs → Carries (intKind prog w) vs kvs → Q vs { s with toks := tk }) → wpAny (model prog w) A (evalPairs pairs) Q noE s := by
  intro pairs
  induction pairs with
  | nil =>
    intro cs s Q hps hQ
    cases hps
    exact evalPairs_nil (hQ s.toks [] [] .nil trivial)
  | cons p pairs ih =>
    intro cs s Q hps hQ
    cases hps with
    | @cons _ c _ cs hp hps =>
    refine evalPairs_cons ((hp A s _).1 ((hp A _ _).2 (ih cs _ _ hps fun tk vs kvs h1 h2 => ?_)))
    exact hQ tk _ ((c.1, .str c.2 (s.toks + 1)) :: kvs) (.cons ⟨rfl, _, rfl⟩ h1) ⟨isInt_int _ _, rfl, h2⟩

theorem subDict_any {pairs : List (Sem Value × Sem Value)} {cs : List (Int × Str)} {Q : Addr → Shared → Prop} (hp : Paired (PairOk prog w) pairs cs) (hmax : cs.length ≤ 1000000) (hnd : (cs.map (·.1)).Nodup)
    (hQ : ∀ h' tk kvs, KVOf cs kvs → h'.DictOf (intKind prog w) s.heap.objs.size kvs → (∀ b o, s.heap.get? b = some o → h'.get? b = some o) → Q s.heap.objs.size { s with heap := h', toks := tk }) :
    wpAny (model prog w) A (subDict pairs) Q noE s := by
  rcases Nat.lt_or_ge 15 pairs.length with hl | hl
  · exact subDict_long hp hl hmax hnd hQ
  · refine wpAny_subDict (knd := intKind prog w) hl (short_pairs pairs cs _ _ hp fun tk vs kvs h1 h2 => ⟨kvs, h2, Heap.DictOf.new s.heap, fun h' h3 h4 => ?_⟩)
    rw [merged_nil_of_nodup kvs (by rw [h1.keys]; exact hnd)] at h3
    exact hQ h' _ kvs h1 h3 fun b o e => h4.extBut b o (fun e' => by
      have := Heap.lt_size e
      rw [e'] at this; exact Nat.lt_irrefl _ this) (Heap.get?_push_of_some _ e)

theorem Paired.snoc' {α β : Type} {F : α → β → Prop} {a : α} {b : β} {l₁ : List α} {l₂ : List β} (h : Paired F l₁ l₂) (h' : F a b) : Paired F (l₁ ++ [a]) (l₂ ++ [b]) := Paired.app h (.cons h' .nil)

/-- what has been laid so far -/
noncomputable def Laid1 (prog : Program) (w : World) (s₀ : Shared) (m : Option Addr) (done : List (Int × Str)) (h : Heap) : Prop := match m with
  | none => done = []
  | some d => done ≠ [] ∧ d = s₀.heap.objs.size ∧ ∃ kvs, KVOf done kvs ∧ h.DictOf (intKind prog w) d kvs

theorem flush_ok {s₀ : Shared} {m : Option Addr} {run : List (Sem Value × Sem Value)} {done cs : List (Int × Str)} {Q : Option Addr → Shared → Prop} (hm : Laid1 prog w s₀ m done s.heap) (hk : ∀ b o, s₀.heap.get? b = some o → s.heap.get? b = some o)
    (hs : s = s₀ ∨ m ≠ none) (hp : Paired (PairOk prog w) run cs) (hne : cs ≠ []) (hmax : (done ++ cs).length ≤ 1000000) (hnd : ((done ++ cs).map (·.1)).Nodup) (hlow : sysModules < s₀.heap.objs.size)
    (hz : s₀.heap.objs.size ≤ s.heap.objs.size)
    (hQ : ∀ h' tk, Laid1 prog w s₀ (some s₀.heap.objs.size) (done ++ cs) h' → (∀ b o, s₀.heap.get? b = some o → h'.get? b = some o) → s₀.heap.objs.size ≤ h'.objs.size → Q (some s₀.heap.objs.size) { s with heap := h', toks := tk }) :
    wpAny (model prog w) A (do
      if run.isEmpty then return m
      match m with
      | none => return some (← subDict run)
      | some d =>
        let sub ← holding [.ref d] (subDict run)
        (holding [.ref d, .ref sub] (mergeMapping d (.ref sub) false)).onRaise fun x => do let _ ← holding [.ref d, x] (runValue (.builtin "proto.let_go" {}))
        return some d) Q noE s := by
  have hre : run.isEmpty = false := by
    cases hp with
    | nil => exact absurd rfl hne
    | cons => rfl
  rw [hre]
  simp only [Bool.false_eq_true, if_false]
  have hnd' : (cs.map (·.1)).Nodup := by rw [List.map_append, List.nodup_append] at hnd; exact hnd.2.1
  have hmax' : cs.length ≤ 1000000 := by simp at hmax; omega
  cases m with
  | none =>
    obtain rfl := hs.resolve_right (fun h => h rfl)
    obtain rfl : done = [] := hm
    dsimp only
    refine wpAny_bind (subDict_any hp hmax' hnd' fun h' tk kvs h1 h2 h3 => wpAny_pure ?_)
    refine hQ h' tk ⟨by simpa using hne, rfl, kvs, by simpa using h1, h2⟩ h3 (Nat.le_of_lt ?_)
    obtain ⟨o, _, _, ho, _⟩ := h2
    exact Heap.lt_size ho
  | some d =>
    obtain ⟨hdn, rfl, kvs, hkv, hd⟩ := hm
    dsimp only
    refine wpAny_bind (wpAny_holding (subDict_any hp hmax' hnd' fun h' tk kvs' h1 h2 h3 => ?_))
    have hdlt : s₀.heap.objs.size < s.heap.objs.size := by obtain ⟨o, _, _, ho, _⟩ := hd; exact Heap.lt_size ho
    have hd' := hd.keep h3
    refine wpAny_bind (wpAny_onRaise (wpAny_holding ?_))
    refine merge_ok (s := { s with heap := h', toks := tk }) (Nat.ne_of_lt hdlt) (by simp only [beq_eq_false_iff_ne]; exact Nat.ne_of_gt (Nat.lt_of_lt_of_le hlow hz)) hd' (fun e => ?_) h2 (fun h'' h4 h5 => ?_) ?_
    · subst e
      cases hkv
      exact hdn rfl
    · have hkk : ((kvs ++ kvs').map (·.1)).Nodup := by rw [List.map_append, hkv.keys, h1.keys, ← List.map_append]; exact hnd
      rw [merged_append_of_fresh kvs kvs' hkk] at h4
      refine wpAny_pure (hQ h'' tk ⟨by simp [hne], rfl, _, Paired.app hkv h1, h4⟩ (fun b o e => h5.extBut b o (fun e' => by
        have := Heap.lt_size e
        rw [e'] at this; exact Nat.lt_irrefl _ this) (h3 b o (hk b o e))) ?_)
      obtain ⟨o, _, _, ho, _⟩ := h4
      exact Nat.le_of_lt (Heap.lt_size ho)
    · have e1 := hkv.length
      have e2 := h1.length
      simp at hmax
      rw [sizeLine_eq, ← e1, ← e2]; omega

inductive DispI (prog : Program) (w : World) (s : Shared) (cs : List (Int × Str)) (rest : List (Option (Sem Value) × Sem Value)) (b : Option Addr × List (Sem Value × Sem Value)) (s' : Shared) : Prop
  | mk (restP : List (Sem Value × Sem Value)) (csDone csRun csRest : List (Int × Str)) (h' : Heap) (tk : Nat) (hr : rest = restP.map (fun p => (some p.1, p.2))) (hcs : cs = csDone ++ csRun ++ csRest) (hrun : Paired (PairOk prog w) b.2 csRun) (hrest : Paired (PairOk prog w) restP csRest)
      (hlt : csRun.length < 17) (hdm : csDone.length % 17 = 0) (hs' : s' = { s with heap := h', toks := tk }) (hm : Laid1 prog w s b.1 csDone h') (hk : ∀ b o, s.heap.get? b = some o → h'.get? b = some o) (hs : s' = { s with toks := tk } ∨ b.1 ≠ none) (hz : s.heap.objs.size ≤ h'.objs.size) : DispI prog w s cs rest b s'
theorem display_ok {pairs : List (Sem Value × Sem Value)} {cs : List (Int × Str)} {Q : Value → Shared → Prop} (hp : Paired (PairOk prog w) pairs cs) (hmax : cs.length ≤ 1000000) (hnd : (cs.map (·.1)).Nodup) (hlow : sysModules < s.heap.objs.size)
    (hmod : cs.length % 17 ≠ 0)
    (hQ : ∀ h' tk kvs, KVOf cs kvs → h'.DictOf (intKind prog w) s.heap.objs.size kvs → (∀ b o, s.heap.get? b = some o → h'.get? b = some o) → Q (.ref s.heap.objs.size) { s with heap := h', toks := tk }) :
    wpAny (model prog w) A (dictDisplay (pairs.map fun p => (some p.1, p.2))) Q noE s := by
  unfold dictDisplay
  dsimp only
  refine wpAny_bind (wpAny_forIn_list _
    (DispI prog w s cs)
    _ ?_ ?_ _ _ ⟨pairs, [], [], cs, s.heap, s.toks, rfl, rfl, Paired.nil, hp, by simp, rfl, rfl, (rfl : ([] : List (Int × Str)) = []), fun _ _ e => e, Or.inl rfl, Nat.le_refl _⟩)
  · rintro x rest ⟨m, run⟩ s' ⟨restP, csDone, csRun, csRest, h', tk, hr, hcs, hrun, hrest, hlt, hdm, rfl, hm, hk, hs, hz⟩
    cases restP with
    | nil => cases hr
    | cons p restP =>
      rw [List.map_cons] at hr
      injection hr with hx hr
      subst hx hr
      cases hrest with
      | @cons _ c _ csRest' hpc hrest' =>
        dsimp only at hrun hm hs ⊢
        have hrun' := Paired.snoc' hrun hpc
        have hlen : (run ++ [(p.1, p.2)]).length = csRun.length + 1 := by rw [List.length_append, hrun.length]; rfl
        have hcs' : cs = csDone ++ (csRun ++ [c]) ++ csRest' := by rw [hcs]; simp
        by_cases h17 : csRun.length + 1 = 17
        · rw [if_pos (by rw [hlen, h17]; rfl)]
          refine wpAny_bind ?_
          have hnd2 : ((csDone ++ (csRun ++ [c])).map (·.1)).Nodup := by
            rw [hcs', List.map_append, List.nodup_append] at hnd; exact hnd.1
          have hmax2 : (csDone ++ (csRun ++ [c])).length ≤ 1000000 := by
            have := congrArg List.length hcs'
            simp at this ⊢; omega
          refine flush_ok (s := { s with heap := h', toks := tk }) (s₀ := { s with toks := tk }) (done := csDone) (cs := csRun ++ [c]) hm hk hs hrun' (by simp) hmax2 hnd2 hlow hz fun h'' tk' h1 h2 h3 => wpAny_pure ?_
          refine ⟨restP, csDone ++ (csRun ++ [c]), [], csRest', h'', tk', rfl, by rw [hcs']; simp, .nil, hrest', by simp, ?_, rfl, h1, h2, .inr (by simp), h3⟩
          simp only [List.length_append, List.length_singleton]; omega
        · rw [if_neg (by rw [hlen]; simp; omega)]
          refine wpAny_pure ⟨restP, csDone, csRun ++ [c], csRest', h', tk, rfl, by rw [hcs'], hrun', hrest', by simp; omega, hdm, rfl, hm, hk, hs, hz⟩
  · rintro ⟨m, run⟩ s' ⟨restP, csDone, csRun, csRest, h', tk, hr, hcs, hrun, hrest, hlt, hdm, rfl, hm, hk, hs, hz⟩
    cases restP with
    | cons => cases hr
    | nil =>
      cases hrest
      dsimp only at hrun hm hs ⊢
      rw [List.append_nil] at hcs
      refine wpAny_bind ?_
      have hne : csRun ≠ [] := fun e => by
        subst e
        rw [List.append_nil] at hcs
        rw [hcs] at hmod
        exact hmod hdm
      refine flush_ok (s := { s with heap := h', toks := tk }) (s₀ := { s with toks := tk }) (done := csDone) (cs := csRun) hm hk hs hrun hne (by rw [← hcs]; exact hmax) (by rw [← hcs]; exact hnd) hlow hz fun h'' tk' h1 h2 h3 => ?_
      obtain ⟨_, _, kvs, h4, h5⟩ := h1
      rw [← hcs] at h4
      exact wpAny_pure (hQ h'' tk' kvs h4 h5 h2)
end
end Mine
end

/-! part T4 -/
section
set_option maxRecDepth 10000
set_option linter.unusedVariables false
open PySem PyProof.Rows
namespace Mine
section
variable {prog : Program} {w : World}

noncomputable def upd (m : Str → Option Value) (x : Str) (v : Value) : Str → Option Value := fun y => if y = x then some v else m y
structure TI (c Pl : Addr) (mg : Str → Option Value) (ps : Array Value) (line : Nat) (h : Heap) : Prop where
  main : h.Main mg c Pl ps
  blt : ∃ mb, h.Ns builtinsNs mb ∧ ∀ x : Str, x ≠ "__name__" → mb x = bootBuiltins x
  ps : ∀ pos : Pos, line ≤ pos.line → codeAmong pos ps.toList = none
  low : sysModules < h.objs.size
noncomputable def Up (Pl : Addr) (h h' : Heap) : Prop := ∀ b o, b ≠ Pl → b ≠ mainGlobals → h.get? b = some o → h'.get? b = some o
theorem Up.refl {Pl : Addr} {h : Heap} : Up Pl h h := fun _ _ _ _ e => e
theorem Up.trans {Pl : Addr} {h h' h'' : Heap} (x : Up Pl h h') (y : Up Pl h' h'') : Up Pl h h'' := fun b o a c e => y b o a c (x b o a c e)

noncomputable def TStmt (prog : Program) (w : World) (l l' : Nat) (st : Stmt) (x : Str) (ok : (Str → Option Value) → Prop) (P : Heap → Addr → Value → Prop) : Prop :=
  ∀ (A : Around) (c Pl F : Addr) (mg : Str → Option Value) (ps : Array Value) (s : Shared), A.handled = none → TI c Pl mg ps l s.heap → ok mg →
    wpAny (model prog w) A (exec st (mainEnv prog c F)) (fun f s' => f = .next ∧ ∃ v h' tk ps', s' = { s with heap := h', toks := tk } ∧ TI c Pl (upd mg x v) ps' l' h' ∧ Up Pl s.heap h' ∧ P h' Pl v) noE s

theorem size_of_get {h h' : Heap} {n : Nat} (x : ∃ o, h.get? n = some o) (k : ∀ o, h.get? n = some o → h'.get? n = some o) : n < h'.objs.size := by
  obtain ⟨o, e⟩ := x
  exact Heap.lt_size (k o e)

/-- storing at the top -/
theorem store_top {l : Nat} {A : Around} {c Pl F : Addr} {mg : Str → Option Value} {ps : Array Value} {s : Shared} {x : Str} {v : Value} {Q : Unit → Shared → Prop} {E : Value → Shared → Prop}
    (T : TI c Pl mg ps l s.heap) (hmod : prog.main.scope.kind = .module) (hloc : prog.main.scope.names.lookup x = some .local) (hnb : x ≠ "__builtins__")
    (hQ : ∀ h' tk, TI c Pl (upd mg x v) ps l h' → Heap.SameBut mainGlobals s.heap h' → Q () { s with heap := h', toks := tk }) : wpAny (model prog w) A (storeName (mainEnv prog c F) x v) Q E s := by
  refine wpAny_storeName_local (env := mainEnv prog c F) hloc T.main.g (fun h' hg' hs' => hQ h' _ ?_ hs') (by show (prog.main.scope.kind == .class || (prog.main.scope.kind == .module && mainGlobals != mainGlobals)) = false; rw [hmod]; rfl)
  obtain ⟨bm, o, hbm, hne0, hneG, hneP, hbo, hrest⟩ := T.main.bmod
  refine ⟨⟨hg', T.main.code.sameBut hs' (Nat.ne_of_gt T.main.low.1) (Nat.ne_of_gt T.main.low.2), T.main.low, ⟨bm, o, by simp only [upd, Ne.symm hnb, if_false]; exact hbm, hne0, hneG, hneP, (hs'.2 _ hneG).trans hbo, hrest⟩⟩, ?_, T.ps, ?_⟩
  · obtain ⟨mb, hb, h1⟩ := T.blt
    exact ⟨mb, hb.sameBut hs' (show builtinsNs ≠ mainGlobals by decide), h1⟩
  · rw [hs'.1]; exact T.low

/-- a heap that keeps all -/
theorem TI.keeps {l : Nat} {c Pl : Addr} {mg : Str → Option Value} {ps : Array Value} {h h' : Heap} (T : TI c Pl mg ps l h) (hk : ∀ b o, h.get? b = some o → h'.get? b = some o) (hz : h.objs.size ≤ h'.objs.size) : TI c Pl mg ps l h' := by
  obtain ⟨bm, o, hbm, hne0, hneG, hneP, hbo, hrest⟩ := T.main.bmod
  obtain ⟨mb, hb, h1⟩ := T.blt
  exact ⟨⟨T.main.g.keeps hk, T.main.code.keeps hk, T.main.low, ⟨bm, o, hbm, hne0, hneG, hneP, hk _ _ hbo, hrest⟩⟩, ⟨mb, hb.keeps hk, h1⟩, T.ps, Nat.lt_of_lt_of_le T.low hz⟩
theorem TI.mono {l l' : Nat} {c Pl : Addr} {mg : Str → Option Value} {ps : Array Value} {h : Heap} (T : TI c Pl mg ps l h) (hl : l ≤ l') : TI c Pl mg ps l' h :=
  ⟨T.main, T.blt, fun pos hp => T.ps pos (Nat.le_trans hl hp), T.low⟩

theorem assign_top {l l' : Nat} {x : Str} {px pos : Pos} {e : Expr} {ok : (Str → Option Value) → Prop} {P : Heap → Addr → Value → Prop} (hmod : prog.main.scope.kind = .module) (hloc : prog.main.scope.names.lookup x = some .local) (hnb : x ≠ "__builtins__") (hl : l ≤ l')
    (hs : ∀ env, swapsWith e (some (.Name x px)) pos.line env = pure false)
    (hP : ∀ Pl v h h', Up Pl h h' → P h Pl v → P h' Pl v)
    (he : ∀ (A : Around) (c Pl F : Addr) (mg : Str → Option Value) (ps : Array Value) (s : Shared), A.handled = none → TI c Pl mg ps l s.heap → ok mg →
      wpAny (model prog w) A (eval e (mainEnv prog c F)) (fun v s' => ∃ h' tk, s' = { s with heap := h', toks := tk } ∧ (∀ b o, s.heap.get? b = some o → h'.get? b = some o) ∧ s.heap.objs.size ≤ h'.objs.size ∧ P h' Pl v) noE s) :
    TStmt prog w l l' (.Assign [.Name x px] e pos) x ok P := by
  intro A c Pl F mg ps s hA T hok
  refine wpAny_Assign_Name (wpAny_mono (he A c Pl F mg ps s hA T hok) (fun v s' h => ?_) fun _ _ h => h) (hs _)
  obtain ⟨h', tk, rfl, hk, hz, hp⟩ := h
  refine store_top (s := { s with heap := h', toks := tk }) (T.keeps hk hz) hmod hloc hnb fun h'' tk' T' hs' => ?_
  have up : Up Pl h' h'' := fun b o h1 h2 e => hs'.extBut b o h2 e
  exact ⟨rfl, v, h'', tk', ps, rfl, T'.mono hl, fun b o h1 h2 e => up b o h1 h2 (hk b o e), hP _ _ _ _ up hp⟩

theorem TStmt.str {l l' : Nat} {x y : Str} {px pos p : Pos} {k : Nat} (hmod : prog.main.scope.kind = .module) (hloc : prog.main.scope.names.lookup x = some .local) (hnb : x ≠ "__builtins__") (hl : l ≤ l') :
    TStmt prog w l l' (.Assign [.Name x px] (.Constant (.str y) k p) pos) x (fun _ => True) (fun _ _ v => ∃ t, v = .str y t) :=
  assign_top hmod hloc hnb hl (fun _ => rfl) (fun _ _ _ _ _ h => h) fun A c Pl F mg ps s hA T _ => wpAny_Constant_str ⟨s.heap, _, rfl, fun _ _ e => e, Nat.le_refl _, _, rfl⟩
theorem TStmt.int {l l' : Nat} {x : Str} {i : Int} {px pos p : Pos} {k : Nat} (hmod : prog.main.scope.kind = .module) (hloc : prog.main.scope.names.lookup x = some .local) (hnb : x ≠ "__builtins__") (hl : l ≤ l') :
    TStmt prog w l l' (.Assign [.Name x px] (.Constant (.int i) k p) pos) x (fun _ => True) (fun _ _ v => ∃ t, v = .int i t) :=
  assign_top hmod hloc hnb hl (fun _ => rfl) (fun _ _ _ _ _ h => h) fun A c Pl F mg ps s hA T _ => wpAny_Constant_int ⟨s.heap, _, rfl, fun _ _ e => e, Nat.le_refl _, _, rfl⟩

/-! ## the table -/
noncomputable def dictCs : List (Option Expr) → List Expr → Option (List (Int × Str))
  | [], [] => some []
  | some (.Constant (.int i) _ _) :: ks, .Constant (.str y) _ _ :: vs => (dictCs ks vs).map ((i, y) :: ·)
  | _, _ => none
theorem dict_pairs {env : Env} {pos : Pos} : ∀ {ks : List (Option Expr)} {vs : List Expr} {cs : List (Int × Str)}, dictCs ks vs = some cs →
    ∃ pairs : List (Sem Value × Sem Value), (evalEachOpt ks env).zip ((evalEach vs env).map fun v => do let x ← v; standAt pos; pure x) = pairs.map (fun p => (some p.1, p.2)) ∧ Paired (PairOk prog w) pairs cs := by
  intro ks
  induction ks with
  | nil =>
    intro vs cs h
    cases vs with
    | nil => cases h; exact ⟨[], rfl, .nil⟩
    | cons => simp [dictCs] at h
  | cons k ks ih =>
    intro vs cs h
    unfold dictCs at h
    split at h
    · rename_i h0; cases h0
    · rename_i i k1 p1 ks' y k2 p2 vs' h0
      cases h0
      obtain ⟨cs', h1, h2⟩ := Option.map_eq_some_iff.mp h
      cases h2
      obtain ⟨pairs, e1, e2⟩ := ih h1
      refine ⟨(eval (.Constant (.int i) k1 p1) env, do let x ← eval (.Constant (.str y) k2 p2) env; standAt pos; pure x) :: pairs, ?_, .cons ?_ e2⟩
      · show (some (eval (.Constant (.int i) k1 p1) env), _) :: _ = _
        rw [List.map_cons, ← e1]
        rfl
      · intro A s Q
        exact ⟨fun h => wpAny_Constant_int (env := env) (k := k1) (pos := p1) h, fun h => wpAny_bind (wpAny_Constant_str (env := env) (k := k2) (pos := p2) (wpAny_bind (wpAny_standAt (wpAny_pure h))))⟩
    · cases h

noncomputable def TableAt (prog : Program) (w : World) (cs : List (Int × Str)) (h : Heap) (Pl : Addr) (v : Value) : Prop := ∃ a kvs, v = .ref a ∧ a ≠ Pl ∧ a ≠ mainGlobals ∧ (a == sysModules) = false ∧ KVOf cs kvs ∧ h.DictOf (intKind prog w) a kvs
theorem TStmt.table {l l' : Nat} {x : Str} {px pos p : Pos} {ks : List (Option Expr)} {vs : List Expr} {cs : List (Int × Str)} (hmod : prog.main.scope.kind = .module) (hloc : prog.main.scope.names.lookup x = some .local) (hnb : x ≠ "__builtins__") (hl : l ≤ l')
    (hcs : dictCs ks vs = some cs) (hmax : cs.length ≤ 1000000) (hnd : (cs.map (·.1)).Nodup) (h17 : cs.length % 17 ≠ 0) :
    TStmt prog w l l' (.Assign [.Name x px] (.Dict ks vs p) pos) x (fun _ => True) (TableAt prog w cs) := by
  refine assign_top hmod hloc hnb hl (fun _ => rfl) (fun Pl v h h' up hp => ?_) fun A c Pl F mg ps s hA T _ => ?_
  · obtain ⟨a, kvs, e, h1, h2, h3, h4, h5⟩ := hp
    exact ⟨a, kvs, e, h1, h2, h3, h4, h5.at fun o e => up a o h1 h2 e⟩
  · obtain ⟨pairs, e1, e2⟩ := dict_pairs (prog := prog) (w := w) (env := mainEnv prog c F) (pos := p) hcs
    rw [arm_eval_Dict, e1]
    refine wpAny_bind (wpAny_standAt ?_)
    refine display_ok e2 hmax hnd T.low h17 fun h' tk kvs h1 h2 h3 => ?_
    have hPl : Pl < s.heap.objs.size := T.main.code.lt.2
    have hsz : s.heap.objs.size < h'.objs.size := by obtain ⟨o, _, _, ho, _⟩ := h2; exact Heap.lt_size ho
    exact ⟨h', tk, rfl, h3, Nat.le_of_lt hsz, _, kvs, rfl, Nat.ne_of_gt hPl, Nat.ne_of_gt T.main.g.lt, by simp only [beq_eq_false_iff_ne]; exact Nat.ne_of_gt T.low, h1, h2⟩

/-! ## the set -/
noncomputable def ints? : List Expr → Option (List Int)
  | [] => some []
  | .Constant (.int i) _ _ :: es => (ints? es).map (i :: ·)
  | _ => none
theorem int_items {A : Around} {env : Env} {pos : Pos} : ∀ (es : List Expr) (is : List Int) (s : Shared) (Q : List Value → Shared → Prop), ints? es = some is → (∀ vs tk, IntsAre vs is → Q vs { s with toks := tk }) →
    wpAny (model prog w) A (spliced (backTo pos (starEach es env))) Q noE s := by
  intro es
  induction es with
  | nil => intro is s Q h hQ; cases h; exact wpAny_items_nil (hQ [] s.toks .nil)
  | cons e es ih =>
    intro is s Q h hQ
    unfold ints? at h
    split at h
    · rename_i h0; cases h0
    · rename_i i k p es' h0
      cases h0
      obtain ⟨is', h1, h2⟩ := Option.map_eq_some_iff.mp h
      cases h2
      exact wpAny_items_cons (wpAny_Constant_int (ih is' _ _ h1 fun vs tk hv => hQ _ tk (.cons _ _ hv))) rfl
    · cases h
theorem IntsAre.app : ∀ {vs us : List Value} {is js : List Int}, IntsAre vs is → IntsAre us js → IntsAre (vs ++ us) (is ++ js)
  | _, _, _, _, .nil, h => h
  | _, _, _, _, .cons n t h', h => .cons n t (IntsAre.app h' h)
theorem IntsAre.len : ∀ {vs : List Value} {is : List Int}, IntsAre vs is → vs.length = is.length
  | _, _, .nil => rfl
  | _, _, .cons _ _ h => by rw [List.length_cons, List.length_cons, IntsAre.len h]
theorem ints_of_items {a c : Int} {n : Nat} {acc : Array Value} (h : ItemsOf (fun i v => ∃ t, v = .int (a + i * c) t) acc n) : IntsAre acc.toList ((List.range n).map fun (i : Nat) => a + (i : Int) * c) := by
  have gen : ∀ (vs : List Value) (is : List Int), vs.length = is.length → (∀ (i : Nat) v, vs[i]? = some v → ∃ t, ∃ x, is[i]? = some x ∧ v = .int x t) → IntsAre vs is := by
    intro vs
    induction vs with
    | nil => intro is hl _; cases is with
      | nil => exact .nil
      | cons => simp at hl
    | cons v vs ih =>
      intro is hl hv
      cases is with
      | nil => simp at hl
      | cons x is =>
        obtain ⟨t, y, h1, rfl⟩ := hv 0 v rfl
        cases h1
        exact .cons _ _ (ih is (by simpa using hl) fun i u hu => hv (i + 1) u (by simpa using hu))
  refine gen _ _ (by simp [h.1]) fun i v hv => ?_
  obtain ⟨t, e⟩ := h.2 i v (by simpa using hv)
  refine ⟨t, _, ?_, e⟩
  have hi : i < n := by
    have := (List.getElem?_eq_some_iff.mp hv).1
    rw [Array.length_toList, h.1] at this; exact this
  simp [hi]

theorem name_top {A : Around} {c Pl F : Addr} {mg : Str → Option Value} {ps : Array Value} {l : Nat} {s : Shared} {x : Str} {p : Pos} {v : Value} {Q : Value → Shared → Prop} {E : Value → Shared → Prop} (hmod : prog.main.scope.kind = .module)
    (T : TI c Pl mg ps l s.heap) (h1 : mg x = none) (h2 : bootBuiltins x = some v) (h3 : x ≠ "__name__") (h : Q v s) (hd : (x == ("__debug__" : Str)) = false) : wpAny (model prog w) A (eval (.Name x p) (mainEnv prog c F)) Q E s := by
  obtain ⟨mb, hb, hq⟩ := T.blt
  exact Calls.Name_module hmod rfl (Calls.loadGlobal_builtin T.main.g h1 hb ((hq x h3).trans h2) h) hd

theorem call_one {A : Around} {env : Env} {x : Str} {p pos : Pos} {e : Expr} {T : String} {s : Shared} {Q : Value → Shared → Prop} (hname : ∀ Q : Value → Shared → Prop, Q (.type T) s → wpAny (model prog w) A (eval (.Name x p) env) Q noE s)
    (hst : starEach [e] env = [(false, eval e env)])
    (h : wpAny (model prog w) A (eval e env) (fun v s₁ => wpAny (model prog w) A (call (.type T) [v]) Q noE s₁) noE s) : wpAny (model prog w) A (eval (.Call (.Name x p) [e] [] pos) env) Q noE s := by
  refine Call_Name rfl (hname _ ?_)
  rw [hst]
  refine PySem.callWith_type rfl ?_
  refine Calls.evalArgs_plain ?_
  show wpAny _ _ (spliced ((false, eval e env) :: [])) _ _ _
  exact Calls.spliced_cons (wpAny_mono h (fun v s₁ h₁ => Calls.spliced_nil h₁) fun _ _ x => x)
theorem call_two {A : Around} {env : Env} {x : Str} {p pos : Pos} {e e' : Expr} {T : String} {s : Shared} {Q : Value → Shared → Prop} (hname : ∀ Q : Value → Shared → Prop, Q (.type T) s → wpAny (model prog w) A (eval (.Name x p) env) Q noE s)
    (hst : starEach [e, e'] env = [(false, eval e env), (false, eval e' env)])
    (h : wpAny (model prog w) A (eval e env) (fun v s₁ => wpAny (model prog w) A (eval e' env) (fun v' s₂ => wpAny (model prog w) A (call (.type T) [v, v']) Q noE s₂) noE s₁) noE s) : wpAny (model prog w) A (eval (.Call (.Name x p) [e, e'] [] pos) env) Q noE s := by
  refine Call_Name rfl (hname _ ?_)
  rw [hst]
  refine PySem.callWith_type rfl ?_
  refine Calls.evalArgs_plain ?_
  show wpAny _ _ (spliced ((false, eval e env) :: [(false, eval e' env)])) _ _ _
  exact Calls.spliced_cons (wpAny_mono h (fun v s₁ h₁ => Calls.spliced_cons (wpAny_mono h₁ (fun v s₁ h₁ => Calls.spliced_nil h₁) fun _ _ x => x)) fun _ _ x => x)

noncomputable def setS (ns : List Int) : Int → Bool := fun k' => (firstMet (fun i => ns.getD i 0) ns.length).any fun x => x == k'
noncomputable def SetAt (prog : Program) (w : World) (ns : List Int) (h : Heap) (Pl : Addr) (v : Value) : Prop := ∃ a n, v = .ref a ∧ a ≠ Pl ∧ a ≠ mainGlobals ∧ h.SetOf (intKind prog w) a (setS ns) n
theorem TStmt.set {l l' : Nat} {x : Str} {px pos p1 p2 p3 p4 p5 p6 p7 p8 p9 p10 : Pos} {k1 k2 : Nat} {es : List Expr} {is : List Int} {a b : Int} (hmod : prog.main.scope.kind = .module) (hloc : prog.main.scope.names.lookup x = some .local) (hnb : x ≠ "__builtins__") (hl : l ≤ l')
    (his : ints? es = some is) (hab : smallR a b 1 = true) (hlen : is.length + rangeN a b 1 + 1 < 2000) (hmx : (is ++ (List.range (rangeN a b 1)).map fun (i : Nat) => a + (i : Int) * 1).length = is.length + rangeN a b 1) :
    TStmt prog w l l' (.Assign [.Name x px] (.Call (.Name "set" p1) [.BinOp (.List es p2) .Add (.Call (.Name "list" p3) [.Call (.Name "range" p4) [.Constant (.int a) k1 p5, .Constant (.int b) k2 p6] [] p7] [] p8) p9] [] p10) pos) x
      (fun mg => mg "set" = none ∧ mg "list" = none ∧ mg "range" = none) (SetAt prog w (is ++ (List.range (rangeN a b 1)).map fun (i : Nat) => a + (i : Int) * 1)) := by
  refine assign_top hmod hloc hnb hl (fun _ => rfl) (fun Pl v h h' up hp => ?_) fun A c Pl F mg ps s hA T hok => ?_
  · obtain ⟨u, n, e, h1, h2, o, es, ep, t, ho, r⟩ := hp
    exact ⟨u, n, e, h1, h2, o, es, ep, t, up u o h1 h2 ho, r⟩
  · obtain ⟨n1, n2, n3⟩ := hok
    refine call_one (T := "set") (fun Q h => name_top hmod T n1 (by rfl) (by decide) h (by decide)) rfl ?_
    refine wpAny_BinOp (wpAny_List (int_items es is _ _ his fun vs tk hv => ⟨?_, ?_⟩))
    · rw [IntsAre.len hv, sizeLine_eq]; omega
    have k1 : ∀ b o, s.heap.get? b = some o → (s.heap.push { cls := .type "list", data := .seq vs.toArray }).get? b = some o := fun b o e => Heap.get?_push_of_some _ e
    have T1 : TI c Pl mg ps l (s.heap.push { cls := .type "list", data := .seq vs.toArray }) := T.keeps k1 (by rw [Heap.size_push]; exact Nat.le_succ _)
    refine call_one (T := "list") (fun Q h => name_top (s := { s with heap := s.heap.push { cls := .type "list", data := .seq vs.toArray }, toks := tk }) hmod T1 n2 (by rfl) (by decide) h (by decide)) rfl ?_
    refine call_two (T := "range") (fun Q h => name_top (s := { s with heap := s.heap.push { cls := .type "list", data := .seq vs.toArray }, toks := tk }) hmod T1 n3 (by rfl) (by decide) h (by decide)) rfl ?_
    refine wpAny_Constant_int (wpAny_Constant_int (call_range_2 ?_))
    dsimp only
    generalize hH1 : s.heap.push { cls := .type "list", dict := none, data := .seq vs.toArray } = H1 at k1 T1 ⊢
    have hL1 : H1.get? s.heap.objs.size = some { cls := .type "list", data := .seq vs.toArray } := hH1 ▸ Heap.get?_push_size _ rfl
    refine call_list_range (a := a) (b := b) (c := 1) (n := rangeN a b 1) hA (Heap.get?_push_size H1 rfl) (small_ok hab) (rangeN_eq hab) (by have := (rangeSize_le hab).2; have := rangeN_eq hab; omega) fun h' tk' acc' c' hk hl' hi => ?_
    dsimp only at hk hl' ⊢
    have hH2 : ∀ b o, H1.get? b = some o → h'.get? b = some o := fun b o e => hk b o (Heap.get?_push_of_some _ e)
    have hacc := ints_of_items hi
    have hal : acc'.size = rangeN a b 1 := hi.1
    have hvl : vs.length = is.length := IntsAre.len hv
    refine P.add_list (s := { s with heap := h', toks := tk' }) (items := vs.toArray) (items2 := acc') (hH2 _ _ hL1) hl' ?_ (by rw [sizeLine_eq, List.size_toArray]; omega)
    dsimp only
    have hz1 : H1.objs.size < h'.objs.size := by
      exact Heap.lt_size (hk _ _ (Heap.get?_push_size H1 rfl))
    have hIA : IntsAre (vs.toArray ++ acc').toList (is ++ (List.range (rangeN a b 1)).map fun (i : Nat) => a + (i : Int) * 1) := by
      rw [Array.toList_append]; exact IntsAre.app hv hacc
    have hsz : (vs.toArray ++ acc').size = is.length + rangeN a b 1 := by rw [Array.size_append, List.size_toArray, hvl, hal]
    refine call_set_list (items := vs.toArray ++ acc') (ns := is ++ (List.range (rangeN a b 1)).map fun (i : Nat) => a + (i : Int) * 1) hA ⟨_, Heap.get?_push_size h' rfl, rfl, _, rfl⟩ hIA ?_ fun h'' tk'' hS hk'' => ?_
    · rw [hsz]; have : scanBound = 4096 := rfl; omega
    · dsimp only at hS hk'' ⊢
      rw [hsz, ← hmx] at hS
      have hkeep : ∀ b o, s.heap.get? b = some o → h''.get? b = some o := fun b o e => by
        have e1 := hH2 b o (k1 b o e)
        have e2 := Heap.get?_push_of_some { cls := .type "list", data := .seq (vs.toArray ++ acc') } e1
        exact hk'' b o (Heap.lt_size e2) e2
      have hz0 : s.heap.objs.size < H1.objs.size := by have := Heap.lt_size hL1; exact this
      have hPl : Pl < s.heap.objs.size := T.main.code.lt.2
      have hz2 : s.heap.objs.size < (h'.push { cls := .type "list", data := .seq (vs.toArray ++ acc') }).objs.size := by rw [Heap.size_push]; omega
      have hz3 : (h'.push { cls := .type "list", data := .seq (vs.toArray ++ acc') }).objs.size < h''.objs.size := by
        obtain ⟨o, _, _, _, ho, _⟩ := hS
        exact Heap.lt_size ho
      exact ⟨h'', tk'', rfl, hkeep, by omega, _, _, rfl, Nat.ne_of_gt (Nat.lt_trans hPl hz2), Nat.ne_of_gt (Nat.lt_trans T.main.g.lt hz2), hS⟩
end
end Mine
end

/-! part T5 -/
section
set_option maxRecDepth 10000
set_option linter.unusedVariables false
open PySem PyProof.Rows
namespace Mine
section
variable {prog : Program} {w : World}

theorem among_more {pos : Pos} {line col : Nat} {c : Value} : ∀ (l : List Value), TriplesOk l → codeAmong pos l = none → line ≠ pos.line → codeAmong pos (l ++ [rawInt line, rawInt col, c]) = none
  | [], _, _, h => by
    show (if ((line : Int) == (pos.line : Int) && (col : Int) == (pos.col : Int)) = true then some c else codeAmong pos []) = none
    have : ((line : Int) == (pos.line : Int)) = false := by simp; omega
    rw [this]; rfl
  | .int a _ :: .int b _ :: x :: r, h1, h2, h => by
    have h1' : TriplesOk r := h1
    show (if (a == (pos.line : Int) && b == (pos.col : Int)) = true then some x else codeAmong pos (r ++ _)) = none
    have h2' : (if (a == (pos.line : Int) && b == (pos.col : Int)) = true then some x else codeAmong pos r) = none := h2
    split at h2'
    · cases h2'
    · rename_i hc
      rw [if_neg hc]
      exact among_more r h1' h2' h
  | .none :: _, h, _, _ => h.elim
  | .bool _ :: _, h, _, _ => h.elim
  | .str _ _ :: _, h, _, _ => h.elim
  | .ref _ :: _, h, _, _ => h.elim
  | [.int _ _], h, _, _ => h.elim
  | [.int _ _, .int _ _], h, _, _ => h.elim
  | .int _ _ :: .none :: _, h, _, _ => h.elim
  | .int _ _ :: .bool _ :: _, h, _, _ => h.elim
  | .int _ _ :: .str _ _ :: _, h, _, _ => h.elim
  | .int _ _ :: .ref _ :: _, h, _, _ => h.elim
  | .int _ _ :: .float _ _ :: _, h, _, _ => h.elim
  | .int _ _ :: .bytes _ _ :: _, h, _, _ => h.elim
  | .int _ _ :: .type _ :: _, h, _, _ => h.elim
  | .int _ _ :: .builtin _ :: _, h, _, _ => h.elim
  | .int _ _ :: .ellipsis :: _, h, _, _ => h.elim
  | .int _ _ :: .notImplemented :: _, h, _, _ => h.elim
  | .float _ _ :: _, h, _, _ => h.elim
  | .bytes _ _ :: _, h, _, _ => h.elim
  | .type _ :: _, h, _, _ => h.elim
  | .builtin _ :: _, h, _, _ => h.elim
  | .ellipsis :: _, h, _, _ => h.elim
  | .notImplemented :: _, h, _, _ => h.elim

noncomputable def FnP (name : Str) (params : Arguments) (body : List Stmt) (scope : Scope) (h : Heap) (Pl : Addr) (v : Value) : Prop :=
  ∃ a c' pm doc, v = .ref a ∧ a ≠ Pl ∧ a ≠ mainGlobals ∧ c' ≠ Pl ∧ c' ≠ mainGlobals ∧ h.get? a = some { cls := .type "function", data := .func (Calls.docDef name params body scope pm (.ref c') doc) } ∧ h.CodeRec (.ref c') name
theorem FnP.up {name : Str} {params : Arguments} {body : List Stmt} {scope : Scope} {h h' : Heap} {Pl : Addr} {v : Value} (u : Up Pl h h') (x : FnP name params body scope h Pl v) : FnP name params body scope h' Pl v := by
  obtain ⟨a, c', pm, doc, e, h1, h2, h3, h4, h5, h6⟩ := x
  exact ⟨a, c', pm, doc, e, h1, h2, h3, h4, u a _ h1 h2 h5, h6.at fun o e => u c' o h3 h4 e⟩
theorem FnP.fn {name : Str} {params : Arguments} {body : List Stmt} {scope : Scope} {h : Heap} {Pl : Addr} {v : Value} (x : FnP name params body scope h Pl v) : ∃ a, v = .ref a ∧ FnAt h a name params body scope := by
  obtain ⟨a, c', pm, doc, e, h1, h2, h3, h4, h5, h6⟩ := x
  exact ⟨a, e, _, pm, _, doc, h5, rfl, h6⟩

theorem TStmt.def {l l' : Nat} {name : Str} {params : Arguments} {body : List Stmt} {scope : Scope} {pos : Pos} (hmod : prog.main.scope.kind = .module) (hloc : prog.main.scope.names.lookup name = some .local) (hnb : name ≠ "__builtins__")
    (hkw : params.kwonlyargs = []) (hkd : params.kw_defaults = []) (hdef : params.defaults = []) (hann0 : ∀ env, annTrees params none env = [])
    (hfree : scope.names.all (fun x => x.2 != .free) = true) (hq : qualnameIn { scope := prog.main.scope, locals := mainGlobals, globals := mainGlobals, cells := [] } name name = name) (h1 : l ≤ pos.line) (h2 : pos.line < l') :
    TStmt prog w l l' (.FunctionDef name params body [] none [] scope none name pos) name (fun _ => True) (FnP name params body scope) := by
  intro A c Pl F mg ps s hA T hok
  have hPl : Pl < s.heap.objs.size := T.main.code.lt.2
  refine wpAny_defStmt0 hkw hkd (by rw [hdef]; intro e he; cases he) (hann0 _) (fun x hx => by simpa using List.all_eq_true.mp hfree x hx) hloc hq T.main (fun a c' doc dV vs h' tk ha hm' hget hcv hda hcr keep => ?_) hnb hmod (T.ps pos h1)
  rw [hdef] at hcv
  have hvs : vs = [] := by
    cases vs with
    | nil => rfl
    | cons => exact absurd hcv (by simp [ConstVals])
  subst hvs
  have hdV : dV = .none := by
    rcases hda with ⟨_, e⟩ | ⟨e, _⟩
    · exact e
    · exact absurd rfl e
  subst hdV
  have hlt : a < h'.objs.size := Heap.lt_size hget
  have hb0 : builtinsNs ≠ Pl := Nat.ne_of_lt (Nat.lt_trans (show builtinsNs < mainGlobals by decide) T.main.low.2)
  refine ⟨rfl, _, h', tk, _, rfl, ⟨hm', ?_, fun pos' hp => ?_, ?_⟩, fun b o hb1 hb2 e => keep b o hb1 hb2 e, a, c', _, doc, rfl, ?_, ?_, ?_, ?_, hget, hcr.2⟩
  · obtain ⟨mb, hb, hq⟩ := T.blt
    exact ⟨mb, hb.at fun o e => keep _ o hb0 (by decide) e, hq⟩
  · have ht : TriplesOk ps.toList := by
      obtain ⟨_, _, _, _, _, _, _, _, _, _, _, _, _, _, _, _, _, _, _, h, _⟩ := T.main.code
      exact h
    have := among_more (pos := pos') (line := pos.line) (col := pos.col) (c := .ref c') ps.toList ht (T.ps pos' (by omega)) (by omega)
    simpa using this
  · exact Nat.lt_trans T.low (Nat.lt_of_le_of_lt ha hlt)
  · exact Nat.ne_of_gt (Nat.lt_of_lt_of_le hPl ha)
  · exact Nat.ne_of_gt (Nat.lt_of_lt_of_le T.main.g.lt ha)
  · exact Nat.ne_of_gt (Nat.lt_of_lt_of_le hPl hcr.1)
  · exact Nat.ne_of_gt (Nat.lt_of_lt_of_le T.main.g.lt hcr.1)

/-! ## the statements in a row -/
structure Ent where
  st : Stmt
  x : Str
  ok : (Str → Option Value) → Prop
  P : Heap → Addr → Value → Prop
/-- closed, that the elaborator does not look inside -/
structure TS (prog : Program) (w : World) (l l' : Nat) (st : Stmt) (x : Str) (ok : (Str → Option Value) → Prop) (P : Heap → Addr → Value → Prop) : Prop where
  h : TStmt prog w l l' st x ok P
inductive Chain (prog : Program) (w : World) : Nat → List Ent → Prop
  | nil (l : Nat) : Chain prog w l []
  | cons {l : Nat} (l' : Nat) {e : Ent} {r : List Ent} (h : TS prog w l l' e.st e.x e.ok e.P) (up : ∀ Pl v h h', Up Pl h h' → e.P h Pl v → e.P h' Pl v) (t : Chain prog w l' r) : Chain prog w l (e :: r)

noncomputable def Facts (es : List Ent) (mg : Str → Option Value) (h : Heap) (Pl : Addr) : Prop :=
  ∀ (i : Nat) (e : Ent), es[i]? = some e → (∀ (j : Nat) (e' : Ent), i < j → es[j]? = some e' → e'.x ≠ e.x) → ∃ v, mg e.x = some v ∧ e.P h Pl v

theorem chain_run {A : Around} {c Pl F : Addr} (hA : A.handled = none) : ∀ {l : Nat} {es : List Ent}, Chain prog w l es → ∀ (mg : Str → Option Value) (ps : Array Value) (s : Shared), TI c Pl mg ps l s.heap →
    (∀ e ∈ es, ∀ mg', (∀ y, (∀ e' ∈ es, e'.x ≠ y) → mg' y = mg y) → e.ok mg') →
    wpAny (model prog w) A (execs (es.map (·.st)) (mainEnv prog c F)) (fun f s' => f = .next ∧ ∃ mg' ps' l' h' tk, s' = { s with heap := h', toks := tk } ∧ TI c Pl mg' ps' l' h' ∧ Up Pl s.heap h' ∧ (∀ y, (∀ e ∈ es, e.x ≠ y) → mg' y = mg y) ∧ Facts es mg' h' Pl) noE s
  | _, _, .nil l, mg, ps, s, T, _ => wpAny_execs_nil ⟨rfl, mg, ps, l, s.heap, s.toks, rfl, T, Up.refl, fun _ _ => rfl, fun i e h => by simp at h⟩
  | _, _, @Chain.cons _ _ l l' e r h up t, mg, ps, s, T, hok => by
    refine wpAny_execs_cons (wpAny_mono (h.h A c Pl F mg ps s hA T (hok e (List.mem_cons_self ..) mg fun _ _ => rfl)) (fun f s₁ h₁ => ?_) fun _ _ h => h)
    obtain ⟨rfl, v, h', tk, ps', rfl, T', u, p⟩ := h₁
    dsimp only
    refine wpAny_mono (chain_run hA t (upd mg e.x v) ps' { s with heap := h', toks := tk } T' fun e' he' mg' hm => ?_) (fun f s₂ h₂ => ?_) fun _ _ h => h
    · refine hok e' (List.mem_cons_of_mem _ he') mg' fun y hy => ?_
      rw [hm y fun e'' h'' => hy e'' (List.mem_cons_of_mem _ h'')]
      simp [upd, Ne.symm (hy e (List.mem_cons_self ..))]
    · obtain ⟨rfl, mg', ps'', l'', h'', tk', rfl, T'', u', hm, fs⟩ := h₂
      refine ⟨rfl, mg', ps'', l'', h'', tk', rfl, T'', u.trans u', fun y hy => ?_, fun i q hq hlast => ?_⟩
      · rw [hm y fun e'' h'' => hy e'' (List.mem_cons_of_mem _ h'')]
        simp [upd, Ne.symm (hy e (List.mem_cons_self ..))]
      · cases i with
        | zero =>
          cases hq
          refine ⟨v, ?_, up _ _ _ _ u' p⟩
          rw [hm e.x fun e'' h'' => ?_]
          · simp [upd]
          · obtain ⟨j, hj⟩ := List.getElem?_of_mem h''
            exact hlast (j + 1) e'' (Nat.succ_pos _) (by simpa using hj)
        | succ i => exact fs i q (by simpa using hq) fun j e' hj h3 => hlast (j + 1) e' (Nat.succ_lt_succ hj) (by simpa using h3)
end
end Mine
end

/-! part T6 -/
section
set_option maxRecDepth 100000
set_option linter.unusedVariables false
set_option maxHeartbeats 2000000
open PySem PyProof.Rows
namespace Mine
noncomputable abbrev PW : Program := PySem.Challenge.pw_st0035_01
noncomputable def stAt (i : Nat) : Stmt := (PW.main.body[i]?).getD (.Pass ⟨0, 0, 0, 0⟩)
noncomputable def fnArgs (i : Nat) : Arguments := match stAt i with
  | .FunctionDef _ a _ _ _ _ _ _ _ _ => a
  | _ => { posonlyargs := [], args := [], vararg := none, kwonlyargs := [], kw_defaults := [], kwarg := none, defaults := [] }
noncomputable def fnBody (i : Nat) : List Stmt := match stAt i with
  | .FunctionDef _ _ b _ _ _ _ _ _ _ => b
  | _ => []
noncomputable def fnScope (i : Nat) : Scope := match stAt i with
  | .FunctionDef _ _ _ _ _ _ s _ _ _ => s
  | _ => PW.main.scope
noncomputable def fnPos (i : Nat) : Pos := match stAt i with
  | .FunctionDef _ _ _ _ _ _ _ _ _ p => p
  | _ => ⟨0, 0, 0, 0⟩
noncomputable def tabParts : Stmt → Str × Pos × List (Option Expr) × List Expr × Pos × Pos
  | .Assign [.Name x px] (.Dict ks vs p) pos => (x, px, ks, vs, p, pos)
  | _ => ("", ⟨0, 0, 0, 0⟩, [], [], ⟨0, 0, 0, 0⟩, ⟨0, 0, 0, 0⟩)
noncomputable def isTab : Stmt → Bool
  | .Assign [.Name _ _] (.Dict _ _ _) _ => true
  | _ => false
theorem tab_shape {st : Stmt} (h : isTab st = true) : st = .Assign [.Name (tabParts st).1 (tabParts st).2.1] (.Dict (tabParts st).2.2.1 (tabParts st).2.2.2.1 (tabParts st).2.2.2.2.1) (tabParts st).2.2.2.2.2 := by
  unfold isTab at h
  split at h
  · rfl
  · cases h
noncomputable def tabKs : List (Option Expr) := (tabParts (stAt 9)).2.2.1
noncomputable def tabVs : List Expr := (tabParts (stAt 9)).2.2.2.1
theorem tab_eq : stAt 9 = .Assign [.Name "b3_exceptions" (tabParts (stAt 9)).2.1] (.Dict tabKs tabVs (tabParts (stAt 9)).2.2.2.2.1) (tabParts (stAt 9)).2.2.2.2.2 := by
  have h := tab_shape (st := stAt 9) (by decide +kernel)
  have h1 : (tabParts (stAt 9)).1 = "b3_exceptions" := by decide +kernel
  rw [h1] at h
  exact h
noncomputable def tabCs : List (Int × Str) := (dictCs tabKs tabVs).getD []
noncomputable def setIs : List Int := match stAt 7 with
  | .Assign _ (.Call _ [.BinOp (.List es _) _ _ _] _ _) _ => (ints? es).getD []
  | _ => []
noncomputable def setNs : List Int := setIs ++ (List.range (rangeN 65024 65040 1)).map fun (i : Nat) => 65024 + (i : Int) * 1
noncomputable def sorted : List Int → Bool
  | a :: b :: r => decide (a < b) && sorted (b :: r)
  | _ => true
theorem sorted_nodup : ∀ {l : List Int}, sorted l = true → l.Nodup := by
  have gen : ∀ (l : List Int), sorted l = true → l.Pairwise (· < ·) := by
    intro l
    induction l with
    | nil => intro _; exact .nil
    | cons a r ih =>
      intro h
      cases r with
      | nil => exact List.pairwise_singleton ..
      | cons b r =>
        simp only [sorted, Bool.and_eq_true, decide_eq_true_eq] at h
        have h2 := ih h.2
        refine List.Pairwise.cons (fun x hx => ?_) h2
        rcases List.mem_cons.mp hx with rfl | hx
        · exact h.1
        · exact Int.lt_trans h.1 (List.rel_of_pairwise_cons h2 hx)
  intro l h
  exact (gen l h).imp fun hab => by intro e; subst e; exact Int.lt_irrefl _ hab
theorem tab_cs : dictCs tabKs tabVs = some tabCs := by
  have h : (dictCs tabKs tabVs).isSome = true := by decide +kernel
  obtain ⟨cs, e⟩ := Option.isSome_iff_exists.mp h
  unfold tabCs
  rw [e]; rfl
theorem tab_nodup : (tabCs.map (·.1)).Nodup := sorted_nodup (by decide +kernel)
theorem tab_len : tabCs.length = 650 := by decide +kernel
theorem set_is : match stAt 7 with
  | .Assign _ (.Call _ [.BinOp (.List es _) _ _ _] _ _) _ => ints? es = some setIs
  | _ => False := by rfl
section
variable {w : World}

theorem st0 : TS PW w 1 2 (stAt 0) "__name__" (fun _ => True) (fun _ _ v => ∃ y t, v = .str y t) := by
  refine ⟨?_⟩
  have h : TStmt PW w 1 2 (stAt 0) "__name__" (fun _ => True) _ := TStmt.str rfl rfl (by decide) (by decide)
  exact fun A c Pl F mg ps s hA T hok => wpAny_mono (h A c Pl F mg ps s hA T hok) (fun f s' ⟨e, v, h', tk, ps', e', T', u, t, p⟩ => ⟨e, v, h', tk, ps', e', T', u, _, t, p⟩) fun _ _ x => x

theorem st1 : TS PW w 2 15 (stAt 1) "_iter_escaped_chars" (fun _ => True) (FnP "_iter_escaped_chars" (fnArgs 1) (fnBody 1) (fnScope 1)) := by
  refine ⟨?_⟩
  show TStmt PW w 2 15 (.FunctionDef "_iter_escaped_chars" (fnArgs 1) (fnBody 1) [] none [] (fnScope 1) none "_iter_escaped_chars" (fnPos 1)) "_iter_escaped_chars" _ _
  exact TStmt.def rfl rfl (by decide) rfl rfl rfl (fun _ => rfl) (by rfl) (by rfl) (Nat.le_of_ble_eq_true rfl) (Nat.le_of_ble_eq_true rfl)

theorem st2 : TS PW w 15 33 (stAt 2) "_strip_quoted_realnames" (fun _ => True) (FnP "_strip_quoted_realnames" (fnArgs 2) (fnBody 2) (fnScope 2)) := by
  refine ⟨?_⟩
  show TStmt PW w 15 33 (.FunctionDef "_strip_quoted_realnames" (fnArgs 2) (fnBody 2) [] none [] (fnScope 2) none "_strip_quoted_realnames" (fnPos 2)) "_strip_quoted_realnames" _ _
  exact TStmt.def rfl rfl (by decide) rfl rfl rfl (fun _ => rfl) (by rfl) (by rfl) (Nat.le_of_ble_eq_true rfl) (Nat.le_of_ble_eq_true rfl)

theorem st3 : TS PW w 33 44 (stAt 3) "_check_parenthesis" (fun _ => True) (FnP "_check_parenthesis" (fnArgs 3) (fnBody 3) (fnScope 3)) := by
  refine ⟨?_⟩
  show TStmt PW w 33 44 (.FunctionDef "_check_parenthesis" (fnArgs 3) (fnBody 3) [] none [] (fnScope 3) none "_check_parenthesis" (fnPos 3)) "_check_parenthesis" _ _
  exact TStmt.def rfl rfl (by decide) rfl rfl rfl (fun _ => rfl) (by rfl) (by rfl) (Nat.le_of_ble_eq_true rfl) (Nat.le_of_ble_eq_true rfl)

theorem st4 : TS PW w 44 45 (stAt 4) "__name__" (fun _ => True) (fun _ _ v => ∃ y t, v = .str y t) := by
  refine ⟨?_⟩
  have h : TStmt PW w 44 45 (stAt 4) "__name__" (fun _ => True) _ := TStmt.str rfl rfl (by decide) (by decide)
  exact fun A c Pl F mg ps s hA T hok => wpAny_mono (h A c Pl F mg ps s hA T hok) (fun f s' ⟨e, v, h', tk, ps', e', T', u, t, p⟩ => ⟨e, v, h', tk, ps', e', T', u, _, t, p⟩) fun _ _ x => x

theorem st5 : TS PW w 45 53 (stAt 5) "_parse_varint" (fun _ => True) (FnP "_parse_varint" (fnArgs 5) (fnBody 5) (fnScope 5)) := by
  refine ⟨?_⟩
  show TStmt PW w 45 53 (.FunctionDef "_parse_varint" (fnArgs 5) (fnBody 5) [] none [] (fnScope 5) none "_parse_varint" (fnPos 5)) "_parse_varint" _ _
  exact TStmt.def rfl rfl (by decide) rfl rfl rfl (fun _ => rfl) (by rfl) (by rfl) (Nat.le_of_ble_eq_true rfl) (Nat.le_of_ble_eq_true rfl)

theorem st6 : TS PW w 53 54 (stAt 6) "__name__" (fun _ => True) (fun _ _ v => ∃ y t, v = .str y t) := by
  refine ⟨?_⟩
  have h : TStmt PW w 53 54 (stAt 6) "__name__" (fun _ => True) _ := TStmt.str rfl rfl (by decide) (by decide)
  exact fun A c Pl F mg ps s hA T hok => wpAny_mono (h A c Pl F mg ps s hA T hok) (fun f s' ⟨e, v, h', tk, ps', e', T', u, t, p⟩ => ⟨e, v, h', tk, ps', e', T', u, _, t, p⟩) fun _ _ x => x

theorem st7 : TS PW w 54 55 (stAt 7) "b1_set" (fun mg => mg "set" = none ∧ mg "list" = none ∧ mg "range" = none) (SetAt PW w setNs) := by
  refine ⟨?_⟩
  exact TStmt.set (is := setIs) rfl rfl (by decide) (by decide) set_is (by decide) (by decide +kernel) (by decide +kernel)

theorem st8 : TS PW w 55 57 (stAt 8) "in_table_b1" (fun _ => True) (FnP "in_table_b1" (fnArgs 8) (fnBody 8) (fnScope 8)) := by
  refine ⟨?_⟩
  show TStmt PW w 55 57 (.FunctionDef "in_table_b1" (fnArgs 8) (fnBody 8) [] none [] (fnScope 8) none "in_table_b1" (fnPos 8)) "in_table_b1" _ _
  exact TStmt.def rfl rfl (by decide) rfl rfl rfl (fun _ => rfl) (by rfl) (by rfl) (Nat.le_of_ble_eq_true rfl) (Nat.le_of_ble_eq_true rfl)

theorem table_gen {st : Stmt} {px pos p : Pos} {ks : List (Option Expr)} {vs : List Expr} {cs : List (Int × Str)} (he : st = .Assign [.Name "b3_exceptions" px] (.Dict ks vs p) pos) (hcs : dictCs ks vs = some cs) (hl : cs.length = 650) (hnd : (cs.map (·.1)).Nodup) :
    TS PW w 57 58 st "b3_exceptions" (fun _ => True) (TableAt PW w cs) := by
  subst he
  refine ⟨?_⟩
  exact TStmt.table rfl rfl (by decide) (by decide) hcs (by rw [hl]; exact Nat.le_of_ble_eq_true rfl) hnd (by rw [hl]; decide)
theorem st9 : TS PW w 57 58 (stAt 9) "b3_exceptions" (fun _ => True) (TableAt PW w tabCs) :=
  table_gen tab_eq tab_cs tab_len tab_nodup

theorem st10 : TS PW w 58 63 (stAt 10) "map_table_b3" (fun _ => True) (FnP "map_table_b3" (fnArgs 10) (fnBody 10) (fnScope 10)) := by
  refine ⟨?_⟩
  show TStmt PW w 58 63 (.FunctionDef "map_table_b3" (fnArgs 10) (fnBody 10) [] none [] (fnScope 10) none "map_table_b3" (fnPos 10)) "map_table_b3" _ _
  exact TStmt.def rfl rfl (by decide) rfl rfl rfl (fun _ => rfl) (by rfl) (by rfl) (Nat.le_of_ble_eq_true rfl) (Nat.le_of_ble_eq_true rfl)

theorem st11 : TS PW w 63 64 (stAt 11) "__name__" (fun _ => True) (fun _ _ v => ∃ y t, v = .str y t) := by
  refine ⟨?_⟩
  have h : TStmt PW w 63 64 (stAt 11) "__name__" (fun _ => True) _ := TStmt.str rfl rfl (by decide) (by decide)
  exact fun A c Pl F mg ps s hA T hok => wpAny_mono (h A c Pl F mg ps s hA T hok) (fun f s' ⟨e, v, h', tk, ps', e', T', u, t, p⟩ => ⟨e, v, h', tk, ps', e', T', u, _, t, p⟩) fun _ _ x => x

theorem st12 : TS PW w 64 65 (stAt 12) "_MAX_STRING_SIZE" (fun _ => True) (fun _ _ v => ∃ t, v = .int 40 t) := by
  refine ⟨?_⟩
  exact TStmt.int rfl rfl (by decide) (by decide)

theorem st13 : TS PW w 65 66 (stAt 13) "_MOVE_COST" (fun _ => True) (fun _ _ v => ∃ t, v = .int 2 t) := by
  refine ⟨?_⟩
  exact TStmt.int rfl rfl (by decide) (by decide)

theorem st14 : TS PW w 66 67 (stAt 14) "_CASE_COST" (fun _ => True) (fun _ _ v => ∃ t, v = .int 1 t) := by
  refine ⟨?_⟩
  exact TStmt.int rfl rfl (by decide) (by decide)

theorem st15 : TS PW w 67 73 (stAt 15) "_substitution_cost" (fun _ => True) (FnP "_substitution_cost" (fnArgs 15) (fnBody 15) (fnScope 15)) := by
  refine ⟨?_⟩
  show TStmt PW w 67 73 (.FunctionDef "_substitution_cost" (fnArgs 15) (fnBody 15) [] none [] (fnScope 15) none "_substitution_cost" (fnPos 15)) "_substitution_cost" _ _
  exact TStmt.def rfl rfl (by decide) rfl rfl rfl (fun _ => rfl) (by rfl) (by rfl) (Nat.le_of_ble_eq_true rfl) (Nat.le_of_ble_eq_true rfl)

theorem st16 : TS PW w 73 111 (stAt 16) "_levenshtein_distance" (fun _ => True) (FnP "_levenshtein_distance" (fnArgs 16) (fnBody 16) (fnScope 16)) := by
  refine ⟨?_⟩
  show TStmt PW w 73 111 (.FunctionDef "_levenshtein_distance" (fnArgs 16) (fnBody 16) [] none [] (fnScope 16) none "_levenshtein_distance" (fnPos 16)) "_levenshtein_distance" _ _
  exact TStmt.def rfl rfl (by decide) rfl rfl rfl (fun _ => rfl) (by rfl) (by rfl) (Nat.le_of_ble_eq_true rfl) (Nat.le_of_ble_eq_true rfl)

theorem st17 : TS PW w 111 112 (stAt 17) "__name__" (fun _ => True) (fun _ _ v => ∃ y t, v = .str y t) := by
  refine ⟨?_⟩
  have h : TStmt PW w 111 112 (stAt 17) "__name__" (fun _ => True) _ := TStmt.str rfl rfl (by decide) (by decide)
  exact fun A c Pl F mg ps s hA T hok => wpAny_mono (h A c Pl F mg ps s hA T hok) (fun f s' ⟨e, v, h', tk, ps', e', T', u, t, p⟩ => ⟨e, v, h', tk, ps', e', T', u, _, t, p⟩) fun _ _ x => x

theorem st18 : TS PW w 112 123 (stAt 18) "_law_sign" (fun _ => True) (FnP "_law_sign" (fnArgs 18) (fnBody 18) (fnScope 18)) := by
  refine ⟨?_⟩
  show TStmt PW w 112 123 (.FunctionDef "_law_sign" (fnArgs 18) (fnBody 18) [] none [] (fnScope 18) none "_law_sign" (fnPos 18)) "_law_sign" _ _
  exact TStmt.def rfl rfl (by decide) rfl rfl rfl (fun _ => rfl) (by rfl) (by rfl) (Nat.le_of_ble_eq_true rfl) (Nat.le_of_ble_eq_true rfl)

theorem st19 : TS PW w 123 136 (stAt 19) "_law_pieces" (fun _ => True) (FnP "_law_pieces" (fnArgs 19) (fnBody 19) (fnScope 19)) := by
  refine ⟨?_⟩
  show TStmt PW w 123 136 (.FunctionDef "_law_pieces" (fnArgs 19) (fnBody 19) [] none [] (fnScope 19) none "_law_pieces" (fnPos 19)) "_law_pieces" _ _
  exact TStmt.def rfl rfl (by decide) rfl rfl rfl (fun _ => rfl) (by rfl) (by rfl) (Nat.le_of_ble_eq_true rfl) (Nat.le_of_ble_eq_true rfl)

theorem st20 : TS PW w 136 146 (stAt 20) "_law_octets" (fun _ => True) (FnP "_law_octets" (fnArgs 20) (fnBody 20) (fnScope 20)) := by
  refine ⟨?_⟩
  show TStmt PW w 136 146 (.FunctionDef "_law_octets" (fnArgs 20) (fnBody 20) [] none [] (fnScope 20) none "_law_octets" (fnPos 20)) "_law_octets" _ _
  exact TStmt.def rfl rfl (by decide) rfl rfl rfl (fun _ => rfl) (by rfl) (by rfl) (Nat.le_of_ble_eq_true rfl) (Nat.le_of_ble_eq_true rfl)

theorem st21 : TS PW w 146 151 (stAt 21) "_law_struck" (fun _ => True) (FnP "_law_struck" (fnArgs 21) (fnBody 21) (fnScope 21)) := by
  refine ⟨?_⟩
  show TStmt PW w 146 151 (.FunctionDef "_law_struck" (fnArgs 21) (fnBody 21) [] none [] (fnScope 21) none "_law_struck" (fnPos 21)) "_law_struck" _ _
  exact TStmt.def rfl rfl (by decide) rfl rfl rfl (fun _ => rfl) (by rfl) (by rfl) (Nat.le_of_ble_eq_true rfl) (Nat.le_of_ble_eq_true rfl)

theorem st22 : TS PW w 151 161 (stAt 22) "_law_fewest" (fun _ => True) (FnP "_law_fewest" (fnArgs 22) (fnBody 22) (fnScope 22)) := by
  refine ⟨?_⟩
  show TStmt PW w 151 161 (.FunctionDef "_law_fewest" (fnArgs 22) (fnBody 22) [] none [] (fnScope 22) none "_law_fewest" (fnPos 22)) "_law_fewest" _ _
  exact TStmt.def rfl rfl (by decide) rfl rfl rfl (fun _ => rfl) (by rfl) (by rfl) (Nat.le_of_ble_eq_true rfl) (Nat.le_of_ble_eq_true rfl)

theorem st23 : TS PW w 161 168 (stAt 23) "_law_rows" (fun _ => True) (FnP "_law_rows" (fnArgs 23) (fnBody 23) (fnScope 23)) := by
  refine ⟨?_⟩
  show TStmt PW w 161 168 (.FunctionDef "_law_rows" (fnArgs 23) (fnBody 23) [] none [] (fnScope 23) none "_law_rows" (fnPos 23)) "_law_rows" _ _
  exact TStmt.def rfl rfl (by decide) rfl rfl rfl (fun _ => rfl) (by rfl) (by rfl) (Nat.le_of_ble_eq_true rfl) (Nat.le_of_ble_eq_true rfl)

theorem st24 : TS PW w 168 172 (stAt 24) "_law_nearest" (fun _ => True) (FnP "_law_nearest" (fnArgs 24) (fnBody 24) (fnScope 24)) := by
  refine ⟨?_⟩
  show TStmt PW w 168 172 (.FunctionDef "_law_nearest" (fnArgs 24) (fnBody 24) [] none [] (fnScope 24) none "_law_nearest" (fnPos 24)) "_law_nearest" _ _
  exact TStmt.def rfl rfl (by decide) rfl rfl rfl (fun _ => rfl) (by rfl) (by rfl) (Nat.le_of_ble_eq_true rfl) (Nat.le_of_ble_eq_true rfl)

theorem st25 : TS PW w 172 1000000 (stAt 25) "law" (fun _ => True) (FnP "law" (fnArgs 25) (fnBody 25) (fnScope 25)) := by
  refine ⟨?_⟩
  show TStmt PW w 172 1000000 (.FunctionDef "law" (fnArgs 25) (fnBody 25) [] none [] (fnScope 25) none "law" (fnPos 25)) "law" _ _
  exact TStmt.def rfl rfl (by decide) rfl rfl rfl (fun _ => rfl) (by rfl) (by rfl) (Nat.le_of_ble_eq_true rfl) (Nat.le_of_ble_eq_true rfl)

theorem body_at : PW.main.body = (List.range 26).map stAt := by kernel_rfl


noncomputable def ents (w : World) : List Ent := [
  ⟨stAt 0, "__name__", fun _ => True, fun _ _ v => ∃ y t, v = .str y t⟩,
  ⟨stAt 1, "_iter_escaped_chars", fun _ => True, FnP "_iter_escaped_chars" (fnArgs 1) (fnBody 1) (fnScope 1)⟩,
  ⟨stAt 2, "_strip_quoted_realnames", fun _ => True, FnP "_strip_quoted_realnames" (fnArgs 2) (fnBody 2) (fnScope 2)⟩,
  ⟨stAt 3, "_check_parenthesis", fun _ => True, FnP "_check_parenthesis" (fnArgs 3) (fnBody 3) (fnScope 3)⟩,
  ⟨stAt 4, "__name__", fun _ => True, fun _ _ v => ∃ y t, v = .str y t⟩,
  ⟨stAt 5, "_parse_varint", fun _ => True, FnP "_parse_varint" (fnArgs 5) (fnBody 5) (fnScope 5)⟩,
  ⟨stAt 6, "__name__", fun _ => True, fun _ _ v => ∃ y t, v = .str y t⟩,
  ⟨stAt 7, "b1_set", fun mg => mg "set" = none ∧ mg "list" = none ∧ mg "range" = none, SetAt PW w setNs⟩,
  ⟨stAt 8, "in_table_b1", fun _ => True, FnP "in_table_b1" (fnArgs 8) (fnBody 8) (fnScope 8)⟩,
  ⟨stAt 9, "b3_exceptions", fun _ => True, TableAt PW w tabCs⟩,
  ⟨stAt 10, "map_table_b3", fun _ => True, FnP "map_table_b3" (fnArgs 10) (fnBody 10) (fnScope 10)⟩,
  ⟨stAt 11, "__name__", fun _ => True, fun _ _ v => ∃ y t, v = .str y t⟩,
  ⟨stAt 12, "_MAX_STRING_SIZE", fun _ => True, fun _ _ v => ∃ t, v = .int 40 t⟩,
  ⟨stAt 13, "_MOVE_COST", fun _ => True, fun _ _ v => ∃ t, v = .int 2 t⟩,
  ⟨stAt 14, "_CASE_COST", fun _ => True, fun _ _ v => ∃ t, v = .int 1 t⟩,
  ⟨stAt 15, "_substitution_cost", fun _ => True, FnP "_substitution_cost" (fnArgs 15) (fnBody 15) (fnScope 15)⟩,
  ⟨stAt 16, "_levenshtein_distance", fun _ => True, FnP "_levenshtein_distance" (fnArgs 16) (fnBody 16) (fnScope 16)⟩,
  ⟨stAt 17, "__name__", fun _ => True, fun _ _ v => ∃ y t, v = .str y t⟩,
  ⟨stAt 18, "_law_sign", fun _ => True, FnP "_law_sign" (fnArgs 18) (fnBody 18) (fnScope 18)⟩,
  ⟨stAt 19, "_law_pieces", fun _ => True, FnP "_law_pieces" (fnArgs 19) (fnBody 19) (fnScope 19)⟩,
  ⟨stAt 20, "_law_octets", fun _ => True, FnP "_law_octets" (fnArgs 20) (fnBody 20) (fnScope 20)⟩,
  ⟨stAt 21, "_law_struck", fun _ => True, FnP "_law_struck" (fnArgs 21) (fnBody 21) (fnScope 21)⟩,
  ⟨stAt 22, "_law_fewest", fun _ => True, FnP "_law_fewest" (fnArgs 22) (fnBody 22) (fnScope 22)⟩,
  ⟨stAt 23, "_law_rows", fun _ => True, FnP "_law_rows" (fnArgs 23) (fnBody 23) (fnScope 23)⟩,
  ⟨stAt 24, "_law_nearest", fun _ => True, FnP "_law_nearest" (fnArgs 24) (fnBody 24) (fnScope 24)⟩,
  ⟨stAt 25, "law", fun _ => True, FnP "law" (fnArgs 25) (fnBody 25) (fnScope 25)⟩]

theorem chain_all : Chain PW w 1 (ents w) :=
  .cons 2 (e := _) st0 (fun _ _ _ _ _ p => p)
  <| .cons 15 (e := _) st1 (fun _ _ _ _ u p => FnP.up u p)
  <| .cons 33 (e := _) st2 (fun _ _ _ _ u p => FnP.up u p)
  <| .cons 44 (e := _) st3 (fun _ _ _ _ u p => FnP.up u p)
  <| .cons 45 (e := _) st4 (fun _ _ _ _ _ p => p)
  <| .cons 53 (e := _) st5 (fun _ _ _ _ u p => FnP.up u p)
  <| .cons 54 (e := _) st6 (fun _ _ _ _ _ p => p)
  <| .cons 55 (e := _) st7 (fun Pl v h h' u p => by obtain ⟨a, n, e, h1, h2, o, es, ep, t, ho, r⟩ := p; exact ⟨a, n, e, h1, h2, o, es, ep, t, u a o h1 h2 ho, r⟩)
  <| .cons 57 (e := _) st8 (fun _ _ _ _ u p => FnP.up u p)
  <| .cons 58 (e := _) st9 (fun Pl v h h' u p => by obtain ⟨a, kvs, e, h1, h2, h3, h4, h5⟩ := p; exact ⟨a, kvs, e, h1, h2, h3, h4, h5.at fun o e => u a o h1 h2 e⟩)
  <| .cons 63 (e := _) st10 (fun _ _ _ _ u p => FnP.up u p)
  <| .cons 64 (e := _) st11 (fun _ _ _ _ _ p => p)
  <| .cons 65 (e := _) st12 (fun _ _ _ _ _ p => p)
  <| .cons 66 (e := _) st13 (fun _ _ _ _ _ p => p)
  <| .cons 67 (e := _) st14 (fun _ _ _ _ _ p => p)
  <| .cons 73 (e := _) st15 (fun _ _ _ _ u p => FnP.up u p)
  <| .cons 111 (e := _) st16 (fun _ _ _ _ u p => FnP.up u p)
  <| .cons 112 (e := _) st17 (fun _ _ _ _ _ p => p)
  <| .cons 123 (e := _) st18 (fun _ _ _ _ u p => FnP.up u p)
  <| .cons 136 (e := _) st19 (fun _ _ _ _ u p => FnP.up u p)
  <| .cons 146 (e := _) st20 (fun _ _ _ _ u p => FnP.up u p)
  <| .cons 151 (e := _) st21 (fun _ _ _ _ u p => FnP.up u p)
  <| .cons 161 (e := _) st22 (fun _ _ _ _ u p => FnP.up u p)
  <| .cons 168 (e := _) st23 (fun _ _ _ _ u p => FnP.up u p)
  <| .cons 172 (e := _) st24 (fun _ _ _ _ u p => FnP.up u p)
  <| .cons 1000000 (e := _) st25 (fun _ _ _ _ u p => FnP.up u p)
  <| .nil _

theorem body_eq : PW.main.body = (ents w).map (·.st) := by rw [body_at]; rfl

end
end Mine
end

/-! part T7 -/
section
set_option maxRecDepth 100000
set_option linter.unusedVariables false
open PySem PySem.W PyProof.Rows
namespace Mine

noncomputable def BootP (s : Shared) : Prop := ∃ mb mg c Pl, BootLeft s.heap mb mg c Pl ∧ s.gens = #[]

theorem boot_run (w : World) : (∃ s, AfterRun (opening PW) w s) ∧ ∀ s, AfterRun (opening PW) w s → BootP s ∧ s.asleep := by
  have h := AfterImport.of_body (prog := opening PW) (w := w) (P := BootP) (out := #[]) (by
    intro h tk mb mg c Pl F hB
    have hb : (opening PW).main.body = [] := by kernel_rfl
    rw [hb]
    refine codeAny_body rfl rfl (wpAny_mono (E := fun _ _ => False) (wpAny_execs_nil ?_) (fun _ _ x => x) fun _ _ x => x.elim)
    exact ⟨⟨_, rfl⟩, .of hB (fun _ _ _ _ e => e) hB.g, ⟨mb, mg, c, Pl, hB, rfl⟩, rfl⟩) (by kernel_rfl)
  exact ⟨h.1, fun s hs => ⟨h.2 s hs, AfterImport.life (prog := opening PW) hs⟩⟩

theorem fence_id (s : Shared) : fenceModules? PW s = some s := fenceModules_id PW (by kernel_rfl) s

theorem behind_eq : behindTheImports PW = PW.main.body := by kernel_rfl

/-- what the top leaves -/
structure TopLeft (w : World) (s₀ s₁ : Shared) : Prop where
  ex : ∃ mg₀ mg c Pl ps l, s₀.heap.Ns mainGlobals mg₀ ∧ (∀ x, x ∉ bootMainNames → mg₀ x = none) ∧ TI c Pl mg ps l s₁.heap ∧ (∀ y, (∀ e ∈ ents w, e.x ≠ y) → mg y = mg₀ y) ∧ Facts (ents w) mg s₁.heap Pl
  keep : ∀ b o, s₀.heap.get? b = some o → b ≠ mainGlobals → s₁.heap.get? b = some o
  eq : ∃ h tk, s₁ = { s₀ with heap := h, toks := tk }
  stat : s₁.heap.Ns cStatics (fun _ => none)
  stat₀ : s₀.heap.Ns cStatics (fun _ => none)

noncomputable def entNames : List Str := ["__name__", "_iter_escaped_chars", "_strip_quoted_realnames", "_check_parenthesis", "__name__", "_parse_varint", "__name__", "b1_set", "in_table_b1", "b3_exceptions", "map_table_b3", "__name__", "_MAX_STRING_SIZE", "_MOVE_COST", "_CASE_COST", "_substitution_cost", "_levenshtein_distance", "__name__", "_law_sign", "_law_pieces", "_law_octets", "_law_struck", "_law_fewest", "_law_rows", "_law_nearest", "law"]
theorem ent_names (w : World) : (ents w).map (·.x) = entNames := rfl
theorem not_entry {w : World} {y : Str} (h : entNames.contains y = false) : ∀ e ∈ ents w, e.x ≠ y := fun e he e' => by
  have : y ∈ (ents w).map (·.x) := List.mem_map.mpr ⟨e, he, e'⟩
  rw [ent_names, ← List.contains_iff_mem, h] at this
  cases this

theorem top_wp {w : World} {s₀ : Shared} (hB : BootP s₀) : wpAny (model PW w) callerA (topStub PW).cur (fun fin s' => ∃ f, fin = .done f ∧ TopLeft w s₀ s' ∧ s'.gens = #[]) (fun _ _ => False) s₀ := by
  obtain ⟨mb, mg, c₀, Pl₀, hB, hg⟩ := hB
  show wpAny _ _ (do
      let code ← moduleCode PW.main
      let frame ← newBodyFrame code mainNs mainNs
      let _ ← PySem.run (.body (behindTheImports PW) { scope := PW.main.scope, locals := mainNs, globals := mainNs, cells := [], code, frame := some frame })
      ret .none) _ _ _
  refine wpAny_bind (wpAny_moduleCode fun c Pl h₁ tk₁ hk hc hPl hcode => ?_)
  unfold newBodyFrame
  refine wpAny_bind (wpAny_bind (wpAny_nsGet (hB.g.keeps hk) (wpAny_alloc ?_)))
  dsimp only
  rw [behind_eq]
  generalize hob : ({ cls := .type "frame", slots := #[some (.ref c), some (.ref mainNs), some (.ref mainNs), none, some ((mg "__name__").getD .none), none, some (.ref builtinsNs)] } : Obj) = ob
  have hk2 : ∀ b o, s₀.heap.get? b = some o → (h₁.push ob).get? b = some o := fun b o e => Heap.get?_push_of_some _ (hk b o e)
  have hglt := hB.g.lt
  obtain ⟨bm, o, hbm, hne0, hneG, hneP, hbo, hrest⟩ := hB.bmod
  have hsz : s₀.heap.objs.size ≤ h₁.objs.size := by
    obtain ⟨_, _, _, _, _, _, _, _, _, _, e, _⟩ := hcode
    exact Nat.le_trans hc (Nat.le_of_lt (Heap.lt_size e))
  have hsys : sysModules < s₀.heap.objs.size := by
    obtain ⟨mm, ⟨o, _, _, e, _⟩, _⟩ := hB.noThreading
    exact Heap.lt_size e
  have T0 : TI c Pl mg #[] 1 (h₁.push ob) := by
    refine ⟨⟨(hB.g.keeps hk).push _, hcode.push _, ⟨Nat.lt_of_lt_of_le hglt hc, Nat.lt_of_lt_of_le hglt hPl⟩, ⟨bm, o, hbm, hne0, hneG, Nat.ne_of_lt (Nat.lt_of_lt_of_le (Heap.lt_size hbo) hPl), hk2 _ _ hbo, hrest⟩⟩, ⟨mb, hB.b.keeps hk2, hB.builtins⟩, fun _ _ => rfl, ?_⟩
    rw [Heap.size_push]
    exact Nat.lt_of_lt_of_le hsys (Nat.le_trans hsz (Nat.le_succ _))
  refine wpAny_bind (wpAny_run (codeAny_body (by kernel_rfl) (by kernel_rfl) ?_))
  rw [body_eq (w := w)]
  refine wpAny_mono (chain_run (A := _) (F := h₁.objs.size) rfl chain_all mg #[] { s₀ with heap := h₁.push ob, toks := tk₁ } T0 fun e he mg' hm => ?_) (fun f s' h => ?_) fun _ _ x => x.elim
  · by_cases h7 : e.x = "b1_set"
    · have n1 : mg' "set" = none := (hm _ (not_entry (by decide +kernel))).trans (hB.others _ (by decide))
      have n2 : mg' "list" = none := (hm _ (not_entry (by decide +kernel))).trans (hB.others _ (by decide))
      have n3 : mg' "range" = none := (hm _ (not_entry (by decide +kernel))).trans (hB.others _ (by decide))
      simp only [ents, List.mem_cons, List.not_mem_nil, or_false] at he
      rcases he with rfl | rfl | rfl | rfl | rfl | rfl | rfl | rfl | rfl | rfl | rfl | rfl | rfl | rfl | rfl | rfl | rfl | rfl | rfl | rfl | rfl | rfl | rfl | rfl | rfl | rfl <;> first | trivial | exact ⟨n1, n2, n3⟩
    · simp only [ents, List.mem_cons, List.not_mem_nil, or_false] at he
      rcases he with rfl | rfl | rfl | rfl | rfl | rfl | rfl | rfl | rfl | rfl | rfl | rfl | rfl | rfl | rfl | rfl | rfl | rfl | rfl | rfl | rfl | rfl | rfl | rfl | rfl | rfl <;> first | trivial | exact absurd rfl h7
  · obtain ⟨rfl, mg', ps', l', h', tk', rfl, T', up, hm, fs⟩ := h
    refine wpAny_pure ⟨_, rfl, ⟨⟨mg, mg', c, Pl, ps', l', hB.g, hB.others, T', hm, fs⟩, fun b o e hb => ?_, ⟨h', tk', rfl⟩, ?_, hB.statics⟩, hg⟩
    · exact up b o (fun e' => by have := Heap.lt_size e; rw [e'] at this; exact Nat.lt_irrefl _ (Nat.lt_of_lt_of_le this hPl)) hb (hk2 b o e)
    · refine (hB.statics.keeps hk2).at fun o e => up _ o (fun e' => ?_) (by decide) e
      have : cStatics < s₀.heap.objs.size := hB.statics.lt
      rw [e'] at this
      exact Nat.lt_irrefl _ (Nat.lt_of_lt_of_le this hPl)
end Mine
end

/-! part T8 -/
section
set_option maxRecDepth 100000
set_option linter.unusedVariables false
open PySem PySem.W PyProof.Rows
namespace Mine

theorem static_of_ns {h : Heap} {m : Str → Option Value} (hn : h.Ns cStatics m) (key : Str) : staticOf h key = m key := by
  obtain ⟨o, es, ep, ho, hd, _, hf⟩ := hn
  simp only [staticOf, ho, hd]
  exact hf key
theorem glob_of_ns {h : Heap} {m : Str → Option Value} (hn : h.Ns mainGlobals m) (name : Str) : globalOf h name = m name := by
  obtain ⟨o, es, ep, ho, hd, _, hf⟩ := hn
  have ho' : h.get? mainNs = some o := ho
  simp only [globalOf, ho', hd]
  exact hf name
theorem builtin_of_ns {h : Heap} {m : Str → Option Value} (hn : h.Ns builtinsNs m) (key : Str) : builtinOf h key = m key := by
  obtain ⟨o, es, ep, ho, hd, _, hf⟩ := hn
  simp only [builtinOf, ho, hd]
  exact hf key
theorem keys_of_ns {h : Heap} {a : Addr} {m : Str → Option Value} (hn : h.Ns a m) : keysAreStrs h a := by
  obtain ⟨o, es, ep, ho, hd, hk, hf⟩ := hn
  exact ⟨o, es, ep, ho, hd, fun e he => hk e he⟩

theorem top_all (w : World) (s₀ : Shared) (hB : BootP s₀) (hz : s₀.asleep) : ∃ s₁, TopRan PW w s₀ s₁ ∧ TopLeft w s₀ s₁ ∧ s₁.gens = #[] ∧ s₁.asleep := by
  obtain ⟨s₁, hL, hg, hrun, hlife⟩ := top_sound (p := PW) (w := w) (P := TopLeft w s₀) hz (top_wp hB)
  obtain ⟨mg₀, mg, c, Pl, ps, l, hg₀, hoth, T, hm, fs⟩ := hL.ex
  obtain ⟨mb, hb, hbb⟩ := T.blt
  have hnames : ∀ x, x ∉ entNames → mg x = mg₀ x := fun x hx => hm x fun e he e' => hx (by rw [← ent_names w]; exact List.mem_map.mpr ⟨e, he, e'⟩)
  refine ⟨s₁, ⟨hrun, hlife, ?_, fun b o e hn => hL.keep b o e fun e' => hn (.inl e'), fun key v h => ?_, fun key => ?_, keys_of_ns T.main.g, fun x hx => (builtin_of_ns hb x).trans (hbb x hx), ?_, fun g h => ?_, fun x v h => ?_, fun x hx => ?_⟩, hL, hg, Shared.asleep_of_life hlife hz⟩
  · obtain ⟨h, tk, e⟩ := hL.eq
    rw [e]; rfl
  · rw [static_of_ns hL.stat] at h; cases h
  · exact .inl (by rw [static_of_ns hL.stat, static_of_ns hL.stat₀])
  · obtain ⟨bm, o, h1, h2, h3, h4, h5, h6, h7, h8⟩ := T.main.bmod
    exact ⟨bm, o, (glob_of_ns T.main.g _).trans h1, h5, h6, h7⟩
  · rw [hg] at h; simp at h
  · rw [glob_of_ns T.main.g] at h
    by_cases hx : x ∈ entNames
    · have hall : entNames.all (fun y => startupNames.contains y || PW.boundNames.contains y) = true := by decide +kernel
      have := List.all_eq_true.mp hall x hx
      simpa only [Bool.or_eq_true, List.contains_iff_mem] using this
    · rw [hnames x hx] at h
      by_cases hy : x ∈ bootMainNames
      · exact .inl hy
      · rw [hoth x hy] at h; cases h
  · rw [glob_of_ns T.main.g, glob_of_ns hg₀]
    refine hnames x fun h => ?_
    have hall : laidNames.all (fun y => !entNames.contains y) = true := by decide +kernel
    have := List.all_eq_true.mp hall x hx
    rw [List.contains_iff_mem.mpr h] at this
    cases this
end Mine
end

/-! part M16 -/
section
set_option maxRecDepth 10000
set_option linter.unusedVariables false
open PySem PyProof.Rows
namespace Mine
section
variable {prog : Program} {w : World} {B : Heap} {k : Nat} {sc : Scope} {vm : List Str}

/-! ## a call looked at by itself -/
noncomputable def scal : V → Bool
  | .ref _ => false
  | _ => true
theorem VR.scal {α β : List Addr} {v : V} {c : Value} (h : scal v = true) (r : VR α v c) : VR β v c := by
  cases r with
  | none => exact .none
  | bool b => exact .bool b
  | int i t => exact .int i t
  | str x t => exact .str x t
  | typ T => exact .typ T
  | base a => exact .base a
  | ref _ => cases h
theorem Paired.scal {α β : List Addr} : ∀ {xs : List V} {cs : List Value}, xs.all scal = true → Paired (VR α) xs cs → Paired (VR β) xs cs
  | _, _, _, .nil => .nil
  | _, _, h, .cons r t => by
    simp only [List.all_cons, Bool.and_eq_true] at h
    exact .cons (r.scal h.1) (Paired.scal h.2 t)

theorem VR.at' {α : List Addr} {j : Nat} {c : Value} (r : VR α (.ref j) c) : ∃ a, c = .ref a ∧ α[j]? = some a := by
  cases r with
  | ref h => exact ⟨_, rfl, h⟩

inductive Res where
  | val (v : V)
  | list (xs : List V)
  | lists (xss : List (List V))

noncomputable def refsFrom (n m : Nat) : List V := (List.range m).map fun i => .ref (n + i)
noncomputable def resV (H : Hp) : Res → V
  | .val v => v
  | .list _ => .ref H.length
  | .lists xss => .ref (H.length + xss.length)
noncomputable def resH (H : Hp) : Res → Hp
  | .val _ => H
  | .list xs => H ++ [.list xs]
  | .lists xss => (H ++ xss.map .list) ++ [.list (refsFrom H.length xss.length)]
noncomputable def specCall (spec : List V → Option Res) : List V → Hp → Option (V × Hp) := fun vs H => (spec vs).map fun r => (resV H r, resH H r)

noncomputable def IsL1 (H₁ : Hp) (n0 : Nat) (i : Nat) (xs : List V) : Prop := n0 ≤ i ∧ H₁[i]? = some (.list xs) ∧ xs.all scal = true
noncomputable def Reads (H₁ : Hp) (n0 : Nat) (v : V) : Res → Prop
  | .val u => v = u ∧ scal u = true
  | .list xs => ∃ j, v = .ref j ∧ IsL1 H₁ n0 j xs
  | .lists xss => ∃ j js, v = .ref j ∧ n0 ≤ j ∧ H₁[j]? = some (.list (js.map .ref)) ∧ Paired (IsL1 H₁ n0) js xss ∧ (j :: js).Nodup

theorem SR.add {α : List Addr} {H : Hp} {h : Heap} {a : Addr} {o : O} (x : SR B α H h) (ha : a ∉ α) (hb : B.get? a = none) (hl : (h.get? a).isSome = true) (ho : OR h (α ++ [a]) a o) : SR B (α ++ [a]) (H ++ [o]) h := by
  refine ⟨x.base, by simp [x.len], ?_, fun k b q e1 e2 => ?_, fun b hb' => ?_, fun b hb' => ?_⟩
  · exact List.nodup_append.mpr ⟨x.nd, by simp, fun u hu v hv => by
      rw [List.mem_singleton.mp hv]; rintro rfl; exact ha hu⟩
  · rcases Nat.lt_trichotomy k α.length with hk' | hk' | hk'
    · rw [List.getElem?_append_left hk'] at e1
      rw [List.getElem?_append_left (x.len ▸ hk')] at e2
      exact (x.obj k b q e1 e2).more
    · subst hk'
      simp at e1
      rw [x.len] at e2
      simp at e2
      subst e1 e2
      exact ho
    · rw [List.getElem?_eq_none (by simp; omega)] at e1; cases e1
  · rcases List.mem_append.mp hb' with h' | h'
    · exact x.new b h'
    · rw [List.mem_singleton.mp h']; exact hb
  · rcases List.mem_append.mp hb' with h' | h'
    · exact x.live b h'
    · rw [List.mem_singleton.mp h']; exact hl

theorem Step.add {α : List Addr} {s s' : Shared} {α₁ : List Addr} {a : Addr} (st : Step [] α s α₁ s') (ha : s.heap.get? a = none) : Step [] α s (α₁ ++ [a]) s' := by
  obtain ⟨δ, hδ, h⟩ := st.ext
  refine ⟨⟨δ ++ [a], by rw [hδ, List.append_assoc], fun b hb => ?_⟩, st.keep, st.os, st.gens⟩
  rcases List.mem_append.mp hb with hb | hb
  · exact h b hb
  · rw [List.mem_singleton.mp hb]; exact ha

theorem add_lists {s : Shared} {s' : Shared} {α₀ : List Addr} {α' : List Addr} {H₁ : Hp} {n0 : Nat} (S₁ : SR B α' H₁ s'.heap) (hn : ∀ i a, n0 ≤ i → α'[i]? = some a → s.heap.get? a = none) :
    ∀ (js : List Nat) (xss : List (List V)) (α : List Addr) (H : Hp), Paired (IsL1 H₁ n0) js xss → js.Nodup → SR B α H s'.heap → Step [] α₀ s α s' → (∀ a ∈ α, ∀ j ∈ js, α'[j]? ≠ some a) →
      ∃ as : List Addr, SR B (α ++ as) (H ++ xss.map .list) s'.heap ∧ Step [] α₀ s (α ++ as) s' ∧ Paired (fun j a => α'[j]? = some a) js as := by
  intro js
  induction js with
  | nil =>
    intro xss α H hp _ S st _
    cases hp
    exact ⟨[], by simpa using S, by simpa using st, .nil⟩
  | cons j js ih =>
    intro xss α H hp hnd S st hd
    cases hp with
    | @cons _ xs _ xss h hp =>
    obtain ⟨h1, h2, h3⟩ := h
    have hj : j < α'.length := by rw [S₁.len]; exact (List.getElem?_eq_some_iff.mp h2).1
    have ha : α'[j]? = some α'[j] := List.getElem?_eq_getElem hj
    obtain ⟨vs, hv1, hv2⟩ := S₁.list ha h2
    have hα : α'[j] ∉ α := fun hm => hd _ hm j (List.mem_cons_self ..) ha
    have hm : α'[j] ∈ α' := List.getElem_mem hj
    have S2 := S.add (o := .list xs) hα (S₁.new _ hm) (S₁.live _ hm) ⟨vs, hv1, Paired.scal h3 hv2⟩
    have st2 := st.add (hn j _ h1 ha)
    rw [List.nodup_cons] at hnd
    obtain ⟨as, r1, r2, r3⟩ := ih xss (α ++ [α'[j]]) (H ++ [.list xs]) hp hnd.2 S2 st2 fun a hm' j' hj' e => by
      rcases List.mem_append.mp hm' with hm' | hm'
      · exact hd a hm' j' (List.mem_cons_of_mem _ hj') e
      · rw [List.mem_singleton.mp hm'] at e
        have := (List.getElem?_inj hj S₁.nd).mp (ha.trans e.symm)
        exact hnd.1 (this ▸ hj')
    exact ⟨α'[j] :: as, by simpa using r1, by simpa using r2, .cons ha r3⟩

theorem push_res {s s' : Shared} {α α' : List Addr} {H H₁ : Hp} {n0 : Nat} {v : V} {c : Value} {r : Res} (S : SR B α H s'.heap) (st : Step [] α s α s') (S₁ : SR B α' H₁ s'.heap) (hlive : ∀ a ∈ α, (s.heap.get? a).isSome = true)
    (hn : ∀ i a, n0 ≤ i → α'[i]? = some a → s.heap.get? a = none) (hv : VR α' v c) (hr : Reads H₁ n0 v r) : EPost B α s (resH H r) (resV H r) c s' := by
  have notα : ∀ i a, n0 ≤ i → α'[i]? = some a → a ∉ α := fun i a hi e hm => by have := hlive a hm; rw [hn i a hi e] at this; cases this
  cases r with
  | val u =>
    obtain ⟨rfl, hs⟩ := hr
    exact ⟨α, st, S, hv.scal hs⟩
  | list xs =>
    obtain ⟨j, rfl, h1, h2, h3⟩ := hr
    obtain ⟨a, rfl, ha⟩ := hv.at'
    obtain ⟨vs, hv1, hv2⟩ := S₁.list ha h2
    have hm : a ∈ α' := List.mem_of_getElem? ha
    exact ⟨α ++ [a], st.add (hn j a h1 ha), S.add (notα j a h1 ha) (S₁.new _ hm) (S₁.live _ hm) ⟨vs, hv1, Paired.scal h3 hv2⟩, .ref (by show (α ++ [a])[H.length]? = some a; rw [← S.len]; simp)⟩
  | lists xss =>
    obtain ⟨j, js, rfl, h1, h2, h3, h4⟩ := hr
    obtain ⟨a, rfl, ha⟩ := hv.at'
    rw [List.nodup_cons] at h4
    have hjs : ∀ j' ∈ js, n0 ≤ j' := by
      intro j' hj'
      obtain ⟨i, hi⟩ := List.getElem?_of_mem hj'
      obtain ⟨xs, _, h⟩ := Paired.get h3 hi
      exact h.1
    obtain ⟨as, r1, r2, r3⟩ := add_lists S₁ hn js xss α H h3 h4.2 S st fun a' hm j' hj' e => notα j' a' (hjs j' hj') e hm
    have hlen : as.length = xss.length := by rw [← r3.length, h3.length]
    obtain ⟨vs, hv1, hv2⟩ := S₁.list ha h2
    have hm : a ∈ α' := List.mem_of_getElem? ha
    have hna : a ∉ α ++ as := fun h => by
      rcases List.mem_append.mp h with h | h
      · exact notα j a h1 ha h
      · obtain ⟨i, hi⟩ := List.getElem?_of_mem h
        obtain ⟨j', hj'⟩ : ∃ j', js[i]? = some j' := ⟨js[i]'(by rw [r3.length]; exact (List.getElem?_eq_some_iff.mp hi).1), List.getElem?_eq_getElem _⟩
        obtain ⟨a', e1, e2⟩ := Paired.get r3 hj'
        rw [hi] at e1; cases e1
        have := (List.getElem?_inj (List.getElem?_eq_some_iff.mp ha).1 S₁.nd).mp (ha.trans e2.symm)
        exact h4.1 (this ▸ List.mem_of_getElem? hj')
    refine ⟨(α ++ as) ++ [a], r2.add (hn j a h1 ha), r1.add hna (S₁.new _ hm) (S₁.live _ hm) ⟨vs, hv1, ?_⟩, .ref ?_⟩
    · refine Paired.of_get ?_ fun i x y hx hy => ?_
      · rw [← hv2.length]
        simp [refsFrom, ← hlen, r3.length]
      · unfold refsFrom at hx
        rw [List.getElem?_map, Option.map_eq_some_iff] at hx
        obtain ⟨i', hi', hx⟩ := hx
        obtain ⟨hlt, e⟩ := List.getElem?_eq_some_iff.mp hi'
        simp at hlt e
        subst e hx
        obtain ⟨a', ha'⟩ : ∃ a', as[i]? = some a' := ⟨as[i]'(by rw [hlen]; exact hlt), List.getElem?_eq_getElem _⟩
        obtain ⟨j', hj'⟩ : ∃ j', js[i]? = some j' := ⟨js[i]'(by rw [r3.length, hlen]; exact hlt), List.getElem?_eq_getElem _⟩
        obtain ⟨a2, e1, e2⟩ := Paired.get r3 hj'
        rw [ha'] at e1; cases e1
        obtain ⟨y', e3, e4⟩ := Paired.get hv2 (i := i) (a := .ref j') (by rw [List.getElem?_map, hj']; rfl)
        rw [hy] at e3; cases e3
        obtain ⟨a3, e5, e6⟩ := e4.at'
        subst e5
        rw [e2] at e6; cases e6
        refine .ref ?_
        rw [List.append_assoc, ← S.len, List.getElem?_append_right (Nat.le_add_right ..), Nat.add_sub_cancel_left, List.getElem?_append_left (by rw [hlen]; exact hlt)]
        exact ha'
    · rw [← S.len, ← hlen]
      simp
end
end Mine
end

/-! part M17 -/
section
set_option maxRecDepth 10000
set_option linter.unusedVariables false
open PySem PyProof.Rows
namespace Mine
section
variable {prog : Program} {w : World} {B : Heap} {k : Nat} {sc : Scope} {vm : List Str}

theorem CallOk.loc {f : Value} {h₀ : List V → Hp → Option (V × Hp)} {spec : List V → Option Res} (hO : CallOk prog w B k f h₀)
    (hp : ∀ vs r, spec vs = some r → vs.all scal = true ∧ ∃ v H₁, h₀ vs [] = some (v, H₁) ∧ Reads H₁ 0 v r) : CallOk prog w B k f (specCall spec) := by
  intro vs H v H' e A s α cs Rm S r
  obtain ⟨res, e1, e2⟩ := Option.map_eq_some_iff.mp e
  first | (obtain ⟨rfl, rfl⟩ := pair_some e2) | cases e2
  obtain ⟨hs, v, H₁, e3, hr⟩ := hp vs res e1
  have S0 : SR B [] [] s.heap := ⟨S.base, rfl, .nil, fun k a o h => (by simp at h), fun a h => (nomatch h), fun a h => (nomatch h)⟩
  refine wpAny_mono (hO vs [] v H₁ e3 A s [] cs Rm S0 (Paired.scal hs r)) (fun c s' h' => ?_) fun _ _ h => h
  obtain ⟨α', st, S₁, hv⟩ := h'
  have keep : ∀ b o, s.heap.get? b = some o → s'.heap.get? b = some o := fun b o e => st.keep b o e (fun h => nomatch h) (fun h => nomatch h)
  obtain ⟨δ, hδ, hf⟩ := st.ext
  exact push_res (S.at keep) ⟨⟨[], by simp, by simp⟩, fun b o e _ _ => keep b o e, st.os, st.gens⟩ S₁ S.live (fun i a _ ha => hf a (by rw [hδ] at ha; exact List.mem_of_getElem? ha)) hv hr

noncomputable def specCall1 (pos : Nat) (spec : List V → List V → Option Res) : List V → Hp → Option (V × Hp) := fun vs H => match vs[pos]? with
  | some (.ref k) => match H[k]? with
    | some (.list xs) => (spec (vs.set pos (.ref 0)) xs).map fun r => (resV H r, resH H r)
    | _ => none
  | _ => none
noncomputable def others (pos : Nat) (vs : List V) : Bool := (List.range vs.length).all fun i => i == pos || (match vs[i]? with | some v => scal v | none => true)

theorem CallOk.loc1 {f : Value} {h₀ : List V → Hp → Option (V × Hp)} {pos : Nat} {spec : List V → List V → Option Res} (hO : CallOk prog w B k f h₀)
    (hp : ∀ vs xs r, spec vs xs = some r → others pos vs = true ∧ xs.all scal = true ∧ ∃ v H₁, h₀ vs [.list xs] = some (v, H₁) ∧ H₁[0]? = some (.list xs) ∧ Reads H₁ 1 v r) : CallOk prog w B k f (specCall1 pos spec) := by
  intro vs H v H' e A s α cs Rm S r
  unfold specCall1 at e
  split at e
  · rename_i kk hk
    split at e
    · rename_i xs hx
      obtain ⟨res, e1, e2⟩ := Option.map_eq_some_iff.mp e
      first | (obtain ⟨rfl, rfl⟩ := pair_some e2) | cases e2
      obtain ⟨ho, hs, v, H₁, e3, h0, hr⟩ := hp _ _ res e1
      obtain ⟨c, hc, rc⟩ := Paired.get r hk
      obtain ⟨a, rfl, ha⟩ := rc.at'
      obtain ⟨us, hp1, hp2⟩ := S.list ha hx
      have hm : a ∈ α := List.mem_of_getElem? ha
      have hpos : pos < vs.length := (List.getElem?_eq_some_iff.mp hk).1
      have S0 : SR B [a] [.list xs] s.heap := ⟨S.base, rfl, (by simp), fun k b o h1 h2 => by
          cases k with
          | zero => cases h1; cases h2; exact ⟨us, hp1, Paired.scal hs hp2⟩
          | succ k => simp at h1, fun b hb => (by rw [List.mem_singleton.mp hb]; exact S.new a hm), fun b hb => (by rw [List.mem_singleton.mp hb]; exact S.live a hm)⟩
      have r0 : Paired (VR [a]) (vs.set pos (.ref 0)) cs := by
        refine Paired.of_get (by rw [List.length_set]; exact r.length) fun i x y h1 h2 => ?_
        by_cases hi : i = pos
        · subst hi
          rw [List.getElem?_set_self hpos] at h1
          cases h1
          rw [hc] at h2; cases h2
          exact .ref rfl
        · have h1' := h1
          rw [List.getElem?_set_ne (Ne.symm hi)] at h1
          obtain ⟨y', e5, e6⟩ := Paired.get r h1
          rw [h2] at e5; cases e5
          have hil : i < (vs.set pos (.ref 0)).length := (List.getElem?_eq_some_iff.mp h1').1
          have := List.all_eq_true.mp ho i (List.mem_range.mpr hil)
          rw [h1'] at this
          simp only [Bool.or_eq_true, beq_iff_eq] at this
          exact e6.scal (this.resolve_left hi)
      refine wpAny_mono (hO _ [.list xs] v H₁ e3 A s [a] cs Rm S0 r0) (fun c s' h' => ?_) fun _ _ h => h
      obtain ⟨α', st, S₁, hv⟩ := h'
      obtain ⟨δ, hδ, hf⟩ := st.ext
      have ha' : α'[0]? = some a := by rw [hδ]; rfl
      have keep : Heap.ExtBut a s.heap s'.heap := fun b o hb e => st.keep b o e (fun h => hb (List.mem_singleton.mp h)) (fun h => nomatch h)
      obtain ⟨us', hp3, hp4⟩ := S₁.list ha' h0
      have S' : SR B α H s'.heap := by
        have := S.put (o := .list xs) ha keep (S₁.live a (List.mem_of_getElem? ha')) ⟨us', hp3, Paired.scal hs hp4⟩
        have e : H.set kk (.list xs) = H := by
          obtain ⟨hl, e⟩ := List.getElem?_eq_some_iff.mp hx
          rw [← e]; exact List.set_getElem_self hl
        rwa [e] at this
      exact push_res S' ⟨⟨[], by simp, by simp⟩, fun b o e h1 _ => keep b o (fun e' => h1 (e' ▸ hm)) e, st.os, st.gens⟩ S₁ S.live (fun i b hi hb => by
        rw [hδ, List.getElem?_append_right (by simpa using hi)] at hb
        exact hf b (List.mem_of_getElem? hb)) hv hr
    · first | (obtain ⟨rfl, rfl⟩ := pair_some e) | cases e
  · first | (obtain ⟨rfl, rfl⟩ := pair_some e) | cases e

/-- a weaker contract -/
theorem CallOk.sub {f : Value} {h h' : List V → Hp → Option (V × Hp)} (hO : CallOk prog w B k f h) (hs : ∀ vs H r, h' vs H = some r → h vs H = some r) : CallOk prog w B k f h' := by
  intro vs H v H' e
  exact hO vs H v H' (hs vs H _ e)
/-- more room -/
theorem CallOk.room {f : Value} {h : List V → Hp → Option (V × Hp)} {k' : Nat} (hO : CallOk prog w B k f h) (hk : k ≤ k') : CallOk prog w B k' f h := by
  intro vs H v H' e A s α cs Rm
  exact hO vs H v H' e A s α cs ⟨Rm.1, by have := Rm.2.1; omega, by have := Rm.2.2; omega⟩
end
end Mine
end

/-! part M18 -/
section
set_option maxRecDepth 10000
set_option linter.unusedVariables false
open PySem PyProof.Rows
namespace Mine
noncomputable abbrev CF := List V → Hp → Option (V × Hp)
section
variable {prog : Program} {w : World} {B : Heap} {k : Nat} {sc : Scope} {vm : List Str}

/-! ## rows of constants -/
noncomputable def iVs (is : List Int) : List Ex := is.map fun i => eVal (.int i)
noncomputable def sVs (xs : List Str) : List Ex := xs.map fun x => eVal (.str x)
noncomputable def strs? : List Expr → Option (List Str)
  | [] => some []
  | .Constant (.str x) _ _ :: es => (strs? es).map (x :: ·)
  | _ => none
theorem SL.ints : ∀ {es : List Expr} {is : List Int}, ints? es = some is → SL prog w B k sc vm es (iVs is) := by
  intro es
  induction es with
  | nil => intro is h; cases h; exact SL.nil
  | cons e es ih =>
    intro is h
    unfold ints? at h
    split at h
    · rename_i h0; cases h0
    · rename_i i kk p es' h0
      cases h0
      obtain ⟨is', h1, h2⟩ := Option.map_eq_some_iff.mp h
      cases h2
      exact SL.cons SE.int (ih h1) fun _ => rfl
    · cases h
theorem SL.strs : ∀ {es : List Expr} {xs : List Str}, strs? es = some xs → SL prog w B k sc vm es (sVs xs) := by
  intro es
  induction es with
  | nil => intro is h; cases h; exact SL.nil
  | cons e es ih =>
    intro is h
    unfold strs? at h
    split at h
    · rename_i h0; cases h0
    · rename_i i kk p es' h0
      cases h0
      obtain ⟨is', h1, h2⟩ := Option.map_eq_some_iff.mp h
      cases h2
      exact SL.cons (SE.str rfl) (ih h1) fun _ => rfl
    · cases h
theorem eRow_ints (is : List Int) (ρ : Lo) (H : Hp) : eRow (iVs is) ρ H = some (is.map .int, H) := by
  induction is with
  | nil => rfl
  | cons i is ih => simp only [iVs, List.map_cons, eRow, eVal] at ih ⊢; simp [ih]
theorem eRow_strs (xs : List Str) (ρ : Lo) (H : Hp) : eRow (sVs xs) ρ H = some (xs.map .str, H) := by
  induction xs with
  | nil => rfl
  | cons i is ih => simp only [sVs, List.map_cons, eRow, eVal] at ih ⊢; simp [ih]
theorem eList_ints (is : List Int) (ρ : Lo) (H : Hp) : eList (iVs is) ρ H = some (.ref H.length, H ++ [.list (is.map .int)]) := by
  unfold eList; rw [eRow_ints]; rfl
theorem eList_strs (xs : List Str) (ρ : Lo) (H : Hp) : eList (sVs xs) ρ H = some (.ref H.length, H ++ [.list (xs.map .str)]) := by
  unfold eList; rw [eRow_strs]; rfl

/-! ## a type by its name -/
theorem SE.typ {mg : Str → Option Value} {x : Str} {T : String} {pos : Pos} (G : GF B mg) (hx : NameIs mg x (.type T)) (hk : sc.names.lookup x = some .globalImplicit)
    (hd : (x == ("__debug__" : Str)) = false := by decide) : SE prog w B k sc vm (.Name x pos) (eVal (.typ T)) := by
  intro ρ H v H' e A env s α O Rm R S
  first | (obtain ⟨rfl, rfl⟩ := pair_some e) | cases e
  exact global_ok G hx hk O S (.same S (.typ _)) hd

/-! ## the greatest -/
noncomputable def bMax : List V → Hp → Option (V × Hp)
  | [.int a, .int b], H => some (.int (if a < b then b else a), H)
  | _, _ => none
theorem bMax_ok : CallOk prog w B k (.builtin "max") bMax := by
  intro vs H v H' e A s α cs Rm S r
  unfold bMax at e
  split at e
  · first | (obtain ⟨rfl, rfl⟩ := pair_some e) | cases e
    obtain ⟨_, _, rfl, r₁, q₁⟩ := Paired.two r
    first | (obtain ⟨_, rfl⟩ := r₁.int_inv) | (obtain ⟨_, rfl⟩ := r₁.str_inv) | (obtain rfl := r₁.typ_inv)
    first | (obtain ⟨_, rfl⟩ := q₁.int_inv) | (obtain ⟨_, rfl⟩ := q₁.str_inv) | (obtain rfl := q₁.typ_inv)
    refine max_two_ints Rm.1 fun h' tk hk => ?_
    split
    · exact .kept S hk (.int _ _)
    · exact .kept S hk (.int _ _)
  · first | (obtain ⟨rfl, rfl⟩ := pair_some e) | cases e

/-! ## pairs of brackets are struck while there are any -/
noncomputable def strike : Nat → Str → Option Str
  | 0, _ => none
  | m + 1, x => if strIn "()" x then (if x.length ≤ 1000000 then strike m (Txt.replace x "()" "") else none) else some x
noncomputable def gStrike (n : Nat) : Sx := fun ρ H => match ρ[n]? with
  | some (some (.str x)) => (strike 64 x).map fun y => (.next, put n (.str y) ρ, H)
  | _ => none
theorem put_put (n : Nat) (u v : V) (ρ : Lo) : put n v (put n u ρ) = put n v ρ := by unfold put; simp
theorem put_same {n : Nat} {v : V} {ρ : Lo} (h : ρ[n]? = some (some v)) : put n v ρ = ρ := by
  unfold put
  obtain ⟨hl, e⟩ := List.getElem?_eq_some_iff.mp h
  rw [← e]; exact List.set_getElem_self hl
theorem put_get {n : Nat} {v u : V} {ρ : Lo} (h : ρ[n]? = some (some u)) : (put n v ρ)[n]? = some (some v) := by
  unfold put
  rw [List.getElem?_set_self (List.getElem?_eq_some_iff.mp h).1]

inductive StrI (B : Heap) (vm : List Str) (n : Nat) (y : Str) (ρ : Lo) (H : Hp) (env : Env) (α : List Addr) (s : Shared) (m : Nat) (s' : Shared) : Prop
  | mk (z : Str) (ρ₁ : Lo) (e : Mine.strike m z = some y) (hz : ρ₁[n]? = some (some (.str z))) (hp : put n (.str y) ρ₁ = put n (.str y) ρ) (st : Step (own env) α s α s') (S₁ : SR B α H s'.heap) (R₁ : ER B vm env ρ₁ α s'.heap) : StrI B vm n y ρ H env α s m s'
theorem S1.strike {n : Nat} {x : Str} {p1 p2 p3 p4 p5 p6 p7 p8 p9 p10 p11 : Pos} {k1 k2 k3 : Nat} (hn : vm[n]? = some x) (hx : sc.names.lookup x = some .local)
    (hcd : (x == ("__classdict__" : Str)) = false := by decide) (hdb : (x == ("__debug__" : Str)) = false := by decide)
    (hm : behindInMarks .In (.Name x p2) = false := by with_unfolding_all rfl) (hline : (p6.endLine == p9.line) = true := by rfl) :
    S1 prog w B k sc vm (.While (.Compare (.Constant (.str "()") k1 p1) [.In] [.Name x p2] p3) [.Assign [.Name x p4] (.Call (.Attribute (.Name x p5) "replace" p6) [.Constant (.str "()") k2 p7, .Constant (.str "") k3 p8] [] p9) p10] [] p11) (gStrike n) := by
  intro ρ H f' ρ' H' q A env s α O Rm R S
  unfold gStrike at q
  split at q
  · rename_i z hz
    obtain ⟨y, q1, q2⟩ := Option.map_eq_some_iff.mp q
    first | (obtain ⟨rfl, rfl⟩ := pair_some q2) | cases q2
    refine wpAny_While ?_
    refine codeAny_whileLoop (StrI B vm n y ρ H env α s) ?_ 64 ⟨z, ρ, q1, hz, rfl, Step.refl .., S, R⟩
    rintro m s' ⟨z, ρ₁, e, hz, hp, st, S₁, R₁⟩
    cases m with
    | zero => cases e
    | succ m =>
      refine wpAny_isTrue_Compare1 (wpAny_Constant_str (wpAny_Name (load_ok (s := { s' with toks := s'.toks + 1 }) (α := α) hz hn (.inl hx) hcd O R₁ fun c rc => ?_) hdb)) hm
      obtain ⟨t, rfl⟩ := rc.str_inv
      refine P.in_str (wpAny_truthy_bool ?_)
      show if strIn "()" z = true then _ else _
      have st' : Step (own env) α s α { s' with toks := s'.toks + 1 } := st.both tok_step S₁.nd R₁.live
      simp only [Mine.strike] at e
      cases hin : strIn "()" z with
      | false =>
        rw [hin] at e
        simp only [Bool.false_eq_true, if_false] at e ⊢
        first | (obtain ⟨rfl, rfl⟩ := pair_some e) | cases e
        rw [put_same hz] at hp
        exact wpAny_execs_nil ⟨α, st', S₁, hp ▸ R₁, .next⟩
      | true =>
        rw [hin] at e
        simp only [if_true] at e ⊢
        split at e
        · rename_i hl
          refine wpAny_execs_cons (wpAny_Assign_Name ?_ rfl)
          refine wpAny_Call_method (T := "str") (id := "str.replace") rfl rfl hline F.plainAttrs_str F.slot_str_replace F.type_str_replace
            (wpAny_Name (load_ok (s := { s' with toks := s'.toks + 1 }) (α := α) hz hn (.inl hx) hcd O R₁ fun c rc => ?_) hdb)
          obtain ⟨t2, rfl⟩ := rc.str_inv
          refine ⟨typeIs_str _ z t2, fun a e => (nomatch e), Calls.callWith_builtin rfl ?_⟩
          refine Calls.evalArgs_plain ?_
          show wpAny _ _ (spliced ((false, eval (.Constant (.str "()") k2 p7) env) :: [(false, eval (.Constant (.str "") k3 p8) env)])) _ _ _
          refine Calls.spliced_cons (wpAny_Constant_str (Calls.spliced_cons (wpAny_Constant_str (Calls.spliced_nil ?_))))
          refine SC.replace (Nat.succ_ne_zero _) (Nat.succ_ne_zero _) (Nat.ne_of_lt (Nat.lt_succ_self _)) (by decide) (by show z.length + (z.length + 1) * 0 ≤ 16777216; omega) fun t' tk => ?_
          refine store_ok (s := { s' with toks := tk }) hn (.inl hx) O R₁ S₁ (.str _ t') fun s₃ st₃ S₃ R₃ => ?_
          have st2 : Step (own env) α s α { s' with toks := tk } := st.both tok_step S₁.nd R₁.live
          refine wpAny_execs_nil ⟨m, Nat.lt_succ_self _, _, _, e, put_get hz, ?_, st2.both st₃ S₃.nd R₁.live, S₃, R₃⟩
          rw [put_put]; exact hp
        · first | (obtain ⟨rfl, rfl⟩ := pair_some e) | cases e
  · first | (obtain ⟨rfl, rfl⟩ := pair_some q) | cases q
end
end Mine
end

/-! part M19 -/
section
set_option maxRecDepth 10000
set_option linter.unusedVariables false
open PySem PyProof.Rows
namespace Mine
section
variable {prog : Program} {w : World} {B : Heap} {k : Nat} {sc : Scope} {vm : List Str}
/-- a list of the base, only read -/
noncomputable def BaseL (B : Heap) (a : Addr) (xs : List V) : Prop := ∃ vs : List Value, B.PlainList a vs.toArray ∧ Paired (VR []) xs vs
noncomputable def cutB (a : Addr) (xs : List V) : V → V → V → Hp → Option (V × Hp)
  | .base b, l, u, H => if b = a then (partV l).bind fun l => (partV u).bind fun u => if xs.length ≤ 1000000 then some (.ref H.length, H ++ [.list (cut xs l u)]) else none else none
  | _, _, _, _ => none
noncomputable def eCutB (a : Addr) (xs : List V) (f fl fu : Ex) : Ex := fun ρ H => (f ρ H).bind fun p => (fl ρ p.2).bind fun q => (fu ρ q.2).bind fun r => cutB a xs p.1 q.1 r.1 r.2
theorem VR.nilMore {α : List Addr} {v : V} {c : Value} (x : VR [] v c) : VR α v c := by
  have := x.more (δ := α)
  simpa using this
theorem SE.sliceB {al : Addr} {xs : List V} {value : Expr} {lo hi : Option Expr} {p pos : Pos} {f fl fu : Ex} (hB : BaseL B al xs) (hf : SE prog w B k sc vm value f) (hl : SP prog w B k sc vm lo fl) (hu : SP prog w B k sc vm hi fu) :
    SE prog w B k sc vm (.Subscript value (.Slice lo hi Option.none p) pos) (eCutB al xs f fl fu) := by
  intro ρ H v H' e₀ A env s α O Rm R S
  obtain ⟨⟨a, H₁⟩, e1, e₁⟩ := Option.bind_eq_some_iff.mp e₀
  obtain ⟨⟨l, H₂⟩, e2, e₂⟩ := Option.bind_eq_some_iff.mp e₁
  obtain ⟨⟨u, H₃⟩, e3, e⟩ := Option.bind_eq_some_iff.mp e₂
  clear e₀ e₁ e₂
  dsimp only at e2 e3 e
  refine wp_Slice (wpAny_mono (hf ρ H a H₁ e1 A env s α O Rm R S) (fun ca s₁ h₁ => ?_) fun _ _ h => h)
  obtain ⟨α₁, st₁, S₁, r₁⟩ := h₁
  refine wpAny_mono (hl ρ H₁ l H₂ e2 A env s₁ α₁ O Rm (R.step st₁) S₁) (fun cl s₂ h₂ => ?_) fun _ _ h => h
  obtain ⟨α₂, st₂, S₂, r₂⟩ := h₂
  refine wpAny_mono (hu ρ H₂ u H₃ e3 A env s₂ α₂ O Rm ((R.step st₁).step st₂) S₂) (fun cu s₃ h₃ => ?_) fun _ _ h => h
  obtain ⟨α₃, st₃, S₃, r₃⟩ := h₃
  have st := (st₁.trans0 st₂ S₂.nd).trans0 st₃ S₃.nd
  have keep : ∀ b o, s₃.heap.get? b = some o → (s₃.heap.push { cls := .type "slice", data := .fields #[cl, cu, .none] }).get? b = some o := fun b o h => Heap.get?_push_of_some _ h
  have S₄ : SR B α₃ H₃ (s₃.heap.push { cls := .type "slice", data := .fields #[cl, cu, .none] }) := S₃.at keep
  have st₄ : Step [] α s α₃ { s₃ with heap := s₃.heap.push { cls := .type "slice", data := .fields #[cl, cu, .none] } } := st.trans0 (Step.kept keep (tk := s₃.toks)) S₃.nd
  have hsl := Heap.get?_push_size s₃.heap (o := { cls := .type "slice", data := .fields #[cl, cu, .none] }) rfl
  cases a with
  | base b =>
    simp only [cutB] at e
    split at e
    · rename_i hba
      subst hba
      obtain ⟨i, p1, e'⟩ := Option.bind_eq_some_iff.mp e
      obtain ⟨j, p2, e''⟩ := Option.bind_eq_some_iff.mp e'
      split at e''
      · rename_i hlen
        cases e''
        cases r₁
        obtain ⟨q1, c1, m1⟩ := partV_ok p1 r₂
        obtain ⟨q2, c2, m2⟩ := partV_ok p2 r₃
        subst c1 c2 m1 m2
        obtain ⟨vs, hp0, hv0⟩ := hB
        have hp := hp0.at fun o => S₄.base _ o
        have hv : Paired (VR α₃) xs vs := Paired.mono' (fun _ _ x => x.nilMore) hv0
        refine ⟨"list", _, F.slot_list_getitem.lookup, hp.isList.typeIs, wpAny_getItem_list_slice hp.isList ⟨_, hsl, rfl, rfl⟩ (isPart_of q1) (isPart_of q2) IsPart.none (by decide) ?_ (by rw [Paired.size hv]; exact size_line hlen)⟩
        rw [slicePick_plain]
        have := new_list (s := s) (tk := s₃.toks) st₄ S₄ (Paired.take' (sTo (q2.map (·.1)) xs.length - sFrom (q1.map (·.1)) xs.length) (Paired.drop' (sFrom (q1.map (·.1)) xs.length) hv))
        rw [Paired.size hv]
        exact this
      · cases e''
    · first | (obtain ⟨rfl, rfl⟩ := pair_some e) | cases e
  | none => cases e
  | bool => cases e
  | int => cases e
  | str => cases e
  | typ => cases e
  | ref => cases e
noncomputable def bLenB (a : Addr) (xs : List V) : List V → Hp → Option (V × Hp)
  | [.base b], H => if b = a ∧ xs.length < 1000000000 then some (.int xs.length, H) else none
  | _, _ => none
theorem bLenB_ok {al : Addr} {xs : List V} (hB : BaseL B al xs) : CallOk prog w B k (.builtin "len") (bLenB al xs) := by
  intro vs H v H' e A s α cs Rm S r
  unfold bLenB at e
  split at e
  · split at e
    · rename_i hc
      obtain ⟨rfl, h1⟩ := hc
      first | (obtain ⟨rfl, rfl⟩ := pair_some e) | cases e
      obtain ⟨_, rfl, r₁⟩ := Paired.one r
      obtain rfl := r₁.base_inv
      obtain ⟨us, hp, hv⟩ := hB
      refine Calls.call_len_list (hp.at fun o => S.base _ o).isList (by rw [Paired.size hv]; omega) ?_
      rw [Paired.size hv]
      exact .tok S (.int _ _)
    · first | (obtain ⟨rfl, rfl⟩ := pair_some e) | cases e
  · first | (obtain ⟨rfl, rfl⟩ := pair_some e) | cases e
end
end Mine
end

/-! part Q1 -/
section
set_option maxRecDepth 10000
set_option linter.unusedVariables false
open PySem PyProof.Rows
namespace Mine
theorem len_one {vs : List Value} (h : vs.length = 1) : ∃ a, vs = [a] := by
  cases vs with
  | nil => cases h
  | cons a vs => exact ⟨a, by rw [List.eq_nil_of_length_eq_zero (Nat.succ.inj h)]⟩
theorem len_two {vs : List Value} (h : vs.length = 2) : ∃ a b, vs = [a, b] := by
  cases vs with
  | nil => cases h
  | cons a vs => obtain ⟨b, rfl⟩ := len_one (Nat.succ.inj h); exact ⟨a, b, rfl⟩
theorem len_three {vs : List Value} (h : vs.length = 3) : ∃ a b c, vs = [a, b, c] := by
  cases vs with
  | nil => cases h
  | cons a vs => obtain ⟨b, c, rfl⟩ := len_two (Nat.succ.inj h); exact ⟨a, b, c, rfl⟩
/-! the walk's notions, closed: the elaborator is not to look inside (printed by gen_q1.py) -/
structure iSE (prog : Program) (w : World) (B : Heap) (k : Nat) (sc : Scope) (vm : List Str) (ex : Expr) (f : Ex) : Prop where
  h : SE prog w B k sc vm ex f
structure iST (prog : Program) (w : World) (B : Heap) (k : Nat) (sc : Scope) (vm : List Str) (ex : Expr) (f : Tx) : Prop where
  h : ST prog w B k sc vm ex f
structure iSL (prog : Program) (w : World) (B : Heap) (k : Nat) (sc : Scope) (vm : List Str) (es : List Expr) (fs : List Ex) : Prop where
  h : SL prog w B k sc vm es fs
structure iSP (prog : Program) (w : World) (B : Heap) (k : Nat) (sc : Scope) (vm : List Str) (e : Option Expr) (f : Ex) : Prop where
  h : SP prog w B k sc vm e f
structure iSA (prog : Program) (w : World) (B : Heap) (k : Nat) (sc : Scope) (vm : List Str) (op : BoolOp) (es : List Expr) (f : Tx) : Prop where
  h : SA prog w B k sc vm op es f
structure iSS (prog : Program) (w : World) (B : Heap) (k : Nat) (sc : Scope) (vm : List Str) (st : List Stmt) (g : Sx) : Prop where
  h : SS prog w B k sc vm st g
structure iS1 (prog : Program) (w : World) (B : Heap) (k : Nat) (sc : Scope) (vm : List Str) (st : Stmt) (g : Sx) : Prop where
  h : S1 prog w B k sc vm st g
structure iSG (prog : Program) (w : World) (B : Heap) (k : Nat) (sc : Scope) (vm : List Str) (W : Env → List Addr) (t : Expr) (tg : Tg) : Prop where
  h : SG prog w B k sc vm W t tg
structure iSI (prog : Program) (w : World) (B : Heap) (k : Nat) (sc : Scope) (vm : List Str) (ifs : List Expr) (f : Tx) : Prop where
  h : SI prog w B k sc vm ifs f
structure iSN (prog : Program) (w : World) (B : Heap) (k : Nat) (sc : Scope) (vm : List Str) (code : Value → Env → Sem Unit) (inn : Nat → Lo → Hp → Option (Lo × Hp)) : Prop where
  h : SN prog w B k sc vm code inn
section
variable {prog : Program} {w : World} {B : Heap} {k : Nat} {sc : Scope} {vm : List Str}

theorem iSE.var {n : Nat} {x : Str} {pos : Pos} (hn : vm[n]? = some x) (hkd : sc.names.lookup x = some .local ∨ sc.names.lookup x = some .cell ∨ sc.names.lookup x = some .free) (hcd : (x == ("__classdict__" : Str)) = false := by decide) (hd : (x == ("__debug__" : Str)) = false := by decide) : iSE prog w B k sc vm (.Name x pos) (eVar n) :=
  ⟨SE.var hn hkd hcd hd⟩
theorem iSE.int {i : Int} {kk : Nat} {pos : Pos} : iSE prog w B k sc vm (.Constant (.int i) kk pos) (eVal (.int i)) :=
  ⟨SE.int ⟩
theorem iSE.str {x y : Str} {kk : Nat} {pos : Pos} (hxy : x = y) : iSE prog w B k sc vm (.Constant (.str x) kk pos) (eVal (.str y)) :=
  ⟨SE.str hxy⟩
theorem iSE.bool {b : Bool} {kk : Nat} {pos : Pos} : iSE prog w B k sc vm (.Constant (.bool b) kk pos) (eVal (.bool b)) :=
  ⟨SE.bool ⟩
theorem iSE.none {kk : Nat} {pos : Pos} : iSE prog w B k sc vm (.Constant .none kk pos) (eVal .none) :=
  ⟨SE.none ⟩
theorem iSE.bin {op : Operator} {l r : Expr} {pos : Pos} {f g : Ex} {h : V → V → Hp → Option (V × Hp)} (hf : iSE prog w B k sc vm l f) (hg : iSE prog w B k sc vm r g) (ho : OpOk prog w B k (binaryOp op) h) : iSE prog w B k sc vm (.BinOp l op r pos) (bind2 f g h) :=
  ⟨SE.bin hf.h hg.h ho⟩
theorem iSE.cmp {op : CmpOp} {l r : Expr} {pos : Pos} {f g : Ex} {h : V → V → Hp → Option (V × Hp)} (hf : iSE prog w B k sc vm l f) (hg : iSE prog w B k sc vm r g) (ho : OpOk prog w B k (compareOp op) h) (hm : behindInMarks op r = false := by with_unfolding_all rfl) : iSE prog w B k sc vm (.Compare l [op] [r] pos) (bind2 f g h) :=
  ⟨SE.cmp hf.h hg.h ho hm⟩
theorem iST.of {ex : Expr} {f : Ex} (hf : iSE prog w B k sc vm ex f) (he : ∀ env, isTrue ex env (eval ex env) = (do let v ← eval ex env; standAt ex.pos; holding [v] (truthy v)) := by intro _; rfl) :
    iST prog w B k sc vm ex (tVal f) :=
  ⟨ST.of hf.h he⟩
theorem iST.cmp {op : CmpOp} {l r : Expr} {pos : Pos} {f g : Ex} {h : V → V → Hp → Option (V × Hp)} (hf : iSE prog w B k sc vm l f) (hg : iSE prog w B k sc vm r g) (ho : OpOk prog w B k (compareOp op) h) (hm : behindInMarks op r = false := by with_unfolding_all rfl) : iST prog w B k sc vm (.Compare l [op] [r] pos) (tVal (bind2 f g h)) :=
  ⟨ST.cmp hf.h hg.h ho hm⟩
theorem iST.not {x : Expr} {pos : Pos} {f : Tx} (hf : iST prog w B k sc vm x f) : iST prog w B k sc vm (.UnaryOp .Not x pos) (tNot f) :=
  ⟨ST.not hf.h⟩
theorem iSA.andNil  : iSA prog w B k sc vm .And [] tTrue :=
  ⟨SA.andNil ⟩
theorem iSA.orNil  : iSA prog w B k sc vm .Or [] tFalse :=
  ⟨SA.orNil ⟩
theorem iSA.and {x : Expr} {rest : List Expr} {f g : Tx} (hf : iST prog w B k sc vm x f) (hg : iSA prog w B k sc vm .And rest g) : iSA prog w B k sc vm .And (x :: rest) (tAnd f g) :=
  ⟨SA.and hf.h hg.h⟩
theorem iSA.or {x : Expr} {rest : List Expr} {f g : Tx} (hf : iST prog w B k sc vm x f) (hg : iSA prog w B k sc vm .Or rest g) : iSA prog w B k sc vm .Or (x :: rest) (tOr f g) :=
  ⟨SA.or hf.h hg.h⟩
theorem iST.bools {op : BoolOp} {es : List Expr} {pos : Pos} {f : Tx} (hf : iSA prog w B k sc vm op es f) : iST prog w B k sc vm (.BoolOp op es pos) f :=
  ⟨ST.bools hf.h⟩
theorem iSE.and {x y : Expr} {pos : Pos} {f g : Ex} (hf : iSE prog w B k sc vm x f) (hg : iSE prog w B k sc vm y g) : iSE prog w B k sc vm (.BoolOp .And [x, y] pos) (eAnd f g) :=
  ⟨SE.and hf.h hg.h⟩
theorem iSE.or {x y : Expr} {pos : Pos} {f g : Ex} (hf : iSE prog w B k sc vm x f) (hg : iSE prog w B k sc vm y g) : iSE prog w B k sc vm (.BoolOp .Or [x, y] pos) (eOr f g) :=
  ⟨SE.or hf.h hg.h⟩
theorem iSE.ifexp {t x y : Expr} {pos : Pos} {ft : Tx} {f g : Ex} (ht : iST prog w B k sc vm t ft) (hf : iSE prog w B k sc vm x f) (hg : iSE prog w B k sc vm y g) :
    iSE prog w B k sc vm (.IfExp t x y pos) (eIf ft f g) :=
  ⟨SE.ifexp ht.h hf.h hg.h⟩
theorem iSL.nil  : iSL prog w B k sc vm [] [] :=
  ⟨SL.nil ⟩
theorem iSL.cons {e : Expr} {es : List Expr} {f : Ex} {fs : List Ex} (hf : iSE prog w B k sc vm e f) (hs : iSL prog w B k sc vm es fs) (hst : ∀ env, starEach (e :: es) env = (false, eval e env) :: starEach es env := by intro _; rfl) : iSL prog w B k sc vm (e :: es) (f :: fs) :=
  ⟨SL.cons hf.h hs.h hst⟩
theorem iSE.list {es : List Expr} {fs : List Ex} {pos : Pos} (h : iSL prog w B k sc vm es fs) (hl : fs.length ≤ sizeLine := by decide) : iSE prog w B k sc vm (.List es pos) (eList fs) :=
  ⟨SE.list h.h hl⟩
theorem iSE.sub {value slice : Expr} {pos : Pos} {f g : Ex} (hf : iSE prog w B k sc vm value f) (hg : iSE prog w B k sc vm slice g) (hs : plainSlice slice = true := by rfl) :
    iSE prog w B k sc vm (.Subscript value slice pos) (bind2 f g sub) :=
  ⟨SE.sub hf.h hg.h hs⟩
theorem iSP.none  : iSP prog w B k sc vm none (eVal .none) :=
  ⟨SP.none ⟩
theorem iSP.some {e : Expr} {f : Ex} (h : iSE prog w B k sc vm e f) : iSP prog w B k sc vm (some e) f :=
  ⟨SP.some h.h⟩
theorem iSE.slice {value : Expr} {lo hi : Option Expr} {p pos : Pos} {f fl fu : Ex} (hf : iSE prog w B k sc vm value f) (hl : iSP prog w B k sc vm lo fl) (hu : iSP prog w B k sc vm hi fu) :
    iSE prog w B k sc vm (.Subscript value (.Slice lo hi Option.none p) pos) (eCut f fl fu) :=
  ⟨SE.slice hf.h hl.h hu.h⟩
theorem iSE.globInt {mg : Str → Option Value} {x : Str} {i : Int} {pos : Pos} (G : GF B mg) (hx : ∃ t, mg x = some (.int i t)) (hk : sc.names.lookup x = some .globalImplicit) (hd : (x == ("__debug__" : Str)) = false := by decide) : iSE prog w B k sc vm (.Name x pos) (eVal (.int i)) :=
  ⟨SE.globInt G hx hk hd⟩
theorem iSE.call {mg : Str → Option Value} {x : Str} {f : Value} {e : Expr} {es : List Expr} {fs : List Ex} {h : List V → Hp → Option (V × Hp)} {p pos : Pos} (G : GF B mg) (hx : NameIs mg x f) (hc : Callee B f) (hk : sc.names.lookup x = some .globalImplicit) (hs : iSL prog w B k sc vm (e :: es) fs) (ho : CallOk prog w B k f h) (hst : ∀ env, starEach (e :: es) env = (false, eval e env) :: starEach es env := by intro _; rfl) (hpl : ∀ pos env, (backTo pos (starEach es env)).any (·.1) = false := by intro _ _; rfl) (hd : (x == ("__debug__" : Str)) = false := by decide) :
    iSE prog w B k sc vm (.Call (.Name x p) (e :: es) [] pos) (eCall fs h) :=
  ⟨SE.call G hx hc hk hs.h ho hst hpl hd⟩
theorem iSE.meth0 {o : Expr} {name : Str} {T id : String} {f : Ex} {h : List V → Hp → Option (V × Hp)} {apos pos : Pos} (pa : PlainAttrs T) (slot : Slot T name id) (hty : typeOf (.builtin id) = pure (.type "method_descriptor")) (ho : CallOk prog w B k (.builtin id) h) (hf : iSE prog w B k sc vm o f) (hbase : ∀ env, attributeBase o name env (eval o env) = eval o env := by intro _; rfl) (hline : (apos.endLine == pos.line) = true := by rfl) : iSE prog w B k sc vm (.Call (.Attribute o name apos) [] [] pos) (eMeth T f [] h) :=
  ⟨SE.meth0 pa slot hty ho hf.h hbase hline⟩
theorem iSE.meth1 {o x : Expr} {name : Str} {T id : String} {f g : Ex} {h : List V → Hp → Option (V × Hp)} {apos pos : Pos} (pa : PlainAttrs T) (slot : Slot T name id) (hty : typeOf (.builtin id) = pure (.type "method_descriptor")) (ho : CallOk prog w B k (.builtin id) h) (hf : iSE prog w B k sc vm o f) (hg : iSE prog w B k sc vm x g) (hbase : ∀ env, attributeBase o name env (eval o env) = eval o env := by intro _; rfl) (hfew : ∀ env, ((backTo pos (starEach [x] env)).all (fun x => !x.1) && (backToKw pos (keywordEach [] env)).all (fun x => x.1.isSome)
      && decide ([x].length + ([] : List Keyword).length + (if ([] : List Keyword).isEmpty then 0 else 1) < 30)) = true := by intro _; rfl) (hst : ∀ env, starEach [x] env = [(false, eval x env)] := by intro _; rfl) (hline : (apos.endLine == pos.line) = true := by rfl) : iSE prog w B k sc vm (.Call (.Attribute o name apos) [x] [] pos) (eMeth T f [g] h) :=
  ⟨SE.meth1 pa slot hty ho hf.h hg.h hbase hfew hst hline⟩
theorem iSE.setIn {mg : Str → Option Value} {l : Expr} {x : Str} {f : Ex} {S : Int → Bool} {n : Nat} {a : Addr} {p pos : Pos} (G : GF B mg) (hx : mg x = some (.ref a)) (hk : sc.names.lookup x = some .globalImplicit) (hs : ∀ h : Heap, (∀ b o, B.get? b = some o → h.get? b = some o) → h.SetOf (intKind prog w) a S n) (hf : iSE prog w B k sc vm l f) (hd : (x == ("__debug__" : Str)) = false := by decide) :
    iSE prog w B k sc vm (.Compare l [.In] [.Name x p] pos) (eSetIn f S) :=
  ⟨SE.setIn G hx hk hs hf.h hd⟩
theorem iSE.dictGet {mg : Str → Option Value} {e : Expr} {x : Str} {f : Ex} {tb : Int → Option Str} {a : Addr} {p apos pos : Pos} (G : GF B mg) (hx : mg x = some (.ref a)) (hk : sc.names.lookup x = some .globalImplicit) (hs : ∀ h : Heap, (∀ b o, B.get? b = some o → h.get? b = some o) → ∃ F, h.MapOf (intKind prog w) a F ∧ ∀ i, (tb i = Option.none → F i = Option.none) ∧ ∀ y, tb i = some y → ∃ t, F i = some (.str y t)) (hm : (a == sysModules) = false) (hf : iSE prog w B k sc vm e f) (hd : (x == ("__debug__" : Str)) = false := by decide) (hbase : ∀ env, attributeBase (.Name x p) "get" env (eval (.Name x p) env) = eval (.Name x p) env := by intro _; rfl) (hfew : ∀ env, ((backTo pos (starEach [e] env)).all (fun x => !x.1) && (backToKw pos (keywordEach [] env)).all (fun x => x.1.isSome)
      && decide ([e].length + ([] : List Keyword).length + (if ([] : List Keyword).isEmpty then 0 else 1) < 30)) = true := by intro _; rfl) (hst : ∀ env, starEach [e] env = [(false, eval e env)] := by intro _; rfl) (hline : (apos.endLine == pos.line) = true := by rfl) :
    iSE prog w B k sc vm (.Call (.Attribute (.Name x p) "get" apos) [e] [] pos) (eGet f tb) :=
  ⟨SE.dictGet G hx hk hs hm hf.h hd hbase hfew hst hline⟩
theorem iS1.assign {n : Nat} {x : Str} {e : Expr} {p pos : Pos} {f : Ex} (hn : vm[n]? = some x) (hkd : Held sc x) (hf : iSE prog w B k sc vm e f) (hs : ∀ env, swapsWith e (some (.Name x p)) pos.line env = pure false := by intro _; rfl) : iS1 prog w B k sc vm (.Assign [.Name x p] e pos) (gAssign n f) :=
  ⟨S1.assign hn hkd hf.h hs⟩
theorem iS1.assign2 {n n' : Nat} {x y : Str} {e : Expr} {p p' pos : Pos} {f : Ex} (hn : vm[n]? = some x) (hkd : Held sc x) (hn' : vm[n']? = some y) (hkd' : Held sc y) (hf : iSE prog w B k sc vm e f) (hsw : ∀ env, swappedStores [.Name x p, .Name y p'] e env = pure Option.none := by intro _; rfl) : iS1 prog w B k sc vm (.Assign [.Name x p, .Name y p'] e pos) (gAssign2 n n' f) :=
  ⟨S1.assign2 hn hkd hn' hkd' hf.h hsw⟩
theorem iS1.aug {n : Nat} {x : Str} {op : Operator} {e : Expr} {p pos : Pos} {f : Ex} {h : V → V → Hp → Option (V × Hp)} (hn : vm[n]? = some x) (hkd : Held sc x) (hf : iSE prog w B k sc vm e f) (ho : OpOk prog w B k (inplaceOp op) h) (hcd : (x == ("__classdict__" : Str)) = false := by decide) : iS1 prog w B k sc vm (.AugAssign (.Name x p) op e pos) (gAug n f h) :=
  ⟨S1.aug hn hkd hf.h ho hcd⟩
theorem iS1.expr {e : Expr} {pos : Pos} {f : Ex} (hf : iSE prog w B k sc vm e f) (hi : ∀ env : Env, env.scope.kind = .function → interactive env = false := by intro env h; simp [interactive, h]) (hs : ∀ env, swapsWith e Option.none pos.line env = pure false := by intro _; rfl) :
    iS1 prog w B k sc vm (.Expr e pos) (gExpr f) :=
  ⟨S1.expr hf.h hi hs⟩
theorem iS1.ret {e : Expr} {pos : Pos} {f : Ex} (hf : iSE prog w B k sc vm e f) : iS1 prog w B k sc vm (.Return (some e) pos) (gRet f) :=
  ⟨S1.ret hf.h⟩
theorem iSS.nil  : iSS prog w B k sc vm [] gNil :=
  ⟨SS.nil ⟩
theorem iSS.cons {st : Stmt} {rest : List Stmt} {a b : Sx} (ha : iS1 prog w B k sc vm st a) (hb : iSS prog w B k sc vm rest b) : iSS prog w B k sc vm (st :: rest) (gSeq a b) :=
  ⟨SS.cons ha.h hb.h⟩
theorem iS1.ite {t : Expr} {xs ys : List Stmt} {pos : Pos} {ft : Tx} {a b : Sx} (ht : iST prog w B k sc vm t ft) (ha : iSS prog w B k sc vm xs a) (hb : iSS prog w B k sc vm ys b) :
    iS1 prog w B k sc vm (.If t xs ys pos) (gIf ft a b) :=
  ⟨S1.ite ht.h ha.h hb.h⟩
theorem iS1.setItem {e o i : Expr} {p pos : Pos} {f g h : Ex} (hf : iSE prog w B k sc vm e f) (hg : iSE prog w B k sc vm o g) (hh : iSE prog w B k sc vm i h) (hs : ∀ env, swapsWith e (some (.Subscript o i p)) pos.line env = pure false := by intro _; rfl) : iS1 prog w B k sc vm (.Assign [.Subscript o i p] e pos) (gSetItem f g h) :=
  ⟨S1.setItem hf.h hg.h hh.h hs⟩
theorem iS1.swap {n n' : Nat} {x y : Str} {c1 c2 : Nat} {p p' q q' p1 p2 pos : Pos} (hn : vm[n]? = some x) (hn' : vm[n']? = some y) (hx : sc.names.lookup x = some .local) (hy : sc.names.lookup y = some .local) (hsw : ∀ env, EO env sc → swappedStores [.Tuple [.Name x p, .Name y p'] c1 p1] (.Tuple [.Name y q, .Name x q'] c2 p2) env = pure (some [x, y])) (hcx : (x == ("__classdict__" : Str)) = false := by decide) (hcy : (y == ("__classdict__" : Str)) = false := by decide) (hdx : (x == ("__debug__" : Str)) = false := by decide) (hdy : (y == ("__debug__" : Str)) = false := by decide) :
    iS1 prog w B k sc vm (.Assign [.Tuple [.Name x p, .Name y p'] c1 p1] (.Tuple [.Name y q, .Name x q'] c2 p2) pos) (gSwap n n') :=
  ⟨S1.swap hn hn' hx hy hsw hcx hcy hdx hdy⟩
theorem iS1.while {t : Expr} {xs : List Stmt} {pos : Pos} {ft : Tx} {b : Sx} (N : Nat) (ht : iST prog w B k sc vm t ft) (hb : iSS prog w B k sc vm xs b) :
    iS1 prog w B k sc vm (.While t xs [] pos) (gWhile ft b N) :=
  ⟨S1.while N ht.h hb.h⟩
theorem iSG.name {n : Nat} {x : Str} {p : Pos} (hn : vm[n]? = some x) (hkd : Held sc x) : iSG prog w B k sc vm own (.Name x p) (tName n) :=
  ⟨SG.name hn hkd⟩
theorem iSG.local {n : Nat} {x : Str} {p : Pos} (hn : vm[n]? = some x) (h : sc.names.lookup x = some .local) : iSG prog w B k sc vm loc1 (.Name x p) (tName n) :=
  ⟨SG.local hn h⟩
theorem iSG.pair {n n' : Nat} {x y : Str} {c1 : Nat} {p p' p1 : Pos} (hn : vm[n]? = some x) (h : sc.names.lookup x = some .local) (hn' : vm[n']? = some y) (h' : sc.names.lookup y = some .local) (he : ∀ env, assignEach [.Name x p, .Name y p'] env = [(false, assign (.Name x p) env), (false, assign (.Name y p') env)] := by intro _; rfl) :
    iSG prog w B k sc vm loc1 (.Tuple [.Name x p, .Name y p'] c1 p1) (tPair n n') :=
  ⟨SG.pair hn h hn' h' he⟩
theorem iS1.for {t it : Expr} {body : List Stmt} {pos : Pos} {f : Ex} {tg : Tg} {b : Sx} (hf : iSE prog w B k sc vm it f) (ht : iSG prog w B k sc vm own t tg) (hbd : iSS prog w B k sc vm body b) (hs : ∀ env x, foldedSetIterable it env x = pure x := by intro _ _; rfl) (hlt : ∀ I v, letOwnedTupleGo t (.ref I) v = pure () := by intro _ _; rfl) :
    iS1 prog w B k sc vm (.For t it body [] pos) (gFor f tg b) :=
  ⟨S1.for hf.h ht.h hbd.h hs hlt⟩
theorem iSI.nil  : iSI prog w B k sc vm [] tTrue :=
  ⟨SI.nil ⟩
theorem iSI.one {c : Expr} {f : Tx} (h : iST prog w B k sc vm c f) : iSI prog w B k sc vm [c] f :=
  ⟨SI.one h.h⟩
theorem iSN.emit {elt : Expr} {f : Ex} (hf : iSE prog w B k sc vm elt f) : iSN prog w B k sc vm (emitOf elt) (cEmit f) :=
  ⟨SN.emit hf.h⟩
theorem iSN.nest {elt : Expr} {g : Comprehension} {target iter : Expr} {ifs : List Expr} {scope : Scope} {pos : Pos} {f : Ex} {tg : Tg} {tx : Tx} {inn : Nat → Lo → Hp → Option (Lo × Hp)} (hf : iSE prog w B k sc vm iter f) (ht : iSG prog w B k sc vm loc1 target tg) (hi : iSI prog w B k sc vm ifs tx) (hc : iSN prog w B k sc vm (emitOf elt) inn) (hs : ∀ env x, foldedSetIterable iter env x = pure x := by intro _ _; rfl) (hlt : calmTarget target = true := by rfl) :
    iSN prog w B k sc vm (nestOf (.ListComp elt [g, ⟨target, iter, ifs, 0⟩] scope pos) iter) (cNest f tg tx inn) :=
  ⟨SN.nest hf.h ht.h hi.h hc.h hs hlt⟩
theorem iSE.comp {elt target iter : Expr} {ifs : List Expr} {rest : List Comprehension} {scope : Scope} {cpos : Pos} {code : Value → Env → Sem Unit} {f : Ex} {vm' : List Str} {srcs : List (Option Nat)} {tg : Tg} {tx : Tx} {inn : Nat → Lo → Hp → Option (Lo × Hp)} (heq : TurnEq (.ListComp elt (⟨target, iter, ifs, 0⟩ :: rest) scope cpos) 0 target iter.pos ifs code) (Z : CSh sc vm scope vm' srcs) (hf : iSE prog w B k sc vm iter f) (ht : iSG prog w B k (relab scope sc) vm' loc1 target tg) (hi : iSI prog w B k (relab scope sc) vm' ifs tx) (hc : iSN prog w B k (relab scope sc) vm' code inn) (hs : ∀ env x, foldedSetIterable iter env x = pure x := by intro _ _; rfl) (hlt : calmTarget target = true := by rfl) :
    iSE prog w B k sc vm (.ListComp elt (⟨target, iter, ifs, 0⟩ :: rest) scope cpos) (eComp f srcs tg tx inn) :=
  ⟨SE.comp heq Z hf.h ht.h hi.h hc.h hs hlt⟩
theorem iS1.assignComp {n : Nat} {y : Str} {py spos : Pos} {elt target iter : Expr} {ifs : List Expr} {rest : List Comprehension} {scope : Scope} {cpos : Pos} {code : Value → Env → Sem Unit} {f : Ex} {vm' : List Str} {srcs : List (Option Nat)} {tg : Tg} {tx : Tx} {inn : Nat → Lo → Hp → Option (Lo × Hp)} (hn : vm[n]? = some y) (hkd : Held sc y) (hsw : ∀ env, EO env sc → swapsWith (.ListComp elt (⟨target, iter, ifs, 0⟩ :: rest) scope cpos) (some (.Name y py)) spos.line env = pure true) (heq : TurnEq (.ListComp elt (⟨target, iter, ifs, 0⟩ :: rest) scope cpos) 0 target iter.pos ifs code) (Z : CSh sc vm scope vm' srcs) (hf : iSE prog w B k sc vm iter f) (ht : iSG prog w B k (relab scope sc) vm' loc1 target tg) (hi : iSI prog w B k (relab scope sc) vm' ifs tx) (hc : iSN prog w B k (relab scope sc) vm' code inn) (hs : ∀ env x, foldedSetIterable iter env x = pure x := by intro _ _; rfl) (hlt : calmTarget target = true := by rfl) :
    iS1 prog w B k sc vm (.Assign [.Name y py] (.ListComp elt (⟨target, iter, ifs, 0⟩ :: rest) scope cpos) spos) (gAssign n (eComp f srcs tg tx inn)) :=
  ⟨S1.assignComp hn hkd hsw heq Z hf.h ht.h hi.h hc.h hs hlt⟩
theorem iSL.ints {es : List Expr} {xs : List Int} (h : ints? es = some xs) : iSL prog w B k sc vm es (iVs xs) :=
  ⟨SL.ints h⟩
theorem iSL.strs {es : List Expr} {xs : List Str} (h : strs? es = some xs) : iSL prog w B k sc vm es (sVs xs) :=
  ⟨SL.strs h⟩
theorem iSE.typ {mg : Str → Option Value} {x : Str} {T : String} {pos : Pos} (G : GF B mg) (hx : NameIs mg x (.type T)) (hk : sc.names.lookup x = some .globalImplicit) (hd : (x == ("__debug__" : Str)) = false := by decide) : iSE prog w B k sc vm (.Name x pos) (eVal (.typ T)) :=
  ⟨SE.typ G hx hk hd⟩
theorem iS1.strike {n : Nat} {x : Str} {p1 p2 p3 p4 p5 p6 p7 p8 p9 p10 p11 : Pos} {k1 k2 k3 : Nat} (hn : vm[n]? = some x) (hx : sc.names.lookup x = some .local) (hcd : (x == ("__classdict__" : Str)) = false := by decide) (hdb : (x == ("__debug__" : Str)) = false := by decide) (hm : behindInMarks .In (.Name x p2) = false := by with_unfolding_all rfl) (hline : (p6.endLine == p9.line) = true := by rfl) :
    iS1 prog w B k sc vm (.While (.Compare (.Constant (.str "()") k1 p1) [.In] [.Name x p2] p3) [.Assign [.Name x p4] (.Call (.Attribute (.Name x p5) "replace" p6) [.Constant (.str "()") k2 p7, .Constant (.str "") k3 p8] [] p9) p10] [] p11) (gStrike n) :=
  ⟨S1.strike hn hx hcd hdb hm hline⟩
theorem iSE.sliceB {al : Addr} {xs : List V} {value : Expr} {lo hi : Option Expr} {p pos : Pos} {f fl fu : Ex} (hB : BaseL B al xs) (hf : iSE prog w B k sc vm value f) (hl : iSP prog w B k sc vm lo fl) (hu : iSP prog w B k sc vm hi fu) :
    iSE prog w B k sc vm (.Subscript value (.Slice lo hi Option.none p) pos) (eCutB al xs f fl fu) :=
  ⟨SE.sliceB hB hf.h hl.h hu.h⟩
end
end Mine
end

/-! part W1 -/
section
set_option maxRecDepth 100000
set_option linter.unusedVariables false
set_option maxHeartbeats 4000000
open PySem PyProof.Rows
namespace Mine
section
variable {w : World} {B : Heap} {k : Nat} {mg : Str → Option Value}

noncomputable def vm_parse_varint : List Str := ["iterator", "b", "val"]
noncomputable def g_parse_varint : Sx :=
  (gSeq (gAssign 1 (eCall [(eVar 0)] bNext))
  (gSeq (gAssign 2 (bind2 (eVar 1) (eVal (.int 63)) oAnd))
  (gSeq (gWhile (tVal (bind2 (eVar 1) (eVal (.int 64)) oAnd)) (gSeq (gAug 2 (eVal (.int 6)) iShl)
  (gSeq (gAssign 1 (eCall [(eVar 0)] bNext))
  (gSeq (gAug 2 (bind2 (eVar 1) (eVal (.int 63)) oAnd) iOr)
  gNil))) 64)
  (gSeq (gRet (eVar 2))
  gNil))))
theorem g_parse_varint_ok (G : GF B mg) (nnext : NameIs mg "next" (.builtin "next")) : iSS PW w B k (fnScope 5) vm_parse_varint (fnBody 5) (g_parse_varint) := by
  refine iSS.cons ?_ ?_
  · refine iS1.assign (n := 1) rfl (by first | exact .inl (by rfl) | exact .inr (by rfl)) ?_
    · refine iSE.call G nnext (.inl ⟨_, rfl⟩) (by rfl) ?_ bNext_ok
      · refine iSL.cons ?_ ?_
        · refine iSE.var (n := 0) rfl (by first | exact .inl (by rfl) | exact .inr (.inl (by rfl)) | exact .inr (.inr (by rfl)))
        · refine iSL.nil
  · refine iSS.cons ?_ ?_
    · refine iS1.assign (n := 2) rfl (by first | exact .inl (by rfl) | exact .inr (by rfl)) ?_
      · refine iSE.bin ?_ ?_ oAnd_ok
        · refine iSE.var (n := 1) rfl (by first | exact .inl (by rfl) | exact .inr (.inl (by rfl)) | exact .inr (.inr (by rfl)))
        · refine iSE.int
    · refine iSS.cons ?_ ?_
      · refine iS1.while 64 ?_ ?_
        · refine iST.of ?_
          · refine iSE.bin ?_ ?_ oAnd_ok
            · refine iSE.var (n := 1) rfl (by first | exact .inl (by rfl) | exact .inr (.inl (by rfl)) | exact .inr (.inr (by rfl)))
            · refine iSE.int
        · refine iSS.cons ?_ ?_
          · refine iS1.aug (n := 2) rfl (by first | exact .inl (by rfl) | exact .inr (by rfl)) ?_ iShl_ok
            · refine iSE.int
          · refine iSS.cons ?_ ?_
            · refine iS1.assign (n := 1) rfl (by first | exact .inl (by rfl) | exact .inr (by rfl)) ?_
              · refine iSE.call G nnext (.inl ⟨_, rfl⟩) (by rfl) ?_ bNext_ok
                · refine iSL.cons ?_ ?_
                  · refine iSE.var (n := 0) rfl (by first | exact .inl (by rfl) | exact .inr (.inl (by rfl)) | exact .inr (.inr (by rfl)))
                  · refine iSL.nil
            · refine iSS.cons ?_ ?_
              · refine iS1.aug (n := 2) rfl (by first | exact .inl (by rfl) | exact .inr (by rfl)) ?_ iOr_ok
                · refine iSE.bin ?_ ?_ oAnd_ok
                  · refine iSE.var (n := 1) rfl (by first | exact .inl (by rfl) | exact .inr (.inl (by rfl)) | exact .inr (.inr (by rfl)))
                  · refine iSE.int
              · refine iSS.nil
      · refine iSS.cons ?_ ?_
        · refine iS1.ret ?_
          · refine iSE.var (n := 2) rfl (by first | exact .inl (by rfl) | exact .inr (.inl (by rfl)) | exact .inr (.inr (by rfl)))
        · refine iSS.nil
theorem sh_parse_varint : FSh (fnArgs 5) (fnScope 5) [("iterator" : Str)] vm_parse_varint := ⟨by rfl, by rfl, by rfl, by decide +kernel, by decide +kernel, by decide +kernel, by decide +kernel, by decide +kernel⟩
theorem bind_parse_varint (pm cd doc : Value) (vals : List Value) (h : vals.length = [("iterator" : Str)].length) : bindArgs (Calls.docDef "_parse_varint" (fnArgs 5) (fnBody 5) (fnScope 5) pm cd doc) ⟨vals, []⟩ = pure (List.zip [("iterator" : Str)] vals) := by
  obtain ⟨v0, rfl⟩ := len_one h
  rfl
theorem c_parse_varint (G : GF B mg) {a : Addr} (F : FnAt B a "_parse_varint" (fnArgs 5) (fnBody 5) (fnScope 5)) (nnext : NameIs mg "next" (.builtin "next")) : CallOk PW w B (k + 1) (.ref a) (Mine.run (g_parse_varint) 1 2) :=
  CallOk.of_body (m := 2) F G.lim sh_parse_varint bind_parse_varint (g_parse_varint_ok G nnext).h

noncomputable def vmin_table_b1 : List Str := ["code"]
noncomputable def gin_table_b1 (S : Int → Bool) : Sx :=
  (gSeq (gRet (eSetIn (eCall [(eVar 0)] bOrd) S))
  gNil)
theorem gin_table_b1_ok (G : GF B mg) (nord : NameIs mg "ord" (.builtin "ord")) {aS : Addr} {nS : Nat} {S : Int → Bool} (hset : mg "b1_set" = some (.ref aS)) (hsetS : ∀ h : Heap, (∀ b o, B.get? b = some o → h.get? b = some o) → h.SetOf (intKind PW w) aS S nS) : iSS PW w B k (fnScope 8) vmin_table_b1 (fnBody 8) (gin_table_b1 S) := by
  refine iSS.cons ?_ ?_
  · refine iS1.ret ?_
    · refine iSE.setIn G hset (by rfl) hsetS ?_
      · refine iSE.call G nord (.inl ⟨_, rfl⟩) (by rfl) ?_ bOrd_ok
        · refine iSL.cons ?_ ?_
          · refine iSE.var (n := 0) rfl (by first | exact .inl (by rfl) | exact .inr (.inl (by rfl)) | exact .inr (.inr (by rfl)))
          · refine iSL.nil
  · refine iSS.nil
theorem shin_table_b1 : FSh (fnArgs 8) (fnScope 8) [("code" : Str)] vmin_table_b1 := ⟨by rfl, by rfl, by rfl, by decide +kernel, by decide +kernel, by decide +kernel, by decide +kernel, by decide +kernel⟩
theorem bindin_table_b1 (pm cd doc : Value) (vals : List Value) (h : vals.length = [("code" : Str)].length) : bindArgs (Calls.docDef "in_table_b1" (fnArgs 8) (fnBody 8) (fnScope 8) pm cd doc) ⟨vals, []⟩ = pure (List.zip [("code" : Str)] vals) := by
  obtain ⟨v0, rfl⟩ := len_one h
  rfl
theorem cin_table_b1 (G : GF B mg) {a : Addr} (F : FnAt B a "in_table_b1" (fnArgs 8) (fnBody 8) (fnScope 8)) (nord : NameIs mg "ord" (.builtin "ord")) {aS : Addr} {nS : Nat} {S : Int → Bool} (hset : mg "b1_set" = some (.ref aS)) (hsetS : ∀ h : Heap, (∀ b o, B.get? b = some o → h.get? b = some o) → h.SetOf (intKind PW w) aS S nS) : CallOk PW w B (k + 1) (.ref a) (Mine.run (gin_table_b1 S) 1 0) :=
  CallOk.of_body (m := 0) F G.lim shin_table_b1 bindin_table_b1 (gin_table_b1_ok G nord hset hsetS).h

noncomputable def vmmap_table_b3 : List Str := ["code", "r"]
noncomputable def gmap_table_b3 (tb : Int → Option Str) : Sx :=
  (gSeq (gAssign 1 (eGet (eCall [(eVar 0)] bOrd) tb))
  (gSeq (gIf (tVal (bind2 (eVar 1) (eVal .none) cIsNot)) (gSeq (gRet (eVar 1))
  gNil) gNil)
  (gSeq (gRet (eMeth "str" (eVar 0) [] mLower))
  gNil)))
theorem gmap_table_b3_ok (G : GF B mg) (nord : NameIs mg "ord" (.builtin "ord")) {aT : Addr} {tb : Int → Option Str} (htab : mg "b3_exceptions" = some (.ref aT)) (htabT : ∀ h : Heap, (∀ b o, B.get? b = some o → h.get? b = some o) → ∃ F, h.MapOf (intKind PW w) aT F ∧ ∀ i, (tb i = Option.none → F i = Option.none) ∧ ∀ y, tb i = some y → ∃ t, F i = some (.str y t)) (htabM : (aT == sysModules) = false) : iSS PW w B k (fnScope 10) vmmap_table_b3 (fnBody 10) (gmap_table_b3 tb) := by
  refine iSS.cons ?_ ?_
  · refine iS1.assign (n := 1) rfl (by first | exact .inl (by rfl) | exact .inr (by rfl)) ?_
    · refine iSE.dictGet G htab (by rfl) htabT htabM ?_
      · refine iSE.call G nord (.inl ⟨_, rfl⟩) (by rfl) ?_ bOrd_ok
        · refine iSL.cons ?_ ?_
          · refine iSE.var (n := 0) rfl (by first | exact .inl (by rfl) | exact .inr (.inl (by rfl)) | exact .inr (.inr (by rfl)))
          · refine iSL.nil
  · refine iSS.cons ?_ ?_
    · refine iS1.ite ?_ ?_ ?_
      · refine iST.cmp ?_ ?_ cIsNot_ok
        · refine iSE.var (n := 1) rfl (by first | exact .inl (by rfl) | exact .inr (.inl (by rfl)) | exact .inr (.inr (by rfl)))
        · refine iSE.none
      · refine iSS.cons ?_ ?_
        · refine iS1.ret ?_
          · refine iSE.var (n := 1) rfl (by first | exact .inl (by rfl) | exact .inr (.inl (by rfl)) | exact .inr (.inr (by rfl)))
        · refine iSS.nil
      · refine iSS.nil
    · refine iSS.cons ?_ ?_
      · refine iS1.ret ?_
        · refine iSE.meth0 F.plainAttrs_str F.slot_str_lower F.type_str_lower mLower_ok ?_
          · refine iSE.var (n := 0) rfl (by first | exact .inl (by rfl) | exact .inr (.inl (by rfl)) | exact .inr (.inr (by rfl)))
      · refine iSS.nil
theorem shmap_table_b3 : FSh (fnArgs 10) (fnScope 10) [("code" : Str)] vmmap_table_b3 := ⟨by rfl, by rfl, by rfl, by decide +kernel, by decide +kernel, by decide +kernel, by decide +kernel, by decide +kernel⟩
theorem bindmap_table_b3 (pm cd doc : Value) (vals : List Value) (h : vals.length = [("code" : Str)].length) : bindArgs (Calls.docDef "map_table_b3" (fnArgs 10) (fnBody 10) (fnScope 10) pm cd doc) ⟨vals, []⟩ = pure (List.zip [("code" : Str)] vals) := by
  obtain ⟨v0, rfl⟩ := len_one h
  rfl
theorem cmap_table_b3 (G : GF B mg) {a : Addr} (F : FnAt B a "map_table_b3" (fnArgs 10) (fnBody 10) (fnScope 10)) (nord : NameIs mg "ord" (.builtin "ord")) {aT : Addr} {tb : Int → Option Str} (htab : mg "b3_exceptions" = some (.ref aT)) (htabT : ∀ h : Heap, (∀ b o, B.get? b = some o → h.get? b = some o) → ∃ F, h.MapOf (intKind PW w) aT F ∧ ∀ i, (tb i = Option.none → F i = Option.none) ∧ ∀ y, tb i = some y → ∃ t, F i = some (.str y t)) (htabM : (aT == sysModules) = false) : CallOk PW w B (k + 1) (.ref a) (Mine.run (gmap_table_b3 tb) 1 1) :=
  CallOk.of_body (m := 1) F G.lim shmap_table_b3 bindmap_table_b3 (gmap_table_b3_ok G nord htab htabT htabM).h

noncomputable def vm_substitution_cost : List Str := ["ch_a", "ch_b"]
noncomputable def g_substitution_cost : Sx :=
  (gSeq (gIf (tVal (bind2 (eVar 0) (eVar 1) cEq)) (gSeq (gRet (eVal (.int 0)))
  gNil) gNil)
  (gSeq (gIf (tVal (bind2 (eMeth "str" (eVar 0) [] mLower) (eMeth "str" (eVar 1) [] mLower) cEq)) (gSeq (gRet (eVal (.int 1)))
  gNil) gNil)
  (gSeq (gRet (eVal (.int 2)))
  gNil)))
theorem g_substitution_cost_ok (G : GF B mg) (k_CASE_COST : ∃ t, mg "_CASE_COST" = some (.int 1 t)) (k_MOVE_COST : ∃ t, mg "_MOVE_COST" = some (.int 2 t)) : iSS PW w B k (fnScope 15) vm_substitution_cost (fnBody 15) (g_substitution_cost) := by
  refine iSS.cons ?_ ?_
  · refine iS1.ite ?_ ?_ ?_
    · refine iST.cmp ?_ ?_ cEq_ok
      · refine iSE.var (n := 0) rfl (by first | exact .inl (by rfl) | exact .inr (.inl (by rfl)) | exact .inr (.inr (by rfl)))
      · refine iSE.var (n := 1) rfl (by first | exact .inl (by rfl) | exact .inr (.inl (by rfl)) | exact .inr (.inr (by rfl)))
    · refine iSS.cons ?_ ?_
      · refine iS1.ret ?_
        · refine iSE.int
      · refine iSS.nil
    · refine iSS.nil
  · refine iSS.cons ?_ ?_
    · refine iS1.ite ?_ ?_ ?_
      · refine iST.cmp ?_ ?_ cEq_ok
        · refine iSE.meth0 F.plainAttrs_str F.slot_str_lower F.type_str_lower mLower_ok ?_
          · refine iSE.var (n := 0) rfl (by first | exact .inl (by rfl) | exact .inr (.inl (by rfl)) | exact .inr (.inr (by rfl)))
        · refine iSE.meth0 F.plainAttrs_str F.slot_str_lower F.type_str_lower mLower_ok ?_
          · refine iSE.var (n := 1) rfl (by first | exact .inl (by rfl) | exact .inr (.inl (by rfl)) | exact .inr (.inr (by rfl)))
      · refine iSS.cons ?_ ?_
        · refine iS1.ret ?_
          · refine iSE.globInt G k_CASE_COST (by rfl)
        · refine iSS.nil
      · refine iSS.nil
    · refine iSS.cons ?_ ?_
      · refine iS1.ret ?_
        · refine iSE.globInt G k_MOVE_COST (by rfl)
      · refine iSS.nil
theorem sh_substitution_cost : FSh (fnArgs 15) (fnScope 15) [("ch_a" : Str), ("ch_b" : Str)] vm_substitution_cost := ⟨by rfl, by rfl, by rfl, by decide +kernel, by decide +kernel, by decide +kernel, by decide +kernel, by decide +kernel⟩
theorem bind_substitution_cost (pm cd doc : Value) (vals : List Value) (h : vals.length = [("ch_a" : Str), ("ch_b" : Str)].length) : bindArgs (Calls.docDef "_substitution_cost" (fnArgs 15) (fnBody 15) (fnScope 15) pm cd doc) ⟨vals, []⟩ = pure (List.zip [("ch_a" : Str), ("ch_b" : Str)] vals) := by
  obtain ⟨v0, v1, rfl⟩ := len_two h
  rfl
theorem c_substitution_cost (G : GF B mg) {a : Addr} (F : FnAt B a "_substitution_cost" (fnArgs 15) (fnBody 15) (fnScope 15)) (k_CASE_COST : ∃ t, mg "_CASE_COST" = some (.int 1 t)) (k_MOVE_COST : ∃ t, mg "_MOVE_COST" = some (.int 2 t)) : CallOk PW w B (k + 1) (.ref a) (Mine.run (g_substitution_cost) 2 0) :=
  CallOk.of_body (m := 0) F G.lim sh_substitution_cost bind_substitution_cost (g_substitution_cost_ok G k_CASE_COST k_MOVE_COST).h

noncomputable def vm_law_sign : List Str := ["kind", "which", "codes"]
noncomputable def g_law_sign : Sx :=
  (gSeq (gIf (tVal (bind2 (eVar 0) (eVal (.int 2)) cLt)) (gSeq (gRet (bind2 (eVal (.str "()")) (eVar 0) Mine.sub))
  gNil) gNil)
  (gSeq (gIf (tVal (bind2 (eVar 0) (eVal (.int 2)) cEq)) (gSeq (gAssign 2 (bind2 (eList (iVs [173, 847, 6150, 6155, 6156, 6157, 8203, 8204, 8205, 8288, 65279])) (eCall [(eCall [(eVal (.int 65024)), (eVal (.int 65040))] bRange)] bList) oAdd))
  (gSeq (gRet (eCall [(bind2 (eVar 2) (bind2 (eVar 1) (eVal (.int 27)) oMod) Mine.sub)] bChr))
  gNil)) gNil)
  (gSeq (gIf (tVal (bind2 (eVar 0) (eVal (.int 3)) cEq)) (gSeq (gAssign 2 (eList (iVs [42, 120, 172, 174, 8202, 8206, 20013, 65023, 65280])))
  (gSeq (gRet (eCall [(bind2 (eVar 2) (bind2 (eVar 1) (eVal (.int 9)) oMod) Mine.sub)] bChr))
  gNil)) gNil)
  (gSeq (gAssign 2 (eList (iVs [223, 8360, 8470, 13184, 64256, 64257, 64258, 64262])))
  (gSeq (gRet (eCall [(bind2 (eVar 2) (bind2 (eVar 1) (eVal (.int 8)) oMod) Mine.sub)] bChr))
  gNil)))))
theorem g_law_sign_ok (G : GF B mg) (nchr : NameIs mg "chr" (.builtin "chr")) (nlist : NameIs mg "list" (.type "list")) (nrange : NameIs mg "range" (.type "range")) : iSS PW w B k (fnScope 18) vm_law_sign (fnBody 18) (g_law_sign) := by
  refine iSS.cons ?_ ?_
  · refine iS1.ite ?_ ?_ ?_
    · refine iST.cmp ?_ ?_ cLt_ok
      · refine iSE.var (n := 0) rfl (by first | exact .inl (by rfl) | exact .inr (.inl (by rfl)) | exact .inr (.inr (by rfl)))
      · refine iSE.int
    · refine iSS.cons ?_ ?_
      · refine iS1.ret ?_
        · refine iSE.sub ?_ ?_
          · refine iSE.str rfl
          · refine iSE.var (n := 0) rfl (by first | exact .inl (by rfl) | exact .inr (.inl (by rfl)) | exact .inr (.inr (by rfl)))
      · refine iSS.nil
    · refine iSS.nil
  · refine iSS.cons ?_ ?_
    · refine iS1.ite ?_ ?_ ?_
      · refine iST.cmp ?_ ?_ cEq_ok
        · refine iSE.var (n := 0) rfl (by first | exact .inl (by rfl) | exact .inr (.inl (by rfl)) | exact .inr (.inr (by rfl)))
        · refine iSE.int
      · refine iSS.cons ?_ ?_
        · refine iS1.assign (n := 2) rfl (by first | exact .inl (by rfl) | exact .inr (by rfl)) ?_
          · refine iSE.bin ?_ ?_ oAdd_ok
            · refine iSE.list ?_
              · refine iSL.ints (by rfl)
            · refine iSE.call G nlist (.inr (.inl ⟨_, rfl⟩)) (by rfl) ?_ bList_ok
              · refine iSL.cons ?_ ?_
                · refine iSE.call G nrange (.inr (.inl ⟨_, rfl⟩)) (by rfl) ?_ bRange_ok
                  · refine iSL.cons ?_ ?_
                    · refine iSE.int
                    · refine iSL.cons ?_ ?_
                      · refine iSE.int
                      · refine iSL.nil
                · refine iSL.nil
        · refine iSS.cons ?_ ?_
          · refine iS1.ret ?_
            · refine iSE.call G nchr (.inl ⟨_, rfl⟩) (by rfl) ?_ bChr_ok
              · refine iSL.cons ?_ ?_
                · refine iSE.sub ?_ ?_
                  · refine iSE.var (n := 2) rfl (by first | exact .inl (by rfl) | exact .inr (.inl (by rfl)) | exact .inr (.inr (by rfl)))
                  · refine iSE.bin ?_ ?_ oMod_ok
                    · refine iSE.var (n := 1) rfl (by first | exact .inl (by rfl) | exact .inr (.inl (by rfl)) | exact .inr (.inr (by rfl)))
                    · refine iSE.int
                · refine iSL.nil
          · refine iSS.nil
      · refine iSS.nil
    · refine iSS.cons ?_ ?_
      · refine iS1.ite ?_ ?_ ?_
        · refine iST.cmp ?_ ?_ cEq_ok
          · refine iSE.var (n := 0) rfl (by first | exact .inl (by rfl) | exact .inr (.inl (by rfl)) | exact .inr (.inr (by rfl)))
          · refine iSE.int
        · refine iSS.cons ?_ ?_
          · refine iS1.assign (n := 2) rfl (by first | exact .inl (by rfl) | exact .inr (by rfl)) ?_
            · refine iSE.list ?_
              · refine iSL.ints (by rfl)
          · refine iSS.cons ?_ ?_
            · refine iS1.ret ?_
              · refine iSE.call G nchr (.inl ⟨_, rfl⟩) (by rfl) ?_ bChr_ok
                · refine iSL.cons ?_ ?_
                  · refine iSE.sub ?_ ?_
                    · refine iSE.var (n := 2) rfl (by first | exact .inl (by rfl) | exact .inr (.inl (by rfl)) | exact .inr (.inr (by rfl)))
                    · refine iSE.bin ?_ ?_ oMod_ok
                      · refine iSE.var (n := 1) rfl (by first | exact .inl (by rfl) | exact .inr (.inl (by rfl)) | exact .inr (.inr (by rfl)))
                      · refine iSE.int
                  · refine iSL.nil
            · refine iSS.nil
        · refine iSS.nil
      · refine iSS.cons ?_ ?_
        · refine iS1.assign (n := 2) rfl (by first | exact .inl (by rfl) | exact .inr (by rfl)) ?_
          · refine iSE.list ?_
            · refine iSL.ints (by rfl)
        · refine iSS.cons ?_ ?_
          · refine iS1.ret ?_
            · refine iSE.call G nchr (.inl ⟨_, rfl⟩) (by rfl) ?_ bChr_ok
              · refine iSL.cons ?_ ?_
                · refine iSE.sub ?_ ?_
                  · refine iSE.var (n := 2) rfl (by first | exact .inl (by rfl) | exact .inr (.inl (by rfl)) | exact .inr (.inr (by rfl)))
                  · refine iSE.bin ?_ ?_ oMod_ok
                    · refine iSE.var (n := 1) rfl (by first | exact .inl (by rfl) | exact .inr (.inl (by rfl)) | exact .inr (.inr (by rfl)))
                    · refine iSE.int
                · refine iSL.nil
          · refine iSS.nil
theorem sh_law_sign : FSh (fnArgs 18) (fnScope 18) [("kind" : Str), ("which" : Str)] vm_law_sign := ⟨by rfl, by rfl, by rfl, by decide +kernel, by decide +kernel, by decide +kernel, by decide +kernel, by decide +kernel⟩
theorem bind_law_sign (pm cd doc : Value) (vals : List Value) (h : vals.length = [("kind" : Str), ("which" : Str)].length) : bindArgs (Calls.docDef "_law_sign" (fnArgs 18) (fnBody 18) (fnScope 18) pm cd doc) ⟨vals, []⟩ = pure (List.zip [("kind" : Str), ("which" : Str)] vals) := by
  obtain ⟨v0, v1, rfl⟩ := len_two h
  rfl
theorem c_law_sign (G : GF B mg) {a : Addr} (F : FnAt B a "_law_sign" (fnArgs 18) (fnBody 18) (fnScope 18)) (nchr : NameIs mg "chr" (.builtin "chr")) (nlist : NameIs mg "list" (.type "list")) (nrange : NameIs mg "range" (.type "range")) : CallOk PW w B (k + 1) (.ref a) (Mine.run (g_law_sign) 2 1) :=
  CallOk.of_body (m := 1) F G.lim sh_law_sign bind_law_sign (g_law_sign_ok G nchr nlist nrange).h

end
end Mine
end

/-! part W2 -/
section
set_option maxRecDepth 100000
set_option linter.unusedVariables false
set_option maxHeartbeats 4000000
open PySem PyProof.Rows
namespace Mine
section
variable {w : World} {B : Heap} {k : Nat} {mg : Str → Option Value}

noncomputable def vm_law_pieces : List Str := ["numbers", "pieces", "doubled", "number", "kind", "sign", "meant"]
noncomputable def g_law_pieces (h_law_sign : CF) : Sx :=
  (gSeq (gAssign 1 (eList []))
  (gSeq (gAssign 2 (eVal (.bool false)))
  (gSeq (gFor (eVar 0) (tName 3) (gSeq (gAssign 4 (eIf (tAnd (tVal (eVar 2)) (tAnd (tVal (bind2 (bind2 (eVar 3) (eVal (.int 5)) oMod) (eVal (.int 4)) cEq)) tTrue)) (eVal (.int 3)) (bind2 (eVar 3) (eVal (.int 5)) oMod)))
  (gSeq (gAssign 2 (eOr (eVar 2) (bind2 (eVar 4) (eVal (.int 4)) cEq)))
  (gSeq (gAssign 5 (eCall [(eVar 4), (bind2 (eVar 3) (eVal (.int 5)) oDiv)] h_law_sign))
  (gSeq (gIf (tVal (bind2 (eVar 4) (eVal (.int 4)) cEq)) (gSeq (gAssign 6 (bind2 (eList (sVs ["ss", "rs", "no", "pa", "ff", "fi", "fl", "st"])) (bind2 (bind2 (eVar 3) (eVal (.int 5)) oDiv) (eVal (.int 8)) oMod) Mine.sub))
  gNil) (gSeq (gAssign 6 (eIf (tVal (bind2 (eVar 4) (eVal (.int 2)) cEq)) (eVal (.str "")) (eVar 5)))
  gNil))
  (gSeq (gExpr (eMeth "list" (eVar 1) [(eList [(eVar 5), (eVar 6)])] mAppend))
  gNil))))))
  (gSeq (gRet (eVar 1))
  gNil))))
theorem g_law_pieces_ok (G : GF B mg) {a_law_sign : Addr} (x_law_sign : NameIs mg "_law_sign" (.ref a_law_sign)) (c_law_sign : Callee B (.ref a_law_sign)) {h_law_sign : CF} (o_law_sign : CallOk PW w B k (.ref a_law_sign) h_law_sign) : iSS PW w B k (fnScope 19) vm_law_pieces (fnBody 19) (g_law_pieces h_law_sign) := by
  refine iSS.cons ?_ ?_
  · refine iS1.assign (n := 1) rfl (by first | exact .inl (by rfl) | exact .inr (by rfl)) ?_
    · refine iSE.list ?_
      · refine iSL.nil
  · refine iSS.cons ?_ ?_
    · refine iS1.assign (n := 2) rfl (by first | exact .inl (by rfl) | exact .inr (by rfl)) ?_
      · refine iSE.bool
    · refine iSS.cons ?_ ?_
      · refine iS1.for ?_ ?_ ?_
        · refine iSE.var (n := 0) rfl (by first | exact .inl (by rfl) | exact .inr (.inl (by rfl)) | exact .inr (.inr (by rfl)))
        · refine iSG.name (n := 3) rfl (by first | exact .inl (by rfl) | exact .inr (by rfl))
        · refine iSS.cons ?_ ?_
          · refine iS1.assign (n := 4) rfl (by first | exact .inl (by rfl) | exact .inr (by rfl)) ?_
            · refine iSE.ifexp ?_ ?_ ?_
              · refine iST.bools ?_
                · refine iSA.and ?_ ?_
                  · refine iST.of ?_
                    · refine iSE.var (n := 2) rfl (by first | exact .inl (by rfl) | exact .inr (.inl (by rfl)) | exact .inr (.inr (by rfl)))
                  · refine iSA.and ?_ ?_
                    · refine iST.cmp ?_ ?_ cEq_ok
                      · refine iSE.bin ?_ ?_ oMod_ok
                        · refine iSE.var (n := 3) rfl (by first | exact .inl (by rfl) | exact .inr (.inl (by rfl)) | exact .inr (.inr (by rfl)))
                        · refine iSE.int
                      · refine iSE.int
                    · refine iSA.andNil
              · refine iSE.int
              · refine iSE.bin ?_ ?_ oMod_ok
                · refine iSE.var (n := 3) rfl (by first | exact .inl (by rfl) | exact .inr (.inl (by rfl)) | exact .inr (.inr (by rfl)))
                · refine iSE.int
          · refine iSS.cons ?_ ?_
            · refine iS1.assign (n := 2) rfl (by first | exact .inl (by rfl) | exact .inr (by rfl)) ?_
              · refine iSE.or ?_ ?_
                · refine iSE.var (n := 2) rfl (by first | exact .inl (by rfl) | exact .inr (.inl (by rfl)) | exact .inr (.inr (by rfl)))
                · refine iSE.cmp ?_ ?_ cEq_ok
                  · refine iSE.var (n := 4) rfl (by first | exact .inl (by rfl) | exact .inr (.inl (by rfl)) | exact .inr (.inr (by rfl)))
                  · refine iSE.int
            · refine iSS.cons ?_ ?_
              · refine iS1.assign (n := 5) rfl (by first | exact .inl (by rfl) | exact .inr (by rfl)) ?_
                · refine iSE.call G x_law_sign c_law_sign (by rfl) ?_ o_law_sign
                  · refine iSL.cons ?_ ?_
                    · refine iSE.var (n := 4) rfl (by first | exact .inl (by rfl) | exact .inr (.inl (by rfl)) | exact .inr (.inr (by rfl)))
                    · refine iSL.cons ?_ ?_
                      · refine iSE.bin ?_ ?_ oDiv_ok
                        · refine iSE.var (n := 3) rfl (by first | exact .inl (by rfl) | exact .inr (.inl (by rfl)) | exact .inr (.inr (by rfl)))
                        · refine iSE.int
                      · refine iSL.nil
              · refine iSS.cons ?_ ?_
                · refine iS1.ite ?_ ?_ ?_
                  · refine iST.cmp ?_ ?_ cEq_ok
                    · refine iSE.var (n := 4) rfl (by first | exact .inl (by rfl) | exact .inr (.inl (by rfl)) | exact .inr (.inr (by rfl)))
                    · refine iSE.int
                  · refine iSS.cons ?_ ?_
                    · refine iS1.assign (n := 6) rfl (by first | exact .inl (by rfl) | exact .inr (by rfl)) ?_
                      · refine iSE.sub ?_ ?_
                        · refine iSE.list ?_
                          · refine iSL.strs (by rfl)
                        · refine iSE.bin ?_ ?_ oMod_ok
                          · refine iSE.bin ?_ ?_ oDiv_ok
                            · refine iSE.var (n := 3) rfl (by first | exact .inl (by rfl) | exact .inr (.inl (by rfl)) | exact .inr (.inr (by rfl)))
                            · refine iSE.int
                          · refine iSE.int
                    · refine iSS.nil
                  · refine iSS.cons ?_ ?_
                    · refine iS1.assign (n := 6) rfl (by first | exact .inl (by rfl) | exact .inr (by rfl)) ?_
                      · refine iSE.ifexp ?_ ?_ ?_
                        · refine iST.cmp ?_ ?_ cEq_ok
                          · refine iSE.var (n := 4) rfl (by first | exact .inl (by rfl) | exact .inr (.inl (by rfl)) | exact .inr (.inr (by rfl)))
                          · refine iSE.int
                        · refine iSE.str rfl
                        · refine iSE.var (n := 5) rfl (by first | exact .inl (by rfl) | exact .inr (.inl (by rfl)) | exact .inr (.inr (by rfl)))
                    · refine iSS.nil
                · refine iSS.cons ?_ ?_
                  · refine iS1.expr ?_
                    · refine iSE.meth1 F.plainAttrs_list F.slot_list_append F.type_list_append mAppend_ok ?_ ?_
                      · refine iSE.var (n := 1) rfl (by first | exact .inl (by rfl) | exact .inr (.inl (by rfl)) | exact .inr (.inr (by rfl)))
                      · refine iSE.list ?_
                        · refine iSL.cons ?_ ?_
                          · refine iSE.var (n := 5) rfl (by first | exact .inl (by rfl) | exact .inr (.inl (by rfl)) | exact .inr (.inr (by rfl)))
                          · refine iSL.cons ?_ ?_
                            · refine iSE.var (n := 6) rfl (by first | exact .inl (by rfl) | exact .inr (.inl (by rfl)) | exact .inr (.inr (by rfl)))
                            · refine iSL.nil
                  · refine iSS.nil
      · refine iSS.cons ?_ ?_
        · refine iS1.ret ?_
          · refine iSE.var (n := 1) rfl (by first | exact .inl (by rfl) | exact .inr (.inl (by rfl)) | exact .inr (.inr (by rfl)))
        · refine iSS.nil
theorem sh_law_pieces : FSh (fnArgs 19) (fnScope 19) [("numbers" : Str)] vm_law_pieces := ⟨by rfl, by rfl, by rfl, by decide +kernel, by decide +kernel, by decide +kernel, by decide +kernel, by decide +kernel⟩
theorem bind_law_pieces (pm cd doc : Value) (vals : List Value) (h : vals.length = [("numbers" : Str)].length) : bindArgs (Calls.docDef "_law_pieces" (fnArgs 19) (fnBody 19) (fnScope 19) pm cd doc) ⟨vals, []⟩ = pure (List.zip [("numbers" : Str)] vals) := by
  obtain ⟨v0, rfl⟩ := len_one h
  rfl
theorem c_law_pieces (G : GF B mg) {a : Addr} (F : FnAt B a "_law_pieces" (fnArgs 19) (fnBody 19) (fnScope 19)) {a_law_sign : Addr} (x_law_sign : NameIs mg "_law_sign" (.ref a_law_sign)) (c_law_sign : Callee B (.ref a_law_sign)) {h_law_sign : CF} (o_law_sign : CallOk PW w B k (.ref a_law_sign) h_law_sign) : CallOk PW w B (k + 1) (.ref a) (Mine.run (g_law_pieces h_law_sign) 1 6) :=
  CallOk.of_body (m := 6) F G.lim sh_law_pieces bind_law_pieces (g_law_pieces_ok G x_law_sign c_law_sign o_law_sign).h

noncomputable def vm_law_octets : List Str := ["text", "octets", "sign", "code", "digits"]
noncomputable def g_law_octets : Sx :=
  (gSeq (gAssign 1 (eList []))
  (gSeq (gFor (eVar 0) (tName 2) (gSeq (gAssign 3 (eCall [(eVar 2)] bOrd))
  (gSeq (gAssign 4 (eList [(bind2 (eVar 3) (eVal (.int 64)) oMod)]))
  (gSeq (gWhile (tVal (bind2 (eVar 3) (eVal (.int 64)) cGe)) (gSeq (gAug 3 (eVal (.int 64)) iDiv)
  (gSeq (gAssign 4 (bind2 (eList [(bind2 (bind2 (eVar 3) (eVal (.int 64)) oMod) (eVal (.int 64)) oAdd)]) (eVar 4) oAdd))
  gNil)) 64)
  (gSeq (gAug 1 (eVar 4) iAdd)
  gNil)))))
  (gSeq (gRet (eVar 1))
  gNil)))
theorem g_law_octets_ok (G : GF B mg) (nord : NameIs mg "ord" (.builtin "ord")) : iSS PW w B k (fnScope 20) vm_law_octets (fnBody 20) (g_law_octets) := by
  refine iSS.cons ?_ ?_
  · refine iS1.assign (n := 1) rfl (by first | exact .inl (by rfl) | exact .inr (by rfl)) ?_
    · refine iSE.list ?_
      · refine iSL.nil
  · refine iSS.cons ?_ ?_
    · refine iS1.for ?_ ?_ ?_
      · refine iSE.var (n := 0) rfl (by first | exact .inl (by rfl) | exact .inr (.inl (by rfl)) | exact .inr (.inr (by rfl)))
      · refine iSG.name (n := 2) rfl (by first | exact .inl (by rfl) | exact .inr (by rfl))
      · refine iSS.cons ?_ ?_
        · refine iS1.assign (n := 3) rfl (by first | exact .inl (by rfl) | exact .inr (by rfl)) ?_
          · refine iSE.call G nord (.inl ⟨_, rfl⟩) (by rfl) ?_ bOrd_ok
            · refine iSL.cons ?_ ?_
              · refine iSE.var (n := 2) rfl (by first | exact .inl (by rfl) | exact .inr (.inl (by rfl)) | exact .inr (.inr (by rfl)))
              · refine iSL.nil
        · refine iSS.cons ?_ ?_
          · refine iS1.assign (n := 4) rfl (by first | exact .inl (by rfl) | exact .inr (by rfl)) ?_
            · refine iSE.list ?_
              · refine iSL.cons ?_ ?_
                · refine iSE.bin ?_ ?_ oMod_ok
                  · refine iSE.var (n := 3) rfl (by first | exact .inl (by rfl) | exact .inr (.inl (by rfl)) | exact .inr (.inr (by rfl)))
                  · refine iSE.int
                · refine iSL.nil
          · refine iSS.cons ?_ ?_
            · refine iS1.while 64 ?_ ?_
              · refine iST.cmp ?_ ?_ cGe_ok
                · refine iSE.var (n := 3) rfl (by first | exact .inl (by rfl) | exact .inr (.inl (by rfl)) | exact .inr (.inr (by rfl)))
                · refine iSE.int
              · refine iSS.cons ?_ ?_
                · refine iS1.aug (n := 3) rfl (by first | exact .inl (by rfl) | exact .inr (by rfl)) ?_ iDiv_ok
                  · refine iSE.int
                · refine iSS.cons ?_ ?_
                  · refine iS1.assign (n := 4) rfl (by first | exact .inl (by rfl) | exact .inr (by rfl)) ?_
                    · refine iSE.bin ?_ ?_ oAdd_ok
                      · refine iSE.list ?_
                        · refine iSL.cons ?_ ?_
                          · refine iSE.bin ?_ ?_ oAdd_ok
                            · refine iSE.bin ?_ ?_ oMod_ok
                              · refine iSE.var (n := 3) rfl (by first | exact .inl (by rfl) | exact .inr (.inl (by rfl)) | exact .inr (.inr (by rfl)))
                              · refine iSE.int
                            · refine iSE.int
                          · refine iSL.nil
                      · refine iSE.var (n := 4) rfl (by first | exact .inl (by rfl) | exact .inr (.inl (by rfl)) | exact .inr (.inr (by rfl)))
                  · refine iSS.nil
            · refine iSS.cons ?_ ?_
              · refine iS1.aug (n := 1) rfl (by first | exact .inl (by rfl) | exact .inr (by rfl)) ?_ iAdd_ok
                · refine iSE.var (n := 4) rfl (by first | exact .inl (by rfl) | exact .inr (.inl (by rfl)) | exact .inr (.inr (by rfl)))
              · refine iSS.nil
    · refine iSS.cons ?_ ?_
      · refine iS1.ret ?_
        · refine iSE.var (n := 1) rfl (by first | exact .inl (by rfl) | exact .inr (.inl (by rfl)) | exact .inr (.inr (by rfl)))
      · refine iSS.nil
theorem sh_law_octets : FSh (fnArgs 20) (fnScope 20) [("text" : Str)] vm_law_octets := ⟨by rfl, by rfl, by rfl, by decide +kernel, by decide +kernel, by decide +kernel, by decide +kernel, by decide +kernel⟩
theorem bind_law_octets (pm cd doc : Value) (vals : List Value) (h : vals.length = [("text" : Str)].length) : bindArgs (Calls.docDef "_law_octets" (fnArgs 20) (fnBody 20) (fnScope 20) pm cd doc) ⟨vals, []⟩ = pure (List.zip [("text" : Str)] vals) := by
  obtain ⟨v0, rfl⟩ := len_one h
  rfl
theorem c_law_octets (G : GF B mg) {a : Addr} (F : FnAt B a "_law_octets" (fnArgs 20) (fnBody 20) (fnScope 20)) (nord : NameIs mg "ord" (.builtin "ord")) : CallOk PW w B (k + 1) (.ref a) (Mine.run (g_law_octets) 1 4) :=
  CallOk.of_body (m := 4) F G.lim sh_law_octets bind_law_octets (g_law_octets_ok G nord).h

noncomputable def vm_law_struck : List Str := ["text", "row"]
noncomputable def g_law_struck : Sx :=
  (gSeq (gAssign 1 (eMeth "str" (eVal (.str "")) [(eComp (eVar 0) [none] (tName 0) (tVal (bind2 (eVar 0) (eVal (.str "()")) cIn)) (cEmit (eVar 0)))] mJoin))
  (gSeq (gStrike 1)
  (gSeq (gRet (bind2 (eVar 1) (eVal (.str "")) cEq))
  gNil)))
theorem g_law_struck_ok (G : GF B mg) : iSS PW w B k (fnScope 21) vm_law_struck (fnBody 21) (g_law_struck) := by
  refine iSS.cons ?_ ?_
  · refine iS1.assign (n := 1) rfl (by first | exact .inl (by rfl) | exact .inr (by rfl)) ?_
    · refine iSE.meth1 F.plainAttrs_str F.slot_str_join F.type_str_join mJoin_ok ?_ ?_
      · refine iSE.str rfl
      · refine iSE.comp (vm' := ["sign"]) (srcs := [none]) (turn_one _ _ _ _ _ _) ⟨by rfl, by decide +kernel, by decide +kernel, by decide +kernel, by decide +kernel, by decide +kernel, by decide +kernel⟩ ?_ ?_ ?_ ?_
        · refine iSE.var (n := 0) rfl (by first | exact .inl (by rfl) | exact .inr (.inl (by rfl)) | exact .inr (.inr (by rfl)))
        · refine iSG.local (n := 0) rfl (by rfl)
        · refine iSI.one ?_
          · refine iST.cmp ?_ ?_ cIn_ok
            · refine iSE.var (n := 0) rfl (by first | exact .inl (by rfl) | exact .inr (.inl (by rfl)) | exact .inr (.inr (by rfl)))
            · refine iSE.str rfl
        · refine iSN.emit ?_
          · refine iSE.var (n := 0) rfl (by first | exact .inl (by rfl) | exact .inr (.inl (by rfl)) | exact .inr (.inr (by rfl)))
  · refine iSS.cons ?_ ?_
    · refine iS1.strike (n := 1) rfl (by rfl)
    · refine iSS.cons ?_ ?_
      · refine iS1.ret ?_
        · refine iSE.cmp ?_ ?_ cEq_ok
          · refine iSE.var (n := 1) rfl (by first | exact .inl (by rfl) | exact .inr (.inl (by rfl)) | exact .inr (.inr (by rfl)))
          · refine iSE.str rfl
      · refine iSS.nil
theorem sh_law_struck : FSh (fnArgs 21) (fnScope 21) [("text" : Str)] vm_law_struck := ⟨by rfl, by rfl, by rfl, by decide +kernel, by decide +kernel, by decide +kernel, by decide +kernel, by decide +kernel⟩
theorem bind_law_struck (pm cd doc : Value) (vals : List Value) (h : vals.length = [("text" : Str)].length) : bindArgs (Calls.docDef "_law_struck" (fnArgs 21) (fnBody 21) (fnScope 21) pm cd doc) ⟨vals, []⟩ = pure (List.zip [("text" : Str)] vals) := by
  obtain ⟨v0, rfl⟩ := len_one h
  rfl
theorem c_law_struck (G : GF B mg) {a : Addr} (F : FnAt B a "_law_struck" (fnArgs 21) (fnBody 21) (fnScope 21)) : CallOk PW w B (k + 1) (.ref a) (Mine.run (g_law_struck) 1 1) :=
  CallOk.of_body (m := 1) F G.lim sh_law_struck bind_law_struck (g_law_struck_ok G).h

end
end Mine
end

/-! part W3 -/
section
set_option maxRecDepth 100000
set_option linter.unusedVariables false
set_option maxHeartbeats 4000000
open PySem PyProof.Rows
namespace Mine
section
variable {w : World} {B : Heap} {k : Nat} {mg : Str → Option Value}

noncomputable def vm_law_fewest : List Str := ["text", "fewest", "sign", "after", "height", "rise", "fall"]
noncomputable def g_law_fewest : Sx :=
  (gSeq (gAssign 1 (bind2 (eList [(eVal (.int 0))]) (bind2 (eList [(eVal (.int 99))]) (eCall [(eVar 0)] bLen) oMul) oAdd))
  (gSeq (gFor (eVar 0) (tName 2) (gSeq (gAssign 3 (eList []))
  (gSeq (gFor (eCall [(eCall [(eVar 1)] bLen)] bRange) (tName 4) (gSeq (gAssign 5 (eIf (tVal (bind2 (eVar 4) (eVal (.int 0)) cGt)) (bind2 (bind2 (eVar 1) (bind2 (eVar 4) (eVal (.int 1)) oSub) Mine.sub) (eIf (tVal (bind2 (eVar 2) (eVal (.str "(")) cEq)) (eVal (.int 0)) (eVal (.int 1))) oAdd) (eVal (.int 99))))
  (gSeq (gAssign 6 (eIf (tVal (bind2 (bind2 (eVar 4) (eVal (.int 1)) oAdd) (eCall [(eVar 1)] bLen) cLt)) (bind2 (bind2 (eVar 1) (bind2 (eVar 4) (eVal (.int 1)) oAdd) Mine.sub) (eIf (tVal (bind2 (eVar 2) (eVal (.str ")")) cEq)) (eVal (.int 0)) (eVal (.int 1))) oAdd) (eVal (.int 99))))
  (gSeq (gExpr (eMeth "list" (eVar 3) [(eCall [(eList [(eVar 5), (eVar 6), (bind2 (bind2 (eVar 1) (eVar 4) Mine.sub) (eVal (.int 1)) oAdd)])] bMin)] mAppend))
  gNil))))
  (gSeq (gAssign 1 (eVar 3))
  gNil))))
  (gSeq (gRet (bind2 (eVar 1) (eVal (.int 0)) Mine.sub))
  gNil)))
theorem g_law_fewest_ok (G : GF B mg) (nlen : NameIs mg "len" (.builtin "len")) (nmin : NameIs mg "min" (.builtin "min")) (nrange : NameIs mg "range" (.type "range")) : iSS PW w B k (fnScope 22) vm_law_fewest (fnBody 22) (g_law_fewest) := by
  refine iSS.cons ?_ ?_
  · refine iS1.assign (n := 1) rfl (by first | exact .inl (by rfl) | exact .inr (by rfl)) ?_
    · refine iSE.bin ?_ ?_ oAdd_ok
      · refine iSE.list ?_
        · refine iSL.cons ?_ ?_
          · refine iSE.int
          · refine iSL.nil
      · refine iSE.bin ?_ ?_ oMul_ok
        · refine iSE.list ?_
          · refine iSL.cons ?_ ?_
            · refine iSE.int
            · refine iSL.nil
        · refine iSE.call G nlen (.inl ⟨_, rfl⟩) (by rfl) ?_ bLen_ok
          · refine iSL.cons ?_ ?_
            · refine iSE.var (n := 0) rfl (by first | exact .inl (by rfl) | exact .inr (.inl (by rfl)) | exact .inr (.inr (by rfl)))
            · refine iSL.nil
  · refine iSS.cons ?_ ?_
    · refine iS1.for ?_ ?_ ?_
      · refine iSE.var (n := 0) rfl (by first | exact .inl (by rfl) | exact .inr (.inl (by rfl)) | exact .inr (.inr (by rfl)))
      · refine iSG.name (n := 2) rfl (by first | exact .inl (by rfl) | exact .inr (by rfl))
      · refine iSS.cons ?_ ?_
        · refine iS1.assign (n := 3) rfl (by first | exact .inl (by rfl) | exact .inr (by rfl)) ?_
          · refine iSE.list ?_
            · refine iSL.nil
        · refine iSS.cons ?_ ?_
          · refine iS1.for ?_ ?_ ?_
            · refine iSE.call G nrange (.inr (.inl ⟨_, rfl⟩)) (by rfl) ?_ bRange_ok
              · refine iSL.cons ?_ ?_
                · refine iSE.call G nlen (.inl ⟨_, rfl⟩) (by rfl) ?_ bLen_ok
                  · refine iSL.cons ?_ ?_
                    · refine iSE.var (n := 1) rfl (by first | exact .inl (by rfl) | exact .inr (.inl (by rfl)) | exact .inr (.inr (by rfl)))
                    · refine iSL.nil
                · refine iSL.nil
            · refine iSG.name (n := 4) rfl (by first | exact .inl (by rfl) | exact .inr (by rfl))
            · refine iSS.cons ?_ ?_
              · refine iS1.assign (n := 5) rfl (by first | exact .inl (by rfl) | exact .inr (by rfl)) ?_
                · refine iSE.ifexp ?_ ?_ ?_
                  · refine iST.cmp ?_ ?_ cGt_ok
                    · refine iSE.var (n := 4) rfl (by first | exact .inl (by rfl) | exact .inr (.inl (by rfl)) | exact .inr (.inr (by rfl)))
                    · refine iSE.int
                  · refine iSE.bin ?_ ?_ oAdd_ok
                    · refine iSE.sub ?_ ?_
                      · refine iSE.var (n := 1) rfl (by first | exact .inl (by rfl) | exact .inr (.inl (by rfl)) | exact .inr (.inr (by rfl)))
                      · refine iSE.bin ?_ ?_ oSub_ok
                        · refine iSE.var (n := 4) rfl (by first | exact .inl (by rfl) | exact .inr (.inl (by rfl)) | exact .inr (.inr (by rfl)))
                        · refine iSE.int
                    · refine iSE.ifexp ?_ ?_ ?_
                      · refine iST.cmp ?_ ?_ cEq_ok
                        · refine iSE.var (n := 2) rfl (by first | exact .inl (by rfl) | exact .inr (.inl (by rfl)) | exact .inr (.inr (by rfl)))
                        · refine iSE.str rfl
                      · refine iSE.int
                      · refine iSE.int
                  · refine iSE.int
              · refine iSS.cons ?_ ?_
                · refine iS1.assign (n := 6) rfl (by first | exact .inl (by rfl) | exact .inr (by rfl)) ?_
                  · refine iSE.ifexp ?_ ?_ ?_
                    · refine iST.cmp ?_ ?_ cLt_ok
                      · refine iSE.bin ?_ ?_ oAdd_ok
                        · refine iSE.var (n := 4) rfl (by first | exact .inl (by rfl) | exact .inr (.inl (by rfl)) | exact .inr (.inr (by rfl)))
                        · refine iSE.int
                      · refine iSE.call G nlen (.inl ⟨_, rfl⟩) (by rfl) ?_ bLen_ok
                        · refine iSL.cons ?_ ?_
                          · refine iSE.var (n := 1) rfl (by first | exact .inl (by rfl) | exact .inr (.inl (by rfl)) | exact .inr (.inr (by rfl)))
                          · refine iSL.nil
                    · refine iSE.bin ?_ ?_ oAdd_ok
                      · refine iSE.sub ?_ ?_
                        · refine iSE.var (n := 1) rfl (by first | exact .inl (by rfl) | exact .inr (.inl (by rfl)) | exact .inr (.inr (by rfl)))
                        · refine iSE.bin ?_ ?_ oAdd_ok
                          · refine iSE.var (n := 4) rfl (by first | exact .inl (by rfl) | exact .inr (.inl (by rfl)) | exact .inr (.inr (by rfl)))
                          · refine iSE.int
                      · refine iSE.ifexp ?_ ?_ ?_
                        · refine iST.cmp ?_ ?_ cEq_ok
                          · refine iSE.var (n := 2) rfl (by first | exact .inl (by rfl) | exact .inr (.inl (by rfl)) | exact .inr (.inr (by rfl)))
                          · refine iSE.str rfl
                        · refine iSE.int
                        · refine iSE.int
                    · refine iSE.int
                · refine iSS.cons ?_ ?_
                  · refine iS1.expr ?_
                    · refine iSE.meth1 F.plainAttrs_list F.slot_list_append F.type_list_append mAppend_ok ?_ ?_
                      · refine iSE.var (n := 3) rfl (by first | exact .inl (by rfl) | exact .inr (.inl (by rfl)) | exact .inr (.inr (by rfl)))
                      · refine iSE.call G nmin (.inl ⟨_, rfl⟩) (by rfl) ?_ bMin_ok
                        · refine iSL.cons ?_ ?_
                          · refine iSE.list ?_
                            · refine iSL.cons ?_ ?_
                              · refine iSE.var (n := 5) rfl (by first | exact .inl (by rfl) | exact .inr (.inl (by rfl)) | exact .inr (.inr (by rfl)))
                              · refine iSL.cons ?_ ?_
                                · refine iSE.var (n := 6) rfl (by first | exact .inl (by rfl) | exact .inr (.inl (by rfl)) | exact .inr (.inr (by rfl)))
                                · refine iSL.cons ?_ ?_
                                  · refine iSE.bin ?_ ?_ oAdd_ok
                                    · refine iSE.sub ?_ ?_
                                      · refine iSE.var (n := 1) rfl (by first | exact .inl (by rfl) | exact .inr (.inl (by rfl)) | exact .inr (.inr (by rfl)))
                                      · refine iSE.var (n := 4) rfl (by first | exact .inl (by rfl) | exact .inr (.inl (by rfl)) | exact .inr (.inr (by rfl)))
                                    · refine iSE.int
                                  · refine iSL.nil
                          · refine iSL.nil
                  · refine iSS.nil
          · refine iSS.cons ?_ ?_
            · refine iS1.assign (n := 1) rfl (by first | exact .inl (by rfl) | exact .inr (by rfl)) ?_
              · refine iSE.var (n := 3) rfl (by first | exact .inl (by rfl) | exact .inr (.inl (by rfl)) | exact .inr (.inr (by rfl)))
            · refine iSS.nil
    · refine iSS.cons ?_ ?_
      · refine iS1.ret ?_
        · refine iSE.sub ?_ ?_
          · refine iSE.var (n := 1) rfl (by first | exact .inl (by rfl) | exact .inr (.inl (by rfl)) | exact .inr (.inr (by rfl)))
          · refine iSE.int
      · refine iSS.nil
theorem sh_law_fewest : FSh (fnArgs 22) (fnScope 22) [("text" : Str)] vm_law_fewest := ⟨by rfl, by rfl, by rfl, by decide +kernel, by decide +kernel, by decide +kernel, by decide +kernel, by decide +kernel⟩
theorem bind_law_fewest (pm cd doc : Value) (vals : List Value) (h : vals.length = [("text" : Str)].length) : bindArgs (Calls.docDef "_law_fewest" (fnArgs 22) (fnBody 22) (fnScope 22) pm cd doc) ⟨vals, []⟩ = pure (List.zip [("text" : Str)] vals) := by
  obtain ⟨v0, rfl⟩ := len_one h
  rfl
theorem c_law_fewest (G : GF B mg) {a : Addr} (F : FnAt B a "_law_fewest" (fnArgs 22) (fnBody 22) (fnScope 22)) (nlen : NameIs mg "len" (.builtin "len")) (nmin : NameIs mg "min" (.builtin "min")) (nrange : NameIs mg "range" (.type "range")) : CallOk PW w B (k + 1) (.ref a) (Mine.run (g_law_fewest) 1 6) :=
  CallOk.of_body (m := 6) F G.lim sh_law_fewest bind_law_fewest (g_law_fewest_ok G nlen nmin nrange).h

noncomputable def vm_law_rows : List Str := ["longest", "rows", "kept", "size"]
noncomputable def g_law_rows : Sx :=
  (gSeq (gAssign 1 (eList [(eVal (.str ""))]))
  (gSeq (gAssign 2 (eList [(eVal (.str ""))]))
  (gSeq (gFor (eCall [(eVal (.int 1)), (bind2 (eVar 0) (eVal (.int 1)) oAdd)] bRange) (tName 3) (gSeq (gAssign 1 (eComp (eVar 1) [none, none] (tName 0) tTrue (cNest (eVal (.str "()")) (tName 1) tTrue (cEmit (bind2 (eVar 0) (eVar 1) oAdd)))))
  (gSeq (gAug 2 (eComp (eVar 1) [none, some 3] (tName 0) (tVal (bind2 (bind2 (eVal (.int 2)) (eMeth "str" (eVar 0) [(eVal (.str "("))] mCount) oMul) (eVar 1) cEq)) (cEmit (eVar 0))) iAdd)
  gNil)))
  (gSeq (gRet (eVar 2))
  gNil))))
theorem g_law_rows_ok (G : GF B mg) (nrange : NameIs mg "range" (.type "range")) : iSS PW w B k (fnScope 23) vm_law_rows (fnBody 23) (g_law_rows) := by
  refine iSS.cons ?_ ?_
  · refine iS1.assign (n := 1) rfl (by first | exact .inl (by rfl) | exact .inr (by rfl)) ?_
    · refine iSE.list ?_
      · refine iSL.cons ?_ ?_
        · refine iSE.str rfl
        · refine iSL.nil
  · refine iSS.cons ?_ ?_
    · refine iS1.assign (n := 2) rfl (by first | exact .inl (by rfl) | exact .inr (by rfl)) ?_
      · refine iSE.list ?_
        · refine iSL.cons ?_ ?_
          · refine iSE.str rfl
          · refine iSL.nil
    · refine iSS.cons ?_ ?_
      · refine iS1.for ?_ ?_ ?_
        · refine iSE.call G nrange (.inr (.inl ⟨_, rfl⟩)) (by rfl) ?_ bRange_ok
          · refine iSL.cons ?_ ?_
            · refine iSE.int
            · refine iSL.cons ?_ ?_
              · refine iSE.bin ?_ ?_ oAdd_ok
                · refine iSE.var (n := 0) rfl (by first | exact .inl (by rfl) | exact .inr (.inl (by rfl)) | exact .inr (.inr (by rfl)))
                · refine iSE.int
              · refine iSL.nil
        · refine iSG.name (n := 3) rfl (by first | exact .inl (by rfl) | exact .inr (by rfl))
        · refine iSS.cons ?_ ?_
          · refine iS1.assignComp (n := 1) rfl (by first | exact .inl (by rfl) | exact .inr (by rfl)) (by intro env O; obtain ⟨e, _, _, _⟩ := O; cases env; cases e; rfl) (vm' := ["row", "sign"]) (srcs := [none, none]) (turn_two0 _ _ _ _ _ _ _ _ _) ⟨by rfl, by decide +kernel, by decide +kernel, by decide +kernel, by decide +kernel, by decide +kernel, by decide +kernel⟩ ?_ ?_ ?_ ?_
            · refine iSE.var (n := 1) rfl (by first | exact .inl (by rfl) | exact .inr (.inl (by rfl)) | exact .inr (.inr (by rfl)))
            · refine iSG.local (n := 0) rfl (by rfl)
            · refine iSI.nil
            · refine iSN.nest ?_ ?_ ?_ ?_
              · refine iSE.str rfl
              · refine iSG.local (n := 1) rfl (by rfl)
              · refine iSI.nil
              · refine iSN.emit ?_
                · refine iSE.bin ?_ ?_ oAdd_ok
                  · refine iSE.var (n := 0) rfl (by first | exact .inl (by rfl) | exact .inr (.inl (by rfl)) | exact .inr (.inr (by rfl)))
                  · refine iSE.var (n := 1) rfl (by first | exact .inl (by rfl) | exact .inr (.inl (by rfl)) | exact .inr (.inr (by rfl)))
          · refine iSS.cons ?_ ?_
            · refine iS1.aug (n := 2) rfl (by first | exact .inl (by rfl) | exact .inr (by rfl)) ?_ iAdd_ok
              · refine iSE.comp (vm' := ["row", "size"]) (srcs := [none, some 3]) (turn_one _ _ _ _ _ _) ⟨by rfl, by decide +kernel, by decide +kernel, by decide +kernel, by decide +kernel, by decide +kernel, by decide +kernel⟩ ?_ ?_ ?_ ?_
                · refine iSE.var (n := 1) rfl (by first | exact .inl (by rfl) | exact .inr (.inl (by rfl)) | exact .inr (.inr (by rfl)))
                · refine iSG.local (n := 0) rfl (by rfl)
                · refine iSI.one ?_
                  · refine iST.cmp ?_ ?_ cEq_ok
                    · refine iSE.bin ?_ ?_ oMul_ok
                      · refine iSE.int
                      · refine iSE.meth1 F.plainAttrs_str F.slot_str_count F.type_str_count mCount_ok ?_ ?_
                        · refine iSE.var (n := 0) rfl (by first | exact .inl (by rfl) | exact .inr (.inl (by rfl)) | exact .inr (.inr (by rfl)))
                        · refine iSE.str rfl
                    · refine iSE.var (n := 1) rfl (by first | exact .inl (by rfl) | exact .inr (.inl (by rfl)) | exact .inr (.inr (by rfl)))
                · refine iSN.emit ?_
                  · refine iSE.var (n := 0) rfl (by first | exact .inl (by rfl) | exact .inr (.inl (by rfl)) | exact .inr (.inr (by rfl)))
            · refine iSS.nil
      · refine iSS.cons ?_ ?_
        · refine iS1.ret ?_
          · refine iSE.var (n := 2) rfl (by first | exact .inl (by rfl) | exact .inr (.inl (by rfl)) | exact .inr (.inr (by rfl)))
        · refine iSS.nil
theorem sh_law_rows : FSh (fnArgs 23) (fnScope 23) [("longest" : Str)] vm_law_rows := ⟨by rfl, by rfl, by rfl, by decide +kernel, by decide +kernel, by decide +kernel, by decide +kernel, by decide +kernel⟩
theorem bind_law_rows (pm cd doc : Value) (vals : List Value) (h : vals.length = [("longest" : Str)].length) : bindArgs (Calls.docDef "_law_rows" (fnArgs 23) (fnBody 23) (fnScope 23) pm cd doc) ⟨vals, []⟩ = pure (List.zip [("longest" : Str)] vals) := by
  obtain ⟨v0, rfl⟩ := len_one h
  rfl
theorem c_law_rows (G : GF B mg) {a : Addr} (F : FnAt B a "_law_rows" (fnArgs 23) (fnBody 23) (fnScope 23)) (nrange : NameIs mg "range" (.type "range")) : CallOk PW w B (k + 1) (.ref a) (Mine.run (g_law_rows) 1 3) :=
  CallOk.of_body (m := 3) F G.lim sh_law_rows bind_law_rows (g_law_rows_ok G nrange).h

noncomputable def vm_law_nearest : List Str := ["text", "rows", "more", "due", "ways"]
noncomputable def g_law_nearest (h_law_fewest : CF) (h_levenshtein_distance : CF) : Sx :=
  (gSeq (gAssign 3 (bind2 (eVal (.int 2)) (eCall [(eVar 0)] h_law_fewest) oMul))
  (gSeq (gAssign 4 (eComp (eVar 1) [none, some 0, some 3, some 2] (tName 0) tTrue (cEmit (eCall [(eVar 0), (eVar 1), (bind2 (eVar 2) (eVar 3) oAdd)] h_levenshtein_distance))))
  (gSeq (gRet (eAnd (bind2 (eComp (eVar 4) [none] (tName 0) (tVal (eCall [(eVar 0), (eVal (.typ "bool"))] bIsInst)) (cEmit (eVar 0))) (eList []) cEqL) (bind2 (eCall [(eVar 4)] bMin) (eVar 3) cEq)))
  gNil)))
theorem g_law_nearest_ok (G : GF B mg) {a_law_fewest : Addr} (x_law_fewest : NameIs mg "_law_fewest" (.ref a_law_fewest)) (c_law_fewest : Callee B (.ref a_law_fewest)) {h_law_fewest : CF} (o_law_fewest : CallOk PW w B k (.ref a_law_fewest) h_law_fewest) {a_levenshtein_distance : Addr} (x_levenshtein_distance : NameIs mg "_levenshtein_distance" (.ref a_levenshtein_distance)) (c_levenshtein_distance : Callee B (.ref a_levenshtein_distance)) {h_levenshtein_distance : CF} (o_levenshtein_distance : CallOk PW w B k (.ref a_levenshtein_distance) h_levenshtein_distance) (nbool : NameIs mg "bool" (.type "bool")) (nisinstance : NameIs mg "isinstance" (.builtin "isinstance")) (nmin : NameIs mg "min" (.builtin "min")) : iSS PW w B k (fnScope 24) vm_law_nearest (fnBody 24) (g_law_nearest h_law_fewest h_levenshtein_distance) := by
  refine iSS.cons ?_ ?_
  · refine iS1.assign (n := 3) rfl (by first | exact .inl (by rfl) | exact .inr (by rfl)) ?_
    · refine iSE.bin ?_ ?_ oMul_ok
      · refine iSE.int
      · refine iSE.call G x_law_fewest c_law_fewest (by rfl) ?_ o_law_fewest
        · refine iSL.cons ?_ ?_
          · refine iSE.var (n := 0) rfl (by first | exact .inl (by rfl) | exact .inr (.inl (by rfl)) | exact .inr (.inr (by rfl)))
          · refine iSL.nil
  · refine iSS.cons ?_ ?_
    · refine iS1.assignComp (n := 4) rfl (by first | exact .inl (by rfl) | exact .inr (by rfl)) (by intro env O; obtain ⟨e, _, _, _⟩ := O; cases env; cases e; rfl) (vm' := ["row", "text", "due", "more"]) (srcs := [none, some 0, some 3, some 2]) (turn_one _ _ _ _ _ _) ⟨by rfl, by decide +kernel, by decide +kernel, by decide +kernel, by decide +kernel, by decide +kernel, by decide +kernel⟩ ?_ ?_ ?_ ?_
      · refine iSE.var (n := 1) rfl (by first | exact .inl (by rfl) | exact .inr (.inl (by rfl)) | exact .inr (.inr (by rfl)))
      · refine iSG.local (n := 0) rfl (by rfl)
      · refine iSI.nil
      · refine iSN.emit ?_
        · refine iSE.call G x_levenshtein_distance c_levenshtein_distance (by rfl) ?_ o_levenshtein_distance
          · refine iSL.cons ?_ ?_
            · refine iSE.var (n := 0) rfl (by first | exact .inl (by rfl) | exact .inr (.inl (by rfl)) | exact .inr (.inr (by rfl)))
            · refine iSL.cons ?_ ?_
              · refine iSE.var (n := 1) rfl (by first | exact .inl (by rfl) | exact .inr (.inl (by rfl)) | exact .inr (.inr (by rfl)))
              · refine iSL.cons ?_ ?_
                · refine iSE.bin ?_ ?_ oAdd_ok
                  · refine iSE.var (n := 2) rfl (by first | exact .inl (by rfl) | exact .inr (.inl (by rfl)) | exact .inr (.inr (by rfl)))
                  · refine iSE.var (n := 3) rfl (by first | exact .inl (by rfl) | exact .inr (.inl (by rfl)) | exact .inr (.inr (by rfl)))
                · refine iSL.nil
    · refine iSS.cons ?_ ?_
      · refine iS1.ret ?_
        · refine iSE.and ?_ ?_
          · refine iSE.cmp ?_ ?_ cEqL_ok
            · refine iSE.comp (vm' := ["way"]) (srcs := [none]) (turn_one _ _ _ _ _ _) ⟨by rfl, by decide +kernel, by decide +kernel, by decide +kernel, by decide +kernel, by decide +kernel, by decide +kernel⟩ ?_ ?_ ?_ ?_
              · refine iSE.var (n := 4) rfl (by first | exact .inl (by rfl) | exact .inr (.inl (by rfl)) | exact .inr (.inr (by rfl)))
              · refine iSG.local (n := 0) rfl (by rfl)
              · refine iSI.one ?_
                · refine iST.of ?_
                  · refine iSE.call G nisinstance (.inl ⟨_, rfl⟩) (by rfl) ?_ bIsInst_ok
                    · refine iSL.cons ?_ ?_
                      · refine iSE.var (n := 0) rfl (by first | exact .inl (by rfl) | exact .inr (.inl (by rfl)) | exact .inr (.inr (by rfl)))
                      · refine iSL.cons ?_ ?_
                        · refine iSE.typ G nbool (by rfl)
                        · refine iSL.nil
              · refine iSN.emit ?_
                · refine iSE.var (n := 0) rfl (by first | exact .inl (by rfl) | exact .inr (.inl (by rfl)) | exact .inr (.inr (by rfl)))
            · refine iSE.list ?_
              · refine iSL.nil
          · refine iSE.cmp ?_ ?_ cEq_ok
            · refine iSE.call G nmin (.inl ⟨_, rfl⟩) (by rfl) ?_ bMin_ok
              · refine iSL.cons ?_ ?_
                · refine iSE.var (n := 4) rfl (by first | exact .inl (by rfl) | exact .inr (.inl (by rfl)) | exact .inr (.inr (by rfl)))
                · refine iSL.nil
            · refine iSE.var (n := 3) rfl (by first | exact .inl (by rfl) | exact .inr (.inl (by rfl)) | exact .inr (.inr (by rfl)))
      · refine iSS.nil
theorem sh_law_nearest : FSh (fnArgs 24) (fnScope 24) [("text" : Str), ("rows" : Str), ("more" : Str)] vm_law_nearest := ⟨by rfl, by rfl, by rfl, by decide +kernel, by decide +kernel, by decide +kernel, by decide +kernel, by decide +kernel⟩
theorem bind_law_nearest (pm cd doc : Value) (vals : List Value) (h : vals.length = [("text" : Str), ("rows" : Str), ("more" : Str)].length) : bindArgs (Calls.docDef "_law_nearest" (fnArgs 24) (fnBody 24) (fnScope 24) pm cd doc) ⟨vals, []⟩ = pure (List.zip [("text" : Str), ("rows" : Str), ("more" : Str)] vals) := by
  obtain ⟨v0, v1, v2, rfl⟩ := len_three h
  rfl
theorem c_law_nearest (G : GF B mg) {a : Addr} (F : FnAt B a "_law_nearest" (fnArgs 24) (fnBody 24) (fnScope 24)) {a_law_fewest : Addr} (x_law_fewest : NameIs mg "_law_fewest" (.ref a_law_fewest)) (c_law_fewest : Callee B (.ref a_law_fewest)) {h_law_fewest : CF} (o_law_fewest : CallOk PW w B k (.ref a_law_fewest) h_law_fewest) {a_levenshtein_distance : Addr} (x_levenshtein_distance : NameIs mg "_levenshtein_distance" (.ref a_levenshtein_distance)) (c_levenshtein_distance : Callee B (.ref a_levenshtein_distance)) {h_levenshtein_distance : CF} (o_levenshtein_distance : CallOk PW w B k (.ref a_levenshtein_distance) h_levenshtein_distance) (nbool : NameIs mg "bool" (.type "bool")) (nisinstance : NameIs mg "isinstance" (.builtin "isinstance")) (nmin : NameIs mg "min" (.builtin "min")) : CallOk PW w B (k + 1) (.ref a) (Mine.run (g_law_nearest h_law_fewest h_levenshtein_distance) 3 2) :=
  CallOk.of_body (m := 2) F G.lim sh_law_nearest bind_law_nearest (g_law_nearest_ok G x_law_fewest c_law_fewest o_law_fewest x_levenshtein_distance c_levenshtein_distance o_levenshtein_distance nbool nisinstance nmin).h

end
end Mine
end

/-! part W4 -/
section
set_option maxRecDepth 100000
set_option linter.unusedVariables false
set_option maxHeartbeats 4000000
open PySem PyProof.Rows
namespace Mine
section
variable {w : World} {B : Heap} {k : Nat} {mg : Str → Option Value}

noncomputable def vm_levenshtein_distance : List Str := ["a", "b", "max_cost", "pre", "post", "row", "result", "bindex", "bchar", "distance", "minimum", "index", "substitute", "insert_delete"]
noncomputable def g_levenshtein_distance (h_substitution_cost : CF) : Sx :=
  (gSeq (gIf (tVal (bind2 (eVar 0) (eVar 1) cEq)) (gSeq (gRet (eVal (.int 0)))
  gNil) gNil)
  (gSeq (gAssign 3 (eVal (.int 0)))
  (gSeq (gWhile (tAnd (tVal (eCut (eVar 0) (eVar 3) (eVal .none))) (tAnd (tVal (eCut (eVar 1) (eVar 3) (eVal .none))) (tAnd (tVal (bind2 (bind2 (eVar 0) (eVar 3) Mine.sub) (bind2 (eVar 1) (eVar 3) Mine.sub) cEq)) tTrue))) (gSeq (gAug 3 (eVal (.int 1)) iAdd)
  gNil) 64)
  (gSeq (gAssign 0 (eCut (eVar 0) (eVar 3) (eVal .none)))
  (gSeq (gAssign 1 (eCut (eVar 1) (eVar 3) (eVal .none)))
  (gSeq (gAssign 4 (eVal (.int 0)))
  (gSeq (gWhile (tAnd (tVal (eCut (eVar 0) (eVal .none) (eOr (eVar 4) (eVal .none)))) (tAnd (tVal (eCut (eVar 1) (eVal .none) (eOr (eVar 4) (eVal .none)))) (tAnd (tVal (bind2 (bind2 (eVar 0) (bind2 (eVar 4) (eVal (.int 1)) oSub) Mine.sub) (bind2 (eVar 1) (bind2 (eVar 4) (eVal (.int 1)) oSub) Mine.sub) cEq)) tTrue))) (gSeq (gAug 4 (eVal (.int 1)) iSub)
  gNil) 64)
  (gSeq (gAssign 0 (eCut (eVar 0) (eVal .none) (eOr (eVar 4) (eVal .none))))
  (gSeq (gAssign 1 (eCut (eVar 1) (eVal .none) (eOr (eVar 4) (eVal .none))))
  (gSeq (gIf (tOr (tNot (tVal (eVar 0))) (tOr (tNot (tVal (eVar 1))) tFalse)) (gSeq (gRet (bind2 (eVal (.int 2)) (bind2 (eCall [(eVar 0)] bLen) (eCall [(eVar 1)] bLen) oAdd) oMul))
  gNil) gNil)
  (gSeq (gIf (tOr (tVal (bind2 (eCall [(eVar 0)] bLen) (eVal (.int 40)) cGt)) (tOr (tVal (bind2 (eCall [(eVar 1)] bLen) (eVal (.int 40)) cGt)) tFalse)) (gSeq (gRet (bind2 (eVar 2) (eVal (.int 1)) oAdd))
  gNil) gNil)
  (gSeq (gIf (tVal (bind2 (eCall [(eVar 1)] bLen) (eCall [(eVar 0)] bLen) cLt)) (gSeq (gSwap 0 1)
  gNil) gNil)
  (gSeq (gIf (tVal (bind2 (bind2 (bind2 (eCall [(eVar 1)] bLen) (eCall [(eVar 0)] bLen) oSub) (eVal (.int 2)) oMul) (eVar 2) cGt)) (gSeq (gRet (bind2 (eVar 2) (eVal (.int 1)) oAdd))
  gNil) gNil)
  (gSeq (gAssign 5 (eCall [(eCall [(eVal (.int 2)), (bind2 (eVal (.int 2)) (bind2 (eCall [(eVar 0)] bLen) (eVal (.int 1)) oAdd) oMul), (eVal (.int 2))] bRange)] bList))
  (gSeq (gAssign 6 (eVal (.int 0)))
  (gSeq (gFor (eCall [(eCall [(eVar 1)] bLen)] bRange) (tName 7) (gSeq (gAssign 8 (bind2 (eVar 1) (eVar 7) Mine.sub))
  (gSeq (gAssign2 9 6 (bind2 (eVar 7) (eVal (.int 2)) oMul))
  (gSeq (gAssign 10 (eVal (.int 9223372036854775807)))
  (gSeq (gFor (eCall [(eCall [(eVar 0)] bLen)] bRange) (tName 11) (gSeq (gAssign 12 (bind2 (eVar 9) (eCall [(eVar 8), (bind2 (eVar 0) (eVar 11) Mine.sub)] h_substitution_cost) oAdd))
  (gSeq (gAssign 9 (bind2 (eVar 5) (eVar 11) Mine.sub))
  (gSeq (gAssign 13 (bind2 (eCall [(eVar 6), (eVar 9)] bMin) (eVal (.int 2)) oAdd))
  (gSeq (gAssign 6 (eCall [(eVar 13), (eVar 12)] bMin))
  (gSeq (gSetItem (eVar 6) (eVar 5) (eVar 11))
  (gSeq (gIf (tVal (bind2 (eVar 6) (eVar 10) cLt)) (gSeq (gAssign 10 (eVar 6))
  gNil) gNil)
  gNil)))))))
  (gSeq (gIf (tVal (bind2 (eVar 10) (eVar 2) cGt)) (gSeq (gRet (bind2 (eVar 2) (eVal (.int 1)) oAdd))
  gNil) gNil)
  gNil))))))
  (gSeq (gRet (eVar 6))
  gNil)))))))))))))))))
theorem g_levenshtein_distance_ok (G : GF B mg) {a_substitution_cost : Addr} (x_substitution_cost : NameIs mg "_substitution_cost" (.ref a_substitution_cost)) (c_substitution_cost : Callee B (.ref a_substitution_cost)) {h_substitution_cost : CF} (o_substitution_cost : CallOk PW w B k (.ref a_substitution_cost) h_substitution_cost) (nlen : NameIs mg "len" (.builtin "len")) (nlist : NameIs mg "list" (.type "list")) (nmin : NameIs mg "min" (.builtin "min")) (nrange : NameIs mg "range" (.type "range")) (k_MAX_STRING_SIZE : ∃ t, mg "_MAX_STRING_SIZE" = some (.int 40 t)) (k_MOVE_COST : ∃ t, mg "_MOVE_COST" = some (.int 2 t)) : iSS PW w B k (fnScope 16) vm_levenshtein_distance (fnBody 16) (g_levenshtein_distance h_substitution_cost) := by
  refine iSS.cons ?_ ?_
  · refine iS1.ite ?_ ?_ ?_
    · refine iST.cmp ?_ ?_ cEq_ok
      · refine iSE.var (n := 0) rfl (by first | exact .inl (by rfl) | exact .inr (.inl (by rfl)) | exact .inr (.inr (by rfl)))
      · refine iSE.var (n := 1) rfl (by first | exact .inl (by rfl) | exact .inr (.inl (by rfl)) | exact .inr (.inr (by rfl)))
    · refine iSS.cons ?_ ?_
      · refine iS1.ret ?_
        · refine iSE.int
      · refine iSS.nil
    · refine iSS.nil
  · refine iSS.cons ?_ ?_
    · refine iS1.assign (n := 3) rfl (by first | exact .inl (by rfl) | exact .inr (by rfl)) ?_
      · refine iSE.int
    · refine iSS.cons ?_ ?_
      · refine iS1.while 64 ?_ ?_
        · refine iST.bools ?_
          · refine iSA.and ?_ ?_
            · refine iST.of ?_
              · refine iSE.slice ?_ ?_ ?_
                · refine iSE.var (n := 0) rfl (by first | exact .inl (by rfl) | exact .inr (.inl (by rfl)) | exact .inr (.inr (by rfl)))
                · refine iSP.some ?_
                  · refine iSE.var (n := 3) rfl (by first | exact .inl (by rfl) | exact .inr (.inl (by rfl)) | exact .inr (.inr (by rfl)))
                · refine iSP.none
            · refine iSA.and ?_ ?_
              · refine iST.of ?_
                · refine iSE.slice ?_ ?_ ?_
                  · refine iSE.var (n := 1) rfl (by first | exact .inl (by rfl) | exact .inr (.inl (by rfl)) | exact .inr (.inr (by rfl)))
                  · refine iSP.some ?_
                    · refine iSE.var (n := 3) rfl (by first | exact .inl (by rfl) | exact .inr (.inl (by rfl)) | exact .inr (.inr (by rfl)))
                  · refine iSP.none
              · refine iSA.and ?_ ?_
                · refine iST.cmp ?_ ?_ cEq_ok
                  · refine iSE.sub ?_ ?_
                    · refine iSE.var (n := 0) rfl (by first | exact .inl (by rfl) | exact .inr (.inl (by rfl)) | exact .inr (.inr (by rfl)))
                    · refine iSE.var (n := 3) rfl (by first | exact .inl (by rfl) | exact .inr (.inl (by rfl)) | exact .inr (.inr (by rfl)))
                  · refine iSE.sub ?_ ?_
                    · refine iSE.var (n := 1) rfl (by first | exact .inl (by rfl) | exact .inr (.inl (by rfl)) | exact .inr (.inr (by rfl)))
                    · refine iSE.var (n := 3) rfl (by first | exact .inl (by rfl) | exact .inr (.inl (by rfl)) | exact .inr (.inr (by rfl)))
                · refine iSA.andNil
        · refine iSS.cons ?_ ?_
          · refine iS1.aug (n := 3) rfl (by first | exact .inl (by rfl) | exact .inr (by rfl)) ?_ iAdd_ok
            · refine iSE.int
          · refine iSS.nil
      · refine iSS.cons ?_ ?_
        · refine iS1.assign (n := 0) rfl (by first | exact .inl (by rfl) | exact .inr (by rfl)) ?_
          · refine iSE.slice ?_ ?_ ?_
            · refine iSE.var (n := 0) rfl (by first | exact .inl (by rfl) | exact .inr (.inl (by rfl)) | exact .inr (.inr (by rfl)))
            · refine iSP.some ?_
              · refine iSE.var (n := 3) rfl (by first | exact .inl (by rfl) | exact .inr (.inl (by rfl)) | exact .inr (.inr (by rfl)))
            · refine iSP.none
        · refine iSS.cons ?_ ?_
          · refine iS1.assign (n := 1) rfl (by first | exact .inl (by rfl) | exact .inr (by rfl)) ?_
            · refine iSE.slice ?_ ?_ ?_
              · refine iSE.var (n := 1) rfl (by first | exact .inl (by rfl) | exact .inr (.inl (by rfl)) | exact .inr (.inr (by rfl)))
              · refine iSP.some ?_
                · refine iSE.var (n := 3) rfl (by first | exact .inl (by rfl) | exact .inr (.inl (by rfl)) | exact .inr (.inr (by rfl)))
              · refine iSP.none
          · refine iSS.cons ?_ ?_
            · refine iS1.assign (n := 4) rfl (by first | exact .inl (by rfl) | exact .inr (by rfl)) ?_
              · refine iSE.int
            · refine iSS.cons ?_ ?_
              · refine iS1.while 64 ?_ ?_
                · refine iST.bools ?_
                  · refine iSA.and ?_ ?_
                    · refine iST.of ?_
                      · refine iSE.slice ?_ ?_ ?_
                        · refine iSE.var (n := 0) rfl (by first | exact .inl (by rfl) | exact .inr (.inl (by rfl)) | exact .inr (.inr (by rfl)))
                        · refine iSP.none
                        · refine iSP.some ?_
                          · refine iSE.or ?_ ?_
                            · refine iSE.var (n := 4) rfl (by first | exact .inl (by rfl) | exact .inr (.inl (by rfl)) | exact .inr (.inr (by rfl)))
                            · refine iSE.none
                    · refine iSA.and ?_ ?_
                      · refine iST.of ?_
                        · refine iSE.slice ?_ ?_ ?_
                          · refine iSE.var (n := 1) rfl (by first | exact .inl (by rfl) | exact .inr (.inl (by rfl)) | exact .inr (.inr (by rfl)))
                          · refine iSP.none
                          · refine iSP.some ?_
                            · refine iSE.or ?_ ?_
                              · refine iSE.var (n := 4) rfl (by first | exact .inl (by rfl) | exact .inr (.inl (by rfl)) | exact .inr (.inr (by rfl)))
                              · refine iSE.none
                      · refine iSA.and ?_ ?_
                        · refine iST.cmp ?_ ?_ cEq_ok
                          · refine iSE.sub ?_ ?_
                            · refine iSE.var (n := 0) rfl (by first | exact .inl (by rfl) | exact .inr (.inl (by rfl)) | exact .inr (.inr (by rfl)))
                            · refine iSE.bin ?_ ?_ oSub_ok
                              · refine iSE.var (n := 4) rfl (by first | exact .inl (by rfl) | exact .inr (.inl (by rfl)) | exact .inr (.inr (by rfl)))
                              · refine iSE.int
                          · refine iSE.sub ?_ ?_
                            · refine iSE.var (n := 1) rfl (by first | exact .inl (by rfl) | exact .inr (.inl (by rfl)) | exact .inr (.inr (by rfl)))
                            · refine iSE.bin ?_ ?_ oSub_ok
                              · refine iSE.var (n := 4) rfl (by first | exact .inl (by rfl) | exact .inr (.inl (by rfl)) | exact .inr (.inr (by rfl)))
                              · refine iSE.int
                        · refine iSA.andNil
                · refine iSS.cons ?_ ?_
                  · refine iS1.aug (n := 4) rfl (by first | exact .inl (by rfl) | exact .inr (by rfl)) ?_ iSub_ok
                    · refine iSE.int
                  · refine iSS.nil
              · refine iSS.cons ?_ ?_
                · refine iS1.assign (n := 0) rfl (by first | exact .inl (by rfl) | exact .inr (by rfl)) ?_
                  · refine iSE.slice ?_ ?_ ?_
                    · refine iSE.var (n := 0) rfl (by first | exact .inl (by rfl) | exact .inr (.inl (by rfl)) | exact .inr (.inr (by rfl)))
                    · refine iSP.none
                    · refine iSP.some ?_
                      · refine iSE.or ?_ ?_
                        · refine iSE.var (n := 4) rfl (by first | exact .inl (by rfl) | exact .inr (.inl (by rfl)) | exact .inr (.inr (by rfl)))
                        · refine iSE.none
                · refine iSS.cons ?_ ?_
                  · refine iS1.assign (n := 1) rfl (by first | exact .inl (by rfl) | exact .inr (by rfl)) ?_
                    · refine iSE.slice ?_ ?_ ?_
                      · refine iSE.var (n := 1) rfl (by first | exact .inl (by rfl) | exact .inr (.inl (by rfl)) | exact .inr (.inr (by rfl)))
                      · refine iSP.none
                      · refine iSP.some ?_
                        · refine iSE.or ?_ ?_
                          · refine iSE.var (n := 4) rfl (by first | exact .inl (by rfl) | exact .inr (.inl (by rfl)) | exact .inr (.inr (by rfl)))
                          · refine iSE.none
                  · refine iSS.cons ?_ ?_
                    · refine iS1.ite ?_ ?_ ?_
                      · refine iST.bools ?_
                        · refine iSA.or ?_ ?_
                          · refine iST.not ?_
                            · refine iST.of ?_
                              · refine iSE.var (n := 0) rfl (by first | exact .inl (by rfl) | exact .inr (.inl (by rfl)) | exact .inr (.inr (by rfl)))
                          · refine iSA.or ?_ ?_
                            · refine iST.not ?_
                              · refine iST.of ?_
                                · refine iSE.var (n := 1) rfl (by first | exact .inl (by rfl) | exact .inr (.inl (by rfl)) | exact .inr (.inr (by rfl)))
                            · refine iSA.orNil
                      · refine iSS.cons ?_ ?_
                        · refine iS1.ret ?_
                          · refine iSE.bin ?_ ?_ oMul_ok
                            · refine iSE.globInt G k_MOVE_COST (by rfl)
                            · refine iSE.bin ?_ ?_ oAdd_ok
                              · refine iSE.call G nlen (.inl ⟨_, rfl⟩) (by rfl) ?_ bLen_ok
                                · refine iSL.cons ?_ ?_
                                  · refine iSE.var (n := 0) rfl (by first | exact .inl (by rfl) | exact .inr (.inl (by rfl)) | exact .inr (.inr (by rfl)))
                                  · refine iSL.nil
                              · refine iSE.call G nlen (.inl ⟨_, rfl⟩) (by rfl) ?_ bLen_ok
                                · refine iSL.cons ?_ ?_
                                  · refine iSE.var (n := 1) rfl (by first | exact .inl (by rfl) | exact .inr (.inl (by rfl)) | exact .inr (.inr (by rfl)))
                                  · refine iSL.nil
                        · refine iSS.nil
                      · refine iSS.nil
                    · refine iSS.cons ?_ ?_
                      · refine iS1.ite ?_ ?_ ?_
                        · refine iST.bools ?_
                          · refine iSA.or ?_ ?_
                            · refine iST.cmp ?_ ?_ cGt_ok
                              · refine iSE.call G nlen (.inl ⟨_, rfl⟩) (by rfl) ?_ bLen_ok
                                · refine iSL.cons ?_ ?_
                                  · refine iSE.var (n := 0) rfl (by first | exact .inl (by rfl) | exact .inr (.inl (by rfl)) | exact .inr (.inr (by rfl)))
                                  · refine iSL.nil
                              · refine iSE.globInt G k_MAX_STRING_SIZE (by rfl)
                            · refine iSA.or ?_ ?_
                              · refine iST.cmp ?_ ?_ cGt_ok
                                · refine iSE.call G nlen (.inl ⟨_, rfl⟩) (by rfl) ?_ bLen_ok
                                  · refine iSL.cons ?_ ?_
                                    · refine iSE.var (n := 1) rfl (by first | exact .inl (by rfl) | exact .inr (.inl (by rfl)) | exact .inr (.inr (by rfl)))
                                    · refine iSL.nil
                                · refine iSE.globInt G k_MAX_STRING_SIZE (by rfl)
                              · refine iSA.orNil
                        · refine iSS.cons ?_ ?_
                          · refine iS1.ret ?_
                            · refine iSE.bin ?_ ?_ oAdd_ok
                              · refine iSE.var (n := 2) rfl (by first | exact .inl (by rfl) | exact .inr (.inl (by rfl)) | exact .inr (.inr (by rfl)))
                              · refine iSE.int
                          · refine iSS.nil
                        · refine iSS.nil
                      · refine iSS.cons ?_ ?_
                        · refine iS1.ite ?_ ?_ ?_
                          · refine iST.cmp ?_ ?_ cLt_ok
                            · refine iSE.call G nlen (.inl ⟨_, rfl⟩) (by rfl) ?_ bLen_ok
                              · refine iSL.cons ?_ ?_
                                · refine iSE.var (n := 1) rfl (by first | exact .inl (by rfl) | exact .inr (.inl (by rfl)) | exact .inr (.inr (by rfl)))
                                · refine iSL.nil
                            · refine iSE.call G nlen (.inl ⟨_, rfl⟩) (by rfl) ?_ bLen_ok
                              · refine iSL.cons ?_ ?_
                                · refine iSE.var (n := 0) rfl (by first | exact .inl (by rfl) | exact .inr (.inl (by rfl)) | exact .inr (.inr (by rfl)))
                                · refine iSL.nil
                          · refine iSS.cons ?_ ?_
                            · refine iS1.swap (n := 0) (n' := 1) rfl rfl (by rfl) (by rfl) (by intro env O; obtain ⟨e, _, _, _⟩ := O; cases env; cases e; rfl)
                            · refine iSS.nil
                          · refine iSS.nil
                        · refine iSS.cons ?_ ?_
                          · refine iS1.ite ?_ ?_ ?_
                            · refine iST.cmp ?_ ?_ cGt_ok
                              · refine iSE.bin ?_ ?_ oMul_ok
                                · refine iSE.bin ?_ ?_ oSub_ok
                                  · refine iSE.call G nlen (.inl ⟨_, rfl⟩) (by rfl) ?_ bLen_ok
                                    · refine iSL.cons ?_ ?_
                                      · refine iSE.var (n := 1) rfl (by first | exact .inl (by rfl) | exact .inr (.inl (by rfl)) | exact .inr (.inr (by rfl)))
                                      · refine iSL.nil
                                  · refine iSE.call G nlen (.inl ⟨_, rfl⟩) (by rfl) ?_ bLen_ok
                                    · refine iSL.cons ?_ ?_
                                      · refine iSE.var (n := 0) rfl (by first | exact .inl (by rfl) | exact .inr (.inl (by rfl)) | exact .inr (.inr (by rfl)))
                                      · refine iSL.nil
                                · refine iSE.globInt G k_MOVE_COST (by rfl)
                              · refine iSE.var (n := 2) rfl (by first | exact .inl (by rfl) | exact .inr (.inl (by rfl)) | exact .inr (.inr (by rfl)))
                            · refine iSS.cons ?_ ?_
                              · refine iS1.ret ?_
                                · refine iSE.bin ?_ ?_ oAdd_ok
                                  · refine iSE.var (n := 2) rfl (by first | exact .inl (by rfl) | exact .inr (.inl (by rfl)) | exact .inr (.inr (by rfl)))
                                  · refine iSE.int
                              · refine iSS.nil
                            · refine iSS.nil
                          · refine iSS.cons ?_ ?_
                            · refine iS1.assign (n := 5) rfl (by first | exact .inl (by rfl) | exact .inr (by rfl)) ?_
                              · refine iSE.call G nlist (.inr (.inl ⟨_, rfl⟩)) (by rfl) ?_ bList_ok
                                · refine iSL.cons ?_ ?_
                                  · refine iSE.call G nrange (.inr (.inl ⟨_, rfl⟩)) (by rfl) ?_ bRange_ok
                                    · refine iSL.cons ?_ ?_
                                      · refine iSE.globInt G k_MOVE_COST (by rfl)
                                      · refine iSL.cons ?_ ?_
                                        · refine iSE.bin ?_ ?_ oMul_ok
                                          · refine iSE.globInt G k_MOVE_COST (by rfl)
                                          · refine iSE.bin ?_ ?_ oAdd_ok
                                            · refine iSE.call G nlen (.inl ⟨_, rfl⟩) (by rfl) ?_ bLen_ok
                                              · refine iSL.cons ?_ ?_
                                                · refine iSE.var (n := 0) rfl (by first | exact .inl (by rfl) | exact .inr (.inl (by rfl)) | exact .inr (.inr (by rfl)))
                                                · refine iSL.nil
                                            · refine iSE.int
                                        · refine iSL.cons ?_ ?_
                                          · refine iSE.globInt G k_MOVE_COST (by rfl)
                                          · refine iSL.nil
                                  · refine iSL.nil
                            · refine iSS.cons ?_ ?_
                              · refine iS1.assign (n := 6) rfl (by first | exact .inl (by rfl) | exact .inr (by rfl)) ?_
                                · refine iSE.int
                              · refine iSS.cons ?_ ?_
                                · refine iS1.for ?_ ?_ ?_
                                  · refine iSE.call G nrange (.inr (.inl ⟨_, rfl⟩)) (by rfl) ?_ bRange_ok
                                    · refine iSL.cons ?_ ?_
                                      · refine iSE.call G nlen (.inl ⟨_, rfl⟩) (by rfl) ?_ bLen_ok
                                        · refine iSL.cons ?_ ?_
                                          · refine iSE.var (n := 1) rfl (by first | exact .inl (by rfl) | exact .inr (.inl (by rfl)) | exact .inr (.inr (by rfl)))
                                          · refine iSL.nil
                                      · refine iSL.nil
                                  · refine iSG.name (n := 7) rfl (by first | exact .inl (by rfl) | exact .inr (by rfl))
                                  · refine iSS.cons ?_ ?_
                                    · refine iS1.assign (n := 8) rfl (by first | exact .inl (by rfl) | exact .inr (by rfl)) ?_
                                      · refine iSE.sub ?_ ?_
                                        · refine iSE.var (n := 1) rfl (by first | exact .inl (by rfl) | exact .inr (.inl (by rfl)) | exact .inr (.inr (by rfl)))
                                        · refine iSE.var (n := 7) rfl (by first | exact .inl (by rfl) | exact .inr (.inl (by rfl)) | exact .inr (.inr (by rfl)))
                                    · refine iSS.cons ?_ ?_
                                      · refine iS1.assign2 (n := 9) (n' := 6) rfl (by first | exact .inl (by rfl) | exact .inr (by rfl)) rfl (by first | exact .inl (by rfl) | exact .inr (by rfl)) ?_
                                        · refine iSE.bin ?_ ?_ oMul_ok
                                          · refine iSE.var (n := 7) rfl (by first | exact .inl (by rfl) | exact .inr (.inl (by rfl)) | exact .inr (.inr (by rfl)))
                                          · refine iSE.globInt G k_MOVE_COST (by rfl)
                                      · refine iSS.cons ?_ ?_
                                        · refine iS1.assign (n := 10) rfl (by first | exact .inl (by rfl) | exact .inr (by rfl)) ?_
                                          · refine iSE.int
                                        · refine iSS.cons ?_ ?_
                                          · refine iS1.for ?_ ?_ ?_
                                            · refine iSE.call G nrange (.inr (.inl ⟨_, rfl⟩)) (by rfl) ?_ bRange_ok
                                              · refine iSL.cons ?_ ?_
                                                · refine iSE.call G nlen (.inl ⟨_, rfl⟩) (by rfl) ?_ bLen_ok
                                                  · refine iSL.cons ?_ ?_
                                                    · refine iSE.var (n := 0) rfl (by first | exact .inl (by rfl) | exact .inr (.inl (by rfl)) | exact .inr (.inr (by rfl)))
                                                    · refine iSL.nil
                                                · refine iSL.nil
                                            · refine iSG.name (n := 11) rfl (by first | exact .inl (by rfl) | exact .inr (by rfl))
                                            · refine iSS.cons ?_ ?_
                                              · refine iS1.assign (n := 12) rfl (by first | exact .inl (by rfl) | exact .inr (by rfl)) ?_
                                                · refine iSE.bin ?_ ?_ oAdd_ok
                                                  · refine iSE.var (n := 9) rfl (by first | exact .inl (by rfl) | exact .inr (.inl (by rfl)) | exact .inr (.inr (by rfl)))
                                                  · refine iSE.call G x_substitution_cost c_substitution_cost (by rfl) ?_ o_substitution_cost
                                                    · refine iSL.cons ?_ ?_
                                                      · refine iSE.var (n := 8) rfl (by first | exact .inl (by rfl) | exact .inr (.inl (by rfl)) | exact .inr (.inr (by rfl)))
                                                      · refine iSL.cons ?_ ?_
                                                        · refine iSE.sub ?_ ?_
                                                          · refine iSE.var (n := 0) rfl (by first | exact .inl (by rfl) | exact .inr (.inl (by rfl)) | exact .inr (.inr (by rfl)))
                                                          · refine iSE.var (n := 11) rfl (by first | exact .inl (by rfl) | exact .inr (.inl (by rfl)) | exact .inr (.inr (by rfl)))
                                                        · refine iSL.nil
                                              · refine iSS.cons ?_ ?_
                                                · refine iS1.assign (n := 9) rfl (by first | exact .inl (by rfl) | exact .inr (by rfl)) ?_
                                                  · refine iSE.sub ?_ ?_
                                                    · refine iSE.var (n := 5) rfl (by first | exact .inl (by rfl) | exact .inr (.inl (by rfl)) | exact .inr (.inr (by rfl)))
                                                    · refine iSE.var (n := 11) rfl (by first | exact .inl (by rfl) | exact .inr (.inl (by rfl)) | exact .inr (.inr (by rfl)))
                                                · refine iSS.cons ?_ ?_
                                                  · refine iS1.assign (n := 13) rfl (by first | exact .inl (by rfl) | exact .inr (by rfl)) ?_
                                                    · refine iSE.bin ?_ ?_ oAdd_ok
                                                      · refine iSE.call G nmin (.inl ⟨_, rfl⟩) (by rfl) ?_ bMin_ok
                                                        · refine iSL.cons ?_ ?_
                                                          · refine iSE.var (n := 6) rfl (by first | exact .inl (by rfl) | exact .inr (.inl (by rfl)) | exact .inr (.inr (by rfl)))
                                                          · refine iSL.cons ?_ ?_
                                                            · refine iSE.var (n := 9) rfl (by first | exact .inl (by rfl) | exact .inr (.inl (by rfl)) | exact .inr (.inr (by rfl)))
                                                            · refine iSL.nil
                                                      · refine iSE.globInt G k_MOVE_COST (by rfl)
                                                  · refine iSS.cons ?_ ?_
                                                    · refine iS1.assign (n := 6) rfl (by first | exact .inl (by rfl) | exact .inr (by rfl)) ?_
                                                      · refine iSE.call G nmin (.inl ⟨_, rfl⟩) (by rfl) ?_ bMin_ok
                                                        · refine iSL.cons ?_ ?_
                                                          · refine iSE.var (n := 13) rfl (by first | exact .inl (by rfl) | exact .inr (.inl (by rfl)) | exact .inr (.inr (by rfl)))
                                                          · refine iSL.cons ?_ ?_
                                                            · refine iSE.var (n := 12) rfl (by first | exact .inl (by rfl) | exact .inr (.inl (by rfl)) | exact .inr (.inr (by rfl)))
                                                            · refine iSL.nil
                                                    · refine iSS.cons ?_ ?_
                                                      · refine iS1.setItem ?_ ?_ ?_
                                                        · refine iSE.var (n := 6) rfl (by first | exact .inl (by rfl) | exact .inr (.inl (by rfl)) | exact .inr (.inr (by rfl)))
                                                        · refine iSE.var (n := 5) rfl (by first | exact .inl (by rfl) | exact .inr (.inl (by rfl)) | exact .inr (.inr (by rfl)))
                                                        · refine iSE.var (n := 11) rfl (by first | exact .inl (by rfl) | exact .inr (.inl (by rfl)) | exact .inr (.inr (by rfl)))
                                                      · refine iSS.cons ?_ ?_
                                                        · refine iS1.ite ?_ ?_ ?_
                                                          · refine iST.cmp ?_ ?_ cLt_ok
                                                            · refine iSE.var (n := 6) rfl (by first | exact .inl (by rfl) | exact .inr (.inl (by rfl)) | exact .inr (.inr (by rfl)))
                                                            · refine iSE.var (n := 10) rfl (by first | exact .inl (by rfl) | exact .inr (.inl (by rfl)) | exact .inr (.inr (by rfl)))
                                                          · refine iSS.cons ?_ ?_
                                                            · refine iS1.assign (n := 10) rfl (by first | exact .inl (by rfl) | exact .inr (by rfl)) ?_
                                                              · refine iSE.var (n := 6) rfl (by first | exact .inl (by rfl) | exact .inr (.inl (by rfl)) | exact .inr (.inr (by rfl)))
                                                            · refine iSS.nil
                                                          · refine iSS.nil
                                                        · refine iSS.nil
                                          · refine iSS.cons ?_ ?_
                                            · refine iS1.ite ?_ ?_ ?_
                                              · refine iST.cmp ?_ ?_ cGt_ok
                                                · refine iSE.var (n := 10) rfl (by first | exact .inl (by rfl) | exact .inr (.inl (by rfl)) | exact .inr (.inr (by rfl)))
                                                · refine iSE.var (n := 2) rfl (by first | exact .inl (by rfl) | exact .inr (.inl (by rfl)) | exact .inr (.inr (by rfl)))
                                              · refine iSS.cons ?_ ?_
                                                · refine iS1.ret ?_
                                                  · refine iSE.bin ?_ ?_ oAdd_ok
                                                    · refine iSE.var (n := 2) rfl (by first | exact .inl (by rfl) | exact .inr (.inl (by rfl)) | exact .inr (.inr (by rfl)))
                                                    · refine iSE.int
                                                · refine iSS.nil
                                              · refine iSS.nil
                                            · refine iSS.nil
                                · refine iSS.cons ?_ ?_
                                  · refine iS1.ret ?_
                                    · refine iSE.var (n := 6) rfl (by first | exact .inl (by rfl) | exact .inr (.inl (by rfl)) | exact .inr (.inr (by rfl)))
                                  · refine iSS.nil
theorem sh_levenshtein_distance : FSh (fnArgs 16) (fnScope 16) [("a" : Str), ("b" : Str), ("max_cost" : Str)] vm_levenshtein_distance := ⟨by rfl, by rfl, by rfl, by decide +kernel, by decide +kernel, by decide +kernel, by decide +kernel, by decide +kernel⟩
theorem bind_levenshtein_distance (pm cd doc : Value) (vals : List Value) (h : vals.length = [("a" : Str), ("b" : Str), ("max_cost" : Str)].length) : bindArgs (Calls.docDef "_levenshtein_distance" (fnArgs 16) (fnBody 16) (fnScope 16) pm cd doc) ⟨vals, []⟩ = pure (List.zip [("a" : Str), ("b" : Str), ("max_cost" : Str)] vals) := by
  obtain ⟨v0, v1, v2, rfl⟩ := len_three h
  rfl
theorem c_levenshtein_distance (G : GF B mg) {a : Addr} (F : FnAt B a "_levenshtein_distance" (fnArgs 16) (fnBody 16) (fnScope 16)) {a_substitution_cost : Addr} (x_substitution_cost : NameIs mg "_substitution_cost" (.ref a_substitution_cost)) (c_substitution_cost : Callee B (.ref a_substitution_cost)) {h_substitution_cost : CF} (o_substitution_cost : CallOk PW w B k (.ref a_substitution_cost) h_substitution_cost) (nlen : NameIs mg "len" (.builtin "len")) (nlist : NameIs mg "list" (.type "list")) (nmin : NameIs mg "min" (.builtin "min")) (nrange : NameIs mg "range" (.type "range")) (k_MAX_STRING_SIZE : ∃ t, mg "_MAX_STRING_SIZE" = some (.int 40 t)) (k_MOVE_COST : ∃ t, mg "_MOVE_COST" = some (.int 2 t)) : CallOk PW w B (k + 1) (.ref a) (Mine.run (g_levenshtein_distance h_substitution_cost) 3 11) :=
  CallOk.of_body (m := 11) F G.lim sh_levenshtein_distance bind_levenshtein_distance (g_levenshtein_distance_ok G x_substitution_cost c_substitution_cost o_substitution_cost nlen nlist nmin nrange k_MAX_STRING_SIZE k_MOVE_COST).h

end
end Mine
end

/-! part W5 -/
section
set_option maxRecDepth 100000
set_option linter.unusedVariables false
set_option maxHeartbeats 4000000
open PySem PyProof.Rows
namespace Mine
section
variable {w : World} {B : Heap} {k : Nat} {mg : Str → Option Value}

noncomputable def vmlaw : List Str := ["script", "numbers", "pieces", "tape", "text", "prepared", "rows", "taken", "row", "verdict"]
noncomputable def glaw (al : Addr) (xs : List V) (h_check_parenthesis : CF) (h_law_nearest : CF) (h_law_octets : CF) (h_law_pieces : CF) (h_law_rows : CF) (h_law_struck : CF) (h_parse_varint : CF) (hin_table_b1 : CF) (hmap_table_b3 : CF) : Sx :=
  (gSeq (gAssign 1 (bind2 (eCutB al xs (eVar 0) (eVal .none) (eVal (.int 5))) (eCut (eList (iVs [0, 12, 9])) (eCall [(eVar 0)] (bLenB al xs)) (eVal .none)) oAdd))
  (gSeq (gAssign 2 (eCall [(eVar 1)] h_law_pieces))
  (gSeq (gAssign 3 (eCall [(eCall [(eMeth "str" (eVal (.str "")) [(eComp (eVar 2) [none, none] (tPair 0 1) tTrue (cEmit (eVar 0)))] mJoin)] h_law_octets)] bIter))
  (gSeq (gAssign 4 (eMeth "str" (eVal (.str "")) [(eComp (eVar 2) [none, some 3] (tName 0) tTrue (cEmit (eCall [(eCall [(eVar 1)] h_parse_varint)] bChr)))] mJoin))
  (gSeq (gIf (tOr (tVal (bind2 (eCall [(eVar 3)] bList) (eList []) cNeL)) (tOr (tVal (bind2 (eVar 4) (eMeth "str" (eVal (.str "")) [(eComp (eVar 2) [none, none] (tPair 0 1) tTrue (cEmit (eVar 0)))] mJoin) cNe)) tFalse)) (gSeq (gRet (eVal (.bool false)))
  gNil) gNil)
  (gSeq (gAssign 5 (eMeth "str" (eVal (.str "")) [(eComp (eVar 4) [none] (tName 0) (tNot (tVal (eCall [(eVar 0)] hin_table_b1))) (cEmit (eCall [(eVar 0)] hmap_table_b3)))] mJoin))
  (gSeq (gIf (tVal (bind2 (eVar 5) (eMeth "str" (eVal (.str "")) [(eComp (eVar 2) [none, none] (tPair 0 1) tTrue (cEmit (eVar 1)))] mJoin) cNe)) (gSeq (gRet (eVal (.bool false)))
  gNil) gNil)
  (gSeq (gAssign 6 (eCall [(eCall [(eCall [(eVar 4)] bLen), (eCall [(eVar 5)] bLen)] bMax)] h_law_rows))
  (gSeq (gAssign 7 (eList []))
  (gSeq (gFor (eVar 6) (tName 8) (gSeq (gAssign 9 (eCall [(eVar 8)] h_check_parenthesis))
  (gSeq (gIf (tVal (bind2 (eVar 9) (eCall [(eVar 8)] h_law_struck) cIsNot)) (gSeq (gRet (eVal (.bool false)))
  gNil) gNil)
  (gSeq (gIf (tVal (eVar 9)) (gSeq (gExpr (eMeth "list" (eVar 7) [(eVar 8)] mAppend))
  gNil) gNil)
  gNil))))
  (gSeq (gIf (tOr (tVal (bind2 (eCall [(eVar 4)] h_check_parenthesis) (eCall [(eVar 4)] h_law_struck) cIsNot)) (tOr (tVal (bind2 (eCall [(eVar 5)] h_check_parenthesis) (eCall [(eVar 4)] h_law_struck) cIsNot)) tFalse)) (gSeq (gRet (eVal (.bool false)))
  gNil) gNil)
  (gSeq (gRet (eAnd (eCall [(eVar 4), (eVar 7), (eVal (.int 0))] h_law_nearest) (eCall [(eVar 5), (eVar 7), (eVal (.int 1))] h_law_nearest)))
  gNil))))))))))))
theorem glaw_ok (G : GF B mg) {al : Addr} {xs : List V} (hBL : BaseL B al xs) {a_check_parenthesis : Addr} (x_check_parenthesis : NameIs mg "_check_parenthesis" (.ref a_check_parenthesis)) (c_check_parenthesis : Callee B (.ref a_check_parenthesis)) {h_check_parenthesis : CF} (o_check_parenthesis : CallOk PW w B k (.ref a_check_parenthesis) h_check_parenthesis) {a_law_nearest : Addr} (x_law_nearest : NameIs mg "_law_nearest" (.ref a_law_nearest)) (c_law_nearest : Callee B (.ref a_law_nearest)) {h_law_nearest : CF} (o_law_nearest : CallOk PW w B k (.ref a_law_nearest) h_law_nearest) {a_law_octets : Addr} (x_law_octets : NameIs mg "_law_octets" (.ref a_law_octets)) (c_law_octets : Callee B (.ref a_law_octets)) {h_law_octets : CF} (o_law_octets : CallOk PW w B k (.ref a_law_octets) h_law_octets) {a_law_pieces : Addr} (x_law_pieces : NameIs mg "_law_pieces" (.ref a_law_pieces)) (c_law_pieces : Callee B (.ref a_law_pieces)) {h_law_pieces : CF} (o_law_pieces : CallOk PW w B k (.ref a_law_pieces) h_law_pieces) {a_law_rows : Addr} (x_law_rows : NameIs mg "_law_rows" (.ref a_law_rows)) (c_law_rows : Callee B (.ref a_law_rows)) {h_law_rows : CF} (o_law_rows : CallOk PW w B k (.ref a_law_rows) h_law_rows) {a_law_struck : Addr} (x_law_struck : NameIs mg "_law_struck" (.ref a_law_struck)) (c_law_struck : Callee B (.ref a_law_struck)) {h_law_struck : CF} (o_law_struck : CallOk PW w B k (.ref a_law_struck) h_law_struck) {a_parse_varint : Addr} (x_parse_varint : NameIs mg "_parse_varint" (.ref a_parse_varint)) (c_parse_varint : Callee B (.ref a_parse_varint)) {h_parse_varint : CF} (o_parse_varint : CallOk PW w B k (.ref a_parse_varint) h_parse_varint) {ain_table_b1 : Addr} (xin_table_b1 : NameIs mg "in_table_b1" (.ref ain_table_b1)) (cin_table_b1 : Callee B (.ref ain_table_b1)) {hin_table_b1 : CF} (oin_table_b1 : CallOk PW w B k (.ref ain_table_b1) hin_table_b1) {amap_table_b3 : Addr} (xmap_table_b3 : NameIs mg "map_table_b3" (.ref amap_table_b3)) (cmap_table_b3 : Callee B (.ref amap_table_b3)) {hmap_table_b3 : CF} (omap_table_b3 : CallOk PW w B k (.ref amap_table_b3) hmap_table_b3) (nchr : NameIs mg "chr" (.builtin "chr")) (niter : NameIs mg "iter" (.builtin "iter")) (nlen : NameIs mg "len" (.builtin "len")) (nlist : NameIs mg "list" (.type "list")) (nmax : NameIs mg "max" (.builtin "max")) : iSS PW w B k (fnScope 25) vmlaw (fnBody 25) (glaw al xs h_check_parenthesis h_law_nearest h_law_octets h_law_pieces h_law_rows h_law_struck h_parse_varint hin_table_b1 hmap_table_b3) := by
  refine iSS.cons ?_ ?_
  · refine iS1.assign (n := 1) rfl (by first | exact .inl (by rfl) | exact .inr (by rfl)) ?_
    · refine iSE.bin ?_ ?_ oAdd_ok
      · refine iSE.sliceB hBL ?_ ?_ ?_
        · refine iSE.var (n := 0) rfl (by first | exact .inl (by rfl) | exact .inr (.inl (by rfl)) | exact .inr (.inr (by rfl)))
        · refine iSP.none
        · refine iSP.some ?_
          · refine iSE.int
      · refine iSE.slice ?_ ?_ ?_
        · refine iSE.list ?_
          · refine iSL.ints (by rfl)
        · refine iSP.some ?_
          · refine iSE.call G nlen (.inl ⟨_, rfl⟩) (by rfl) ?_ (bLenB_ok hBL)
            · refine iSL.cons ?_ ?_
              · refine iSE.var (n := 0) rfl (by first | exact .inl (by rfl) | exact .inr (.inl (by rfl)) | exact .inr (.inr (by rfl)))
              · refine iSL.nil
        · refine iSP.none
  · refine iSS.cons ?_ ?_
    · refine iS1.assign (n := 2) rfl (by first | exact .inl (by rfl) | exact .inr (by rfl)) ?_
      · refine iSE.call G x_law_pieces c_law_pieces (by rfl) ?_ o_law_pieces
        · refine iSL.cons ?_ ?_
          · refine iSE.var (n := 1) rfl (by first | exact .inl (by rfl) | exact .inr (.inl (by rfl)) | exact .inr (.inr (by rfl)))
          · refine iSL.nil
    · refine iSS.cons ?_ ?_
      · refine iS1.assign (n := 3) rfl (by first | exact .inl (by rfl) | exact .inr (by rfl)) ?_
        · refine iSE.call G niter (.inl ⟨_, rfl⟩) (by rfl) ?_ bIter_ok
          · refine iSL.cons ?_ ?_
            · refine iSE.call G x_law_octets c_law_octets (by rfl) ?_ o_law_octets
              · refine iSL.cons ?_ ?_
                · refine iSE.meth1 F.plainAttrs_str F.slot_str_join F.type_str_join mJoin_ok ?_ ?_
                  · refine iSE.str rfl
                  · refine iSE.comp (vm' := ["sign", "meant"]) (srcs := [none, none]) (turn_one _ _ _ _ _ _) ⟨by rfl, by decide +kernel, by decide +kernel, by decide +kernel, by decide +kernel, by decide +kernel, by decide +kernel⟩ ?_ ?_ ?_ ?_
                    · refine iSE.var (n := 2) rfl (by first | exact .inl (by rfl) | exact .inr (.inl (by rfl)) | exact .inr (.inr (by rfl)))
                    · refine iSG.pair (n := 0) (n' := 1) rfl (by rfl) rfl (by rfl)
                    · refine iSI.nil
                    · refine iSN.emit ?_
                      · refine iSE.var (n := 0) rfl (by first | exact .inl (by rfl) | exact .inr (.inl (by rfl)) | exact .inr (.inr (by rfl)))
                · refine iSL.nil
            · refine iSL.nil
      · refine iSS.cons ?_ ?_
        · refine iS1.assign (n := 4) rfl (by first | exact .inl (by rfl) | exact .inr (by rfl)) ?_
          · refine iSE.meth1 F.plainAttrs_str F.slot_str_join F.type_str_join mJoin_ok ?_ ?_
            · refine iSE.str rfl
            · refine iSE.comp (vm' := ["piece", "tape"]) (srcs := [none, some 3]) (turn_one _ _ _ _ _ _) ⟨by rfl, by decide +kernel, by decide +kernel, by decide +kernel, by decide +kernel, by decide +kernel, by decide +kernel⟩ ?_ ?_ ?_ ?_
              · refine iSE.var (n := 2) rfl (by first | exact .inl (by rfl) | exact .inr (.inl (by rfl)) | exact .inr (.inr (by rfl)))
              · refine iSG.local (n := 0) rfl (by rfl)
              · refine iSI.nil
              · refine iSN.emit ?_
                · refine iSE.call G nchr (.inl ⟨_, rfl⟩) (by rfl) ?_ bChr_ok
                  · refine iSL.cons ?_ ?_
                    · refine iSE.call G x_parse_varint c_parse_varint (by rfl) ?_ o_parse_varint
                      · refine iSL.cons ?_ ?_
                        · refine iSE.var (n := 1) rfl (by first | exact .inl (by rfl) | exact .inr (.inl (by rfl)) | exact .inr (.inr (by rfl)))
                        · refine iSL.nil
                    · refine iSL.nil
        · refine iSS.cons ?_ ?_
          · refine iS1.ite ?_ ?_ ?_
            · refine iST.bools ?_
              · refine iSA.or ?_ ?_
                · refine iST.cmp ?_ ?_ cNeL_ok
                  · refine iSE.call G nlist (.inr (.inl ⟨_, rfl⟩)) (by rfl) ?_ bList_ok
                    · refine iSL.cons ?_ ?_
                      · refine iSE.var (n := 3) rfl (by first | exact .inl (by rfl) | exact .inr (.inl (by rfl)) | exact .inr (.inr (by rfl)))
                      · refine iSL.nil
                  · refine iSE.list ?_
                    · refine iSL.nil
                · refine iSA.or ?_ ?_
                  · refine iST.cmp ?_ ?_ cNe_ok
                    · refine iSE.var (n := 4) rfl (by first | exact .inl (by rfl) | exact .inr (.inl (by rfl)) | exact .inr (.inr (by rfl)))
                    · refine iSE.meth1 F.plainAttrs_str F.slot_str_join F.type_str_join mJoin_ok ?_ ?_
                      · refine iSE.str rfl
                      · refine iSE.comp (vm' := ["sign", "meant"]) (srcs := [none, none]) (turn_one _ _ _ _ _ _) ⟨by rfl, by decide +kernel, by decide +kernel, by decide +kernel, by decide +kernel, by decide +kernel, by decide +kernel⟩ ?_ ?_ ?_ ?_
                        · refine iSE.var (n := 2) rfl (by first | exact .inl (by rfl) | exact .inr (.inl (by rfl)) | exact .inr (.inr (by rfl)))
                        · refine iSG.pair (n := 0) (n' := 1) rfl (by rfl) rfl (by rfl)
                        · refine iSI.nil
                        · refine iSN.emit ?_
                          · refine iSE.var (n := 0) rfl (by first | exact .inl (by rfl) | exact .inr (.inl (by rfl)) | exact .inr (.inr (by rfl)))
                  · refine iSA.orNil
            · refine iSS.cons ?_ ?_
              · refine iS1.ret ?_
                · refine iSE.bool
              · refine iSS.nil
            · refine iSS.nil
          · refine iSS.cons ?_ ?_
            · refine iS1.assign (n := 5) rfl (by first | exact .inl (by rfl) | exact .inr (by rfl)) ?_
              · refine iSE.meth1 F.plainAttrs_str F.slot_str_join F.type_str_join mJoin_ok ?_ ?_
                · refine iSE.str rfl
                · refine iSE.comp (vm' := ["sign"]) (srcs := [none]) (turn_one _ _ _ _ _ _) ⟨by rfl, by decide +kernel, by decide +kernel, by decide +kernel, by decide +kernel, by decide +kernel, by decide +kernel⟩ ?_ ?_ ?_ ?_
                  · refine iSE.var (n := 4) rfl (by first | exact .inl (by rfl) | exact .inr (.inl (by rfl)) | exact .inr (.inr (by rfl)))
                  · refine iSG.local (n := 0) rfl (by rfl)
                  · refine iSI.one ?_
                    · refine iST.not ?_
                      · refine iST.of ?_
                        · refine iSE.call G xin_table_b1 cin_table_b1 (by rfl) ?_ oin_table_b1
                          · refine iSL.cons ?_ ?_
                            · refine iSE.var (n := 0) rfl (by first | exact .inl (by rfl) | exact .inr (.inl (by rfl)) | exact .inr (.inr (by rfl)))
                            · refine iSL.nil
                  · refine iSN.emit ?_
                    · refine iSE.call G xmap_table_b3 cmap_table_b3 (by rfl) ?_ omap_table_b3
                      · refine iSL.cons ?_ ?_
                        · refine iSE.var (n := 0) rfl (by first | exact .inl (by rfl) | exact .inr (.inl (by rfl)) | exact .inr (.inr (by rfl)))
                        · refine iSL.nil
            · refine iSS.cons ?_ ?_
              · refine iS1.ite ?_ ?_ ?_
                · refine iST.cmp ?_ ?_ cNe_ok
                  · refine iSE.var (n := 5) rfl (by first | exact .inl (by rfl) | exact .inr (.inl (by rfl)) | exact .inr (.inr (by rfl)))
                  · refine iSE.meth1 F.plainAttrs_str F.slot_str_join F.type_str_join mJoin_ok ?_ ?_
                    · refine iSE.str rfl
                    · refine iSE.comp (vm' := ["sign", "meant"]) (srcs := [none, none]) (turn_one _ _ _ _ _ _) ⟨by rfl, by decide +kernel, by decide +kernel, by decide +kernel, by decide +kernel, by decide +kernel, by decide +kernel⟩ ?_ ?_ ?_ ?_
                      · refine iSE.var (n := 2) rfl (by first | exact .inl (by rfl) | exact .inr (.inl (by rfl)) | exact .inr (.inr (by rfl)))
                      · refine iSG.pair (n := 0) (n' := 1) rfl (by rfl) rfl (by rfl)
                      · refine iSI.nil
                      · refine iSN.emit ?_
                        · refine iSE.var (n := 1) rfl (by first | exact .inl (by rfl) | exact .inr (.inl (by rfl)) | exact .inr (.inr (by rfl)))
                · refine iSS.cons ?_ ?_
                  · refine iS1.ret ?_
                    · refine iSE.bool
                  · refine iSS.nil
                · refine iSS.nil
              · refine iSS.cons ?_ ?_
                · refine iS1.assign (n := 6) rfl (by first | exact .inl (by rfl) | exact .inr (by rfl)) ?_
                  · refine iSE.call G x_law_rows c_law_rows (by rfl) ?_ o_law_rows
                    · refine iSL.cons ?_ ?_
                      · refine iSE.call G nmax (.inl ⟨_, rfl⟩) (by rfl) ?_ bMax_ok
                        · refine iSL.cons ?_ ?_
                          · refine iSE.call G nlen (.inl ⟨_, rfl⟩) (by rfl) ?_ bLen_ok
                            · refine iSL.cons ?_ ?_
                              · refine iSE.var (n := 4) rfl (by first | exact .inl (by rfl) | exact .inr (.inl (by rfl)) | exact .inr (.inr (by rfl)))
                              · refine iSL.nil
                          · refine iSL.cons ?_ ?_
                            · refine iSE.call G nlen (.inl ⟨_, rfl⟩) (by rfl) ?_ bLen_ok
                              · refine iSL.cons ?_ ?_
                                · refine iSE.var (n := 5) rfl (by first | exact .inl (by rfl) | exact .inr (.inl (by rfl)) | exact .inr (.inr (by rfl)))
                                · refine iSL.nil
                            · refine iSL.nil
                      · refine iSL.nil
                · refine iSS.cons ?_ ?_
                  · refine iS1.assign (n := 7) rfl (by first | exact .inl (by rfl) | exact .inr (by rfl)) ?_
                    · refine iSE.list ?_
                      · refine iSL.nil
                  · refine iSS.cons ?_ ?_
                    · refine iS1.for ?_ ?_ ?_
                      · refine iSE.var (n := 6) rfl (by first | exact .inl (by rfl) | exact .inr (.inl (by rfl)) | exact .inr (.inr (by rfl)))
                      · refine iSG.name (n := 8) rfl (by first | exact .inl (by rfl) | exact .inr (by rfl))
                      · refine iSS.cons ?_ ?_
                        · refine iS1.assign (n := 9) rfl (by first | exact .inl (by rfl) | exact .inr (by rfl)) ?_
                          · refine iSE.call G x_check_parenthesis c_check_parenthesis (by rfl) ?_ o_check_parenthesis
                            · refine iSL.cons ?_ ?_
                              · refine iSE.var (n := 8) rfl (by first | exact .inl (by rfl) | exact .inr (.inl (by rfl)) | exact .inr (.inr (by rfl)))
                              · refine iSL.nil
                        · refine iSS.cons ?_ ?_
                          · refine iS1.ite ?_ ?_ ?_
                            · refine iST.cmp ?_ ?_ cIsNot_ok
                              · refine iSE.var (n := 9) rfl (by first | exact .inl (by rfl) | exact .inr (.inl (by rfl)) | exact .inr (.inr (by rfl)))
                              · refine iSE.call G x_law_struck c_law_struck (by rfl) ?_ o_law_struck
                                · refine iSL.cons ?_ ?_
                                  · refine iSE.var (n := 8) rfl (by first | exact .inl (by rfl) | exact .inr (.inl (by rfl)) | exact .inr (.inr (by rfl)))
                                  · refine iSL.nil
                            · refine iSS.cons ?_ ?_
                              · refine iS1.ret ?_
                                · refine iSE.bool
                              · refine iSS.nil
                            · refine iSS.nil
                          · refine iSS.cons ?_ ?_
                            · refine iS1.ite ?_ ?_ ?_
                              · refine iST.of ?_
                                · refine iSE.var (n := 9) rfl (by first | exact .inl (by rfl) | exact .inr (.inl (by rfl)) | exact .inr (.inr (by rfl)))
                              · refine iSS.cons ?_ ?_
                                · refine iS1.expr ?_
                                  · refine iSE.meth1 F.plainAttrs_list F.slot_list_append F.type_list_append mAppend_ok ?_ ?_
                                    · refine iSE.var (n := 7) rfl (by first | exact .inl (by rfl) | exact .inr (.inl (by rfl)) | exact .inr (.inr (by rfl)))
                                    · refine iSE.var (n := 8) rfl (by first | exact .inl (by rfl) | exact .inr (.inl (by rfl)) | exact .inr (.inr (by rfl)))
                                · refine iSS.nil
                              · refine iSS.nil
                            · refine iSS.nil
                    · refine iSS.cons ?_ ?_
                      · refine iS1.ite ?_ ?_ ?_
                        · refine iST.bools ?_
                          · refine iSA.or ?_ ?_
                            · refine iST.cmp ?_ ?_ cIsNot_ok
                              · refine iSE.call G x_check_parenthesis c_check_parenthesis (by rfl) ?_ o_check_parenthesis
                                · refine iSL.cons ?_ ?_
                                  · refine iSE.var (n := 4) rfl (by first | exact .inl (by rfl) | exact .inr (.inl (by rfl)) | exact .inr (.inr (by rfl)))
                                  · refine iSL.nil
                              · refine iSE.call G x_law_struck c_law_struck (by rfl) ?_ o_law_struck
                                · refine iSL.cons ?_ ?_
                                  · refine iSE.var (n := 4) rfl (by first | exact .inl (by rfl) | exact .inr (.inl (by rfl)) | exact .inr (.inr (by rfl)))
                                  · refine iSL.nil
                            · refine iSA.or ?_ ?_
                              · refine iST.cmp ?_ ?_ cIsNot_ok
                                · refine iSE.call G x_check_parenthesis c_check_parenthesis (by rfl) ?_ o_check_parenthesis
                                  · refine iSL.cons ?_ ?_
                                    · refine iSE.var (n := 5) rfl (by first | exact .inl (by rfl) | exact .inr (.inl (by rfl)) | exact .inr (.inr (by rfl)))
                                    · refine iSL.nil
                                · refine iSE.call G x_law_struck c_law_struck (by rfl) ?_ o_law_struck
                                  · refine iSL.cons ?_ ?_
                                    · refine iSE.var (n := 4) rfl (by first | exact .inl (by rfl) | exact .inr (.inl (by rfl)) | exact .inr (.inr (by rfl)))
                                    · refine iSL.nil
                              · refine iSA.orNil
                        · refine iSS.cons ?_ ?_
                          · refine iS1.ret ?_
                            · refine iSE.bool
                          · refine iSS.nil
                        · refine iSS.nil
                      · refine iSS.cons ?_ ?_
                        · refine iS1.ret ?_
                          · refine iSE.and ?_ ?_
                            · refine iSE.call G x_law_nearest c_law_nearest (by rfl) ?_ o_law_nearest
                              · refine iSL.cons ?_ ?_
                                · refine iSE.var (n := 4) rfl (by first | exact .inl (by rfl) | exact .inr (.inl (by rfl)) | exact .inr (.inr (by rfl)))
                                · refine iSL.cons ?_ ?_
                                  · refine iSE.var (n := 7) rfl (by first | exact .inl (by rfl) | exact .inr (.inl (by rfl)) | exact .inr (.inr (by rfl)))
                                  · refine iSL.cons ?_ ?_
                                    · refine iSE.int
                                    · refine iSL.nil
                            · refine iSE.call G x_law_nearest c_law_nearest (by rfl) ?_ o_law_nearest
                              · refine iSL.cons ?_ ?_
                                · refine iSE.var (n := 5) rfl (by first | exact .inl (by rfl) | exact .inr (.inl (by rfl)) | exact .inr (.inr (by rfl)))
                                · refine iSL.cons ?_ ?_
                                  · refine iSE.var (n := 7) rfl (by first | exact .inl (by rfl) | exact .inr (.inl (by rfl)) | exact .inr (.inr (by rfl)))
                                  · refine iSL.cons ?_ ?_
                                    · refine iSE.int
                                    · refine iSL.nil
                        · refine iSS.nil
theorem shlaw : FSh (fnArgs 25) (fnScope 25) [("script" : Str)] vmlaw := ⟨by rfl, by rfl, by rfl, by decide +kernel, by decide +kernel, by decide +kernel, by decide +kernel, by decide +kernel⟩
theorem bindlaw (pm cd doc : Value) (vals : List Value) (h : vals.length = [("script" : Str)].length) : bindArgs (Calls.docDef "law" (fnArgs 25) (fnBody 25) (fnScope 25) pm cd doc) ⟨vals, []⟩ = pure (List.zip [("script" : Str)] vals) := by
  obtain ⟨v0, rfl⟩ := len_one h
  rfl
theorem claw (G : GF B mg) {al : Addr} {xs : List V} (hBL : BaseL B al xs) {a : Addr} (F : FnAt B a "law" (fnArgs 25) (fnBody 25) (fnScope 25)) {a_check_parenthesis : Addr} (x_check_parenthesis : NameIs mg "_check_parenthesis" (.ref a_check_parenthesis)) (c_check_parenthesis : Callee B (.ref a_check_parenthesis)) {h_check_parenthesis : CF} (o_check_parenthesis : CallOk PW w B k (.ref a_check_parenthesis) h_check_parenthesis) {a_law_nearest : Addr} (x_law_nearest : NameIs mg "_law_nearest" (.ref a_law_nearest)) (c_law_nearest : Callee B (.ref a_law_nearest)) {h_law_nearest : CF} (o_law_nearest : CallOk PW w B k (.ref a_law_nearest) h_law_nearest) {a_law_octets : Addr} (x_law_octets : NameIs mg "_law_octets" (.ref a_law_octets)) (c_law_octets : Callee B (.ref a_law_octets)) {h_law_octets : CF} (o_law_octets : CallOk PW w B k (.ref a_law_octets) h_law_octets) {a_law_pieces : Addr} (x_law_pieces : NameIs mg "_law_pieces" (.ref a_law_pieces)) (c_law_pieces : Callee B (.ref a_law_pieces)) {h_law_pieces : CF} (o_law_pieces : CallOk PW w B k (.ref a_law_pieces) h_law_pieces) {a_law_rows : Addr} (x_law_rows : NameIs mg "_law_rows" (.ref a_law_rows)) (c_law_rows : Callee B (.ref a_law_rows)) {h_law_rows : CF} (o_law_rows : CallOk PW w B k (.ref a_law_rows) h_law_rows) {a_law_struck : Addr} (x_law_struck : NameIs mg "_law_struck" (.ref a_law_struck)) (c_law_struck : Callee B (.ref a_law_struck)) {h_law_struck : CF} (o_law_struck : CallOk PW w B k (.ref a_law_struck) h_law_struck) {a_parse_varint : Addr} (x_parse_varint : NameIs mg "_parse_varint" (.ref a_parse_varint)) (c_parse_varint : Callee B (.ref a_parse_varint)) {h_parse_varint : CF} (o_parse_varint : CallOk PW w B k (.ref a_parse_varint) h_parse_varint) {ain_table_b1 : Addr} (xin_table_b1 : NameIs mg "in_table_b1" (.ref ain_table_b1)) (cin_table_b1 : Callee B (.ref ain_table_b1)) {hin_table_b1 : CF} (oin_table_b1 : CallOk PW w B k (.ref ain_table_b1) hin_table_b1) {amap_table_b3 : Addr} (xmap_table_b3 : NameIs mg "map_table_b3" (.ref amap_table_b3)) (cmap_table_b3 : Callee B (.ref amap_table_b3)) {hmap_table_b3 : CF} (omap_table_b3 : CallOk PW w B k (.ref amap_table_b3) hmap_table_b3) (nchr : NameIs mg "chr" (.builtin "chr")) (niter : NameIs mg "iter" (.builtin "iter")) (nlen : NameIs mg "len" (.builtin "len")) (nlist : NameIs mg "list" (.type "list")) (nmax : NameIs mg "max" (.builtin "max")) : CallOk PW w B (k + 1) (.ref a) (Mine.run (glaw al xs h_check_parenthesis h_law_nearest h_law_octets h_law_pieces h_law_rows h_law_struck h_parse_varint hin_table_b1 hmap_table_b3) 1 9) :=
  CallOk.of_body (m := 9) F G.lim shlaw bindlaw (glaw_ok G hBL x_check_parenthesis c_check_parenthesis o_check_parenthesis x_law_nearest c_law_nearest o_law_nearest x_law_octets c_law_octets o_law_octets x_law_pieces c_law_pieces o_law_pieces x_law_rows c_law_rows o_law_rows x_law_struck c_law_struck o_law_struck x_parse_varint c_parse_varint o_parse_varint xin_table_b1 cin_table_b1 oin_table_b1 xmap_table_b3 cmap_table_b3 omap_table_b3 nchr niter nlen nlist nmax).h

end
end Mine
end

/-! part P1 -/
section
set_option maxRecDepth 10000
set_option linter.unusedVariables false
open PySem PyProof.Rows
namespace Mine
noncomputable def okLow (a : Str) : Bool := !Builtin.Str.tooLong (Txt.lower a).length
noncomputable def cost (a b : Str) : Int := if a == b then 0 else if Txt.lower a == Txt.lower b then 1 else 2
theorem run_cost (a b : Str) (H : Hp) (ha : okLow a = true) (hb : okLow b = true) : Mine.run g_substitution_cost 2 0 [.str a, .str b] H = some (.int (cost a b), H) := by
  simp only [okLow, Bool.not_eq_true', ] at ha hb
  unfold cost
  cases h1 : a == b <;> cases h2 : Txt.lower a == Txt.lower b <;>
  simp [Mine.run, g_substitution_cost, gSeq, gIf, tVal, bind2, eVar, cEq, truth, gRet, eVal, eMeth, isTy, eRow, mLower, ha, hb, h1, h2, gNil]
end Mine
end

/-! part P2 -/
section
set_option maxRecDepth 10000
set_option linter.unusedVariables false
open PySem PyProof.Rows
namespace Mine
noncomputable def b1L : List Int := [173, 847, 6150, 6155, 6156, 6157, 8203, 8204, 8205, 8288, 65279] ++ (List.range 16).map fun (i : Nat) => 65024 + (i : Int) * 1
noncomputable def otL : List Int := [42, 120, 172, 174, 8202, 8206, 20013, 65023, 65280]
noncomputable def dbL : List Int := [223, 8360, 8470, 13184, 64256, 64257, 64258, 64262]
noncomputable def chrS (i : Int) : Str := ⟨#[i.toNat]⟩
noncomputable def signOf (kind which : Int) : Str := if kind = 0 then "(" else if kind = 1 then ")" else if kind = 2 then chrS (b1L.getD (which.fmod 27).toNat 0)
  else if kind = 3 then chrS (otL.getD (which.fmod 9).toNat 0) else chrS (dbL.getD (which.fmod 8).toNat 0)
theorem fmod_lt (a : Int) (n : Nat) (hn : 0 < n) : ∃ j : Fin n, a.fmod n = (j.val : Int) := by
  have h1 := Int.fmod_nonneg_of_pos a (b := (n : Int)) (by omega)
  have h2 := Int.fmod_lt_of_pos a (b := (n : Int)) (by omega)
  exact ⟨⟨(a.fmod n).toNat, by omega⟩, by simp; omega⟩
noncomputable def runSign (kind which : Int) : Option V := (Mine.run g_law_sign 2 1 [.int kind, .int which] []).map (·.1)
theorem rangeN_b1 : smallR 65024 65040 1 = true := by decide
theorem rangeL_b1 : (rangeL 65024 65040 1).length = 16 := by decide +kernel
theorem hx4 : ∀ j : Fin 8, listAt [V.int 223, V.int 8360, V.int 8470, V.int 13184, V.int 64256, V.int 64257, V.int 64258, V.int 64262] (j.val : Int) = some (.int (dbL.getD j.val 0)) := by decide +kernel
theorem hy4 : ∀ j : Fin 8, 0 ≤ dbL.getD j.val 0 ∧ dbL.getD j.val 0 ≤ 1114111 := by decide +kernel
theorem hz4 (which : Int) (j : Fin 8) (hj' : which.fmod 8 = (j.val : Int)) : signOf 4 which = chrS (dbL.getD j.val 0) := by simp [signOf, hj']
theorem run4 (which m c : Int) (hj' : which.fmod 8 = m) (hx : listAt [V.int 223, V.int 8360, V.int 8470, V.int 13184, V.int 64256, V.int 64257, V.int 64258, V.int 64262] m = some (.int c)) (hy : 0 ≤ c ∧ c ≤ 1114111) : runSign 4 which = some (.str (chrS c)) := by
  simp [runSign, Mine.run, g_law_sign, gSeq, gIf, tVal, bind2, eVar, eVal, gAssign, gRet, eCall, eRow, oMod, cLt, cEq, truth, put, eList_ints, Mine.sub, bChr, hj', gNil, hx, hy, chrS]
theorem run_sign4 (which : Int) : runSign 4 which = some (.str (signOf 4 which)) := by
  obtain ⟨j, hj⟩ := fmod_lt which 8 (by decide)
  rw [hz4 which j hj]
  exact run4 which _ _ hj (hx4 j) (hy4 j)
theorem hx3 : ∀ j : Fin 9, listAt [V.int 42, V.int 120, V.int 172, V.int 174, V.int 8202, V.int 8206, V.int 20013, V.int 65023, V.int 65280] (j.val : Int) = some (.int (otL.getD j.val 0)) := by decide +kernel
theorem hy3 : ∀ j : Fin 9, 0 ≤ otL.getD j.val 0 ∧ otL.getD j.val 0 ≤ 1114111 := by decide +kernel
theorem hz3 (which : Int) (j : Fin 9) (hj' : which.fmod 9 = (j.val : Int)) : signOf 3 which = chrS (otL.getD j.val 0) := by simp [signOf, hj']
theorem run3 (which m c : Int) (hj' : which.fmod 9 = m) (hx : listAt [V.int 42, V.int 120, V.int 172, V.int 174, V.int 8202, V.int 8206, V.int 20013, V.int 65023, V.int 65280] m = some (.int c)) (hy : 0 ≤ c ∧ c ≤ 1114111) : runSign 3 which = some (.str (chrS c)) := by
  simp [runSign, Mine.run, g_law_sign, gSeq, gIf, tVal, bind2, eVar, eVal, gAssign, gRet, eCall, eRow, oMod, cLt, cEq, truth, put, eList_ints, Mine.sub, bChr, hj', gNil, hx, hy, chrS]
theorem run_sign3 (which : Int) : runSign 3 which = some (.str (signOf 3 which)) := by
  obtain ⟨j, hj⟩ := fmod_lt which 9 (by decide)
  rw [hz3 which j hj]
  exact run3 which _ _ hj (hx3 j) (hy3 j)
theorem hx2 : ∀ j : Fin 27, listAt (V.int 173 :: V.int 847 :: V.int 6150 :: V.int 6155 :: V.int 6156 :: V.int 6157 :: V.int 8203 :: V.int 8204 :: V.int 8205 :: V.int 8288 :: V.int 65279 :: rangeL 65024 65040 1) (j.val : Int) = some (.int (b1L.getD j.val 0)) := by decide +kernel
theorem hy2 : ∀ j : Fin 27, 0 ≤ b1L.getD j.val 0 ∧ b1L.getD j.val 0 ≤ 1114111 := by decide +kernel
theorem hz2 (which : Int) (j : Fin 27) (hj' : which.fmod 27 = (j.val : Int)) : signOf 2 which = chrS (b1L.getD j.val 0) := by simp [signOf, hj']
theorem run2 (which m c : Int) (hj' : which.fmod 27 = m) (hx : listAt (V.int 173 :: V.int 847 :: V.int 6150 :: V.int 6155 :: V.int 6156 :: V.int 6157 :: V.int 8203 :: V.int 8204 :: V.int 8205 :: V.int 8288 :: V.int 65279 :: rangeL 65024 65040 1) m = some (.int c)) (hy : 0 ≤ c ∧ c ≤ 1114111) : runSign 2 which = some (.str (chrS c)) := by
  simp [runSign, Mine.run, g_law_sign, gSeq, gIf, tVal, bind2, eVar, eVal, gAssign, gRet, eCall, eRow, oMod, cLt, cEq, truth, put, eList_ints, Mine.sub, bChr, hj', gNil, hx, hy, chrS, bRange, bList, oAdd, rangeN_b1, rangeL_b1]
theorem run_sign2 (which : Int) : runSign 2 which = some (.str (signOf 2 which)) := by
  obtain ⟨j, hj⟩ := fmod_lt which 27 (by decide)
  rw [hz2 which j hj]
  exact run2 which _ _ hj (hx2 j) (hy2 j)
theorem run_sign0 (which : Int) : runSign 0 which = some (.str (signOf 0 which)) := by
  simp [runSign, Mine.run, g_law_sign, gSeq, gIf, tVal, bind2, eVar, eVal, gRet, cLt, truth, Mine.sub, signOf]
  rfl
theorem run_sign1 (which : Int) : runSign 1 which = some (.str (signOf 1 which)) := by
  simp [runSign, Mine.run, g_law_sign, gSeq, gIf, tVal, bind2, eVar, eVal, gRet, cLt, truth, Mine.sub, signOf]
  rfl
end Mine
end

/-! part P3 -/
section
set_option maxRecDepth 10000
set_option linter.unusedVariables false
open PySem PyProof.Rows
namespace Mine
theorem run_b1 (S : Int → Bool) (x : Str) (H : Hp) (h : x.length = 1) : Mine.run (gin_table_b1 S) 1 0 [.str x] H = some (.bool (S (x.cps.getD 0 0 : Nat)), H) := by
  simp [Mine.run, gin_table_b1, gSeq, gRet, eSetIn, eCall, eRow, eVar, bOrd, h]
noncomputable def low3 (tb : Int → Option Str) (x : Str) : Str := (tb (x.cps.getD 0 0 : Nat)).getD (Txt.lower x)
theorem run_b3 (tb : Int → Option Str) (x : Str) (H : Hp) (h : x.length = 1) (hl : okLow x = true) : Mine.run (gmap_table_b3 tb) 1 1 [.str x] H = some (.str (low3 tb x), H) := by
  simp only [okLow, Bool.not_eq_true'] at hl
  unfold low3
  rw [Array.getD_eq_getD_getElem?]
  cases e : tb (x.cps[0]?.getD 0 : Nat) <;>
  simp [Mine.run, gmap_table_b3, gSeq, gIf, gRet, gAssign, eGet, eCall, eRow, eVar, eVal, bOrd, h, e, put, tVal, bind2, cIsNot, truth, gNil, eMeth, isTy, mLower, hl]

/-! ## a varint -/
theorem next_at {H : Hp} {a l i : Nat} {xs : List V} {v : V} (ha : H[a]? = some (.iter l i)) (hl : H[l]? = some (.list xs)) (hx : xs[i]? = some v) : bNext [.ref a] H = some (v, H.set a (.iter l (i + 1))) := by
  simp [bNext, ha, hl, hx]
theorem set_at {H : Hp} {a l i j : Nat} {xs : List V} (ha : H[a]? = some (.iter l i)) (hl : H[l]? = some (.list xs)) : (H.set a (.iter l j))[a]? = some (.iter l j) ∧ (H.set a (.iter l j))[l]? = some (.list xs) := by
  refine ⟨List.getElem?_set_self (List.getElem?_eq_some_iff.mp ha).1, ?_⟩
  rw [List.getElem?_set_ne]
  · exact hl
  · intro e
    subst e
    rw [ha] at hl; cases hl
theorem var1 {H : Hp} {a l i : Nat} {xs : List V} {d : Int} (ha : H[a]? = some (.iter l i)) (hl : H[l]? = some (.list xs)) (h0 : xs[i]? = some (.int d)) (e0 : Builtin.bitAnd d 64 = 0) :
    Mine.run g_parse_varint 1 2 [.ref a] H = some (.int (Builtin.bitAnd d 63), H.set a (.iter l (i + 1))) := by
  simp [Mine.run, g_parse_varint, gSeq, gAssign, eCall, eRow, eVar, next_at ha hl h0, put, bind2, eVal, oAnd, gWhile, tVal, truth, e0, gRet]
theorem var2 {H : Hp} {a l i : Nat} {xs : List V} {d e : Int} (ha : H[a]? = some (.iter l i)) (hl : H[l]? = some (.list xs)) (h0 : xs[i]? = some (.int d)) (h1 : xs[i + 1]? = some (.int e))
    (e0 : Builtin.bitAnd d 64 = 64) (e1 : Builtin.bitAnd e 64 = 0) (b0 : Builtin.Int.intBits (Builtin.bitAnd d 63) ≤ 1000) :
    Mine.run g_parse_varint 1 2 [.ref a] H = some (.int (Builtin.bitOr (Builtin.bitAnd d 63 * 64) (Builtin.bitAnd e 63)), H.set a (.iter l (i + 2))) := by
  obtain ⟨s1, s2⟩ := set_at (j := i + 1) ha hl
  simp [Mine.run, g_parse_varint, gSeq, gAssign, eCall, eRow, eVar, next_at ha hl h0, next_at s1 s2 h1, put, bind2, eVal, oAnd, gWhile, tVal, truth, e0, e1, gRet, gAug, iShl, iOr, gNil, b0]
theorem var3 {H : Hp} {a l i : Nat} {xs : List V} {d e f : Int} (ha : H[a]? = some (.iter l i)) (hl : H[l]? = some (.list xs)) (h0 : xs[i]? = some (.int d)) (h1 : xs[i + 1]? = some (.int e)) (h2 : xs[i + 2]? = some (.int f))
    (e0 : Builtin.bitAnd d 64 = 64) (e1 : Builtin.bitAnd e 64 = 64) (e2 : Builtin.bitAnd f 64 = 0) (b0 : Builtin.Int.intBits (Builtin.bitAnd d 63) ≤ 1000) (b1 : Builtin.Int.intBits (Builtin.bitOr (Builtin.bitAnd d 63 * 64) (Builtin.bitAnd e 63)) ≤ 1000) :
    Mine.run g_parse_varint 1 2 [.ref a] H = some (.int (Builtin.bitOr (Builtin.bitOr (Builtin.bitAnd d 63 * 64) (Builtin.bitAnd e 63) * 64) (Builtin.bitAnd f 63)), H.set a (.iter l (i + 3))) := by
  obtain ⟨s1, s2⟩ := set_at (j := i + 1) ha hl
  obtain ⟨t1, t2⟩ := set_at (j := i + 2) s1 s2
  rw [List.set_set] at t1 t2
  simp [Mine.run, g_parse_varint, gSeq, gAssign, eCall, eRow, eVar, next_at ha hl h0, next_at s1 s2 h1, next_at t1 t2 h2, put, bind2, eVal, oAnd, gWhile, tVal, truth, e0, e1, e2, gRet, gAug, iShl, iOr, gNil, b0, b1]
end Mine
end

/-! part P4 -/
section
set_option maxRecDepth 10000
set_option linter.unusedVariables false
open PySem PyProof.Rows
namespace Mine
noncomputable def octT : Tx := tVal (bind2 (eVar 3) (eVal (.int 64)) cGe)
noncomputable def octB : Sx := gSeq (gAug 3 (eVal (.int 64)) iDiv) (gSeq (gAssign 4 (bind2 (eList [(bind2 (bind2 (eVar 3) (eVal (.int 64)) oMod) (eVal (.int 64)) oAdd)]) (eVar 4) oAdd)) gNil)
noncomputable def octL : Sx := gSeq (gAssign 3 (eCall [(eVar 2)] bOrd)) (gSeq (gAssign 4 (eList [(bind2 (eVar 3) (eVal (.int 64)) oMod)])) (gSeq (gWhile octT octB 64) (gSeq (gAug 1 (eVar 4) iAdd) gNil)))
theorem octets_eq : g_law_octets = gSeq (gAssign 1 (eList [])) (gSeq (gFor (eVar 0) (tName 2) octL) (gSeq (gRet (eVar 1)) gNil)) := rfl

noncomputable def digs : Nat → Int → List V → List V
  | 0, _, ds => ds
  | n + 1, c, ds => if 64 ≤ c then digs n (c.fdiv 64) (V.int ((c.fdiv 64).fmod 64 + 64) :: ds) else ds

theorem app_at {H ext : Hp} {d : Nat} {o : O} (h : H[d]? = some o) : (H ++ ext)[d]? = some o := by
  rw [List.getElem?_append_left (List.getElem?_eq_some_iff.mp h).1]; exact h

theorem oct_step (t sg : Option V) (code : Int) (ds : List V) (d : Nat) (H : Hp) (hd : H[d]? = some (.list ds)) (hl : ds.length + 1 ≤ 1000000) :
    octB [t, some (.ref 0), sg, some (.int code), some (.ref d)] H = some (.next, [t, some (.ref 0), sg, some (.int (code.fdiv 64)), some (.ref (H.length + 1))],
      H ++ [.list [V.int ((code.fdiv 64).fmod 64 + 64)], .list (V.int ((code.fdiv 64).fmod 64 + 64) :: ds)]) := by
  have h1 : (H ++ [O.list [V.int ((code.fdiv 64).fmod 64 + 64)]])[d]? = some (.list ds) := app_at hd
  have h2 : 1 + ds.length ≤ 1000000 := by omega
  simp [octB, gSeq, gAug, bind2, eVar, eVal, iDiv, put, gAssign, eList, eRow, oMod, oAdd, gNil, h1, h2]

theorem oct_while (t sg : Option V) : ∀ (n e : Nat) (code : Int) (ds : List V) (d : Nat) (H : Hp), 0 ≤ code → code < 64 * 64 ^ n → H[d]? = some (.list ds) → ds.length + n ≤ 1000 →
    ∃ ext d' c', gWhile octT octB (n + 1 + e) [t, some (.ref 0), sg, some (.int code), some (.ref d)] H = some (.next, [t, some (.ref 0), sg, some (.int c'), some (.ref d')], H ++ ext) ∧ (H ++ ext)[d']? = some (.list (digs n code ds)) := by
  intro n
  induction n with
  | zero =>
    intro e code ds d H h0 hc hd hl
    refine ⟨[], d, code, ?_, by simpa [digs] using hd⟩
    have : ¬ (64 ≤ code) := by simp at hc; omega
    rw [show 0 + 1 + e = e + 1 by omega]
    simp [gWhile, octT, tVal, bind2, eVar, eVal, cGe, truth, this]
  | succ n ih =>
    intro e code ds d H h0 hc hd hl
    by_cases h64 : 64 ≤ code
    · have hq : code.fdiv 64 < 64 * 64 ^ n := by
        rw [Int.fdiv_eq_ediv_of_nonneg _ (by decide)]
        have : code < (64 * 64 ^ n) * 64 := by rw [Int.pow_succ] at hc; omega
        exact Int.ediv_lt_of_lt_mul (by decide) this
      have hq0 : 0 ≤ code.fdiv 64 := by rw [Int.fdiv_eq_ediv_of_nonneg _ (by decide)]; exact Int.ediv_nonneg h0 (by decide)
      have hs := oct_step t sg code ds d H hd (by omega)
      have hd2 : (H ++ [O.list [V.int ((code.fdiv 64).fmod 64 + 64)], O.list (V.int ((code.fdiv 64).fmod 64 + 64) :: ds)])[H.length + 1]? = some (.list (V.int ((code.fdiv 64).fmod 64 + 64) :: ds)) := by
        rw [List.getElem?_append_right (by omega)]; simp
      obtain ⟨ext, d', c', e1, e2⟩ := ih e (code.fdiv 64) (V.int ((code.fdiv 64).fmod 64 + 64) :: ds) (H.length + 1) _ hq0 hq hd2 (by simp; omega)
      refine ⟨[O.list [V.int ((code.fdiv 64).fmod 64 + 64)], O.list (V.int ((code.fdiv 64).fmod 64 + 64) :: ds)] ++ ext, d', c', ?_, ?_⟩
      · rw [show n + 1 + 1 + e = (n + 1 + e) + 1 by omega, ← List.append_assoc, ← e1]
        conv => lhs; unfold gWhile
        have ht : octT [t, some (.ref 0), sg, some (.int code), some (.ref d)] H = some (true, H) := by simp [octT, tVal, bind2, eVar, eVal, cGe, truth, h64]
        rw [ht]
        simp only [Option.bind_some, if_true]
        rw [hs]
        rfl
      · rw [← List.append_assoc, e2]
        simp only [digs, h64, if_true]
    · refine ⟨[], d, code, ?_, ?_⟩
      · rw [show n + 1 + 1 + e = (n + 1 + e) + 1 by omega]
        conv => lhs; unfold gWhile
        simp [octT, tVal, bind2, eVar, eVal, cGe, truth, h64]
      · simp only [digs, h64, if_false, List.append_nil]; exact hd

noncomputable def octs (c : Int) : List V := digs 3 c [V.int (c.fmod 64)]
theorem oct_turn (t u v w : Option V) (c : Nat) (acc : List V) (H : Hp) (hc : c < 64 * 64 ^ 3) (h0 : H[0]? = some (.list acc)) (hl : acc.length ≤ 1000) :
    ∃ H' u' v' , octL [t, some (.ref 0), some (.str ⟨#[c]⟩), u, v] H = some (.next, [t, some (.ref 0), some (.str ⟨#[c]⟩), u', v'], H') ∧ H'[0]? = some (.list (acc ++ octs c)) := by
  have hlen : (octs (c : Int)).length ≤ 4 := by
    have : ∀ (n : Nat) (x : Int) (ds : List V), (digs n x ds).length ≤ ds.length + n := by
      intro n
      induction n with
      | zero => intro x ds; simp [digs]
      | succ n ih =>
        intro x ds
        unfold digs
        split
        · have := ih (x.fdiv 64) (V.int ((x.fdiv 64).fmod 64 + 64) :: ds)
          simp at this; omega
        · omega
    exact this 3 _ _
  have hH : (H ++ [O.list [V.int ((c : Int).fmod 64)]])[H.length]? = some (.list [V.int ((c : Int).fmod 64)]) := by
    rw [List.getElem?_append_right (Nat.le_refl _)]; simp
  obtain ⟨ext, d', c', e1, e2⟩ := oct_while t (some (.str ⟨#[c]⟩)) 3 60 (c : Int) [V.int ((c : Int).fmod 64)] H.length _ (by omega) (by omega) hH (by simp)
  have h0' : ((H ++ [O.list [V.int ((c : Int).fmod 64)]]) ++ ext)[0]? = some (.list acc) := app_at (app_at h0)
  refine ⟨((H ++ [O.list [V.int ((c : Int).fmod 64)]]) ++ ext).set 0 (.list (acc ++ octs c)), some (.int c'), some (.ref d'), ?_, ?_⟩
  · have e2' : ((H ++ [O.list [V.int ((c : Int).fmod 64)]]) ++ ext)[d']? = some (.list (octs c)) := e2
    have hs : acc.length + (octs (c : Int)).length ≤ 1000000 := by omega
    have hone : ((⟨#[c]⟩ : Str).length = 1) := rfl
    unfold octL
    simp only [gSeq, gAssign, eCall, eRow, eVar, bOrd, hone, if_true, Option.bind_some, Option.map_some, put, eList, bind2, eVal, oMod, List.set, List.getElem?_cons_succ, List.getElem?_cons_zero, Array.getD]
    simp only [show (64 : Int) = 0 ↔ False by decide, if_false, Option.bind_some, Option.map_some]
    have hget : (if h : 0 < (#[c] : Array Nat).size then (#[c] : Array Nat).getInternal 0 h else 0) = c := rfl
    rw [hget]
    rw [show (64 : Nat) = 3 + 1 + 60 from rfl, e1]
    clear e1 e2
    generalize ((H ++ [O.list [V.int ((c : Int).fmod 64)]]) ++ ext) = HH at h0' e2' ⊢
    simp [gAug, bind2, eVar, iAdd, h0', e2', hs, put, gNil]
  · rw [List.getElem?_set_self]
    exact (List.getElem?_eq_some_iff.mp h0').1

/-- the digits of a text -/
noncomputable def octsOf (x : Str) : List V := x.cps.toList.flatMap fun (c : Nat) => octs (c : Int)
theorem oct_turns (t : Option V) : ∀ (cs : List Nat) (sg u v : Option V) (acc : List V) (H : Hp) (xs : List V), (∀ c ∈ cs, c < 64 * 64 ^ 3) → H[0]? = some (.list acc) → acc.length + 4 * cs.length ≤ 1000 → 
    ∃ ρ' H', gTurns none xs (tName 2) octL (cs.map fun c => V.str ⟨#[c]⟩) [t, some (.ref 0), sg, u, v] H = some (.next, ρ', H') ∧ ρ'[1]? = some (some (.ref 0)) ∧ H'[0]? = some (.list (acc ++ cs.flatMap fun (c : Nat) => octs (c : Int))) := by
  intro cs
  induction cs with
  | nil => intro sg u v acc H xs _ h0 _; exact ⟨_, H, rfl, rfl, by simpa using h0⟩
  | cons c cs ih =>
    intro sg u v acc H xs hc h0 hl
    simp only [List.length_cons] at hl
    obtain ⟨H₁, u', v', e1, e2⟩ := oct_turn t u v none c acc H (hc c (List.mem_cons_self ..)) h0 (by omega)
    have hlen : (octs (c : Int)).length ≤ 4 := by
      have : ∀ (n : Nat) (x : Int) (ds : List V), (digs n x ds).length ≤ ds.length + n := by
        intro n
        induction n with
        | zero => intro x ds; simp [digs]
        | succ n ih =>
          intro x ds
          unfold digs
          split
          · have := ih (x.fdiv 64) (V.int ((x.fdiv 64).fmod 64 + 64) :: ds)
            simp at this; omega
          · omega
      exact this 3 _ _
    obtain ⟨ρ', H', f1, f2, f3⟩ := ih (some (.str ⟨#[c]⟩)) u' v' (acc ++ octs (c : Int)) H₁ xs (fun d hd => hc d (List.mem_cons_of_mem _ hd)) e2 (by simp; omega)
    refine ⟨ρ', H', ?_, f2, by rw [f3]; simp⟩
    simp only [List.map_cons, gTurns, okAt, if_true, tName, Option.bind_some]
    rw [show put 2 (V.str ⟨#[c]⟩) [t, some (.ref 0), sg, u, v] = [t, some (.ref 0), some (.str ⟨#[c]⟩), u, v] from rfl, e1]
    exact f1
theorem run_octets (x : Str) (hx : ∀ c ∈ x.cps.toList, c < 64 * 64 ^ 3) (hl : x.cps.toList.length ≤ 200) : ∃ H', Mine.run g_law_octets 1 4 [.str x] [] = some (.ref 0, H') ∧ H'[0]? = some (.list (octsOf x)) := by
  obtain ⟨ρ', H', e1, e2, e3⟩ := oct_turns (some (.str x)) x.cps.toList none none none [] [.list []] (chars x) hx rfl (by rw [List.length_nil]; omega)
  refine ⟨H', ?_, by simpa [octsOf] using e3⟩
  have hch : chars x = x.cps.toList.map fun c => V.str ⟨#[c]⟩ := rfl
  rw [octets_eq]
  unfold Mine.run
  simp only [List.length_singleton, if_true, List.map_cons, List.map_nil]
  have hf : gFor (eVar 0) (tName 2) octL [some (.str x), some (.ref 0), none, none, none] [.list []] = some (.next, ρ', H') := by
    unfold gFor
    simp only [eVar, List.getElem?_cons_zero, Option.bind_some, iterKind]
    rw [hch] at e1 ⊢
    exact e1
  simp [gSeq, gAssign, eList, eRow, put, gRet, eVar, e2, hf]
end Mine
end

/-! part G1 -/
section
set_option maxRecDepth 100000
set_option linter.unusedVariables false
set_option maxHeartbeats 4000000
open PySem PyProof.Rows
namespace Mine
section
variable {w : World} {B : Heap} {k : Nat} {mg : Str → Option Value}
theorem SS.any {prog : Program} {sc : Scope} {vm : List Str} {st : List Stmt} : SS prog w B k sc vm st (fun _ _ => none) := by
  intro ρ H f ρ' H' e
  cases e
section
noncomputable def vm_strip : List Str := ["addr"]
noncomputable def g_strip : Sx := gSeq (gIf (tVal (bind2 (eVal (.str "\"")) (eVar 0) cNotIn)) (gSeq (gRet (eVar 0)) gNil) gNil) (fun _ _ => none)
theorem g_strip_ok (G : GF B mg) : iSS PW w B k (fnScope 2) vm_strip (fnBody 2) g_strip := by
  refine iSS.cons ?_ ?_
  · refine iS1.ite ?_ ?_ ?_
    · refine iST.cmp ?_ ?_ cNotIn_ok
      · refine iSE.str rfl
      · refine iSE.var (n := 0) rfl (by first | exact .inl (by rfl) | exact .inr (.inl (by rfl)) | exact .inr (.inr (by rfl)))
    · refine iSS.cons ?_ ?_
      · refine iS1.ret ?_
        · refine iSE.var (n := 0) rfl (by first | exact .inl (by rfl) | exact .inr (.inl (by rfl)) | exact .inr (.inr (by rfl)))
      · refine iSS.nil
    · refine iSS.nil
  · exact ⟨SS.any⟩
theorem sh_strip : FSh (fnArgs 2) (fnScope 2) [("addr" : Str)] vm_strip := ⟨by rfl, by rfl, by rfl, by decide +kernel, by decide +kernel, by decide +kernel, by decide +kernel, by decide +kernel⟩
theorem bind_strip (pm cd doc : Value) (vals : List Value) (h : vals.length = [("addr" : Str)].length) : bindArgs (Calls.docDef "_strip_quoted_realnames" (fnArgs 2) (fnBody 2) (fnScope 2) pm cd doc) ⟨vals, []⟩ = pure (List.zip [("addr" : Str)] vals) := by
  obtain ⟨v0, rfl⟩ := len_one h
  rfl
theorem c_strip (G : GF B mg) {a : Addr} (F : FnAt B a "_strip_quoted_realnames" (fnArgs 2) (fnBody 2) (fnScope 2)) : CallOk PW w B (k + 1) (.ref a) (Mine.run g_strip 1 0) :=
  CallOk.of_body (m := 0) F G.lim sh_strip bind_strip (g_strip_ok G).h
end
theorem run_strip (x : Str) (H : Hp) (h : strIn "\"" x = false) : Mine.run g_strip 1 0 [.str x] H = some (.str x, H) := by
  simp [Mine.run, g_strip, gSeq, gIf, tVal, bind2, eVal, eVar, cNotIn, truth, gRet, gNil, h]
end
end Mine
end

/-! part G2 -/
section
set_option maxRecDepth 10000
set_option linter.unusedVariables false
open PySem PyProof.Rows
namespace Mine
section
variable {prog : Program} {w : World} {A : Around} {E : Value → Shared → Prop} {s : Shared}

theorem pyNext_genQ {a : Addr} {g n : Nat} {gs : GenState} {P : Nat → Shared → Shared → Prop} {Y : Protocol} {Q : Option Value → Shared → Prop} (hh : A.handled = none)
    (hl : s.heap.NoLimit) (hroom : A.depth < recursionLimit)
    (hg : s.heap.IsGen a g) (hgs : s.gens[g]? = some gs)
    (hgo : gs.Goes (model prog w) A.in1 (fun n s₀ r s₁ => r = .ok (.ret .none) ∧ P n s₀ s₁) Y n (.send .none) (s.setGen g .running))
    (hY : ∀ v s₁ gs', gs'.bare = true → Y (n - 1) (s.setGen g .running) v s₁ (fun r' s'' => match n with
        | 0 => False
        | m + 1 => gs'.Goes (model prog w) A.in1 (fun n s₀ r s₁ => r = .ok (.ret .none) ∧ P n s₀ s₁) Y m r' s'') → Q (some v) (s₁.setGen g gs'))
    (hP : ∀ s₁, P n (s.setGen g .running) s₁ → ∀ h', (∀ b o, s₁.heap.get? b = some o → h'.get? b = some o) → Q none { s₁.setGen g .finished with heap := h' }) :
    wpAny (model prog w) A (pyNext (.ref a)) Q E s := by
  unfold pyNext
  refine wpAny_bind (wpAny_attempt (wpAny_callSpecial?_slot (name := Str.ofString "__next__") hg.typeIs slot_gen_next
    (wpAny_call_entry slot_gen_next hg.typeIs entry_gen_next ?_ (args_gen_next _))))
  show wpAny _ _ (Builtin.Generator.genWake (.ref a) (.send .none)) _ _ s
  unfold Builtin.Generator.genWake
  refine wpAny_bind (wpAny_holding (wpAny_genNumber hg (wpAny_bind (wpAny_genState hgs ?_))))
  cases gs with
  | running => exact hgo.elim
  | finished => exact hgo.elim
  | _ =>
    refine wpAny_bind (wpAny_roomToWake hl hroom ?_)
    show wpAny _ _ (.resume g (.send .none) [] _) _ _ s
    refine wpAny_resumeQ hgs hgo (fun x s₁ hx => ?_) (fun v s₁ gs' hb hv => ?_)
    · obtain ⟨rfl, hp⟩ := hx
      show wpAny _ _ (newExc (.type "StopIteration") [] >>= _) _ _ _
      refine wpAny_bind ?_
      simp only [newExc, newTuple]
      refine wpAny_bind (wpAny_newObj_type ?_ (by size_fits))
      refine wpAny_bind (m := firstArgMember _ _) (wpAny_of_eq (a := Value.none) (by first | rfl | (simp only [firstArgMember]; rfl)) ?_)
      refine wpAny_newObj_type ?_ (by size_fits)
      simp only [raiseNew]
      refine wpAny_bind (wpAny_bind (wpAny_handled ?_))
      rw [show A.in1.handled = none from hh]
      refine wpAny_throw ?_
      refine wpAny_bind (wpAny_isInstance (T := "StopIteration") (b := true) ⟨_, Heap.get?_push_size _ rfl, rfl⟩ isSubtype_stop ?_)
      exact wpAny_pure (hP s₁ hp _ fun b o hb => Heap.get?_push_of_some _ (Heap.get?_push_of_some _ hb))
    · exact wpAny_pure ⟨v, rfl, wpAny_pure (hY v s₁ gs' hb hv)⟩
end

section
variable {M : Model} {A : Around} {R : GenEnd} {Y : Protocol} {n : Nat} {s₀ : Shared} {c : Code} {fs : List Frame} {s : Shared} {env : Env}
  {K : Flow → Sem Fin} {H : Value → Sem Fin} {gd : Bool → Bool} {lv : List Value → List Value}

theorem seg_For {target iter : Expr} {body orelse : List Stmt} {pos : Pos} (hs : ∀ x, foldedSetIterable iter env x = pure x)
    (h : wpAny M (A.over c fs) (eval iter env) (fun x s₁ => wpAny M (A.over c fs) (pyIter x) (fun it s₂ =>
      ∀ p, Seg M A R Y n s₀ (.forLoop target it body orelse env) (M.den (.forLoop target it body orelse env))
      (.ret (fun r => ((match r with | .ok f => (.pure f : Sem Flow) | .error e => .raise e).onRaise fun (x : Value) => do
        if (← field x 1) == Value.none then unsupported "frame.own-activation:exception-without-traceback"
        setFlight x env.frame).wrap K H gd lv) none (gd false) (lv []) c p [] :: fs) s₂) noE s₁) noE s) :
    Seg M A R Y n s₀ c ((exec (.For target iter body orelse pos) env).wrap K H gd lv) fs s := by
  rw [exec_For]
  refine seg_at ?_
  show Seg M A R Y n s₀ c ((eval iter env >>= fun x₀ => foldedSetIterable iter env x₀ >>= fun x => standAt iter.pos >>= fun _ => holding [x] (pyIter x) >>= fun it => runOwn (.forLoop target it body orelse env) env).wrap K H gd lv) fs s
  rw [Sem.bind_eq_wrap', Sem.wrap_wrap]
  refine seg_wrap (wpAny_mono h (fun x s₁ h₁ => ?_) fun _ _ e => e.elim)
  rw [hs x, Sem.bind_eq_wrap', Sem.wrap_wrap]
  refine seg_wrap (wpAny_pure ?_)
  refine seg_at ?_
  show Seg M A R Y n s₀ c ((holding [x] (pyIter x) >>= fun it => runOwn (.forLoop target it body orelse env) env).wrap K H gd lv) fs s₁
  rw [Sem.bind_eq_wrap', Sem.wrap_wrap]
  refine seg_wrap (wpAny_holding (wpAny_mono h₁ (fun it s₂ h₂ => ?_) fun _ _ e => e.elim))
  exact seg_call h₂


theorem seg_If {test : Expr} {body orelse : List Stmt} {pos : Pos}
    (h : wpAny M (A.over c fs) (isTrue test env (eval test env)) (fun b s' => Seg M A R Y n s₀ c ((execs (if b = true then body else orelse) env).wrap K H gd lv) fs s') noE s) :
    Seg M A R Y n s₀ c ((exec (.If test body orelse pos) env).wrap K H gd lv) fs s := by
  rw [exec_If]
  refine seg_at ?_
  show Seg M A R Y n s₀ c ((isTrue test env (eval test env) >>= fun b => if b = true then execs body env else execs orelse env).wrap K H gd lv) fs s
  rw [Sem.bind_eq_wrap', Sem.wrap_wrap]
  refine seg_wrap (wpAny_mono h (fun b s' hb => ?_) fun _ _ e => e.elim)
  cases b <;> simpa using hb
/-- a statement that yields nothing -/
theorem seg_quiet {st : Stmt} (h : wpAny M (A.over c fs) (exec st env) (fun f s' => Seg M A R Y n s₀ c (K f) fs s') noE s) :
    Seg M A R Y n s₀ c ((exec st env).wrap K H gd lv) fs s := seg_wrap (wpAny_mono h (fun _ _ x => x) fun _ _ e => e.elim)
end

section
variable {prog : Program} {w : World} {A : Around} {R : GenEnd} {Y : Protocol} {n : Nat} {s₀ : Shared} {fs : List Frame} {s : Shared} {env : Env}
theorem seg_forLoop {target : Expr} {it : Value} {body : List Stmt}
    (h : wpAny (model prog w) (A.over (.forLoop target it body [] env) fs) (pyNext it) (fun r s₁ => match r with
        | none => ∀ s₂, s₂ = s₁ → Seg (model prog w) A R Y n s₀ (.forLoop target it body [] env) (.pure (.again (.block [] env))) fs s₂
        | some v => wpAny (model prog w) (A.over (.forLoop target it body [] env) fs) (letOwnedTupleGo target it v) (fun _ s₂ => wpAny (model prog w) (A.over (.forLoop target it body [] env) fs) (assign target env v) (fun _ s₃ =>
            Seg (model prog w) A R Y n s₀ (.forLoop target it body [] env) ((execs body env).wrap (fun f => match f with
              | .next | .cont => .pure (.again (.forLoop target it body [] env))
              | .brk => .pure (.done .next)
              | .ret v => .pure (.done (.ret v))) (fun e => (do noteFrame e env; theTreesLotGoes e : Sem Unit).wrap (fun _ => .raise e) .raise id id) id id) fs s₃) noE s₂) noE s₁) noE s) :
    Seg (model prog w) A R Y n s₀ (.forLoop target it body [] env) ((model prog w).den (.forLoop target it body [] env)) fs s := by
  show Seg _ A R Y n s₀ _ ((forTurn target it body [] env).onRaise (fun x => do noteFrame x env; theTreesLotGoes x)) fs s
  unfold forTurn
  rw [Sem.onRaise_eq_wrap, Sem.bind_eq_wrap', Sem.wrap_wrap]
  refine seg_wrap (wpAny_standAt ?_)
  show Seg _ A R Y n s₀ _ ((((pyNext it).onRaise (fun _ => standAt { target.pos with line := 0 })) >>= _ : Sem Fin).wrap _ _ _ _) fs s
  rw [Sem.bind_eq_wrap', Sem.wrap_wrap]
  refine seg_wrap (wpAny_onRaise (wpAny_mono h (fun r s₁ h₁ => ?_) fun _ _ e => e.elim))
  cases r with
  | none => exact h₁ s₁ rfl
  | some v =>
    show Seg _ A R Y n s₀ _ ((letOwnedTupleGo target it v >>= _ : Sem Fin).wrap _ _ _ _) fs s₁
    rw [Sem.bind_eq_wrap', Sem.wrap_wrap]
    refine seg_wrap (wpAny_mono h₁ (fun _ s₂ h₂ => ?_) fun _ _ e => e.elim)
    show Seg _ A R Y n s₀ _ ((assign target env v >>= _ : Sem Fin).wrap _ _ _ _) fs s₂
    rw [Sem.bind_eq_wrap', Sem.wrap_wrap]
    refine seg_wrap (wpAny_mono h₂ (fun _ s₃ h₃ => ?_) fun _ _ e => e.elim)
    show Seg _ A R Y n s₀ _ ((execs body env >>= _ : Sem Fin).wrap _ _ _ _) fs s₃
    rw [Sem.bind_eq_wrap', Sem.wrap_wrap]
    rw [Sem.wrap_congr (execs body env) _ _ (K' := fun f => match f with
            | .next | .cont => .pure (.again (.forLoop target it body [] env))
            | .brk => .pure (.done .next)
            | .ret v => .pure (.done (.ret v))) (H' := (fun e => (do noteFrame e env; theTreesLotGoes e : Sem Unit).wrap (fun _ => .raise e) .raise id id))
        (fun f => by cases f <;> rfl)
        (fun e => by first | exact Sem.bind_eq_wrap _ _ | (show (do noteFrame e env; theTreesLotGoes e : Sem Unit).bind (fun _ => .raise e) = _; rw [Sem.bind_eq_wrap]))]
    exact h₃
end
end Mine
end

/-! part G3 -/
section
set_option maxRecDepth 10000
set_option linter.unusedVariables false
open PySem PyProof.Rows
namespace Mine

noncomputable def E0 : Heap := {}
structure GSince (L e it : Addr) (s₀ s : Shared) : Prop where
  keep : ∀ b o, b ≠ L → b ≠ e → b ≠ it → s₀.heap.get? b = some o → s.heap.get? b = some o
  os : s.os = s₀.os
  gens : GX s₀.gens s.gens
theorem GSince.refl (L e it : Addr) (s : Shared) : GSince L e it s s := ⟨fun _ _ _ _ _ h => h, rfl, GX.refl _⟩
theorem GSince.trans {L e it : Addr} {a b c : Shared} (x : GSince L e it a b) (y : GSince L e it b c) : GSince L e it a c :=
  ⟨fun p o h1 h2 h3 h => y.keep p o h1 h2 h3 (x.keep p o h1 h2 h3 h), y.os.trans x.os, x.gens.trans y.gens⟩
theorem GSince.of {L e it : Addr} {s : Shared} {h' : Heap} {tk : Nat} (h : ∀ b o, b ≠ L → b ≠ e → b ≠ it → s.heap.get? b = some o → h'.get? b = some o) : GSince L e it s { s with heap := h', toks := tk } :=
  ⟨h, rfl, GX.refl _⟩

structure GI (env : Env) (e it : Addr) (x : Str) (t : Tok) (i : Nat) (h : Heap) : Prop where
  ns : ∃ m, h.Ns env.locals m ∧ m "escape" = some (.bool false)
  en : ∃ old, IsEnum h e it i old
  st : h.IsStrIter it (strIterType x) x t i

noncomputable def Yp (L e it : Addr) (x : Str) : Protocol := fun m s₀ v s kap =>
  GSince L e it s₀ s ∧ (∃ T c tk tu, v = .ref T ∧ s.heap.IsTuple T #[.int ((x.cps.size - 1 - m : Nat) : Int) tk, .str ⟨#[c]⟩ tu] ∧ x.cps[x.cps.size - 1 - m]? = some c) ∧
    (∀ b, b = L ∨ b = e ∨ b = it → (s.heap.get? b).isSome = true) ∧
    ∀ s'' : Shared, (∀ b, b = L ∨ b = e ∨ b = it → ∀ o, s.heap.get? b = some o → s''.heap.get? b = some o) → kap (.send .none) s''

section
variable {prog : Program} {w : World}
theorem draws_str {A : Around} (hh : A.handled = none) (it : Addr) (x : Str) (t : Tok) :
    Draws prog w A it [it] x.cps.size (fun i v => ∃ c u, x.cps[i]? = some c ∧ v = .str ⟨#[c]⟩ u) (fun i h => h.IsStrIter it (strIterType x) x t i) := by
  cases ha : x.cps.all (· < 128)
  · have : strIterType x = "str_iterator" := by simp [strIterType, ha]
    rw [this]; exact Draws.strWide hh it x t
  · have : strIterType x = "str_ascii_iterator" := by simp [strIterType, ha]
    rw [this]; exact Draws.strAscii hh it x t

theorem er_of_ns {env : Env} {m : Str → Option Value} {h : Heap} {vm : List Str} {ρ : Lo} (nd : vm.Nodup) (hn : h.Ns env.locals m) (hc : env.cells = []) (hk : ∀ x, env.kindOf x ≠ some .cell ∧ env.kindOf x ≠ some .free)
    (hr : ∀ (n : Nat) (x : Str) (v : V), vm[n]? = some x → ρ[n]? = some (some v) → ∃ c, m x = some c ∧ VR [] v c) : ER E0 vm env ρ [] h := by
  refine ⟨nd, ⟨m, hn, fun n x v h1 _ h3 => hr n x v h1 h3⟩, fun n x v _ h2 _ => ?_, fun x h1 => ?_, by simp, fun p hp => ?_, by rw [hc]; exact List.nodup_nil, by simp [Heap.get?, E0], fun p hp => by simp [Heap.get?, E0]⟩
  · rcases h2 with h | h
    · exact absurd h (hk x).1
    · exact absurd h (hk x).2
  · rcases h1 with h | h
    · exact absurd h (hk x).1
    · exact absurd h (hk x).2
  · rw [hc] at hp; cases hp
theorem sr_empty (h : Heap) : SR E0 [] [] h :=
  ⟨fun b o e => by simp [Heap.get?, E0] at e, rfl, List.nodup_nil, fun k a o e => by simp at e, (fun a h => nomatch h), (fun a h => nomatch h)⟩
theorem SR.nil {B : Heap} {α : List Addr} {h : Heap} (S : SR B α [] h) : α = [] := List.eq_nil_of_length_eq_zero S.len
end
end Mine
end

/-! part G4 -/
section
set_option maxRecDepth 10000
set_option linter.unusedVariables false
open PySem PyProof.Rows
namespace Mine
section
variable {prog : Program} {w : World} {sc : Scope}

structure GSc (sc : Scope) : Prop where
  pos : sc.names.lookup ("pos" : Str) = some .local
  ch : sc.names.lookup ("ch" : Str) = some .local
  esc : sc.names.lookup ("escape" : Str) = some .local
  addr : sc.names.lookup ("addr" : Str) = some .local
  all : sc.names.all (fun p => p.2 != .cell && p.2 != .free) = true
  co : sc.isCoroutine = false

noncomputable def gvm : List Str := ["addr", "pos", "escape", "ch"]

theorem GSc.noc (Z : GSc sc) {env : Env} (O : EO env sc) (x : Str) : env.kindOf x ≠ some .cell ∧ env.kindOf x ≠ some .free := by
  have h : env.kindOf x = sc.names.lookup x := by unfold Env.kindOf; rw [O.scE]
  rw [h]
  constructor <;> intro e <;> have := List.all_eq_true.mp Z.all _ (mem_of_lookup e) <;> simp at this

/-- what stands for the names -/
theorem gi_er {env : Env} {m : Str → Option Value} {h : Heap} (Z : GSc sc) (O : EO env sc) (hc : env.cells = []) (hn : h.Ns env.locals m) (he : m "escape" = some (.bool false)) {i : Int} {tk : Tok} (hp : m "pos" = some (.int i tk))
    {y : Str} {tu : Tok} (hch : m "ch" = some (.str y tu)) : ER E0 gvm env [none, some (.int i), some (.bool false), some (.str y)] [] h := by
  refine er_of_ns (by decide +kernel) hn hc (Z.noc O) fun n x v h1 h2 => ?_
  match n, h1, h2 with
  | 0, h1, h2 => simp at h2
  | 1, h1, h2 => simp [gvm] at h1 h2; subst h1 h2; exact ⟨_, hp, .int _ _⟩
  | 2, h1, h2 => simp [gvm] at h1 h2; subst h1 h2; exact ⟨_, he, .bool _⟩
  | 3, h1, h2 => simp [gvm] at h1 h2; subst h1 h2; exact ⟨_, hch, .str _ _⟩
  | n + 4, h1, h2 => simp at h2
end
end Mine
end

/-! part G5 -/
section
set_option maxRecDepth 10000
set_option linter.unusedVariables false
open PySem PyProof.Rows
namespace Mine
section
variable {prog : Program} {w : World} {sc : Scope}

theorem isSome_keep {h h' : Heap} {b : Addr} (hl : (h.get? b).isSome = true) (hk : ∀ o, h.get? b = some o → h'.get? b = some o) : (h'.get? b).isSome = true := by
  obtain ⟨o, e⟩ := Option.isSome_iff_exists.mp hl
  rw [hk o e]; rfl

theorem esc_loop {A : Around} {R : GenEnd} {env : Env} {e it : Addr} {x : Str} {t : Tok} {fs : List Frame} {yes yes2 : List Stmt} {bs : Str} {p1 p2 p3 p4 p5 p6 p7 p8 p9 p10 p11 q1 q2 q3 : Pos} {k1 k2 k3 : Nat}
    (Z : GSc sc) (O : EO env sc) (hc : env.cells = []) (heL : e ≠ env.locals) (hiL : it ≠ env.locals) (hei : e ≠ it) (hfs : splitAtGen fs = none) (hfg : fs.any Frame.guarded = false)
    (hbs : ∀ (i : Nat) (c : Nat), x.cps[i]? = some c → (⟨#[c]⟩ : Str) ≠ bs) :
    let tgt : Expr := .Tuple [.Name "pos" q1, .Name "ch" q2] k1 q3
    let body : List Stmt := [.If (.Name "escape" p1) yes [.If (.Compare (.Name "ch" p2) [.Eq] [.Constant (.str bs) k2 p3] p9) yes2 [.Expr (.Yield (some (.Tuple [.Name "pos" p4, .Name "ch" p5] k3 p6)) p7) p8] p11] p10]
    let c : Code := .forLoop tgt (.ref e) body [] env
    Room (A.over c fs) 0 →
    (∀ s₀ s, (∃ m, s.heap.Ns env.locals m ∧ m "escape" = some (.bool false)) → GSince env.locals e it s₀ s → Seg (model prog w) A R (Yp env.locals e it x) 0 s₀ c (.pure (.again (.block [] env))) fs s) →
    ∀ j i s₀ s, x.cps.size - i = j → i ≤ x.cps.size → GI env e it x t i s.heap → GSince env.locals e it s₀ s →
      Seg (model prog w) A R (Yp env.locals e it x) j s₀ c ((model prog w).den c) fs s := by
  intro tgt body c hroom hend j
  have hk : env.scope.kind = .function := by rw [O.scE]; exact O.kind
  have hp : (env.scope.kind == .class || (env.scope.kind == .module && env.locals != env.globals)) = false := by rw [hk]; rfl
  have hko : ∀ y, env.kindOf y = sc.names.lookup y := fun y => by unfold Env.kindOf; rw [O.scE]
  have D := draws_str (prog := prog) (w := w) (A := (A.over c fs).in1) hroom.1 it x t
  induction j with
  | zero =>
    intro i s₀ s hj hi I S
    have hin : i = x.cps.size := by omega
    subst hin
    obtain ⟨old, he⟩ := I.en
    refine seg_forLoop (wpAny_pyNext_enum_endD D he I.st fun h' hx => ?_)
    rintro s₂ rfl
    refine hend _ _ ?_ (S.trans (GSince.of (tk := s.toks) fun b o _ _ h3 h => hx b o h3 h))
    obtain ⟨m, hn, hm⟩ := I.ns
    exact ⟨m, hn.at' fun o h => hx _ o (Ne.symm hiL) h, hm⟩
  | succ j ih =>
    intro i s₀ s hj hi I S
    obtain ⟨old, he⟩ := I.en
    obtain ⟨m, hn, hm⟩ := I.ns
    have hlt : i < x.cps.size := by omega
    have heH : e < s.heap.objs.size := Heap.lt_size he
    have hLH : env.locals < s.heap.objs.size := hn.lt
    obtain ⟨oi, hoi, _⟩ := id I.st
    have hiH : it < s.heap.objs.size := Heap.lt_size hoi
    refine seg_forLoop (wpAny_pyNext_enum_itemD D he I.st hlt hei (by simpa using hei) fun xv h₁ tk hP heo hit₁ ht₁ hz₁ hk₁ => ?_)
    obtain ⟨ch, u, hch, rfl⟩ := hP
    refine wpAny_letOwnedTupleGo_enum heo fun h₂ he₂ hs₂ => ?_
    replace hs₂ : Heap.SameBut e h₁ h₂ := hs₂
    have ht₂ : h₂.IsTuple s.heap.objs.size #[.int i tk, .str ⟨#[ch]⟩ u] := ⟨_, (hs₂.2 _ (Nat.ne_of_gt heH)).trans ht₁, rfl, _, rfl⟩
    have hz₂ : h₂.objs.size = s.heap.objs.size + 1 := hs₂.1.trans hz₁
    refine wpAny_assign_Tuple hroom.1 ht₂ rfl rfl fun h₃ hx₃ => ?_
    replace hx₃ : Heap.ExtBut h₂.objs.size h₂ h₃ := hx₃
    have old₃ : ∀ b o, b < s.heap.objs.size → h₂.get? b = some o → h₃.get? b = some o := fun b o hb y => hx₃ b o (by rw [hz₂]; exact Nat.ne_of_lt (Nat.lt_succ_of_lt hb)) y
    have hn₃ : h₃.Ns env.locals m := (hn.at' fun o y => hk₁ _ o (Ne.symm heL) (Ne.symm hiL) y).sameBut hs₂ (Ne.symm heL) |>.at' fun o y => old₃ _ o hLH y
    show wpAny _ _ (do holding [.str ⟨#[ch]⟩ u] (assign (.Name "pos" q1) env (.int i tk)); do holding [] (assign (.Name "ch" q2) env (.str ⟨#[ch]⟩ u)); pure ()) _ _ _
    refine wpAny_bind (wpAny_holding (wpAny_assign_Name (wpAny_storeName_local ((hko _).trans Z.pos) hn₃ (fun h₄ hn₄ hs₄ => ?_) hp)))
    replace hs₄ : Heap.SameBut env.locals h₃ h₄ := hs₄
    refine wpAny_bind (wpAny_holding (wpAny_assign_Name (wpAny_storeName_local ((hko _).trans Z.ch) hn₄ (fun h₅ hn₅ hs₅ => wpAny_pure ?_) hp)))
    replace hs₅ : Heap.SameBut env.locals h₄ h₅ := hs₅
    have k₅ : ∀ b o, b ≠ env.locals → b ≠ e → b ≠ it → s.heap.get? b = some o → h₅.get? b = some o := fun b o n1 n2 n3 y =>
      hs₅.2 b n1 ▸ hs₄.2 b n1 ▸ old₃ b o (Heap.lt_size y) (hs₂.2 b n2 ▸ hk₁ b o n2 n3 y)
    have hit₅ : h₅.IsStrIter it (strIterType x) x t (i + 1) := by
      obtain ⟨o, y, z⟩ := hit₁
      exact ⟨o, hs₅.2 it hiL ▸ hs₄.2 it hiL ▸ old₃ it o hiH (hs₂.2 it (Ne.symm hei) ▸ y), z⟩
    have hen₅ : ∃ old, IsEnum h₅ e it (i + 1) old := by
      exact ⟨_, hs₅.2 e heL ▸ hs₄.2 e heL ▸ old₃ e _ heH he₂⟩
    have hn5 : ∃ m, h₅.Ns env.locals m ∧ m "escape" = some (.bool false) ∧ m "pos" = some (.int i tk) ∧ m "ch" = some (.str ⟨#[ch]⟩ u) :=
      ⟨_, hn₅, (if_neg (by decide)).trans ((if_neg (by decide)).trans hm), (if_neg (by decide)).trans (if_pos rfl), if_pos rfl⟩
    refine (fun (HH : ∀ s₅ : Shared, s₅.heap = h₅ → s₅.os = s.os → s₅.gens = s.gens → Seg _ _ _ _ _ _ _ _ _ s₅) => HH _ (by rfl) (by rfl) (by rfl)) ?_
    rintro s₅ rfl o₅ g₅
    obtain ⟨m₅, hm₅, e₅, P₅, C₅⟩ := hn5
    have R₅ := gi_er Z O hc hm₅ e₅ P₅ C₅
    have hfl : ∀ {b o}, s₅.heap.get? b = some o → True := fun _ => trivial
    refine seg_execs_cons (seg_If ?_)
    have t1 : ST prog w E0 0 sc gvm (.Name "escape" p1) (tVal (eVar 2)) := ST.of (SE.var (n := 2) (x := "escape") rfl (.inl Z.esc))
    refine wpAny_mono (t1 _ [] false [] (by simp [tVal, eVar, truth]) _ env s₅ [] O hroom R₅ (sr_empty _)) (fun b₆ s₆ h₆ => ?_) fun _ _ h => h.elim
    obtain ⟨rfl, α₆, st₆, Q₆⟩ := h₆
    have := Q₆.nil; subst this
    have k₆ : ∀ b o, s₅.heap.get? b = some o → s₆.heap.get? b = some o := fun b o y => st₆.keep b o y (by simp) (by simp)
    have R₆ := R₅.step st₆
    rw [if_neg Bool.false_ne_true]
    refine seg_execs_cons (seg_If ?_)
    have t2 : ST prog w E0 0 sc gvm (.Compare (.Name "ch" p2) [.Eq] [.Constant (.str bs) k2 p3] p9) (tVal (bind2 (eVar 3) (eVal (.str bs)) cEq)) :=
      ST.cmp (SE.var (n := 3) (x := "ch") rfl (.inl Z.ch)) (SE.str rfl) cEq_ok
    have hne : ((⟨#[ch]⟩ : Str) == bs) = false := by simpa using hbs i ch hch
    refine wpAny_mono (t2 _ [] false [] (by simp [tVal, eVar, eVal, bind2, cEq, truth, hne]) _ env s₆ [] O hroom R₆ Q₆) (fun b₇ s₇ h₇ => ?_) fun _ _ h => h.elim
    obtain ⟨rfl, α₇, st₇, Q₇⟩ := h₇
    have := Q₇.nil; subst this
    have k₇ : ∀ b o, s₅.heap.get? b = some o → s₇.heap.get? b = some o := fun b o y => st₇.keep b o (k₆ b o y) (by simp) (by simp)
    have R₇ := R₆.step st₇
    rw [if_neg Bool.false_ne_true]
    refine seg_execs_cons (seg_Expr_Yield hfs rfl hfg ?_ (by rw [O.scE]; exact Z.co) (by unfold interactive; rw [hk]; rfl))
    have t3 : SL prog w E0 0 sc gvm [.Name "pos" p4, .Name "ch" p5] [eVar 1, eVar 3] :=
      SL.cons (SE.var (n := 1) (x := "pos") rfl (.inl Z.pos)) (SL.cons (SE.var (n := 3) (x := "ch") rfl (.inl Z.ch)) SL.nil)
    refine wpAny_Tuple (wpAny_mono (t3 _ [] [.int i, .str ⟨#[ch]⟩] [] (by simp [eRow, eVar]) p6 _ env s₇ [] O hroom R₇ Q₇) (fun cs s₈ h₈ => ?_) fun _ _ h => h.elim)
    obtain ⟨α₈, st₈, Q₈, r₈⟩ := h₈
    have := Q₈.nil; subst this
    have k₈ : ∀ b o, s₅.heap.get? b = some o → s₈.heap.get? b = some o := fun b o y => st₈.keep b o (k₇ b o y) (by simp) (by simp)
    cases r₈ with
    | @cons _ c1 _ _ ra r₈ => cases r₈ with
      | @cons _ c2 _ _ rb r₈ =>
        cases r₈
        cases ra with
        | int _ ti => cases rb with
          | str _ ts =>
            refine ⟨(by decide : 2 ≤ sizeLine), fun kap hkap => ?_⟩
            have kk : ∀ b o, b ≠ env.locals → b ≠ e → b ≠ it → s.heap.get? b = some o → (s₈.heap.push { cls := .type "tuple", data := .seq [Value.int (i : Int) ti, .str ⟨#[ch]⟩ ts].toArray } : Heap).get? b = some o :=
              fun b o n1 n2 n3 y => Heap.get?_push_of_some _ (k₈ b o (k₅ b o n1 n2 n3 y))
            have hN : x.cps.size - 1 - j = i := by omega
            refine ⟨S.trans ⟨kk, st₈.os.trans (st₇.os.trans (st₆.os.trans o₅)), g₅ ▸ st₆.gens.trans (st₇.gens.trans st₈.gens)⟩, ?_, ?_, ?_⟩
            · rw [hN]
              exact ⟨_, ch, ti, ts, rfl, ⟨_, Heap.get?_push_size _ rfl, rfl, _, rfl⟩, hch⟩
            · have lv : ∀ b, (s₅.heap.get? b).isSome = true → ((s₈.heap.push { cls := .type "tuple", data := .seq [Value.int (i : Int) ti, .str ⟨#[ch]⟩ ts].toArray } : Heap).get? b).isSome = true :=
                fun b hl => isSome_keep hl fun o y => Heap.get?_push_of_some _ (k₈ b o y)
              rintro b (h | h | h) <;> rw [h]
              · obtain ⟨o, _, _, y, _⟩ := id hm₅; exact lv _ (by rw [y]; rfl)
              · obtain ⟨old', y⟩ := id hen₅; exact lv _ (by rw [y]; rfl)
              · obtain ⟨o, y, _⟩ := id hit₅; exact lv _ (by rw [y]; rfl)
            · intro s'' ks
              have kz : ∀ b, b = env.locals ∨ b = e ∨ b = it → ∀ o, s₅.heap.get? b = some o → s''.heap.get? b = some o := fun b hb o y =>
                ks b hb o (Heap.get?_push_of_some _ (k₈ b o y))
              refine hkap .none s'' ?_
              refine seg_execs_nil (seg_execs_nil (seg_execs_nil (seg_again rfl ?_)))
              refine ih (i + 1) s'' s'' (by omega) (by omega) ⟨⟨m₅, hm₅.at' (kz _ (.inl rfl)), e₅⟩, ?_, ?_⟩ (GSince.refl ..)
              · obtain ⟨old', y⟩ := hen₅; exact ⟨old', kz _ (.inr (.inl rfl)) _ y⟩
              · obtain ⟨o, y, z⟩ := hit₅; exact ⟨o, kz _ (.inr (.inr rfl)) _ y, z⟩
end
end Mine
end

/-! part G6 -/
section
set_option maxRecDepth 10000
set_option linter.unusedVariables false
open PySem PyProof.Rows
namespace Mine
section
variable {prog : Program} {w : World} {sc : Scope}

theorem Room.over_func {A : Around} {body : List Stmt} {env : Env} (h : Room A 1) : Room (A.over (.func body env) []) 0 := by
  refine ⟨h.1, ?_, ?_⟩
  · have := h.2.1
    show A.depth + 0 + 1 + 0 + 1 < _
    omega
  · have := h.2.2
    show A.units + 0 + 3 + 8 * 0 + 30 < _
    omega
theorem Room.over_loop {A : Around} {body : List Stmt} {env : Env} {t : Expr} {v : Value} {b o : List Stmt} {k g l p kp} (h : Room A 1) :
    Room (A.over (.forLoop t v b o env) [.ret k none g l (.func body env) p kp]) 0 := by
  refine ⟨h.1, ?_, ?_⟩
  · have := h.2.1
    show A.depth + (1 + 0) + 0 + 0 + 1 < _
    omega
  · have := h.2.2
    show A.units + (3 + 0) + 0 + 8 * 0 + 30 < _
    omega

structure GSc2 (sc : Scope) : Prop extends GSc sc where
  enum : sc.names.lookup ("enumerate" : Str) = some .globalImplicit

theorem gen_seg {A : Around} {env : Env} {B : Heap} {mg m : Str → Option Value} {x : Str} {t : Tok} {yes yes2 yes3 : List Stmt} {bs : Str} {p1 p2 p3 p4 p5 p6 p7 p8 p9 p10 p11 q1 q2 q3 r1 r2 r3 r4 r5 r6 r7 r8 r9 r10 r11 r12 : Pos} {k1 k2 k3 k4 k5 : Nat} {s : Shared}
    (Z : GSc2 sc) (O : EO env sc) (hc : env.cells = []) (hbs : ∀ (i : Nat) (c : Nat), x.cps[i]? = some c → (⟨#[c]⟩ : Str) ≠ bs)
    (G : GF B mg) (nen : NameIs mg "enumerate" (.type "enumerate")) (S : SR B [] [] s.heap) (hn : s.heap.Ns env.locals m) (ha : m "addr" = some (.str x t)) (hLB : B.get? env.locals = none) (hroom : Room A 1) :
    let tgt : Expr := .Tuple [.Name "pos" q1, .Name "ch" q2] k1 q3
    let body : List Stmt := [.If (.Name "escape" p1) yes [.If (.Compare (.Name "ch" p2) [.Eq] [.Constant (.str bs) k2 p3] p9) yes2 [.Expr (.Yield (some (.Tuple [.Name "pos" p4, .Name "ch" p5] k3 p6)) p7) p8] p11] p10]
    let all : List Stmt := [.Assign [.Name "pos" r1] (.Constant (.int 0) k4 r2) r3, .Assign [.Name "escape" r4] (.Constant (.bool false) k5 r5) r6, .For tgt (.Call (.Name "enumerate" r7) [.Name "addr" r8] [] r9) body [] r10, .If (.Name "escape" r11) yes3 [] r12]
    Seg (model prog w) A (fun n s₀ r s₁ => r = .ok (.ret .none) ∧ (n = 0 ∧ GSince env.locals (s.heap.objs.size + 1) s.heap.objs.size s₀ s₁)) (Yp env.locals (s.heap.objs.size + 1) s.heap.objs.size x) x.cps.size s
      (.func all env) ((model prog w).den (.func all env)) [] s := by
  intro tgt body all
  have hk : env.scope.kind = .function := by rw [O.scE]; exact O.kind
  have hp : (env.scope.kind == .class || (env.scope.kind == .module && env.locals != env.globals)) = false := by rw [hk]; rfl
  have hko : ∀ y, env.kindOf y = sc.names.lookup y := fun y => by unfold Env.kindOf; rw [O.scE]
  have hLsz : env.locals < s.heap.objs.size := hn.lt
  refine seg_func (seg_execs_cons (seg_quiet (wpAny_Assign_Name (wpAny_Constant_int (wpAny_storeName_local ((hko _).trans Z.pos) hn (fun h₁ hn₁ hs₁ => ?_) hp)) (by rfl))))
  replace hs₁ : Heap.SameBut env.locals s.heap h₁ := hs₁
  refine seg_execs_cons (seg_quiet (wpAny_Assign_Name (wpAny_Constant_bool (wpAny_storeName_local ((hko _).trans Z.esc) hn₁ (fun h₂ hn₂ hs₂ => ?_) hp)) (by rfl)))
  replace hs₂ : Heap.SameBut env.locals h₁ h₂ := hs₂
  refine (fun (HH : ∀ s₂ : Shared, s₂.heap = h₂ → s₂.os = s.os → s₂.gens = s.gens → Seg _ _ _ _ _ _ _ _ _ s₂) => HH _ (by rfl) (by rfl) (by rfl)) ?_
  rintro s₂ rfl o₂ g₂
  have hz₂ : s₂.heap.objs.size = s.heap.objs.size := hs₂.1.trans hs₁.1
  have k₂ : ∀ b o, b ≠ env.locals → s.heap.get? b = some o → s₂.heap.get? b = some o := fun b o n y => hs₂.2 b n ▸ hs₁.2 b n ▸ y
  have S₂ : SR B [] [] s₂.heap := (S.out (by simp) hLB hs₁.extBut).out (by simp) hLB hs₂.extBut
  refine seg_execs_cons (seg_For (fun _ => rfl) ?_)
  refine Call_Name rfl (global_ok G nen Z.enum O S₂ ?_ (by decide))
  refine PySem.callWith_type (by rfl) (Calls.evalArgs_plain ?_)
  refine wpAny_items_cons (wpAny_Name (wpAny_loadName_local hk ((hko _).trans Z.addr) hn₂ ((if_neg (by decide)).trans ((if_neg (by decide)).trans ha)) (wpAny_items_nil ?_)) (by decide)) (by rfl)
  show wpAny _ _ (PySem.call (.type "enumerate") [.str x t]) _ _ s₂
  refine call_enumerate_str fun h₃ he₃ hit₃ hz₃ k₃ => ?_
  rw [hz₂] at he₃ hit₃ hz₃
  rw [hz₂]
  refine wpAny_pyIter_enum he₃ fun pp => ?_
  refine esc_loop Z.toGSc O hc (Nat.ne_of_gt (Nat.lt_succ_of_lt hLsz)) (Nat.ne_of_gt hLsz) (Nat.ne_of_gt (Nat.lt_succ_self _)) (by rfl) (by rfl) hbs hroom.over_loop ?_ x.cps.size 0 s _ (by omega) (Nat.zero_le _) ⟨⟨_, hn₂.at' fun o y => k₃ _ o y, (if_pos rfl)⟩, ⟨_, he₃⟩, hit₃⟩
    ⟨fun b o n1 n2 n3 y => k₃ b o (k₂ b o n1 y), o₂, g₂ ▸ GX.refl _⟩
  rintro s₀ s' ⟨m', hm', e'⟩ HS
  refine seg_again rfl ?_
  refine seg_leaf (.ok .next) ?_
  refine seg_execs_cons (seg_If ?_)
  have R' : ER E0 gvm env [none, none, some (.bool false), none] [] s'.heap := by
    refine er_of_ns (by decide +kernel) hm' hc (Z.toGSc.noc O) fun n x v h1 h2 => ?_
    match n, h1, h2 with
    | 0, h1, h2 => simp at h2
    | 1, h1, h2 => simp at h2
    | 2, h1, h2 => simp [gvm] at h1 h2; subst h1 h2; exact ⟨_, e', .bool _⟩
    | 3, h1, h2 => simp at h2
    | n + 4, h1, h2 => simp at h2
  have t1 : ST prog w E0 0 sc gvm (.Name "escape" r11) (tVal (eVar 2)) := ST.of (SE.var (n := 2) (x := "escape") rfl (.inl Z.esc))
  refine wpAny_mono (t1 _ [] false [] (by simp [tVal, eVar, truth]) _ env s' [] O hroom.over_func R' (sr_empty _)) (fun b s₆ h₆ => ?_) fun _ _ h => h.elim
  obtain ⟨rfl, α₆, st₆, Q₆⟩ := h₆
  rw [if_neg Bool.false_ne_true]
  refine seg_execs_nil (seg_execs_nil (seg_end (.ok (.ret .none)) ⟨rfl, rfl, HS.trans ⟨fun b o _ _ _ y => st₆.keep b o y (by simp) (by simp), st₆.os, st₆.gens⟩⟩))
end
end Mine
end

/-! part G7 -/
section
set_option maxRecDepth 10000
set_option linter.unusedVariables false
open PySem PyProof.Rows
namespace Mine

noncomputable def escTurns (n n' : Nat) (b : Sx) : Nat → List V → Sx
  | _, [] => fun ρ H => some (.next, ρ, H)
  | i, v :: vs => fun ρ H => (b (put n' v (put n (.int i) ρ)) H).bind fun r => match r with
      | (.next, ρ₂, H₂) => escTurns n n' b (i + 1) vs ρ₂ H₂
      | r => some r
noncomputable def gEsc (n n' : Nat) (f : Ex) (b : Sx) : Sx := fun ρ H => (f ρ H).bind fun p => match p with
  | (.str x, H₁) => if x.cps.toList.all (· != 92) then escTurns n n' b 0 (chars x) ρ H₁ else none
  | _ => none

section
variable {prog : Program} {w : World} {B : Heap} {k : Nat} {sc : Scope} {vm : List Str}

structure EI (prog : Program) (w : World) (B : Heap) (vm : List Str) (env : Env) (x : Str) (L e it g0 : Addr) (gi : Nat) (A : Around) (α₁ : List Addr) (s₁ : Shared) (j : Nat) (α : List Addr) (ρ : Lo) (H : Hp) (s : Shared) : Prop where
  st : Step (own env) α₁ s₁ α s
  S : SR B α H s.heap
  R : ER B vm env ρ α s.heap
  gs : ∃ gs, s.gens[gi]? = some gs ∧ gs.Goes (model prog w) A.in1 (fun n s₀ r s₁ => r = .ok (.ret .none) ∧ (n = 0 ∧ GSince L e it s₀ s₁)) (Yp L e it x) j (.send .none) (s.setGen gi .running)
  gen : s.heap.IsGen g0 gi
  nα : ∀ b, b = L ∨ b = e ∨ b = it ∨ b = g0 → b ∉ α ∧ b ∉ own env

theorem EI.wake {env : Env} {x : Str} {L e it g0 : Addr} {gi : Nat} {A : Around} {α₁ : List Addr} {s₁ : Shared} {j : Nat} {α : List Addr} {ρ : Lo} {H : Hp} {s y s'' : Shared} {gs' : GenState}
    (I : EI prog w B vm env x L e it g0 gi A α₁ s₁ j α ρ H s) (fr : ∀ b, b = L ∨ b = e ∨ b = it ∨ b = g0 → s₁.heap.get? b = none) (hB : ∀ b o, B.get? b = some o → s₁.heap.get? b = some o) (hgi : s₁.gens.size ≤ gi)
    (hne : g0 ≠ L ∧ g0 ≠ e ∧ g0 ≠ it)
    (D : GSince L e it (s.setGen gi .running) y) (hb : gs'.bare = true) (hk : ∀ b o, y.heap.get? b = some o → s''.heap.get? b = some o) (hos : s''.os = y.os) (hgens : s''.gens = y.gens.setIfInBounds gi gs') :
    Step (own env) α₁ s₁ α s'' ∧ SR B α H s''.heap ∧ ER B vm env ρ α s''.heap ∧ s''.heap.IsGen g0 gi ∧ s''.gens[gi]? = some gs' := by
  obtain ⟨gs, hgs, _⟩ := I.gs
  have keep : ∀ b o, b ≠ L → b ≠ e → b ≠ it → s.heap.get? b = some o → s''.heap.get? b = some o := fun b o h1 h2 h3 h => hk b o (D.keep b o h1 h2 h3 h)
  have ne : ∀ b, (∃ o, s₁.heap.get? b = some o) → b ≠ L ∧ b ≠ e ∧ b ≠ it := fun b ⟨o, ho⟩ => by
    refine ⟨fun h => ?_, fun h => ?_, fun h => ?_⟩ <;> subst h
    · rw [fr _ (.inl rfl)] at ho; cases ho
    · rw [fr _ (.inr (.inl rfl))] at ho; cases ho
    · rw [fr _ (.inr (.inr (.inl rfl)))] at ho; cases ho
  have nα : ∀ b ∈ α, b ≠ L ∧ b ≠ e ∧ b ≠ it := fun b hb => by
    refine ⟨fun h => ?_, fun h => ?_, fun h => ?_⟩ <;> subst h
    · exact (I.nα _ (.inl rfl)).1 hb
    · exact (I.nα _ (.inr (.inl rfl))).1 hb
    · exact (I.nα _ (.inr (.inr (.inl rfl)))).1 hb
  have no : ∀ b ∈ own env, b ≠ L ∧ b ≠ e ∧ b ≠ it := fun b hb => by
    refine ⟨fun h => ?_, fun h => ?_, fun h => ?_⟩ <;> subst h
    · exact (I.nα _ (.inl rfl)).2 hb
    · exact (I.nα _ (.inr (.inl rfl))).2 hb
    · exact (I.nα _ (.inr (.inr (.inl rfl)))).2 hb
  have hlt : gi < s.gens.size := (Array.getElem?_eq_some_iff.mp hgs).1
  have hyg : y.gens[gi]? = some .running := D.gens.1 gi _ (by show (s.gens.setIfInBounds gi .running)[gi]? = _; rw [Array.getElem?_setIfInBounds_self_of_lt hlt])
  have hylt : gi < y.gens.size := (Array.getElem?_eq_some_iff.mp hyg).1
  refine ⟨⟨I.st.ext, fun b o h h1 h2 => ?_, ?_, ?_⟩, ⟨fun b o h => ?_, I.S.len, I.S.nd, fun q b o e1 e2 => ?_, I.S.new, fun b hb => ?_⟩, I.R.kept ⟨[], by simp, by simp⟩ fun b hb o h => ?_, ?_, ?_⟩
  · obtain ⟨n1, n2, n3⟩ := ne b ⟨o, h⟩
    exact keep b o n1 n2 n3 (I.st.keep b o h h1 h2)
  · rw [hos, D.os]; exact I.st.os
  · rw [hgens]
    refine ⟨fun i z hz => ?_, fun hz q hq => ?_⟩
    · have hil : i < s₁.gens.size := (Array.getElem?_eq_some_iff.mp hz).1
      have hne : gi ≠ i := by omega
      rw [Array.getElem?_setIfInBounds_ne hne]
      refine D.gens.1 i z ?_
      show (s.gens.setIfInBounds gi .running)[i]? = _
      rw [Array.getElem?_setIfInBounds_ne hne]
      exact I.st.gens.1 i z hz
    · have b1 := I.st.gens.2 hz
      have b2 : AllBare (s.setGen gi .running).gens := fun q hq => by
        rcases Array.mem_or_eq_of_mem_setIfInBounds hq with h | h
        · exact b1 q h
        · rw [h]; rfl
      rcases Array.mem_or_eq_of_mem_setIfInBounds hq with h | h
      · exact D.gens.2 b2 q h
      · rw [h]; exact hb
  · obtain ⟨n1, n2, n3⟩ := ne b ⟨o, hB b o h⟩
    exact keep b o n1 n2 n3 (I.S.base b o h)
  · obtain ⟨n1, n2, n3⟩ := nα b (List.mem_of_getElem? e1)
    exact (I.S.obj q b o e1 e2).at fun ob => keep b ob n1 n2 n3
  · obtain ⟨n1, n2, n3⟩ := nα b hb
    exact isSome_keep (I.S.live b hb) fun o => keep b o n1 n2 n3
  · obtain ⟨n1, n2, n3⟩ := no b hb
    exact keep b o n1 n2 n3 h
  · obtain ⟨o, nm, qn, ho, r⟩ := I.gen
    exact ⟨o, nm, qn, keep _ _ hne.1 hne.2.1 hne.2.2 ho, r⟩
  · rw [hgens, Array.getElem?_setIfInBounds_self_of_lt hylt]
end
end Mine
end

/-! part G8 -/
section
set_option maxRecDepth 10000
set_option linter.unusedVariables false
open PySem PyProof.Rows
namespace Mine
section
variable {prog : Program} {w : World} {B : Heap} {k : Nat} {sc : Scope} {vm : List Str}

inductive EscI (prog : Program) (w : World) (B : Heap) (vm : List Str) (n n' : Nat) (b : Sx) (f : F) (ρ' : Lo) (H' : Hp) (env : Env) (x : Str) (L e it g0 : Addr) (gi : Nat) (A : Around) (α₁ : List Addr) (s₁ : Shared) (q : Nat) (s' : Shared) : Prop
  | mk (vs : List V) (ρ : Lo) (H : Hp) (α : List Addr) (i : Nat) (hq : q = vs.length) (e0 : escTurns n n' b i vs ρ H = some (f, ρ', H')) (hi : (chars x).drop i = vs) (hil : i ≤ (chars x).length) (I : EI prog w B vm env x L e it g0 gi A α₁ s₁ vs.length α ρ H s') : EscI prog w B vm n n' b f ρ' H' env x L e it g0 gi A α₁ s₁ q s'
theorem esc_item {n n' : Nat} {xn yn : Str} {c1 : Nat} {p p' p1 : Pos} {body : List Stmt} {b : Sx} {env : Env} {x : Str} {L e it g0 : Addr} {gi : Nat} {A : Around} {α₁ : List Addr} {s₁ : Shared} {f : F} {ρ' : Lo} {H' : Hp} {Q1 : Flow → Shared → Prop} {E : Value → Shared → Prop}
    (fr : ∀ b, b = L ∨ b = e ∨ b = it ∨ b = g0 → s₁.heap.get? b = none) (hB : ∀ b o, B.get? b = some o → s₁.heap.get? b = some o) (hgi : s₁.gens.size ≤ gi)
    (hne : g0 ≠ L ∧ g0 ≠ e ∧ g0 ≠ it) (hn : vm[n]? = some xn) (hx : sc.names.lookup xn = some .local) (hn' : vm[n']? = some yn) (hy : sc.names.lookup yn = some .local)
    (hbd : SS prog w B k sc vm body b) (O : EO env sc) (Rm : Room A k)
    {vs : List V} {ρ : Lo} {H : Hp} {α : List Addr} {s' : Shared} {i : Nat} (e0 : escTurns n n' b i vs ρ H = some (f, ρ', H')) (hi : (chars x).drop i = vs) (I : EI prog w B vm env x L e it g0 gi A α₁ s₁ vs.length α ρ H s')
    {v : Value} {y : Shared} {gs' : GenState} (hb : gs'.bare = true)
    (hv : Yp L e it x (vs.length - 1) (s'.setGen gi .running) v y (fun r' s'' => match vs.length with
        | 0 => False
        | m + 1 => gs'.Goes (model prog w) A.in1 (fun n s₀ r s₁ => r = .ok (.ret .none) ∧ (n = 0 ∧ GSince L e it s₀ s₁)) (Yp L e it x) m r' s''))
    (hnext : ∀ v' vs' ρ₂ H₂ α₆ s₆, vs = v' :: vs' → escTurns n n' b (i + 1) vs' ρ₂ H₂ = some (f, ρ', H') → (chars x).drop (i + 1) = vs' → i + 1 ≤ (chars x).length → EI prog w B vm env x L e it g0 gi A α₁ s₁ vs'.length α₆ ρ₂ H₂ s₆ → Q1 .next s₆)
    (hret : ∀ c s₆, SPost B vm env α₁ s₁ f ρ' H' (.ret c) s₆ → Q1 (.ret c) s₆) :
    wpAny (model prog w) A (letOwnedTupleGo (.Tuple [.Name xn p, .Name yn p'] c1 p1) (.ref g0) v) (fun _ s₁' => wpAny (model prog w) A (assign (.Tuple [.Name xn p, .Name yn p'] c1 p1) env v) (fun _ s₂ => wpAny (model prog w) A (execs body env) Q1 E s₂) E s₁') E (y.setGen gi gs') := by
  have hcl : (chars x).length = x.cps.size := by simp [chars]
  have lens : vs.length = x.cps.size - i := by rw [← hi, List.length_drop, hcl]
  obtain ⟨D, ⟨T, c, tk, tu, rfl, hT, hc⟩, live, kz⟩ := hv
  cases vs with
  | nil => exact (kz y (fun _ _ _ h => h)).elim
  | cons v vs =>
    obtain ⟨st₂, S₂, R₂, gen₂, hgs₂⟩ := I.wake fr hB hgi hne D hb (s'' := y.setGen gi gs') (fun _ _ h => h) rfl rfl
    have st₂' := st₂
    obtain ⟨og, nm, qn, hog, hcls, hdat, hsl⟩ := id gen₂
    refine letgo_ok rfl ⟨og, "generator", hog, hcls, by decide⟩ ?_
    have hT₂ : (y.setGen gi gs').heap.IsTuple T #[.int ((x.cps.size - 1 - ((v :: vs).length - 1) : Nat) : Int) tk, .str ⟨#[c]⟩ tu] := hT
    obtain ⟨hxi, hi'⟩ := drop_step hi
    obtain ⟨c', hc', rfl⟩ := chars_get hxi
    have hlt : i < x.cps.size := (Array.getElem?_eq_some_iff.mp hc').1
    have hii : x.cps.size - 1 - ((V.str ⟨#[c']⟩ :: vs).length - 1) = i := by simp only [List.length_cons] at lens ⊢; omega
    rw [hii] at hT₂
    rw [hii, hc'] at hc
    have hcc := Option.some.inj hc
    subst hcc
    refine wpAny_assign_Tuple Rm.1 hT₂ rfl rfl fun h₃ hx₃ => ?_
    have hyh : ∀ b o, y.heap.get? b = some o → (y.setGen gi gs').heap.get? b = some o := fun _ _ h => h
    generalize y.setGen gi gs' = y₂ at *
    have k₃ : ∀ b o, y₂.heap.get? b = some o → h₃.get? b = some o := fun b o h => hx₃ b o (Nat.ne_of_lt (Heap.lt_size h)) h
    have st₃ : Step [] α y₂ α { y₂ with heap := h₃ } := Step.kept k₃ (tk := y₂.toks)
    have S₃ : SR B α H h₃ := S₂.at k₃
    have R₃ : ER B vm env ρ α h₃ := R₂.step st₃
    show wpAny _ _ (do holding [.str ⟨#[c']⟩ tu] (assign (.Name xn p) env (.int i tk)); do holding [] (assign (.Name yn p') env (.str ⟨#[c']⟩ tu)); pure ()) _ _ _
    refine wpAny_bind (wpAny_holding (wpAny_assign_Name (store_loc (s := { y₂ with heap := h₃ }) hn hx O R₃ S₃ (.int _ _) fun s₄ st₄ S₄ R₄ => ?_)))
    refine wpAny_bind (wpAny_holding (wpAny_assign_Name (store_loc hn' hy O R₄ S₄ (.str _ _) fun s₅ st₅ S₅ R₅ => ?_)))
    have live₄ : ∀ u ∈ [env.locals], (s₄.heap.get? u).isSome = true := fun u hu => R₄.live u (by rw [List.mem_singleton.mp hu]; exact List.mem_cons_self ..)
    have own1 : ∀ u ∈ [env.locals], u ∈ own env := fun u hu => by rw [List.mem_singleton.mp hu]; exact List.mem_cons_self ..
    have st5 : Step (own env) α y₂ α s₅ := ((st₃.after st₄ S₄.nd fun u hu => own_live R₂ u (own1 u hu)).both st₅ S₅.nd live₄).weak own1
    refine wpAny_pure ?_
    obtain ⟨⟨f₁, ρ₂, H₂⟩, e2, e0⟩ := Option.bind_eq_some_iff.mp e0
    refine wpAny_mono (hbd _ H f₁ ρ₂ H₂ e2 A env s₅ α O Rm R₅ S₅) (fun c s₆ h₆ => ?_) fun _ _ h => h.elim
    obtain ⟨α₆, st₆, S₆, R₆, fr₆⟩ := h₆
    have st26 : Step (own env) α y₂ α₆ s₆ := st5.both st₆ S₆.nd R₅.live
    have st16 : Step (own env) α₁ s₁ α₆ s₆ := st₂.both st26 S₆.nd R₂.live
    have live₂ : ∀ b, b = L ∨ b = e ∨ b = it ∨ b = g0 → (y₂.heap.get? b).isSome = true := fun b hb => by
      rcases hb with h | h | h | h
      · exact isSome_keep (live b (.inl h)) (hyh b)
      · exact isSome_keep (live b (.inr (.inl h))) (hyh b)
      · exact isSome_keep (live b (.inr (.inr h))) (hyh b)
      · rw [h, hog]; rfl
    cases fr₆ with
    | next =>
      refine hnext _ vs ρ₂ H₂ α₆ s₆ rfl e0 hi' (by rw [hcl]; exact hlt) ⟨st16, S₆, R₆, ⟨gs', st26.gens.1 gi _ hgs₂, ?_⟩, ?_, fun b hb => ⟨fun hm => ?_, (I.nα b hb).2⟩⟩
      · exact kz (s₆.setGen gi .running) fun b hb o h => st26.keep b o (hyh b o h) (I.nα b (by rcases hb with h | h | h <;> simp [h])).1 (I.nα b (by rcases hb with h | h | h <;> simp [h])).2
      · exact ⟨og, nm, qn, st26.keep _ _ hog (I.nα _ (by simp)).1 (I.nα _ (by simp)).2, hcls, hdat, hsl⟩
      · obtain ⟨δ, rfl, hδ⟩ := st26.ext
        rcases List.mem_append.mp hm with h | h
        · exact (I.nα b hb).1 h
        · have := live₂ b hb
          rw [hδ b h] at this; cases this
    | ret h =>
      cases e0
      exact hret _ _ ⟨α₆, st16, S₆, R₆, .ret h⟩

theorem esc_for {n n' : Nat} {xn yn : Str} {c1 : Nat} {p p' p1 : Pos} {body : List Stmt} {b : Sx} {env : Env} {x : Str} {L e it g0 : Addr} {gi : Nat} {A : Around} {α₁ : List Addr} {s₁ : Shared} {f : F} {ρ' : Lo} {H' : Hp} {R' : Result → Shared → Prop}
    (fr : ∀ b, b = L ∨ b = e ∨ b = it ∨ b = g0 → s₁.heap.get? b = none) (hB : ∀ b o, B.get? b = some o → s₁.heap.get? b = some o) (hgi : s₁.gens.size ≤ gi) (lim : B.NoLimit)
    (hne : g0 ≠ L ∧ g0 ≠ e ∧ g0 ≠ it) (hn : vm[n]? = some xn) (hx : sc.names.lookup xn = some .local) (hn' : vm[n']? = some yn) (hy : sc.names.lookup yn = some .local)
    (hbd : SS prog w B k sc vm body b) (O : EO env sc) (Rm : Room A k) (hR : ∀ c s', SPost B vm env α₁ s₁ f ρ' H' c s' → R' (.ok (match c with | .ret v => .ret v | _ => .next)) s')
    {vs : List V} {ρ : Lo} {H : Hp} {α : List Addr} {s : Shared} {i : Nat} (e0 : escTurns n n' b i vs ρ H = some (f, ρ', H')) (hi : (chars x).drop i = vs) (hil : i ≤ (chars x).length) (I : EI prog w B vm env x L e it g0 gi A α₁ s₁ vs.length α ρ H s) :
    codeAny (model prog w) A (.forLoop (.Tuple [.Name xn p, .Name yn p'] c1 p1) (.ref g0) body [] env) R' s := by
  refine codeAny_forLoop_any (EscI prog w B vm n n' b f ρ' H' env x L e it g0 gi A α₁ s₁) ?_ vs.length ⟨vs, ρ, H, α, i, rfl, e0, hi, hil, I⟩
  rintro q s' ⟨vs, ρ, H, α, i, rfl, e0, hi, hil, I⟩
  obtain ⟨gs, hgs, hgo⟩ := I.gs
  have hcl : (chars x).length = x.cps.size := by simp [chars]
  have lens : vs.length = x.cps.size - i := by rw [← hi, List.length_drop, hcl]
  refine pyNext_genQ Rm.1 (lim.keeps I.S.base) Rm.depth I.gen hgs hgo (fun v y gs' hb hv => ?_) (fun y hp h' hk => ?_)
  · exact esc_item fr hB hgi hne hn hx hn' hy hbd O Rm e0 hi I hb hv (fun v' vs' ρ₂ H₂ α₆ s₆ h1 h2 h3 h4 h5 => ⟨vs'.length, by rw [h1]; exact Nat.lt_succ_self _, vs', ρ₂, H₂, α₆, i + 1, rfl, h2, h3, h4, h5⟩) (fun c s₆ h => hR (.ret c) s₆ h)
  · obtain ⟨hn0, D⟩ := hp
    have := List.eq_nil_of_length_eq_zero hn0
    subst this
    cases e0
    obtain ⟨a, b, c, _⟩ := I.wake fr hB hgi hne D (gs' := .finished) rfl (s'' := { y.setGen gi .finished with heap := h' }) hk rfl rfl
    exact wpAny_execs_nil (hR .next _ ⟨α, a, b, c, .next⟩)
end
end Mine
end

/-! part G9 -/
section
set_option maxRecDepth 100000
set_option linter.unusedVariables false
set_option maxHeartbeats 4000000
open PySem PyProof.Rows
namespace Mine
section
variable {w : World} {B : Heap} {k : Nat} {sc : Scope} {vm : List Str} {mg : Str → Option Value}

theorem gsc1 : GSc2 (fnScope 1) := ⟨⟨by rfl, by rfl, by rfl, by rfl, by decide +kernel, by rfl⟩, by rfl⟩

theorem bs_ne {x : Str} (h : x.cps.toList.all (· != 92) = true) (i c : Nat) (hc : x.cps[i]? = some c) : (⟨#[c]⟩ : Str) ≠ Str.ofString "\\" := by
  intro e
  have e1 : (Str.ofString "\\") = ⟨#[92]⟩ := by decide +kernel
  rw [e1] at e
  have e2 : c = 92 := by injection e with e; simpa using e
  have := List.all_eq_true.mp h c (List.mem_of_getElem? (by rw [Array.getElem?_toList]; exact hc))
  simp [e2] at this

theorem gen1_seg {A : Around} {env : Env} {m : Str → Option Value} {x : Str} {t : Tok} {s : Shared}
    (O : EO env (fnScope 1)) (hc : env.cells = []) (hbs : x.cps.toList.all (· != 92) = true)
    (G : GF B mg) (nen : NameIs mg "enumerate" (.type "enumerate")) (S : SR B [] [] s.heap) (hn : s.heap.Ns env.locals m) (ha : m "addr" = some (.str x t)) (hLB : B.get? env.locals = none) (hroom : Room A 1) :
    Seg (model PW w) A (fun n s₀ r s₁ => r = .ok (.ret .none) ∧ (n = 0 ∧ GSince env.locals (s.heap.objs.size + 1) s.heap.objs.size s₀ s₁)) (Yp env.locals (s.heap.objs.size + 1) s.heap.objs.size x) x.cps.size s
      (.func (fnBody 1) env) ((model PW w).den (.func (fnBody 1) env)) [] s :=
  gen_seg gsc1 O hc (bs_ne hbs) G nen S hn ha hLB hroom

theorem SR.base0 {B : Heap} {α : List Addr} {H : Hp} {h : Heap} (S : SR B α H h) : SR B [] [] h :=
  ⟨S.base, rfl, List.nodup_nil, fun k a o e => by simp at e, (fun a h => nomatch h), (fun a h => nomatch h)⟩

theorem S1.esc {n n' : Nat} {xn yn : Str} {c1 : Nat} {p p' p1 p2 p3 pos : Pos} {e : Expr} {body : List Stmt} {f : Ex} {b : Sx} {a1 : Addr} (G : GF B mg) (hx : NameIs mg "_iter_escaped_chars" (.ref a1))
    (F : FnAt B a1 "_iter_escaped_chars" (fnArgs 1) (fnBody 1) (fnScope 1)) (nen : NameIs mg "enumerate" (.type "enumerate")) (hk : sc.names.lookup ("_iter_escaped_chars" : Str) = some .globalImplicit)
    (hn : vm[n]? = some xn) (hxl : sc.names.lookup xn = some .local) (hn' : vm[n']? = some yn) (hyl : sc.names.lookup yn = some .local)
    (hf : SE PW w B (k + 2) sc vm e f) (hbd : SS PW w B (k + 2) sc vm body b) (hst : ∀ env, starEach [e] env = [(false, eval e env)] := by intro _; rfl) :
    S1 PW w B (k + 2) sc vm (.For (.Tuple [.Name xn p, .Name yn p'] c1 p1) (.Call (.Name "_iter_escaped_chars" p2) [e] [] p3) body [] pos) (gEsc n n' f b) := by
  intro ρ H f' ρ' H' q A env s α O Rm R S
  obtain ⟨⟨v, H₁⟩, e1, q⟩ := Option.bind_eq_some_iff.mp q
  cases v with
  | str x =>
    dsimp only at q
    split at q
    · rename_i hall
      obtain ⟨o, pm, cd, doc, ho, hdata, hcd⟩ := id F
      refine wpAny_For (Call_Name rfl (global_ok G hx hk O S ?_ (by decide))) (by intro _; rfl)
      have main := (SL.cons hf SL.nil hst) ρ H [.str x] H₁ (by simp [eRow, e1]) p3 A env s α O Rm R S
      rw [hst] at main ⊢
      refine Calls.callWith_function (o := o) (fd := Calls.docDef "_iter_escaped_chars" (fnArgs 1) (fnBody 1) (fnScope 1) pm cd doc) (Calls.evalArgs_plain (wpAny_mono main (fun cs s₁ h₁ => ?_) fun _ _ h => h))
      obtain ⟨α₁, st₁, S₁, r₁⟩ := h₁
      refine ⟨⟨S₁.base _ _ ho, hdata⟩, ?_⟩
      cases r₁ with
      | @cons _ c _ _ rc r₁ =>
        cases r₁
        cases rc with
        | str _ t =>
          have R₁ := R.step st₁
          refine wpAny_call ?_
          have hbind : bindArgs (Calls.docDef "_iter_escaped_chars" (fnArgs 1) (fnBody 1) (fnScope 1) pm cd doc) ⟨[.str x t], []⟩ = pure [(("addr" : Str), .str x t)] := by rfl
          refine codeAny_call_generator Rm.depth (S₁.base _ _ ho) hdata (by rfl) (by rfl) (by rfl) (hcd.keeps S₁.base) ?_
          rw [show [] ++ [Value.str x t] = [Value.str x t] from rfl, hbind]
          refine wpAny_pure (wpAny_newFunctionEnv_cells (by rfl) (fun z hz => .inl (by rw [List.mem_singleton.mp hz]; rfl)) fun ge hge s₂ x₂ => ?_)
          have Og : EO ge (fnScope 1) := by subst hge; exact ⟨rfl, by rfl, rfl, rfl⟩
          have hL : ge.locals = s₁.heap.objs.size := by subst hge; rfl
          have hcl : ge.cells = [] := by subst hge; rfl
          have hkad : ge.kindOf "addr" = some .local := by subst hge; rfl
          clear hge
          obtain ⟨h₂, tk₂, es, keep₂⟩ := x₂.done
          have keep12 : ∀ b o, s₁.heap.get? b = some o → s₂.heap.get? b = some o := by rw [es]; exact keep₂
          have hos₂ : s₂.os = s₁.os := by rw [es]
          have hg₂ : s₂.gens = s₁.gens := by rw [es]
          have hL2 : ge.locals < s₂.heap.objs.size := x₂.toInCall.ns.lt
          clear es keep₂
          refine ⟨G.lim.keeps fun b o h => keep12 b o (S₁.base b o h), ?_⟩
          refine wpAny_pyIter_gen (g := s₂.gens.size) ⟨_, _, _, Heap.get?_push_size _ rfl, rfl, rfl, rfl⟩ ?_
          refine (fun (HH : ∀ (s₃ : Shared) (gob : Obj), s₃.heap = s₂.heap.push gob → s₃.gens = s₂.gens.push (.fresh (.func (fnBody 1) ge)) → s₃.os = s₂.os → gob.data ≠ .freed → s₃.heap.IsGen s₂.heap.objs.size s₂.gens.size → codeAny _ _ _ _ s₃) =>
            HH _ _ (by rfl) (by rfl) (by rfl) (by simp) ⟨_, _, _, Heap.get?_push_size _ rfl, rfl, rfl, rfl⟩) ?_
          intro s₃ gob hh₃ hg₃ ho₃ hfr gen₃
          have hz₃ : s₃.heap.objs.size = s₂.heap.objs.size + 1 := by rw [hh₃]; exact Heap.size_push ..
          have keep23 : ∀ b o, s₂.heap.get? b = some o → s₃.heap.get? b = some o := fun b o h => by rw [hh₃]; exact Heap.get?_push_of_some _ h
          have keep13 : ∀ b o, s₁.heap.get? b = some o → s₃.heap.get? b = some o := fun b o h => keep23 b o (keep12 b o h)
          have hge1 : ∀ b, b = ge.locals ∨ b = s₃.heap.objs.size + 1 ∨ b = s₃.heap.objs.size ∨ b = s₂.heap.objs.size → s₁.heap.objs.size ≤ b := by
            rw [hL] at hL2 ⊢
            rintro b (h | h | h | h) <;> rw [h]
            · exact Nat.le_refl _
            · rw [hz₃]; exact Nat.le_of_lt (Nat.lt_of_lt_of_le hL2 (by exact Nat.le_trans (Nat.le_succ _) (Nat.le_succ _)))
            · rw [hz₃]; exact Nat.le_of_lt (Nat.lt_of_lt_of_le hL2 (Nat.le_succ _))
            · exact Nat.le_of_lt hL2
          have fr : ∀ b, b = ge.locals ∨ b = s₃.heap.objs.size + 1 ∨ b = s₃.heap.objs.size ∨ b = s₂.heap.objs.size → s₁.heap.get? b = none := fun b hb => size_none (hge1 b hb)
          have S₃ : SR B α₁ H₁ s₃.heap := S₁.at keep13
          have hsz3 : (s₃.setGen s₂.gens.size .running).heap.objs.size = s₃.heap.objs.size := rfl
          refine esc_for (L := ge.locals) (e := s₃.heap.objs.size + 1) (it := s₃.heap.objs.size) (g0 := s₂.heap.objs.size) (gi := s₂.gens.size) (i := 0) fr S₁.base (by rw [hg₂]; exact Nat.le_refl _) G.lim
            ⟨Nat.ne_of_gt hL2, by rw [hz₃]; exact Nat.ne_of_lt (Nat.lt_succ_of_lt (Nat.lt_succ_self _)), by rw [hz₃]; exact Nat.ne_of_lt (Nat.lt_succ_self _)⟩ hn hxl hn' hyl hbd O Rm (fun c s' h => ?_) q rfl (Nat.zero_le _)
            ⟨⟨⟨[], (List.append_nil α₁).symm, by simp⟩, fun b o h _ _ => keep13 b o h, ho₃.trans hos₂, ?_⟩, S₃, R₁.kept ⟨[], by simp, by simp⟩ fun a ha o h => keep13 a o h, ⟨.fresh (.func (fnBody 1) ge), by rw [hg₃]; exact Array.getElem?_push_size, rfl, ?_⟩, gen₃, fun b hb => ⟨fun h => ?_, fun h => ?_⟩⟩
          · have h' := h.after (st₁.weak (fun _ h => nomatch h)) R₁.live
            obtain ⟨α', st', S', R', fr'⟩ := h'
            cases fr' with
            | next => exact ⟨α', st', S', R', .next⟩
            | ret hh => exact ⟨α', st', S', R', .ret hh⟩
          · rw [hg₃, hg₂]
            refine ⟨fun i z hz => ?_, fun h => h.push rfl⟩
            rw [Array.getElem?_push, if_neg (Nat.ne_of_lt (Array.getElem?_eq_some_iff.mp hz).1)]
            exact hz
          · have hlen : (chars x).length = x.cps.size := by simp [chars]
            rw [hlen]
            have := gen1_seg (s := s₃.setGen s₂.gens.size .running) (A := A.in1) Og hcl hall G nen S₃.base0 (x₂.toInCall.ns.at' fun o => keep23 _ o) (t := t) ?_ ?_ ?_ (w := w)
            · exact this
            · exact bindL_get _ _ _ _ _ (by simp) (List.mem_singleton.mpr rfl) hkad
            · cases hb : B.get? ge.locals with
              | none => rfl
              | some o => have := S₁.base _ _ hb; rw [fr _ (.inl rfl)] at this; cases this
            · have h1 := Rm.2.1
              have h2 := Rm.2.2
              exact ⟨Rm.1, by show A.depth + 1 + 1 < _; omega, by show A.units + 1 + 8 * 1 + 30 < _; omega⟩
          · have := S₁.live _ h; rw [fr b hb] at this; cases this
          · have := R₁.live _ h; rw [fr b hb] at this; cases this
    · cases q
  | none => cases q
  | bool => cases q
  | int => cases q
  | ref => cases q
  | typ => cases q
  | base => cases q
theorem iS1.esc {n n' : Nat} {xn yn : Str} {c1 : Nat} {p p' p1 p2 p3 pos : Pos} {e : Expr} {body : List Stmt} {f : Ex} {b : Sx} {a1 : Addr} (G : GF B mg) (hx : NameIs mg "_iter_escaped_chars" (.ref a1))
    (F : FnAt B a1 "_iter_escaped_chars" (fnArgs 1) (fnBody 1) (fnScope 1)) (nen : NameIs mg "enumerate" (.type "enumerate")) (hk : sc.names.lookup ("_iter_escaped_chars" : Str) = some .globalImplicit)
    (hn : vm[n]? = some xn) (hxl : sc.names.lookup xn = some .local) (hn' : vm[n']? = some yn) (hyl : sc.names.lookup yn = some .local)
    (hf : iSE PW w B (k + 2) sc vm e f) (hbd : iSS PW w B (k + 2) sc vm body b) (hst : ∀ env, starEach [e] env = [(false, eval e env)] := by intro _; rfl) :
    iS1 PW w B (k + 2) sc vm (.For (.Tuple [.Name xn p, .Name yn p'] c1 p1) (.Call (.Name "_iter_escaped_chars" p2) [e] [] p3) body [] pos) (gEsc n n' f b) :=
  ⟨S1.esc G hx F nen hk hn hxl hn' hyl hf.h hbd.h hst⟩
end
end Mine
end

/-! part W6 -/
section
set_option maxRecDepth 100000
set_option linter.unusedVariables false
set_option maxHeartbeats 4000000
open PySem PyProof.Rows
namespace Mine
section
variable {w : World} {B : Heap} {k : Nat} {mg : Str → Option Value}

noncomputable def vm_check_parenthesis : List Str := ["addr", "opens", "pos", "ch"]
noncomputable def g_check_parenthesis (h_strip_quoted_realnames : CF) : Sx :=
  (gSeq (gAssign 0 (eCall [(eVar 0)] h_strip_quoted_realnames))
  (gSeq (gAssign 1 (eVal (.int 0)))
  (gSeq (gEsc 2 3 (eVar 0) (gSeq (gIf (tVal (bind2 (eVar 3) (eVal (.str "(")) cEq)) (gSeq (gAug 1 (eVal (.int 1)) iAdd)
  gNil) (gSeq (gIf (tVal (bind2 (eVar 3) (eVal (.str ")")) cEq)) (gSeq (gAug 1 (eVal (.int 1)) iSub)
  (gSeq (gIf (tVal (bind2 (eVar 1) (eVal (.int 0)) cLt)) (gSeq (gRet (eVal (.bool false)))
  gNil) gNil)
  gNil)) gNil)
  gNil))
  gNil))
  (gSeq (gRet (bind2 (eVar 1) (eVal (.int 0)) cEq))
  gNil))))
theorem g_check_parenthesis_ok (G : GF B mg) {aE : Addr} (xE : NameIs mg "_iter_escaped_chars" (.ref aE)) (FE : FnAt B aE "_iter_escaped_chars" (fnArgs 1) (fnBody 1) (fnScope 1)) (nenum : NameIs mg "enumerate" (.type "enumerate")) {a_strip_quoted_realnames : Addr} (x_strip_quoted_realnames : NameIs mg "_strip_quoted_realnames" (.ref a_strip_quoted_realnames)) (c_strip_quoted_realnames : Callee B (.ref a_strip_quoted_realnames)) {h_strip_quoted_realnames : CF} (o_strip_quoted_realnames : CallOk PW w B (k + 2) (.ref a_strip_quoted_realnames) h_strip_quoted_realnames) : iSS PW w B (k + 2) (fnScope 3) vm_check_parenthesis (fnBody 3) (g_check_parenthesis h_strip_quoted_realnames) := by
  refine iSS.cons ?_ ?_
  · refine iS1.assign (n := 0) rfl (by first | exact .inl (by rfl) | exact .inr (by rfl)) ?_
    · refine iSE.call G x_strip_quoted_realnames c_strip_quoted_realnames (by rfl) ?_ o_strip_quoted_realnames
      · refine iSL.cons ?_ ?_
        · refine iSE.var (n := 0) rfl (by first | exact .inl (by rfl) | exact .inr (.inl (by rfl)) | exact .inr (.inr (by rfl)))
        · refine iSL.nil
  · refine iSS.cons ?_ ?_
    · refine iS1.assign (n := 1) rfl (by first | exact .inl (by rfl) | exact .inr (by rfl)) ?_
      · refine iSE.int
    · refine iSS.cons ?_ ?_
      · refine iS1.esc (n := 2) (n' := 3) G xE FE nenum (by rfl) rfl (by rfl) rfl (by rfl) ?_ ?_
        · refine iSE.var (n := 0) rfl (by first | exact .inl (by rfl) | exact .inr (.inl (by rfl)) | exact .inr (.inr (by rfl)))
        · refine iSS.cons ?_ ?_
          · refine iS1.ite ?_ ?_ ?_
            · refine iST.cmp ?_ ?_ cEq_ok
              · refine iSE.var (n := 3) rfl (by first | exact .inl (by rfl) | exact .inr (.inl (by rfl)) | exact .inr (.inr (by rfl)))
              · refine iSE.str rfl
            · refine iSS.cons ?_ ?_
              · refine iS1.aug (n := 1) rfl (by first | exact .inl (by rfl) | exact .inr (by rfl)) ?_ iAdd_ok
                · refine iSE.int
              · refine iSS.nil
            · refine iSS.cons ?_ ?_
              · refine iS1.ite ?_ ?_ ?_
                · refine iST.cmp ?_ ?_ cEq_ok
                  · refine iSE.var (n := 3) rfl (by first | exact .inl (by rfl) | exact .inr (.inl (by rfl)) | exact .inr (.inr (by rfl)))
                  · refine iSE.str rfl
                · refine iSS.cons ?_ ?_
                  · refine iS1.aug (n := 1) rfl (by first | exact .inl (by rfl) | exact .inr (by rfl)) ?_ iSub_ok
                    · refine iSE.int
                  · refine iSS.cons ?_ ?_
                    · refine iS1.ite ?_ ?_ ?_
                      · refine iST.cmp ?_ ?_ cLt_ok
                        · refine iSE.var (n := 1) rfl (by first | exact .inl (by rfl) | exact .inr (.inl (by rfl)) | exact .inr (.inr (by rfl)))
                        · refine iSE.int
                      · refine iSS.cons ?_ ?_
                        · refine iS1.ret ?_
                          · refine iSE.bool
                        · refine iSS.nil
                      · refine iSS.nil
                    · refine iSS.nil
                · refine iSS.nil
              · refine iSS.nil
          · refine iSS.nil
      · refine iSS.cons ?_ ?_
        · refine iS1.ret ?_
          · refine iSE.cmp ?_ ?_ cEq_ok
            · refine iSE.var (n := 1) rfl (by first | exact .inl (by rfl) | exact .inr (.inl (by rfl)) | exact .inr (.inr (by rfl)))
            · refine iSE.int
        · refine iSS.nil
theorem sh_check_parenthesis : FSh (fnArgs 3) (fnScope 3) [("addr" : Str)] vm_check_parenthesis := ⟨by rfl, by rfl, by rfl, by decide +kernel, by decide +kernel, by decide +kernel, by decide +kernel, by decide +kernel⟩
theorem bind_check_parenthesis (pm cd doc : Value) (vals : List Value) (h : vals.length = [("addr" : Str)].length) : bindArgs (Calls.docDef "_check_parenthesis" (fnArgs 3) (fnBody 3) (fnScope 3) pm cd doc) ⟨vals, []⟩ = pure (List.zip [("addr" : Str)] vals) := by
  obtain ⟨v0, rfl⟩ := len_one h
  rfl
theorem c_check_parenthesis (G : GF B mg) {a : Addr} (F : FnAt B a "_check_parenthesis" (fnArgs 3) (fnBody 3) (fnScope 3)) {aE : Addr} (xE : NameIs mg "_iter_escaped_chars" (.ref aE)) (FE : FnAt B aE "_iter_escaped_chars" (fnArgs 1) (fnBody 1) (fnScope 1)) (nenum : NameIs mg "enumerate" (.type "enumerate")) {a_strip_quoted_realnames : Addr} (x_strip_quoted_realnames : NameIs mg "_strip_quoted_realnames" (.ref a_strip_quoted_realnames)) (c_strip_quoted_realnames : Callee B (.ref a_strip_quoted_realnames)) {h_strip_quoted_realnames : CF} (o_strip_quoted_realnames : CallOk PW w B (k + 2) (.ref a_strip_quoted_realnames) h_strip_quoted_realnames) : CallOk PW w B (k + 2 + 1) (.ref a) (Mine.run (g_check_parenthesis h_strip_quoted_realnames) 1 3) :=
  CallOk.of_body (m := 3) F G.lim sh_check_parenthesis bind_check_parenthesis (g_check_parenthesis_ok G xE FE nenum x_strip_quoted_realnames c_strip_quoted_realnames o_strip_quoted_realnames).h

end
end Mine
end

/-! part P5 -/
section
set_option maxRecDepth 100000
set_option linter.unusedVariables false
open PySem PyProof.Rows
namespace Mine
noncomputable def rows3 : List Str := ["", "()", ")("]
noncomputable def rows4 : List Str := ["", "()", ")(", "(())", "()()", "())(", ")(()", ")()(", "))(("]
noncomputable def rows5 : List Str := ["", "()", ")(", "(())", "()()", "())(", ")(()", ")()(", "))(("]
noncomputable def rows6 : List Str := ["", "()", ")(", "(())", "()()", "())(", ")(()", ")()(", "))((", "((()))", "(()())", "(())()", "(()))(", "()(())", "()()()", "()())(", "())(()", "())()(", "()))((", ")((())", ")(()()", ")(())(", ")()(()", ")()()(", ")())((", "))((()", "))(()(", "))()((", ")))((("]
noncomputable def rowsRun (L : Int) : Option O := (Mine.run g_law_rows 1 3 [.int L] []).bind fun p => match p.1 with
  | .ref j => p.2[j]?
  | _ => none
theorem rows_3 : rowsRun 3 = some (.list (rows3.map .str)) := by decide +kernel
theorem rows_4 : rowsRun 4 = some (.list (rows4.map .str)) := by decide +kernel
theorem rows_5 : rowsRun 5 = some (.list (rows5.map .str)) := by decide +kernel
theorem rows_6 : rowsRun 6 = some (.list (rows6.map .str)) := by decide +kernel
end Mine
end

/-! part P6 -/
section
set_option maxRecDepth 100000
set_option linter.unusedVariables false
open PySem PyProof.Rows
namespace Mine
noncomputable def brks : Nat → List (List Nat)
  | 0 => [[]]
  | n + 1 => (brks n).flatMap fun r => [40 :: r, 41 :: r]
noncomputable def balGo : Nat → List Nat → Bool
  | h, [] => h == 0
  | h, c :: r => if c == 40 then balGo (h + 1) r else match h with
    | 0 => false
    | h + 1 => balGo h r
noncomputable def bal (r : List Nat) : Bool := balGo 0 r
noncomputable def strikeOk (n : Nat) : Bool := (brks n).all fun r => ((strike 64 ⟨r.toArray⟩).map fun (x : Str) => x == ("" : Str)) == some (bal r)
theorem strike_ok : (List.range 7).all strikeOk = true := by decide +kernel
end Mine
end

/-! part P7 -/
section
set_option maxRecDepth 100000
set_option linter.unusedVariables false
namespace Mine
noncomputable def dropPre : List Nat → List Nat → List Nat × List Nat
  | a :: as, b :: bs => if Nat.beq a b then dropPre as bs else (a :: as, b :: bs)
  | as, bs => (as, bs)
/-- one row of the table: b's sign c, over a and the old row; distance before, result before; the new row, the last result, the least -/
noncomputable def levRow (c : Nat) : List Nat → List Nat → Nat → Nat → Nat → List Nat × Nat × Nat
  | a :: as, r :: rs, dist, res, mn =>
    let sub := dist + (if Nat.beq c a then 0 else 2)
    let ins := (if Nat.ble res r then res else r) + 2
    let v := if Nat.ble ins sub then ins else sub
    let (rest, last, m) := levRow c as rs r v (if Nat.ble mn v then mn else v)
    (v :: rest, last, m)
  | _, _, _, res, mn => ([], res, mn)
noncomputable def levRows (mx : Nat) (a : List Nat) : List Nat → Nat → List Nat → Nat → Nat
  | [], _, _, res => res
  | c :: bs, i, row, _ =>
    let (row', res, mn) := levRow c a row (i * 2) (i * 2) 9223372036854775807
    if Nat.ble mn mx then levRows mx a bs (i + 1) row' res else mx + 1
noncomputable def levC (a b : List Nat) (mx : Nat) : Nat :=
  let (a1, b1) := dropPre a b
  let (a2, b2) := dropPre a1.reverse b1.reverse
  let a3 := a2.reverse
  let b3 := b2.reverse
  match a3, b3 with
  | [], b3 => 2 * b3.length
  | a3, [] => 2 * a3.length
  | a3, b3 =>
    let (p, q) := if Nat.ble a3.length b3.length then (a3, b3) else (b3, a3)
    if Nat.ble ((q.length - p.length) * 2) mx then levRows mx p q 0 ((List.range p.length).map fun i => 2 * (i + 1)) 0 else mx + 1
noncomputable def fwStep (c : Nat) (l : List Nat) : List Nat :=
  (List.range l.length).map fun h =>
    let rise := if h = 0 then 99 else (l.getD (h - 1) 0) + (if Nat.beq c 40 then 0 else 1)
    let fall := if h + 1 < l.length then (l.getD (h + 1) 0) + (if Nat.beq c 41 then 0 else 1) else 99
    Nat.min (Nat.min rise fall) (l.getD h 0 + 1)
noncomputable def fewC (t : List Nat) : Nat := (t.foldl (fun l c => fwStep c l) (0 :: List.replicate t.length 99)).getD 0 0
noncomputable def pats : Nat → List (List Nat)
  | 0 => [[]]
  | n + 1 => (pats n).flatMap fun r => [40 :: r, 41 :: r, 120 :: r]
noncomputable def balRows (M : Nat) : List (List Nat) := ((List.range (M + 1)).flatMap brks).filter bal
noncomputable def lawOk (M n : Nat) : Bool := let rows := balRows M
  (pats n).all fun t => let due := 2 * fewC t
    [0, 1].all fun more => Nat.beq (rows.foldl (fun m r => Nat.min m (levC r t (due + more))) 1000) due
theorem law3 : (List.range 4).all (lawOk 3) = true := by decide +kernel
theorem law4 : (List.range 5).all (lawOk 4) = true := by decide +kernel
end Mine
end

/-! part P8 -/
section
set_option maxRecDepth 100000
set_option linter.unusedVariables false
open PySem PyProof.Rows
namespace Mine
/-- a text from its code points -/
noncomputable def S (l : List Nat) : Str := ⟨l.toArray⟩
theorem S_len (l : List Nat) : (S l).length = l.length := by simp [S, Str.length]
theorem S_cps (l : List Nat) : (S l).cps.toList = l := by simp [S]
theorem S_beq (a b : Nat) : ((S [a]) == (S [b])) = Nat.beq a b := by
  by_cases h : a = b
  · subst h; simp
  · have h1 : S [a] ≠ S [b] := fun e => h (by have := congrArg (fun x : Str => x.cps.toList) e; simpa [S] using this)
    have h2 : Nat.beq a b = false := by cases e : Nat.beq a b with
      | false => rfl
      | true => exact absurd (Nat.eq_of_beq_eq_true e) h
    rw [h2]; simpa using h1
theorem S_inj {a b : List Nat} (h : S a = S b) : a = b := by have := congrArg (fun x : Str => x.cps.toList) h; simpa [S] using this
theorem cut_from (l : List Nat) (p : Nat) (hp : p ≤ l.length) : cutS (S l) (some (p : Int)) none = S (l.drop p) := by
  unfold cutS cut
  rw [S_cps]
  simp only [sFrom, sTo, Option.elim, clipAt_nat, Nat.min_eq_left hp]
  rw [List.take_of_length_le (by simp)]
  rfl
theorem cut_to (l : List Nat) (q : Nat) (hq : 1 ≤ q) : cutS (S l) none (some (-(q : Int))) = S (l.take (l.length - q)) := by
  unfold cutS cut
  rw [S_cps]
  simp only [sFrom, sTo, Option.elim, clipAt_neg _ _ hq, List.drop_zero, Nat.sub_zero]
  rfl
theorem cut_all (l : List Nat) : cutS (S l) none none = S l := by
  unfold cutS cut
  rw [S_cps]
  simp only [sFrom, sTo, Option.elim, List.drop_zero, Nat.sub_zero]
  rw [List.take_of_length_le (by simp)]
  rfl
theorem sub_at {l : List Nat} {p c : Nat} (H : Hp) (h : l[p]? = some c) (hl : l.length ≤ 1000) : Mine.sub (.str (S l)) (.int (p : Int)) H = some (.str (S [c]), H) := by
  have hp : p < l.length := (List.getElem?_eq_some_iff.mp h).1
  have h1 : seqIndex? (p : Int) l.length = some p := by
    have n0 : ¬ ((p : Int) < 0) := by omega
    have n1 : (decide ((0 : Int) ≤ (p : Int)) && decide ((p : Int) < (l.length : Int))) = true := by simp; omega
    simp only [seqIndex?, n0, if_false, n1, if_true, Int.toNat_natCast]
  have h2 : -1000000 ≤ (p : Int) ∧ (p : Int) < 1000000 := by omega
  simp only [Mine.sub, h2, S_len, h1, true_and, and_self, if_true]
  simp [S, h]
theorem sub_end {l : List Nat} {p c : Nat} (H : Hp) (hp : p < l.length) (h : l[l.length - 1 - p]? = some c) (hl : l.length ≤ 1000) : Mine.sub (.str (S l)) (.int (-(p : Int) - 1)) H = some (.str (S [c]), H) := by
  have h1 : seqIndex? (-(p : Int) - 1) l.length = some (l.length - 1 - p) := by
    have n0 : (-(p : Int) - 1 < 0) := by omega
    have n1 : (decide ((0 : Int) ≤ -(p : Int) - 1 + (l.length : Int)) && decide (-(p : Int) - 1 + (l.length : Int) < (l.length : Int))) = true := by
      have a1 : (0 : Int) ≤ -(p : Int) - 1 + (l.length : Int) := by omega
      have a2 : -(p : Int) - 1 + (l.length : Int) < (l.length : Int) := by omega
      simp only [a1, a2, decide_true, Bool.and_self]
    have n2 : (-(p : Int) - 1 + (l.length : Int)).toNat = l.length - 1 - p := by omega
    simp only [seqIndex?, n0, if_true, n1, n2]
  have h2 : -1000000 ≤ (-(p : Int) - 1) ∧ (-(p : Int) - 1) < 1000000 := by omega
  simp only [Mine.sub, h2, S_len, h1, true_and, and_self, if_true]
  simp [S, h]

noncomputable def lvT1 : Tx := tAnd (tVal (eCut (eVar 0) (eVar 3) (eVal .none))) (tAnd (tVal (eCut (eVar 1) (eVar 3) (eVal .none))) (tAnd (tVal (bind2 (bind2 (eVar 0) (eVar 3) Mine.sub) (bind2 (eVar 1) (eVar 3) Mine.sub) cEq)) tTrue))
noncomputable def lvB1 : Sx := gSeq (gAug 3 (eVal (.int 1)) iAdd) gNil
noncomputable def lvT2 : Tx := tAnd (tVal (eCut (eVar 0) (eVal .none) (eOr (eVar 4) (eVal .none)))) (tAnd (tVal (eCut (eVar 1) (eVal .none) (eOr (eVar 4) (eVal .none)))) (tAnd (tVal (bind2 (bind2 (eVar 0) (bind2 (eVar 4) (eVal (.int 1)) oSub) Mine.sub) (bind2 (eVar 1) (bind2 (eVar 4) (eVal (.int 1)) oSub) Mine.sub) cEq)) tTrue))
noncomputable def lvB2 : Sx := gSeq (gAug 4 (eVal (.int 1)) iSub) gNil

noncomputable def headEq : List Nat → List Nat → Bool
  | a :: _, b :: _ => Nat.beq a b
  | _, _ => false

theorem drop_head {l : List Nat} {p : Nat} {a : Nat} {r : List Nat} (h : l.drop p = a :: r) : l[p]? = some a := by
  have : (l.drop p)[0]? = some a := by rw [h]; rfl
  rwa [List.getElem?_drop] at this

theorem tval_of {f : Ex} {ρ : Lo} {H H' : Hp} {v : V} {b : Bool} (e : f ρ H = some (v, H')) (t : truth v H' = some b) : tVal f ρ H = some (b, H') := by
  unfold tVal; rw [e]; show (truth v H').map _ = _; rw [t]; rfl
theorem truth_S {l : List Nat} (H : Hp) (h : l.length ≤ 1000) : truth (.str (S l)) H = some (l.length != 0) := by
  unfold truth
  simp only [S_len]
  rw [if_pos (by omega)]
theorem truth_S0 (H : Hp) : truth (.str (S [])) H = some false := truth_S H (by simp)
theorem truth_S1 {a : Nat} {l : List Nat} (H : Hp) (h : (a :: l).length ≤ 1000) : truth (.str (S (a :: l))) H = some true := truth_S H h
theorem tand_t {f g : Tx} {ρ : Lo} {H H' : Hp} (e : f ρ H = some (true, H')) : tAnd f g ρ H = g ρ H' := by unfold tAnd; rw [e]; rfl
theorem tand_f {f g : Tx} {ρ : Lo} {H H' : Hp} (e : f ρ H = some (false, H')) : tAnd f g ρ H = some (false, H') := by unfold tAnd; rw [e]; rfl
theorem tor_t {f g : Tx} {ρ : Lo} {H H' : Hp} (e : f ρ H = some (true, H')) : tOr f g ρ H = some (true, H') := by unfold tOr; rw [e]; rfl
theorem tor_f {f g : Tx} {ρ : Lo} {H H' : Hp} (e : f ρ H = some (false, H')) : tOr f g ρ H = g ρ H' := by unfold tOr; rw [e]; rfl
theorem bind2_of {f g : Ex} {h : V → V → Hp → Option (V × Hp)} {ρ : Lo} {H H₁ H₂ : Hp} {a b : V} (e1 : f ρ H = some (a, H₁)) (e2 : g ρ H₁ = some (b, H₂)) : bind2 f g h ρ H = h a b H₂ := by
  unfold bind2; rw [e1]; show (g ρ H₁).bind _ = _; rw [e2]; rfl
theorem ecut_of {f g h : Ex} {ρ : Lo} {H H₁ H₂ H₃ : Hp} {a b c : V} (e1 : f ρ H = some (a, H₁)) (e2 : g ρ H₁ = some (b, H₂)) (e3 : h ρ H₂ = some (c, H₃)) : eCut f g h ρ H = cutV a b c H₃ := by
  unfold eCut; rw [e1]; show (g ρ H₁).bind _ = _; rw [e2]; show (h ρ H₂).bind _ = _; rw [e3]; rfl
theorem cutV_S {l : List Nat} {u v : V} {lo hi : Option Int} (H : Hp) (hl : l.length ≤ 1000) (h1 : partV u = some lo) (h2 : partV v = some hi) : cutV (.str (S l)) u v H = some (.str (cutS (S l) lo hi), H) := by
  have hs : (S l).length ≤ 1000000 := by rw [S_len]; omega
  simp only [cutV, h1, h2, Option.bind_some, if_pos hs]
theorem evar_of {n : Nat} {ρ : Lo} {v : V} (H : Hp) (h : ρ[n]? = some (some v)) : eVar n ρ H = some (v, H) := by unfold eVar; rw [h]
theorem cEq_S (a b : Nat) (H : Hp) : cEq (.str (S [a])) (.str (S [b])) H = some (.bool (Nat.beq a b), H) := by
  show some (V.bool (S [a] == S [b]), H) = _
  rw [S_beq]
theorem seq_of {a b : Sx} {ρ ρ₁ : Lo} {H H₁ : Hp} (e : a ρ H = some (.next, ρ₁, H₁)) : gSeq a b ρ H = b ρ₁ H₁ := by unfold gSeq; rw [e]; rfl
theorem seq_ret {a b : Sx} {ρ ρ₁ : Lo} {H H₁ : Hp} {v : V} (e : a ρ H = some (.ret v, ρ₁, H₁)) : gSeq a b ρ H = some (.ret v, ρ₁, H₁) := by unfold gSeq; rw [e]; rfl
theorem if_t {t : Tx} {a b : Sx} {ρ : Lo} {H H₁ : Hp} (e : t ρ H = some (true, H₁)) : gIf t a b ρ H = a ρ H₁ := by unfold gIf; rw [e]; rfl
theorem if_f {t : Tx} {a b : Sx} {ρ : Lo} {H H₁ : Hp} (e : t ρ H = some (false, H₁)) : gIf t a b ρ H = b ρ H₁ := by unfold gIf; rw [e]; rfl
theorem while_t {t : Tx} {b : Sx} {n : Nat} {ρ ρ₁ : Lo} {H H₁ H₂ : Hp} (e : t ρ H = some (true, H₁)) (e2 : b ρ H₁ = some (.next, ρ₁, H₂)) : gWhile t b (n + 1) ρ H = gWhile t b n ρ₁ H₂ := by
  rw [gWhile, e]; show (b ρ H₁).bind _ = _; rw [e2]; rfl
theorem while_f {t : Tx} {b : Sx} {n : Nat} {ρ : Lo} {H H₁ : Hp} (e : t ρ H = some (false, H₁)) : gWhile t b (n + 1) ρ H = some (.next, ρ, H₁) := by
  rw [gWhile, e]; rfl
theorem assign_of {n : Nat} {f : Ex} {ρ : Lo} {H H₁ : Hp} {v : V} (e : f ρ H = some (v, H₁)) : gAssign n f ρ H = some (.next, put n v ρ, H₁) := by unfold gAssign; rw [e]; rfl
theorem aug_of {n : Nat} {f : Ex} {h : V → V → Hp → Option (V × Hp)} {ρ : Lo} {H H₁ : Hp} {v : V} (e : bind2 (eVar n) f h ρ H = some (v, H₁)) : gAug n f h ρ H = some (.next, put n v ρ, H₁) := by unfold gAug; rw [e]; rfl
theorem ret_of {f : Ex} {ρ : Lo} {H H₁ : Hp} {v : V} (e : f ρ H = some (v, H₁)) : gRet f ρ H = some (.ret v, ρ, H₁) := by unfold gRet; rw [e]; rfl

theorem lv_t1 (A B : List Nat) (m : Option V) (p : Nat) (rest : Lo) (H : Hp) (hA : A.length ≤ 1000) (hB : B.length ≤ 1000) (h1 : p ≤ A.length) (h2 : p ≤ B.length) :
    lvT1 (some (.str (S A)) :: some (.str (S B)) :: m :: some (.int (p : Int)) :: rest) H = some (headEq (A.drop p) (B.drop p), H) := by
  generalize hρ : (some (.str (S A)) :: some (.str (S B)) :: m :: some (.int (p : Int)) :: rest : Lo) = ρ
  have v0 : ∀ H, eVar 0 ρ H = some (.str (S A), H) := fun H => evar_of H (by rw [← hρ]; rfl)
  have v1 : ∀ H, eVar 1 ρ H = some (.str (S B), H) := fun H => evar_of H (by rw [← hρ]; rfl)
  have v3 : ∀ H, eVar 3 ρ H = some (.int (p : Int), H) := fun H => evar_of H (by rw [← hρ]; rfl)
  have c1 : eCut (eVar 0) (eVar 3) (eVal .none) ρ H = some (.str (S (A.drop p)), H) := by
    rw [ecut_of (v0 H) (v3 H) (c := .none) rfl, cutV_S H hA (lo := some (p : Int)) (hi := none) rfl rfl, cut_from A p h1]
  have c2 : eCut (eVar 1) (eVar 3) (eVal .none) ρ H = some (.str (S (B.drop p)), H) := by
    rw [ecut_of (v1 H) (v3 H) (c := .none) rfl, cutV_S H hB (lo := some (p : Int)) (hi := none) rfl rfl, cut_from B p h2]
  have la : (A.drop p).length ≤ 1000 := by rw [List.length_drop]; omega
  have lb : (B.drop p).length ≤ 1000 := by rw [List.length_drop]; omega
  unfold lvT1
  cases ha : A.drop p with
  | nil => rw [ha] at c1; exact tand_f (tval_of c1 (truth_S0 H))
  | cons a ra =>
    rw [ha] at c1 la
    rw [tand_t (tval_of c1 (truth_S1 H la))]
    cases hb : B.drop p with
    | nil => rw [hb] at c2; exact tand_f (tval_of c2 (truth_S0 H))
    | cons b rb =>
      rw [hb] at c2 lb
      rw [tand_t (tval_of c2 (truth_S1 H lb))]
      have i1 : bind2 (eVar 0) (eVar 3) Mine.sub ρ H = some (.str (S [a]), H) := by rw [bind2_of (v0 H) (v3 H)]; exact sub_at H (drop_head ha) hA
      have i2 : bind2 (eVar 1) (eVar 3) Mine.sub ρ H = some (.str (S [b]), H) := by rw [bind2_of (v1 H) (v3 H)]; exact sub_at H (drop_head hb) hB
      have i3 : tVal (bind2 (bind2 (eVar 0) (eVar 3) Mine.sub) (bind2 (eVar 1) (eVar 3) Mine.sub) cEq) ρ H = some (Nat.beq a b, H) := by
        refine tval_of (v := .bool (Nat.beq a b)) ?_ rfl
        rw [bind2_of i1 i2, cEq_S]
      show tAnd _ _ _ _ = some (Nat.beq a b, H)
      cases hx : Nat.beq a b with
      | true => rw [hx] at i3; rw [tand_t i3]; rfl
      | false => rw [hx] at i3; rw [tand_f i3]

theorem dropPre_step (A B : List Nat) : (headEq A B = false → dropPre A B = (A, B)) ∧ (headEq A B = true → ∃ a as b bs, A = a :: as ∧ B = b :: bs ∧ dropPre A B = dropPre as bs) := by
  cases A with
  | nil => exact ⟨fun _ => rfl, fun h => by cases h⟩
  | cons a as => cases B with
    | nil => exact ⟨fun _ => rfl, fun h => by cases h⟩
    | cons b bs =>
      refine ⟨fun h => ?_, fun h => ⟨a, as, b, bs, rfl, rfl, ?_⟩⟩
      · have h : Nat.beq a b = false := h
        simp [dropPre, h]
      · have h : Nat.beq a b = true := h
        simp [dropPre, h]
theorem drop_succ {l : List Nat} {p a : Nat} {r : List Nat} (h : l.drop p = a :: r) : l.drop (p + 1) = r ∧ p + 1 ≤ l.length := by
  refine ⟨?_, ?_⟩
  · rw [← List.tail_drop, h]; rfl
  · have := congrArg List.length h
    simp at this; omega

theorem lv_w1 (A B : List Nat) (m : Option V) (rest : Lo) (H : Hp) (hA : A.length ≤ 1000) (hB : B.length ≤ 1000) : ∀ (n p : Nat), p ≤ A.length → p ≤ B.length → A.length - p < n →
    ∃ q, q ≤ A.length ∧ q ≤ B.length ∧ gWhile lvT1 lvB1 n (some (.str (S A)) :: some (.str (S B)) :: m :: some (.int (p : Int)) :: rest) H = some (.next, some (.str (S A)) :: some (.str (S B)) :: m :: some (.int (q : Int)) :: rest, H) ∧
      (A.drop q, B.drop q) = dropPre (A.drop p) (B.drop p) := by
  intro n
  induction n with
  | zero => intro p h1 h2 h3; omega
  | succ n ih =>
    intro p h1 h2 h3
    have ht := lv_t1 A B m p rest H hA hB h1 h2
    obtain ⟨d1, d2⟩ := dropPre_step (A.drop p) (B.drop p)
    cases hh : headEq (A.drop p) (B.drop p) with
    | false => rw [hh] at ht; exact ⟨p, h1, h2, while_f ht, (d1 hh).symm⟩
    | true =>
      obtain ⟨a, as, b, bs, ea, eb, ed⟩ := d2 hh
      obtain ⟨fa, la⟩ := drop_succ ea
      obtain ⟨fb, lb⟩ := drop_succ eb
      obtain ⟨q, q1, q2, q3, q4⟩ := ih (p + 1) la lb (by omega)
      refine ⟨q, q1, q2, ?_, by rw [q4, ed, fa, fb]⟩
      rw [hh] at ht
      rw [← q3]
      refine while_t ht ?_
      unfold lvB1
      rw [seq_of (aug_of (bind2_of (a := .int (p : Int)) (b := .int 1) rfl rfl))]
      rfl
end Mine
end

/-! part P9 -/
section
set_option maxRecDepth 100000
set_option linter.unusedVariables false
open PySem PyProof.Rows
namespace Mine
theorem rev_take (A : List Nat) (q : Nat) : A.take (A.length - q) = (A.reverse.drop q).reverse := by
  rw [List.drop_reverse, List.reverse_reverse]
theorem cut_post (A : List Nat) (q : Nat) (hq : q ≤ A.length) (hA : A.length ≤ 1000) (i : Nat) (ρ : Lo) (H : Hp) (hi : ρ[i]? = some (some (.str (S A)))) (h4 : ρ[4]? = some (some (.int (-(q : Int))))) :
    eCut (eVar i) (eVal .none) (eOr (eVar 4) (eVal .none)) ρ H = some (.str (S (A.reverse.drop q).reverse), H) := by
  rw [← rev_take]
  cases q with
  | zero =>
    have e : eOr (eVar 4) (eVal .none) ρ H = some (.none, H) := by
      unfold eOr; rw [evar_of H h4]; rfl
    rw [ecut_of (evar_of H hi) (b := .none) rfl e, cutV_S H hA (lo := none) (hi := none) rfl rfl, cut_all]
    simp
  | succ q =>
    have e : eOr (eVar 4) (eVal .none) ρ H = some (.int (-((q + 1 : Nat) : Int)), H) := by
      unfold eOr; rw [evar_of H h4]
      have : truth (.int (-((q + 1 : Nat) : Int))) H = some true := by
        unfold truth; simp; omega
      rw [Option.bind_some, this]; rfl
    rw [ecut_of (evar_of H hi) (b := .none) rfl e, cutV_S H hA (lo := none) (hi := some (-((q + 1 : Nat) : Int))) rfl rfl, cut_to _ _ (by omega)]

theorem rev_at {A : List Nat} {q a : Nat} {ra : List Nat} (h : A.reverse.drop q = a :: ra) : q < A.length ∧ A[A.length - 1 - q]? = some a := by
  have h1 := drop_head h
  have hq : q < A.length := by have := (List.getElem?_eq_some_iff.mp h1).1; simpa using this
  refine ⟨hq, ?_⟩
  rw [List.getElem?_reverse hq] at h1
  exact h1

theorem lv_t2 (A B : List Nat) (q : Nat) (ρ : Lo) (H : Hp) (hA : A.length ≤ 1000) (hB : B.length ≤ 1000) (h1 : q ≤ A.length) (h2 : q ≤ B.length)
    (r0 : ρ[0]? = some (some (.str (S A)))) (r1 : ρ[1]? = some (some (.str (S B)))) (r4 : ρ[4]? = some (some (.int (-(q : Int))))) :
    lvT2 ρ H = some (headEq (A.reverse.drop q) (B.reverse.drop q), H) := by
  have c1 := cut_post A q h1 hA 0 ρ H r0 r4
  have c2 := cut_post B q h2 hB 1 ρ H r1 r4
  have la : (A.reverse.drop q).reverse.length ≤ 1000 := by simp; omega
  have lb : (B.reverse.drop q).reverse.length ≤ 1000 := by simp; omega
  have ne : ∀ (a : Nat) (l : List Nat), ((a :: l).reverse.length != 0) = true := by intro a l; simp
  unfold lvT2
  cases ha : A.reverse.drop q with
  | nil => rw [ha] at c1; exact tand_f (tval_of c1 (truth_S0 H))
  | cons a ra =>
    rw [ha] at c1 la
    rw [tand_t (tval_of c1 ((truth_S H la).trans (by rw [ne])))]
    cases hb : B.reverse.drop q with
    | nil => rw [hb] at c2; exact tand_f (tval_of c2 (truth_S0 H))
    | cons b rb =>
      rw [hb] at c2 lb
      rw [tand_t (tval_of c2 ((truth_S H lb).trans (by rw [ne])))]
      have v4 : bind2 (eVar 4) (eVal (.int 1)) oSub ρ H = some (.int (-(q : Int) - 1), H) := by rw [bind2_of (evar_of H r4) (b := .int 1) rfl]; rfl
      have i1 : bind2 (eVar 0) (bind2 (eVar 4) (eVal (.int 1)) oSub) Mine.sub ρ H = some (.str (S [a]), H) := by rw [bind2_of (evar_of H r0) v4]; exact sub_end H (rev_at ha).1 (rev_at ha).2 hA
      have i2 : bind2 (eVar 1) (bind2 (eVar 4) (eVal (.int 1)) oSub) Mine.sub ρ H = some (.str (S [b]), H) := by rw [bind2_of (evar_of H r1) v4]; exact sub_end H (rev_at hb).1 (rev_at hb).2 hB
      have i3 : tVal (bind2 (bind2 (eVar 0) (bind2 (eVar 4) (eVal (.int 1)) oSub) Mine.sub) (bind2 (eVar 1) (bind2 (eVar 4) (eVal (.int 1)) oSub) Mine.sub) cEq) ρ H = some (Nat.beq a b, H) := by
        refine tval_of (v := .bool (Nat.beq a b)) ?_ rfl
        rw [bind2_of i1 i2, cEq_S]
      show tAnd _ _ _ _ = some (Nat.beq a b, H)
      cases hx : Nat.beq a b with
      | true => rw [hx] at i3; rw [tand_t i3]; rfl
      | false => rw [hx] at i3; rw [tand_f i3]

theorem lv_w2 (A B : List Nat) (m p : Option V) (rest : Lo) (H : Hp) (hA : A.length ≤ 1000) (hB : B.length ≤ 1000) : ∀ (n q : Nat), q ≤ A.length → q ≤ B.length → A.length - q < n →
    ∃ r, r ≤ A.length ∧ r ≤ B.length ∧ gWhile lvT2 lvB2 n (some (.str (S A)) :: some (.str (S B)) :: m :: p :: some (.int (-(q : Int))) :: rest) H = some (.next, some (.str (S A)) :: some (.str (S B)) :: m :: p :: some (.int (-(r : Int))) :: rest, H) ∧
      (A.reverse.drop r, B.reverse.drop r) = dropPre (A.reverse.drop q) (B.reverse.drop q) := by
  intro n
  induction n with
  | zero => intro q h1 h2 h3; omega
  | succ n ih =>
    intro q h1 h2 h3
    have ht := lv_t2 A B q (some (.str (S A)) :: some (.str (S B)) :: m :: p :: some (.int (-(q : Int))) :: rest) H hA hB h1 h2 rfl rfl rfl
    obtain ⟨d1, d2⟩ := dropPre_step (A.reverse.drop q) (B.reverse.drop q)
    cases hh : headEq (A.reverse.drop q) (B.reverse.drop q) with
    | false => rw [hh] at ht; exact ⟨q, h1, h2, while_f ht, (d1 hh).symm⟩
    | true =>
      obtain ⟨a, as, b, bs, ea, eb, ed⟩ := d2 hh
      obtain ⟨fa, la⟩ := drop_succ ea
      obtain ⟨fb, lb⟩ := drop_succ eb
      rw [List.length_reverse] at la lb
      obtain ⟨r, q1, q2, q3, q4⟩ := ih (q + 1) la lb (by omega)
      refine ⟨r, q1, q2, ?_, by rw [q4, ed, fa, fb]⟩
      rw [hh] at ht
      rw [← q3]
      refine while_t ht ?_
      unfold lvB2
      rw [seq_of (aug_of ((bind2_of (a := .int (-(q : Int))) (b := .int 1) (H₂ := H) rfl rfl).trans (show iSub _ _ _ = some (.int (-(q : Int) - 1), H) from rfl)))]
      have e1 : (-(q : Int) - 1) = -((q + 1 : Nat) : Int) := by omega
      rw [e1]
      rfl
end Mine
end

/-! part P10 -/
section
set_option maxRecDepth 100000
set_option linter.unusedVariables false
open PySem PyProof.Rows
namespace Mine
theorem sub_list {H : Hp} {R i : Nat} {xs : List V} {v : V} (hR : H[R]? = some (.list xs)) (h : xs[i]? = some v) (hl : xs.length ≤ 1000) : Mine.sub (.ref R) (.int (i : Int)) H = some (v, H) := by
  have hi : i < xs.length := (List.getElem?_eq_some_iff.mp h).1
  have h2 : listAt xs (i : Int) = some v := by
    unfold listAt
    rw [if_pos (by omega), Int.toNat_natCast]; exact h
  simp only [Mine.sub, hR, h2, Option.map_some]
theorem ecall1 {f : Ex} {h : CF} {ρ : Lo} {H H₁ : Hp} {a : V} (e : f ρ H = some (a, H₁)) : eCall [f] h ρ H = h [a] H₁ := by
  unfold eCall; simp only [eRow, e, Option.bind_some]
theorem ecall2 {f g : Ex} {h : CF} {ρ : Lo} {H H₁ H₂ : Hp} {a b : V} (e : f ρ H = some (a, H₁)) (e2 : g ρ H₁ = some (b, H₂)) : eCall [f, g] h ρ H = h [a, b] H₂ := by
  unfold eCall; simp only [eRow, e, e2, Option.bind_some]
theorem bMin_nat (a b : Nat) (H : Hp) : bMin [.int (a : Int), .int (b : Int)] H = some (.int ((if Nat.ble a b then a else b : Nat) : Int), H) := by
  simp only [bMin]
  by_cases h : (b : Int) < (a : Int)
  · have h2 : Nat.ble a b = false := by
      cases e : Nat.ble a b with
      | false => rfl
      | true => have := Nat.le_of_ble_eq_true e; omega
    rw [if_pos h, h2]; rfl
  · have h2 : Nat.ble a b = true := Nat.ble_eq.mpr (by omega)
    rw [if_neg h, h2]; rfl
theorem setItem_of {f g h : Ex} {ρ : Lo} {H : Hp} {R i : Nat} {xs : List V} {v : V} (e1 : f ρ H = some (v, H)) (e2 : g ρ H = some (.ref R, H)) (e3 : h ρ H = some (.int (i : Int), H)) (hR : H[R]? = some (.list xs)) (hi : i < xs.length) (hl : xs.length ≤ 1000) :
    gSetItem f g h ρ H = some (.next, ρ, H.set R (.list (xs.set i v))) := by
  have hc : 0 ≤ (i : Int) ∧ (i : Int) < xs.length ∧ (i : Int) < 1000000 := by omega
  simp only [gSetItem, e1, e2, e3, Option.bind_some, hR, if_pos hc, Int.toNat_natCast]

noncomputable def lvIn (h : CF) : Sx := gSeq (gAssign 12 (bind2 (eVar 9) (eCall [(eVar 8), (bind2 (eVar 0) (eVar 11) Mine.sub)] h) oAdd))
  (gSeq (gAssign 9 (bind2 (eVar 5) (eVar 11) Mine.sub))
  (gSeq (gAssign 13 (bind2 (eCall [(eVar 6), (eVar 9)] bMin) (eVal (.int 2)) oAdd))
  (gSeq (gAssign 6 (eCall [(eVar 13), (eVar 12)] bMin))
  (gSeq (gSetItem (eVar 6) (eVar 5) (eVar 11))
  (gSeq (gIf (tVal (bind2 (eVar 6) (eVar 10) cLt)) (gSeq (gAssign 10 (eVar 6))
  gNil) gNil)
  gNil)))))

noncomputable def cst (c x : Nat) : Nat := if Nat.beq c x then 0 else 2

theorem lt_nat (a b : Nat) : decide ((a : Int) < (b : Int)) = !(Nat.ble b a) := by
  cases e : Nat.ble b a with
  | true => have := Nat.le_of_ble_eq_true e; simp; omega
  | false =>
    have : ¬ b ≤ a := fun h => by rw [Nat.ble_eq.mpr h] at e; cases e
    simp; omega

theorem in_step (h : CF) (A : List Nat) (vb vm vp vq o7 o12 o13 : Option V) (R res c dist mn i x r : Nat) (xs : List V) (H : Hp) (hA : A.length ≤ 1000) (hx : A[i]? = some x) (hR : H[R]? = some (.list xs)) (hr : xs[i]? = some (.int (r : Int))) (hl : xs.length ≤ 1000)
    (hh : ∀ H, h [.str (S [c]), .str (S [x])] H = some (.int (cst c x : Int), H)) :
    let sub := dist + cst c x
    let ins := (if Nat.ble res r then res else r) + 2
    let v := if Nat.ble ins sub then ins else sub
    let mn' := if Nat.ble mn v then mn else v
    lvIn h [some (.str (S A)), vb, vm, vp, vq, some (.ref R), some (.int (res : Int)), o7, some (.str (S [c])), some (.int (dist : Int)), some (.int (mn : Int)), some (.int (i : Int)), o12, o13] H =
      some (.next, [some (.str (S A)), vb, vm, vp, vq, some (.ref R), some (.int (v : Int)), o7, some (.str (S [c])), some (.int (r : Int)), some (.int (mn' : Int)), some (.int (i : Int)), some (.int (sub : Int)), some (.int (ins : Int))], H.set R (.list (xs.set i (.int (v : Int))))) := by
  intro sub ins v mn'
  unfold lvIn
  have e1 : bind2 (eVar 9) (eCall [(eVar 8), (bind2 (eVar 0) (eVar 11) Mine.sub)] h) oAdd [some (.str (S A)), vb, vm, vp, vq, some (.ref R), some (.int (res : Int)), o7, some (.str (S [c])), some (.int (dist : Int)), some (.int (mn : Int)), some (.int (i : Int)), o12, o13] H = some (.int (sub : Int), H) := by
    rw [bind2_of (a := .int (dist : Int)) (H₁ := H) rfl ((ecall2 (a := .str (S [c])) (H₁ := H) rfl ((bind2_of (a := .str (S A)) (b := .int (i : Int)) (H₁ := H) (H₂ := H) rfl rfl).trans (sub_at H hx hA))).trans (hh H))]
    rfl
  refine (seq_of (assign_of e1)).trans ?_
  have e2 : bind2 (eVar 5) (eVar 11) Mine.sub [some (.str (S A)), vb, vm, vp, vq, some (.ref R), some (.int (res : Int)), o7, some (.str (S [c])), some (.int (dist : Int)), some (.int (mn : Int)), some (.int (i : Int)), some (.int (sub : Int)), o13] H = some (.int (r : Int), H) := by
    rw [bind2_of (a := .ref R) (b := .int (i : Int)) (H₁ := H) (H₂ := H) rfl rfl]; exact sub_list hR hr hl
  refine (seq_of (assign_of e2)).trans ?_
  have e3 : bind2 (eCall [(eVar 6), (eVar 9)] bMin) (eVal (.int 2)) oAdd [some (.str (S A)), vb, vm, vp, vq, some (.ref R), some (.int (res : Int)), o7, some (.str (S [c])), some (.int (r : Int)), some (.int (mn : Int)), some (.int (i : Int)), some (.int (sub : Int)), o13] H = some (.int (ins : Int), H) := by
    rw [bind2_of ((ecall2 (a := .int (res : Int)) (b := .int (r : Int)) (H₁ := H) (H₂ := H) rfl rfl).trans (bMin_nat res r H)) (b := .int 2) rfl]
    rfl
  refine (seq_of (assign_of e3)).trans ?_
  have e4 : eCall [(eVar 13), (eVar 12)] bMin [some (.str (S A)), vb, vm, vp, vq, some (.ref R), some (.int (res : Int)), o7, some (.str (S [c])), some (.int (r : Int)), some (.int (mn : Int)), some (.int (i : Int)), some (.int (sub : Int)), some (.int (ins : Int))] H = some (.int (v : Int), H) := by
    rw [ecall2 (a := .int (ins : Int)) (b := .int (sub : Int)) (H₁ := H) (H₂ := H) rfl rfl]
    exact bMin_nat ins sub H
  refine (seq_of (assign_of e4)).trans ?_
  have hi : i < xs.length := (List.getElem?_eq_some_iff.mp hr).1
  have e5 : gSetItem (eVar 6) (eVar 5) (eVar 11) [some (.str (S A)), vb, vm, vp, vq, some (.ref R), some (.int (v : Int)), o7, some (.str (S [c])), some (.int (r : Int)), some (.int (mn : Int)), some (.int (i : Int)), some (.int (sub : Int)), some (.int (ins : Int))] H = some (.next, [some (.str (S A)), vb, vm, vp, vq, some (.ref R), some (.int (v : Int)), o7, some (.str (S [c])), some (.int (r : Int)), some (.int (mn : Int)), some (.int (i : Int)), some (.int (sub : Int)), some (.int (ins : Int))], H.set R (.list (xs.set i (.int (v : Int))))) :=
    setItem_of (v := .int (v : Int)) rfl rfl rfl hR hi hl
  refine (seq_of e5).trans ?_
  generalize H.set R (.list (xs.set i (.int (v : Int)))) = H'
  have e6 : tVal (bind2 (eVar 6) (eVar 10) cLt) [some (.str (S A)), vb, vm, vp, vq, some (.ref R), some (.int (v : Int)), o7, some (.str (S [c])), some (.int (r : Int)), some (.int (mn : Int)), some (.int (i : Int)), some (.int (sub : Int)), some (.int (ins : Int))] H' = some (!(Nat.ble mn v), H') := by
    refine tval_of (v := .bool (!(Nat.ble mn v))) ?_ rfl
    rw [bind2_of (a := .int (v : Int)) (b := .int (mn : Int)) (H₁ := H') (H₂ := H') rfl rfl]
    show some (V.bool (decide ((v : Int) < (mn : Int))), H') = _
    rw [lt_nat]
  cases hb : Nat.ble mn v with
  | true =>
    rw [hb] at e6
    refine (seq_of (if_f e6)).trans ?_
    simp only [mn', hb, if_true]
    rfl
  | false =>
    rw [hb] at e6
    refine (seq_of ((if_t e6).trans (seq_of (assign_of (v := .int (v : Int)) rfl)))).trans ?_
    simp only [mn', hb]
    rfl
end Mine
end

/-! part P11 -/
section
set_option maxRecDepth 100000
set_option linter.unusedVariables false
open PySem PyProof.Rows
namespace Mine
noncomputable def idxs (i n : Nat) : List V := (List.range n).map fun (j : Nat) => V.int ((i + j : Nat) : Int)
theorem idxs_succ (i n : Nat) : idxs i (n + 1) = V.int (i : Int) :: idxs (i + 1) n := by
  unfold idxs
  rw [List.range_succ_eq_map, List.map_cons, List.map_map]
  congr 1
  refine List.map_congr_left fun j _ => ?_
  show V.int ((i + (j + 1) : Nat) : Int) = V.int ((i + 1 + j : Nat) : Int)
  congr 2
  omega
theorem rangeN_up (n : Nat) : rangeN 0 (n : Int) 1 = n := by
  unfold rangeN Builtin.Range.rangeSize
  simp
  omega
theorem rangeL_up (n : Nat) : rangeL 0 (n : Int) 1 = idxs 0 n := by
  unfold rangeL idxs
  rw [rangeN_up]
  refine List.map_congr_left fun j _ => ?_
  congr 1
  omega
theorem turns_next {xs vs : List V} {n : Nat} {b : Sx} {v : V} {ρ ρ₂ : Lo} {H H₂ : Hp} (e : b (put n v ρ) H = some (.next, ρ₂, H₂)) : gTurns none xs (tName n) b (v :: vs) ρ H = gTurns none xs (tName n) b vs ρ₂ H₂ := by
  rw [gTurns]; simp only [okAt, if_true, tName, Option.bind_some, e]
theorem turns_ret {xs vs : List V} {n : Nat} {b : Sx} {v u : V} {ρ ρ₂ : Lo} {H H₂ : Hp} (e : b (put n v ρ) H = some (.ret u, ρ₂, H₂)) : gTurns none xs (tName n) b (v :: vs) ρ H = some (.ret u, ρ₂, H₂) := by
  rw [gTurns]; simp only [okAt, if_true, tName, Option.bind_some, e]
noncomputable def natsV (l : List Nat) : List V := l.map fun (n : Nat) => V.int (n : Int)

theorem in_loop (h : CF) (A : List Nat) (vb vm vp vq o7 : Option V) (R c : Nat) (xs0 : List V) (hA : A.length ≤ 1000) (hh : ∀ x ∈ A, ∀ H, h [.str (S [c]), .str (S [x])] H = some (.int (cst c x : Int), H)) :
    ∀ (rest done dr rr : List Nat) (res dist mn : Nat) (o11 o12 o13 : Option V) (H : Hp), A = done ++ rest → dr.length = done.length → rr.length = rest.length → H[R]? = some (.list (natsV (dr ++ rr))) →
      ∃ d' o11' o12' o13' H', gTurns none xs0 (tName 11) (lvIn h) (idxs done.length rest.length) [some (.str (S A)), vb, vm, vp, vq, some (.ref R), some (.int (res : Int)), o7, some (.str (S [c])), some (.int (dist : Int)), some (.int (mn : Int)), o11, o12, o13] H =
        some (.next, [some (.str (S A)), vb, vm, vp, vq, some (.ref R), some (.int ((levRow c rest rr dist res mn).2.1 : Int)), o7, some (.str (S [c])), d', some (.int ((levRow c rest rr dist res mn).2.2 : Int)), o11', o12', o13'], H') ∧
        H'[R]? = some (.list (natsV (dr ++ (levRow c rest rr dist res mn).1))) := by
  intro rest
  induction rest with
  | nil =>
    intro done dr rr res dist mn o11 o12 o13 H h1 h2 h3 h4
    have : rr = [] := List.eq_nil_of_length_eq_zero h3
    subst this
    exact ⟨_, _, _, _, H, rfl, h4⟩
  | cons x rest ih =>
    intro done dr rr res dist mn o11 o12 o13 H h1 h2 h3 h4
    cases rr with
    | nil => cases h3
    | cons r rr =>
      have hx : A[done.length]? = some x := by rw [h1]; simp
      have hlen : A.length = done.length + (rest.length + 1) := by rw [h1]; simp
      have hr : (natsV (dr ++ r :: rr))[done.length]? = some (.int (r : Int)) := by
        unfold natsV
        rw [← h2, List.map_append, List.getElem?_append_right (by simp)]
        simp
      have hl : (natsV (dr ++ r :: rr)).length ≤ 1000 := by
        unfold natsV
        simp only [List.length_map, List.length_append, List.length_cons] at h3 ⊢
        omega
      have hR : R < H.length := (List.getElem?_eq_some_iff.mp h4).1
      have st := in_step h A vb vm vp vq o7 o12 o13 R res c dist mn done.length x r _ H hA hx h4 hr hl (hh x (List.mem_of_getElem? hx))
      dsimp only at st
      rw [List.length_cons, idxs_succ]
      generalize hv : (if Nat.ble ((if Nat.ble res r then res else r) + 2) (dist + cst c x) then (if Nat.ble res r then res else r) + 2 else dist + cst c x) = v at st
      generalize hm : (if Nat.ble mn v then mn else v) = mn' at st
      have hrow : levRow c (x :: rest) (r :: rr) dist res mn = (v :: (levRow c rest rr r v mn').1, (levRow c rest rr r v mn').2.1, (levRow c rest rr r v mn').2.2) := by
        rw [levRow]
        have hv' : (if Nat.ble ((if Nat.ble res r then res else r) + 2) (dist + (if Nat.beq c x then 0 else 2)) then (if Nat.ble res r then res else r) + 2 else dist + (if Nat.beq c x then 0 else 2)) = v := hv
        simp only [hv', hm]
      have hset : (natsV (dr ++ r :: rr)).set done.length (.int (v : Int)) = natsV ((dr ++ [v]) ++ rr) := by
        unfold natsV
        rw [← h2]
        simp
      rw [hset] at st
      obtain ⟨d', a1, a2, a3, H', e1, e2⟩ := ih (done ++ [x]) (dr ++ [v]) rr v r mn' (some (.int (done.length : Int))) (some (.int ((dist + cst c x : Nat) : Int))) (some (.int (((if Nat.ble res r then res else r) + 2 : Nat) : Int))) (H.set R (.list (natsV ((dr ++ [v]) ++ rr))))
        (by rw [h1]; simp) (by simp [h2]) (by simpa using h3) (List.getElem?_set_self hR)
      rw [List.length_append, List.length_singleton] at e1
      rw [hrow]
      have t1 := turns_next (xs := xs0) (vs := idxs (done.length + 1) rest.length) (n := 11) (v := V.int (done.length : Int)) (b := lvIn h) (H := H)
        (ρ := [some (.str (S A)), vb, vm, vp, vq, some (.ref R), some (.int (res : Int)), o7, some (.str (S [c])), some (.int (dist : Int)), some (.int (mn : Int)), o11, o12, o13]) st
      refine ⟨d', a1, a2, a3, H', ?_, ?_⟩
      · rw [t1]; exact e1
      simpa using e2
end Mine
end

/-! part P12 -/
section
set_option maxRecDepth 100000
set_option linter.unusedVariables false
open PySem PyProof.Rows
namespace Mine
theorem bLen_S {l : List Nat} (H : Hp) (h : l.length ≤ 1000) : bLen [.str (S l)] H = some (.int (l.length : Int), H) := by
  have h1 : l.length < 1000000000 := by omega
  simp only [bLen, S_len, if_pos h1]
theorem for_range {e : Ex} {n : Nat} {tg : Tg} {b : Sx} {ρ : Lo} {H : Hp} (he : e ρ H = some (.int (n : Int), H)) (hn : n ≤ 1000) :
    gFor (eCall [e] bRange) tg b ρ H = gTurns none (idxs 0 n) tg b (idxs 0 n) ρ (H ++ [.range 0 (n : Int) 1]) := by
  have h1 : eCall [e] bRange ρ H = some (.ref H.length, H ++ [.range 0 (n : Int) 1]) := by rw [ecall1 he]; rfl
  have h2 : smallR 0 (n : Int) 1 = true := by
    unfold smallR
    simp
    omega
  have h3 : iterKind (.ref H.length) (H ++ [.range 0 (n : Int) 1]) = some (none, idxs 0 n) := by
    have : (H ++ [O.range 0 (n : Int) 1])[H.length]? = some (.range 0 (n : Int) 1) := by simp
    simp only [iterKind, this, h2, if_true, rangeL_up]
  unfold gFor
  rw [h1, Option.bind_some, h3, Option.bind_some]

noncomputable def lvOut (h : CF) (M : Int) : Sx := gSeq (gAssign 8 (bind2 (eVar 1) (eVar 7) Mine.sub))
  (gSeq (gAssign2 9 6 (bind2 (eVar 7) (eVal (.int 2)) oMul))
  (gSeq (gAssign 10 (eVal (.int M)))
  (gSeq (gFor (eCall [(eCall [(eVar 0)] bLen)] bRange) (tName 11) (lvIn h))
  (gSeq (gIf (tVal (bind2 (eVar 10) (eVar 2) cGt)) (gSeq (gRet (bind2 (eVar 2) (eVal (.int 1)) oAdd)) gNil) gNil)
  gNil))))
theorem assign2_of {n n' : Nat} {f : Ex} {ρ : Lo} {H H₁ : Hp} {v : V} (e : f ρ H = some (v, H₁)) : gAssign2 n n' f ρ H = some (.next, put n' v (put n v ρ), H₁) := by unfold gAssign2; rw [e]; rfl
theorem oMul_nat {a b : Nat} (H : Hp) (h : a ≤ 1000) : oMul (.int (a : Int)) (.int (b : Int)) H = some (.int ((a * b : Nat) : Int), H) := by
  have h1 : ((a : Int)).natAbs < 1000000 := by omega
  simp only [oMul, if_pos h1]
  rfl

theorem out_step (h : CF) (M : Nat) (A Bs : List Nat) (mx R i c : Nat) (vp vq o6 o8 o9 o10 o11 o12 o13 : Option V) (row : List Nat) (H : Hp) (hA : A.length ≤ 1000) (hB : Bs.length ≤ 1000) (hc : Bs[i]? = some c) (hrow : row.length = A.length) (hR : H[R]? = some (.list (natsV row)))
    (hh : ∀ x ∈ A, ∀ H, h [.str (S [c]), .str (S [x])] H = some (.int (cst c x : Int), H)) :
    let t := levRow c A row (i * 2) (i * 2) M
    ∃ ρ' H', H'[R]? = some (.list (natsV t.1)) ∧ (Nat.ble t.2.2 mx = true → ∃ d' o10' o11' o12' o13', ρ' = [some (.str (S A)), some (.str (S Bs)), some (.int (mx : Int)), vp, vq, some (.ref R), some (.int (t.2.1 : Int)), some (.int (i : Int)), some (.str (S [c])), d', o10', o11', o12', o13']) ∧
      lvOut h (M : Int) [some (.str (S A)), some (.str (S Bs)), some (.int (mx : Int)), vp, vq, some (.ref R), o6, some (.int (i : Int)), o8, o9, o10, o11, o12, o13] H = some (if Nat.ble t.2.2 mx then .next else .ret (.int ((mx + 1 : Nat) : Int)), ρ', H') := by
  intro t
  have hi : i < Bs.length := (List.getElem?_eq_some_iff.mp hc).1
  have hR' : (H ++ [O.range 0 (A.length : Int) 1])[R]? = some (.list (natsV row)) := app_at hR
  obtain ⟨d', a1, a2, a3, H', e1, e2⟩ := in_loop h A (some (.str (S Bs))) (some (.int (mx : Int))) vp vq (some (.int (i : Int))) R c (idxs 0 A.length) hA hh A [] [] row (i * 2) (i * 2) M o11 o12 o13 (H ++ [O.range 0 (A.length : Int) 1]) rfl rfl hrow hR'
  refine ⟨[some (.str (S A)), some (.str (S Bs)), some (.int (mx : Int)), vp, vq, some (.ref R), some (.int (t.2.1 : Int)), some (.int (i : Int)), some (.str (S [c])), d', some (.int (t.2.2 : Int)), a1, a2, a3], H', e2, fun _ => ⟨_, _, _, _, _, rfl⟩, ?_⟩
  unfold lvOut
  have f1 : bind2 (eVar 1) (eVar 7) Mine.sub [some (.str (S A)), some (.str (S Bs)), some (.int (mx : Int)), vp, vq, some (.ref R), o6, some (.int (i : Int)), o8, o9, o10, o11, o12, o13] H = some (.str (S [c]), H) := by
    rw [bind2_of (a := .str (S Bs)) (b := .int (i : Int)) (H₁ := H) (H₂ := H) rfl rfl]; exact sub_at H hc hB
  refine (seq_of (assign_of f1)).trans ?_
  have f2 : bind2 (eVar 7) (eVal (.int 2)) oMul [some (.str (S A)), some (.str (S Bs)), some (.int (mx : Int)), vp, vq, some (.ref R), o6, some (.int (i : Int)), some (.str (S [c])), o9, o10, o11, o12, o13] H = some (.int ((i * 2 : Nat) : Int), H) := by
    rw [bind2_of (a := .int (i : Int)) (b := .int ((2 : Nat) : Int)) (H₁ := H) (H₂ := H) rfl rfl]; exact oMul_nat H (by omega)
  refine (seq_of (assign2_of f2)).trans ?_
  refine (seq_of (assign_of (v := .int (M : Int)) (H₁ := H) rfl)).trans ?_
  have f3 : eCall [(eVar 0)] bLen [some (.str (S A)), some (.str (S Bs)), some (.int (mx : Int)), vp, vq, some (.ref R), some (.int ((i * 2 : Nat) : Int)), some (.int (i : Int)), some (.str (S [c])), some (.int ((i * 2 : Nat) : Int)), some (.int (M : Int)), o11, o12, o13] H = some (.int (A.length : Int), H) := by
    rw [ecall1 (a := .str (S A)) (H₁ := H) rfl]; exact bLen_S H hA
  refine (seq_of ((for_range f3 hA).trans e1)).trans ?_
  generalize hρ : [some (V.str (S A)), some (.str (S Bs)), some (.int (mx : Int)), vp, vq, some (.ref R), some (.int (t.2.1 : Int)), some (.int (i : Int)), some (.str (S [c])), d', some (.int (t.2.2 : Int)), a1, a2, a3] = ρ'
  have g10 : eVar 10 ρ' H' = some (.int (t.2.2 : Int), H') := by rw [← hρ]; rfl
  have g2 : eVar 2 ρ' H' = some (.int (mx : Int), H') := by rw [← hρ]; rfl
  have f4 : tVal (bind2 (eVar 10) (eVar 2) cGt) ρ' H' = some (!(Nat.ble t.2.2 mx), H') := by
    refine tval_of (v := .bool (!(Nat.ble t.2.2 mx))) ?_ rfl
    rw [bind2_of g10 g2]
    show some (V.bool (decide ((mx : Int) < (t.2.2 : Int))), H') = _
    rw [lt_nat]
  cases hb : Nat.ble t.2.2 mx with
  | true =>
    rw [hb] at f4
    have := seq_of (b := gNil) (if_f (a := gSeq (gRet (bind2 (eVar 2) (eVal (.int 1)) oAdd)) gNil) (b := gNil) f4)
    rw [← hρ] at this ⊢
    exact this
  | false =>
    rw [hb] at f4
    have f5 : bind2 (eVar 2) (eVal (.int 1)) oAdd ρ' H' = some (.int ((mx + 1 : Nat) : Int), H') := by
      rw [bind2_of g2 (b := .int 1) (H₂ := H') rfl]; rfl
    have := seq_ret (b := gNil) ((if_t (a := gSeq (gRet (bind2 (eVar 2) (eVal (.int 1)) oAdd)) gNil) (b := gNil) f4).trans (seq_ret (ret_of f5)))
    rw [← hρ] at this ⊢
    exact this
end Mine
end

/-! part P13 -/
section
set_option maxRecDepth 100000
set_option linter.unusedVariables false
open PySem PyProof.Rows
namespace Mine
theorem levRow_len (c : Nat) : ∀ (rest rr : List Nat) (d r m : Nat), rr.length = rest.length → (levRow c rest rr d r m).1.length = rest.length
  | [], [], _, _, _, _ => rfl
  | [], _ :: _, _, _, _, h => by cases h
  | _ :: _, [], _, _, _, h => by cases h
  | x :: rest, y :: rr, d, r, m, h => by
    rw [levRow]
    dsimp only
    rw [List.length_cons, levRow_len c rest rr _ _ _ (by simpa using h), List.length_cons]
noncomputable def bigM : Nat := 9223372036854775807
theorem levRows_cons (mx : Nat) (a : List Nat) (c : Nat) (bs : List Nat) (i : Nat) (row : List Nat) (r : Nat) :
    levRows mx a (c :: bs) i row r = if Nat.ble (levRow c a row (i * 2) (i * 2) bigM).2.2 mx then levRows mx a bs (i + 1) (levRow c a row (i * 2) (i * 2) bigM).1 (levRow c a row (i * 2) (i * 2) bigM).2.1 else mx + 1 := by
  rw [levRows]; rfl

theorem out_loop (h : CF) (A Bs : List Nat) (mx R : Nat) (vp vq : Option V) (xs0 : List V) (hA : A.length ≤ 1000) (hB : Bs.length ≤ 1000)
    (hh : ∀ c ∈ Bs, ∀ x ∈ A, ∀ H, h [.str (S [c]), .str (S [x])] H = some (.int (cst c x : Int), H)) :
    ∀ (rest done row : List Nat) (res : Nat) (o7 o8 o9 o10 o11 o12 o13 : Option V) (H : Hp), Bs = done ++ rest → row.length = A.length → H[R]? = some (.list (natsV row)) →
      ∃ f ρ' H', gTurns none xs0 (tName 7) (lvOut h (bigM : Int)) (idxs done.length rest.length) [some (.str (S A)), some (.str (S Bs)), some (.int (mx : Int)), vp, vq, some (.ref R), some (.int (res : Int)), o7, o8, o9, o10, o11, o12, o13] H = some (f, ρ', H') ∧
        (f = .ret (.int (levRows mx A rest done.length row res : Int)) ∨ (f = .next ∧ ρ'[6]? = some (some (.int (levRows mx A rest done.length row res : Int))))) := by
  intro rest
  induction rest with
  | nil =>
    intro done row res o7 o8 o9 o10 o11 o12 o13 H h1 h2 h3
    exact ⟨_, _, H, rfl, .inr ⟨rfl, rfl⟩⟩
  | cons c rest ih =>
    intro done row res o7 o8 o9 o10 o11 o12 o13 H h1 h2 h3
    have hc : Bs[done.length]? = some c := by rw [h1]; simp
    obtain ⟨ρ', H', e1, e2, e3⟩ := out_step h bigM A Bs mx R done.length c vp vq (some (.int (res : Int))) o8 o9 o10 o11 o12 o13 row H hA hB hc h2 h3 (hh c (List.mem_of_getElem? hc))
    rw [List.length_cons, idxs_succ, levRows_cons]
    generalize ht : levRow c A row (done.length * 2) (done.length * 2) bigM = t at *
    cases hb : Nat.ble t.2.2 mx with
    | true =>
      rw [hb] at e3
      obtain ⟨d', b10, b11, b12, b13, hρ⟩ := e2 hb
      have t1 := turns_next (xs := xs0) (vs := idxs (done.length + 1) rest.length) (n := 7) (v := V.int (done.length : Int)) (b := lvOut h (bigM : Int)) (H := H)
        (ρ := [some (.str (S A)), some (.str (S Bs)), some (.int (mx : Int)), vp, vq, some (.ref R), some (.int (res : Int)), o7, o8, o9, o10, o11, o12, o13]) e3
      rw [t1, hρ]
      have hl : t.1.length = A.length := by rw [← ht]; exact levRow_len c A row _ _ _ h2
      have := ih (done ++ [c]) t.1 t.2.1 (some (.int (done.length : Int))) (some (.str (S [c]))) d' b10 b11 b12 b13 H' (by rw [h1]; simp) hl e1
      rw [List.length_append, List.length_singleton] at this
      exact this
    | false =>
      rw [hb] at e3
      have t1 := turns_ret (xs := xs0) (vs := idxs (done.length + 1) rest.length) (n := 7) (v := V.int (done.length : Int)) (b := lvOut h (bigM : Int)) (H := H)
        (ρ := [some (.str (S A)), some (.str (S Bs)), some (.int (mx : Int)), vp, vq, some (.ref R), some (.int (res : Int)), o7, o8, o9, o10, o11, o12, o13]) e3
      exact ⟨_, _, _, t1, .inl rfl⟩

theorem row_range (n : Nat) (H : Hp) (hn : n ≤ 1000) :
    bList [.ref H.length] (H ++ [.range 2 (2 * ((n : Int) + 1)) 2]) = some (.ref (H.length + 1), (H ++ [.range 2 (2 * ((n : Int) + 1)) 2]) ++ [.list (natsV ((List.range n).map fun i => 2 * (i + 1)))]) := by
  have h1 : (H ++ [O.range 2 (2 * ((n : Int) + 1)) 2])[H.length]? = some (.range 2 (2 * ((n : Int) + 1)) 2) := by simp
  have h2 : smallR 2 (2 * ((n : Int) + 1)) 2 = true := by
    unfold smallR
    simp
    omega
  have h3 : rangeN 2 (2 * ((n : Int) + 1)) 2 = n := by
    unfold rangeN Builtin.Range.rangeSize
    simp
    split <;> omega
  have h4 : rangeL 2 (2 * ((n : Int) + 1)) 2 = natsV ((List.range n).map fun i => 2 * (i + 1)) := by
    unfold rangeL natsV
    rw [h3, List.map_map]
    refine List.map_congr_left fun j _ => ?_
    show V.int (2 + (j : Int) * 2) = V.int ((2 * (j + 1) : Nat) : Int)
    congr 1
    omega
  simp only [bList, h1, h2, if_true, h4, List.length_append, List.length_singleton]
end Mine
end

/-! part P14 -/
section
set_option maxRecDepth 100000
set_option linter.unusedVariables false
open PySem PyProof.Rows
namespace Mine
theorem tnot_of {f : Tx} {ρ : Lo} {H H' : Hp} {b : Bool} (e : f ρ H = some (b, H')) : tNot f ρ H = some (!b, H') := by unfold tNot; rw [e]; rfl
theorem ecall3 {f g k : Ex} {h : CF} {ρ : Lo} {H H₁ H₂ H₃ : Hp} {a b c : V} (e : f ρ H = some (a, H₁)) (e2 : g ρ H₁ = some (b, H₂)) (e3 : k ρ H₂ = some (c, H₃)) : eCall [f, g, k] h ρ H = h [a, b, c] H₃ := by
  unfold eCall; simp only [eRow, e, e2, e3, Option.bind_some]
noncomputable def lvTail (h : CF) : Sx := gSeq (gIf (tVal (bind2 (bind2 (bind2 (eCall [(eVar 1)] bLen) (eCall [(eVar 0)] bLen) oSub) (eVal (.int 2)) oMul) (eVar 2) cGt)) (gSeq (gRet (bind2 (eVar 2) (eVal (.int 1)) oAdd)) gNil) gNil)
  (gSeq (gAssign 5 (eCall [(eCall [(eVal (.int 2)), (bind2 (eVal (.int 2)) (bind2 (eCall [(eVar 0)] bLen) (eVal (.int 1)) oAdd) oMul), (eVal (.int 2))] bRange)] bList))
  (gSeq (gAssign 6 (eVal (.int 0)))
  (gSeq (gFor (eCall [(eCall [(eVar 1)] bLen)] bRange) (tName 7) (lvOut h 9223372036854775807))
  (gSeq (gRet (eVar 6)) gNil))))

theorem lv_tail (h : CF) (A Bs : List Nat) (mx : Nat) (vp vq o5 o6 o7 o8 o9 o10 o11 o12 o13 : Option V) (H : Hp) (hAB : A.length ≤ Bs.length) (hB : Bs.length ≤ 1000)
    (hh : ∀ c ∈ Bs, ∀ x ∈ A, ∀ H, h [.str (S [c]), .str (S [x])] H = some (.int (cst c x : Int), H)) :
    ∃ ρ' H', lvTail h [some (.str (S A)), some (.str (S Bs)), some (.int (mx : Int)), vp, vq, o5, o6, o7, o8, o9, o10, o11, o12, o13] H =
      some (.ret (.int ((if Nat.ble ((Bs.length - A.length) * 2) mx then levRows mx A Bs 0 ((List.range A.length).map fun i => 2 * (i + 1)) 0 else mx + 1 : Nat) : Int)), ρ', H') := by
  have hA : A.length ≤ 1000 := by omega
  have l0 : ∀ (o5 o6 o7 : Option V) (H : Hp), eCall [(eVar 0)] bLen [some (.str (S A)), some (.str (S Bs)), some (.int (mx : Int)), vp, vq, o5, o6, o7, o8, o9, o10, o11, o12, o13] H = some (.int (A.length : Int), H) := fun o5 o6 o7 H => by
    rw [ecall1 (a := .str (S A)) (H₁ := H) rfl]; exact bLen_S H hA
  have l1 : ∀ (o5 o6 o7 : Option V) (H : Hp), eCall [(eVar 1)] bLen [some (.str (S A)), some (.str (S Bs)), some (.int (mx : Int)), vp, vq, o5, o6, o7, o8, o9, o10, o11, o12, o13] H = some (.int (Bs.length : Int), H) := fun o5 o6 o7 H => by
    rw [ecall1 (a := .str (S Bs)) (H₁ := H) rfl]; exact bLen_S H hB
  unfold lvTail
  have e1 : tVal (bind2 (bind2 (bind2 (eCall [(eVar 1)] bLen) (eCall [(eVar 0)] bLen) oSub) (eVal (.int 2)) oMul) (eVar 2) cGt) [some (.str (S A)), some (.str (S Bs)), some (.int (mx : Int)), vp, vq, o5, o6, o7, o8, o9, o10, o11, o12, o13] H = some (!(Nat.ble ((Bs.length - A.length) * 2) mx), H) := by
    refine tval_of (v := .bool (!(Nat.ble ((Bs.length - A.length) * 2) mx))) ?_ rfl
    have s1 : bind2 (eCall [(eVar 1)] bLen) (eCall [(eVar 0)] bLen) oSub [some (.str (S A)), some (.str (S Bs)), some (.int (mx : Int)), vp, vq, o5, o6, o7, o8, o9, o10, o11, o12, o13] H = some (.int ((Bs.length - A.length : Nat) : Int), H) := by
      rw [bind2_of (l1 _ _ _ H) (l0 _ _ _ H)]
      show some (V.int ((Bs.length : Int) - (A.length : Int)), H) = _
      rw [Int.ofNat_sub hAB]
    have s2 : bind2 (bind2 (eCall [(eVar 1)] bLen) (eCall [(eVar 0)] bLen) oSub) (eVal (.int 2)) oMul [some (.str (S A)), some (.str (S Bs)), some (.int (mx : Int)), vp, vq, o5, o6, o7, o8, o9, o10, o11, o12, o13] H = some (.int (((Bs.length - A.length) * 2 : Nat) : Int), H) := by
      rw [bind2_of s1 (b := .int ((2 : Nat) : Int)) (H₂ := H) rfl]; exact oMul_nat H (by omega)
    rw [bind2_of s2 (b := .int (mx : Int)) (H₂ := H) rfl]
    show some (V.bool (decide ((mx : Int) < (((Bs.length - A.length) * 2 : Nat) : Int))), H) = _
    rw [lt_nat]
  cases hb : Nat.ble ((Bs.length - A.length) * 2) mx with
  | false =>
    rw [hb] at e1
    have f5 : bind2 (eVar 2) (eVal (.int 1)) oAdd [some (.str (S A)), some (.str (S Bs)), some (.int (mx : Int)), vp, vq, o5, o6, o7, o8, o9, o10, o11, o12, o13] H = some (.int ((mx + 1 : Nat) : Int), H) := by
      rw [bind2_of (a := .int (mx : Int)) (b := .int 1) (H₁ := H) (H₂ := H) rfl rfl]; rfl
    exact ⟨_, _, seq_ret ((if_t e1).trans (seq_ret (ret_of f5)))⟩
  | true =>
    rw [hb] at e1
    have g1 : bind2 (eVal (.int 2)) (bind2 (eCall [(eVar 0)] bLen) (eVal (.int 1)) oAdd) oMul [some (.str (S A)), some (.str (S Bs)), some (.int (mx : Int)), vp, vq, o5, o6, o7, o8, o9, o10, o11, o12, o13] H = some (.int (2 * ((A.length : Int) + 1)), H) := by
      rw [bind2_of (a := .int 2) (H₁ := H) rfl ((bind2_of (l0 _ _ _ H) (b := .int 1) (H₂ := H) rfl).trans rfl)]
      rfl
    have g2 : eCall [(eVal (.int 2)), (bind2 (eVal (.int 2)) (bind2 (eCall [(eVar 0)] bLen) (eVal (.int 1)) oAdd) oMul), (eVal (.int 2))] bRange [some (.str (S A)), some (.str (S Bs)), some (.int (mx : Int)), vp, vq, o5, o6, o7, o8, o9, o10, o11, o12, o13] H = some (.ref H.length, H ++ [.range 2 (2 * ((A.length : Int) + 1)) 2]) := by
      rw [ecall3 (a := .int 2) (H₁ := H) rfl g1 (c := .int 2) (H₃ := H) rfl]; rfl
    have g3 := (ecall1 (h := bList) g2).trans (row_range A.length H hA)
    generalize hH1 : (H ++ [O.range 2 (2 * ((A.length : Int) + 1)) 2]) ++ [O.list (natsV ((List.range A.length).map fun i => 2 * (i + 1)))] = H1 at g3
    have hR : H1[H.length + 1]? = some (.list (natsV ((List.range A.length).map fun i => 2 * (i + 1)))) := by rw [← hH1]; simp
    obtain ⟨f, ρ', H', e4, e5⟩ := out_loop h A Bs mx (H.length + 1) vp vq (idxs 0 Bs.length) hA hB hh Bs [] ((List.range A.length).map fun i => 2 * (i + 1)) 0 o7 o8 o9 o10 o11 o12 o13 (H1 ++ [O.range 0 (Bs.length : Int) 1]) rfl (by simp) (app_at hR)
    have e6 : gFor (eCall [(eCall [(eVar 1)] bLen)] bRange) (tName 7) (lvOut h 9223372036854775807) [some (.str (S A)), some (.str (S Bs)), some (.int (mx : Int)), vp, vq, some (.ref (H.length + 1)), some (.int ((0 : Nat) : Int)), o7, o8, o9, o10, o11, o12, o13] H1 = some (f, ρ', H') :=
      (for_range (l1 _ _ _ H1) hB).trans e4
    have hpre : ∀ r, gSeq (gFor (eCall [(eCall [(eVar 1)] bLen)] bRange) (tName 7) (lvOut h 9223372036854775807)) (gSeq (gRet (eVar 6)) gNil) [some (.str (S A)), some (.str (S Bs)), some (.int (mx : Int)), vp, vq, some (.ref (H.length + 1)), some (.int ((0 : Nat) : Int)), o7, o8, o9, o10, o11, o12, o13] H1 = r →
        lvTail h [some (.str (S A)), some (.str (S Bs)), some (.int (mx : Int)), vp, vq, o5, o6, o7, o8, o9, o10, o11, o12, o13] H = r := fun r hr => by
      unfold lvTail
      refine (seq_of (if_f (a := gSeq (gRet (bind2 (eVar 2) (eVal (.int 1)) oAdd)) gNil) (b := gNil) e1)).trans ?_
      refine (seq_of (assign_of g3)).trans ?_
      refine (seq_of (assign_of (v := .int ((0 : Nat) : Int)) (H₁ := H1) rfl)).trans ?_
      exact hr
    have hz : ∀ v : V, (f = .ret v ∨ f = .next ∧ ρ'[6]? = some (some v)) → ∃ ρ' H', lvTail h [some (.str (S A)), some (.str (S Bs)), some (.int (mx : Int)), vp, vq, o5, o6, o7, o8, o9, o10, o11, o12, o13] H = some (.ret v, ρ', H') := by
      rintro v (rfl | ⟨rfl, h6⟩)
      · exact ⟨_, _, hpre _ (seq_ret e6)⟩
      · exact ⟨_, _, hpre _ ((seq_of e6).trans (seq_ret (ret_of (evar_of H' h6))))⟩
    exact hz _ e5
end Mine
end

/-! part P15 -/
section
set_option maxRecDepth 100000
set_option linter.unusedVariables false
open PySem PyProof.Rows
namespace Mine
noncomputable def lvMid (h : CF) : Sx :=
  (gSeq (gAssign 0 (eCut (eVar 0) (eVal .none) (eOr (eVar 4) (eVal .none))))
  (gSeq (gAssign 1 (eCut (eVar 1) (eVal .none) (eOr (eVar 4) (eVal .none))))
  (gSeq (gIf (tOr (tNot (tVal (eVar 0))) (tOr (tNot (tVal (eVar 1))) tFalse)) (gSeq (gRet (bind2 (eVal (.int 2)) (bind2 (eCall [(eVar 0)] bLen) (eCall [(eVar 1)] bLen) oAdd) oMul))
  gNil) gNil)
  (gSeq (gIf (tOr (tVal (bind2 (eCall [(eVar 0)] bLen) (eVal (.int 40)) cGt)) (tOr (tVal (bind2 (eCall [(eVar 1)] bLen) (eVal (.int 40)) cGt)) tFalse)) (gSeq (gRet (bind2 (eVar 2) (eVal (.int 1)) oAdd))
  gNil) gNil)
  (gSeq (gIf (tVal (bind2 (eCall [(eVar 1)] bLen) (eCall [(eVar 0)] bLen) cLt)) (gSeq (gSwap 0 1)
  gNil) gNil)
  (lvTail h))))))
theorem lev_eq (h : CF) : g_levenshtein_distance h =
  (gSeq (gIf (tVal (bind2 (eVar 0) (eVar 1) cEq)) (gSeq (gRet (eVal (.int 0))) gNil) gNil)
  (gSeq (gAssign 3 (eVal (.int 0)))
  (gSeq (gWhile lvT1 lvB1 64)
  (gSeq (gAssign 0 (eCut (eVar 0) (eVar 3) (eVal .none)))
  (gSeq (gAssign 1 (eCut (eVar 1) (eVar 3) (eVal .none)))
  (gSeq (gAssign 4 (eVal (.int 0)))
  (gSeq (gWhile lvT2 lvB2 64) (lvMid h)))))))) := rfl

theorem levC_eq {a b a1 b1 a2 b2 : List Nat} (mx : Nat) (e1 : (a1, b1) = dropPre a b) (e2 : (a2, b2) = dropPre a1.reverse b1.reverse) :
    levC a b mx = match a2.reverse, b2.reverse with
      | [], b3 => 2 * b3.length
      | a3, [] => 2 * a3.length
      | a3, b3 => if Nat.ble a3.length b3.length then (if Nat.ble ((b3.length - a3.length) * 2) mx then levRows mx a3 b3 0 ((List.range a3.length).map fun i => 2 * (i + 1)) 0 else mx + 1)
          else (if Nat.ble ((a3.length - b3.length) * 2) mx then levRows mx b3 a3 0 ((List.range b3.length).map fun i => 2 * (i + 1)) 0 else mx + 1) := by
  unfold levC
  rw [← e1]
  dsimp only
  rw [← e2]
  dsimp only
  generalize a2.reverse = a3
  generalize b2.reverse = b3
  cases a3 with
  | nil => rfl
  | cons x a3 => cases b3 with
    | nil => rfl
    | cons y b3 =>
      dsimp only
      split <;> rfl
theorem dropPre_self : ∀ a : List Nat, dropPre a a = ([], [])
  | [] => rfl
  | a :: as => by
    have : Nat.beq a a = true := by simp
    simp [dropPre, dropPre_self as]
theorem levC_self (a : List Nat) (mx : Nat) : levC a a mx = 0 := by
  rw [levC_eq mx (dropPre_self a).symm (a2 := []) (b2 := []) rfl]
  rfl

theorem lv_mid (h : CF) (A1 B1 : List Nat) (mx r : Nat) (vp o5 o6 o7 o8 o9 o10 o11 o12 o13 : Option V) (H : Hp) (hA : A1.length ≤ 40) (hB : B1.length ≤ 40) (hr : r ≤ A1.length) (hr' : r ≤ B1.length)
    (hh : ∀ c x, (c ∈ A1 ∧ x ∈ B1) ∨ (c ∈ B1 ∧ x ∈ A1) → ∀ H, h [.str (S [c]), .str (S [x])] H = some (.int (cst c x : Int), H)) :
    ∃ ρ' H', lvMid h [some (.str (S A1)), some (.str (S B1)), some (.int (mx : Int)), vp, some (.int (-(r : Int))), o5, o6, o7, o8, o9, o10, o11, o12, o13] H =
      some (.ret (.int ((match (A1.reverse.drop r).reverse, (B1.reverse.drop r).reverse with
      | [], b3 => 2 * b3.length
      | a3, [] => 2 * a3.length
      | a3, b3 => if Nat.ble a3.length b3.length then (if Nat.ble ((b3.length - a3.length) * 2) mx then levRows mx a3 b3 0 ((List.range a3.length).map fun i => 2 * (i + 1)) 0 else mx + 1)
          else (if Nat.ble ((a3.length - b3.length) * 2) mx then levRows mx b3 a3 0 ((List.range b3.length).map fun i => 2 * (i + 1)) 0 else mx + 1) : Nat) : Int)), ρ', H') := by
  have c1 := cut_post A1 r hr (by omega) 0 [some (.str (S A1)), some (.str (S B1)), some (.int (mx : Int)), vp, some (.int (-(r : Int))), o5, o6, o7, o8, o9, o10, o11, o12, o13] H rfl rfl
  have c2 := cut_post B1 r hr' (by omega) 1 [some (.str (S (A1.reverse.drop r).reverse)), some (.str (S B1)), some (.int (mx : Int)), vp, some (.int (-(r : Int))), o5, o6, o7, o8, o9, o10, o11, o12, o13] H rfl rfl
  have mA : ∀ x, x ∈ (A1.reverse.drop r).reverse → x ∈ A1 := fun x hx => by
    have := List.mem_of_mem_drop (List.mem_reverse.mp hx); exact List.mem_reverse.mp this
  have mB : ∀ x, x ∈ (B1.reverse.drop r).reverse → x ∈ B1 := fun x hx => by
    have := List.mem_of_mem_drop (List.mem_reverse.mp hx); exact List.mem_reverse.mp this
  have lA : (A1.reverse.drop r).reverse.length ≤ 40 := by simp; omega
  have lB : (B1.reverse.drop r).reverse.length ≤ 40 := by simp; omega
  generalize (A1.reverse.drop r).reverse = a3 at *
  generalize (B1.reverse.drop r).reverse = b3 at *
  have pre : ∀ z, gSeq (gIf (tOr (tNot (tVal (eVar 0))) (tOr (tNot (tVal (eVar 1))) tFalse)) (gSeq (gRet (bind2 (eVal (.int 2)) (bind2 (eCall [(eVar 0)] bLen) (eCall [(eVar 1)] bLen) oAdd) oMul))
      gNil) gNil)
      (gSeq (gIf (tOr (tVal (bind2 (eCall [(eVar 0)] bLen) (eVal (.int 40)) cGt)) (tOr (tVal (bind2 (eCall [(eVar 1)] bLen) (eVal (.int 40)) cGt)) tFalse)) (gSeq (gRet (bind2 (eVar 2) (eVal (.int 1)) oAdd))
      gNil) gNil)
      (gSeq (gIf (tVal (bind2 (eCall [(eVar 1)] bLen) (eCall [(eVar 0)] bLen) cLt)) (gSeq (gSwap 0 1)
      gNil) gNil)
      (lvTail h))) [some (.str (S a3)), some (.str (S b3)), some (.int (mx : Int)), vp, some (.int (-(r : Int))), o5, o6, o7, o8, o9, o10, o11, o12, o13] H = z →
      lvMid h [some (.str (S A1)), some (.str (S B1)), some (.int (mx : Int)), vp, some (.int (-(r : Int))), o5, o6, o7, o8, o9, o10, o11, o12, o13] H = z := fun z hz => by
    unfold lvMid
    refine (seq_of (assign_of c1)).trans ?_
    refine (seq_of (assign_of c2)).trans ?_
    exact hz
  have l0 : ∀ (u v : List Nat), u.length ≤ 40 → eCall [(eVar 0)] bLen [some (.str (S u)), some (.str (S v)), some (.int (mx : Int)), vp, some (.int (-(r : Int))), o5, o6, o7, o8, o9, o10, o11, o12, o13] H = some (.int (u.length : Int), H) := fun u v hu => by
    rw [ecall1 (a := .str (S u)) (H₁ := H) rfl]; exact bLen_S H (by omega)
  have l1 : ∀ (u v : List Nat), v.length ≤ 40 → eCall [(eVar 1)] bLen [some (.str (S u)), some (.str (S v)), some (.int (mx : Int)), vp, some (.int (-(r : Int))), o5, o6, o7, o8, o9, o10, o11, o12, o13] H = some (.int (v.length : Int), H) := fun u v hv => by
    rw [ecall1 (a := .str (S v)) (H₁ := H) rfl]; exact bLen_S H (by omega)
  have t0 : tVal (eVar 0) [some (.str (S a3)), some (.str (S b3)), some (.int (mx : Int)), vp, some (.int (-(r : Int))), o5, o6, o7, o8, o9, o10, o11, o12, o13] H = some (a3.length != 0, H) := tval_of (v := .str (S a3)) rfl (truth_S H (by omega))
  have t1 : tVal (eVar 1) [some (.str (S a3)), some (.str (S b3)), some (.int (mx : Int)), vp, some (.int (-(r : Int))), o5, o6, o7, o8, o9, o10, o11, o12, o13] H = some (b3.length != 0, H) := tval_of (v := .str (S b3)) rfl (truth_S H (by omega))
  have two : bind2 (eVal (.int 2)) (bind2 (eCall [(eVar 0)] bLen) (eCall [(eVar 1)] bLen) oAdd) oMul [some (.str (S a3)), some (.str (S b3)), some (.int (mx : Int)), vp, some (.int (-(r : Int))), o5, o6, o7, o8, o9, o10, o11, o12, o13] H = some (.int ((2 * (a3.length + b3.length) : Nat) : Int), H) := by
    rw [bind2_of (a := .int ((2 : Nat) : Int)) (H₁ := H) rfl ((bind2_of (l0 a3 b3 lA) (l1 a3 b3 lB)).trans (show oAdd _ _ _ = some (.int ((a3.length + b3.length : Nat) : Int), H) from rfl))]
    exact oMul_nat H (by omega)
  cases a3 with
  | nil =>
    have hn : 2 * (([] : List Nat).length + b3.length) = 2 * b3.length := by simp
    rw [hn] at two
    exact ⟨_, _, pre _ (seq_ret ((if_t (tor_t (tnot_of t0))).trans (seq_ret (ret_of two))))⟩
  | cons x a3 =>
    cases b3 with
    | nil =>
      have hn : 2 * ((x :: a3).length + ([] : List Nat).length) = 2 * (x :: a3).length := by simp
      rw [hn] at two
      exact ⟨_, _, pre _ (seq_ret ((if_t ((tor_f (tnot_of t0)).trans (tor_t (tnot_of t1)))).trans (seq_ret (ret_of two))))⟩
    | cons y b3 =>
      dsimp only
      have g0 : tVal (bind2 (eCall [(eVar 0)] bLen) (eVal (.int 40)) cGt) [some (.str (S (x :: a3))), some (.str (S (y :: b3))), some (.int (mx : Int)), vp, some (.int (-(r : Int))), o5, o6, o7, o8, o9, o10, o11, o12, o13] H = some (false, H) := by
        refine tval_of (v := .bool false) ?_ rfl
        rw [bind2_of (l0 _ _ lA) (b := .int 40) (H₂ := H) rfl]
        show some (V.bool (decide ((40 : Int) < ((x :: a3).length : Int))), H) = _
        rw [decide_eq_false (by omega)]
      have g1 : tVal (bind2 (eCall [(eVar 1)] bLen) (eVal (.int 40)) cGt) [some (.str (S (x :: a3))), some (.str (S (y :: b3))), some (.int (mx : Int)), vp, some (.int (-(r : Int))), o5, o6, o7, o8, o9, o10, o11, o12, o13] H = some (false, H) := by
        refine tval_of (v := .bool false) ?_ rfl
        rw [bind2_of (l1 _ _ lB) (b := .int 40) (H₂ := H) rfl]
        show some (V.bool (decide ((40 : Int) < ((y :: b3).length : Int))), H) = _
        rw [decide_eq_false (by omega)]
      have g2 : tVal (bind2 (eCall [(eVar 1)] bLen) (eCall [(eVar 0)] bLen) cLt) [some (.str (S (x :: a3))), some (.str (S (y :: b3))), some (.int (mx : Int)), vp, some (.int (-(r : Int))), o5, o6, o7, o8, o9, o10, o11, o12, o13] H = some (!(Nat.ble (x :: a3).length (y :: b3).length), H) := by
        refine tval_of (v := .bool (!(Nat.ble (x :: a3).length (y :: b3).length))) ?_ rfl
        rw [bind2_of (l1 _ _ lB) (l0 _ _ lA)]
        show some (V.bool (decide (((y :: b3).length : Int) < ((x :: a3).length : Int))), H) = _
        rw [lt_nat]
      have pre2 : ∀ z, gSeq (gIf (tVal (bind2 (eCall [(eVar 1)] bLen) (eCall [(eVar 0)] bLen) cLt)) (gSeq (gSwap 0 1) gNil) gNil) (lvTail h) [some (.str (S (x :: a3))), some (.str (S (y :: b3))), some (.int (mx : Int)), vp, some (.int (-(r : Int))), o5, o6, o7, o8, o9, o10, o11, o12, o13] H = z →
          lvMid h [some (.str (S A1)), some (.str (S B1)), some (.int (mx : Int)), vp, some (.int (-(r : Int))), o5, o6, o7, o8, o9, o10, o11, o12, o13] H = z := fun z hz => by
        refine pre z ?_
        refine (seq_of (if_f ((tor_f (tnot_of t0)).trans (tor_f (tnot_of t1))))).trans ?_
        refine (seq_of (if_f ((tor_f g0).trans (tor_f g1)))).trans ?_
        exact hz
      cases hb : Nat.ble (x :: a3).length (y :: b3).length with
      | true =>
        rw [hb] at g2
        obtain ⟨ρ', H', e⟩ := lv_tail h (x :: a3) (y :: b3) mx vp (some (.int (-(r : Int)))) o5 o6 o7 o8 o9 o10 o11 o12 o13 H (Nat.le_of_ble_eq_true hb) (by omega) (fun c hc z hz => hh c z (.inr ⟨mB c hc, mA z hz⟩))
        exact ⟨ρ', H', pre2 _ ((seq_of (if_f g2)).trans e)⟩
      | false =>
        rw [hb] at g2
        have hlt : (y :: b3).length ≤ (x :: a3).length := by
          rcases Nat.le_total (x :: a3).length (y :: b3).length with h | h
          · rw [Nat.ble_eq.mpr h] at hb; cases hb
          · exact h
        obtain ⟨ρ', H', e⟩ := lv_tail h (y :: b3) (x :: a3) mx vp (some (.int (-(r : Int)))) o5 o6 o7 o8 o9 o10 o11 o12 o13 H hlt (by omega) (fun c hc z hz => hh c z (.inl ⟨mA c hc, mB z hz⟩))
        refine ⟨ρ', H', pre2 _ ((seq_of ((if_t g2).trans (seq_of (show gSwap 0 1 _ _ = some (.next, [some (.str (S (y :: b3))), some (.str (S (x :: a3))), some (.int (mx : Int)), vp, some (.int (-(r : Int))), o5, o6, o7, o8, o9, o10, o11, o12, o13], H) from rfl)))).trans e)⟩
end Mine
end

/-! part P16 -/
section
set_option maxRecDepth 100000
set_option linter.unusedVariables false
open PySem PyProof.Rows
namespace Mine
theorem run_of {g : Sx} {n m : Nat} {vs : List V} {H H' : Hp} {ρ' : Lo} {v : V} (hn : vs.length = n) (e : g (vs.map some ++ List.replicate m none) H = some (.ret v, ρ', H')) : Mine.run g n m vs H = some (v, H') := by
  unfold Mine.run
  rw [if_pos hn, e]; rfl
theorem run_lev (h : CF) (A B : List Nat) (mx : Nat) (hA : A.length ≤ 40) (hB : B.length ≤ 40)
    (hh : ∀ c x, (c ∈ A ∧ x ∈ B) ∨ (c ∈ B ∧ x ∈ A) → ∀ H, h [.str (S [c]), .str (S [x])] H = some (.int (cst c x : Int), H)) :
    ∃ H', Mine.run (g_levenshtein_distance h) 3 11 [.str (S A), .str (S B), .int (mx : Int)] [] = some (.int (levC A B mx : Int), H') := by
  have key : ∃ ρ' H', g_levenshtein_distance h [some (.str (S A)), some (.str (S B)), some (.int (mx : Int)), none, none, none, none, none, none, none, none, none, none, none] [] = some (.ret (.int (levC A B mx : Int)), ρ', H') := by
    rw [lev_eq]
    have e0 : tVal (bind2 (eVar 0) (eVar 1) cEq) [some (.str (S A)), some (.str (S B)), some (.int (mx : Int)), none, none, none, none, none, none, none, none, none, none, none] [] = some (S A == S B, []) := by
      refine tval_of (v := .bool (S A == S B)) ?_ rfl
      rw [bind2_of (a := .str (S A)) (b := .str (S B)) (H₁ := []) (H₂ := []) rfl rfl]; rfl
    cases hab : S A == S B with
    | true =>
      rw [hab] at e0
      have := S_inj (eq_of_beq hab)
      subst this
      rw [levC_self]
      exact ⟨_, _, seq_ret ((if_t e0).trans (seq_ret (ret_of (v := .int ((0 : Nat) : Int)) (H₁ := []) rfl)))⟩
    | false =>
      rw [hab] at e0
      obtain ⟨q, q1, q2, w1, d1⟩ := lv_w1 A B (some (.int (mx : Int))) [none, none, none, none, none, none, none, none, none, none] [] (by omega) (by omega) 64 0 (Nat.zero_le _) (Nat.zero_le _) (by omega)
      have lA : (A.drop q).length ≤ 40 := by rw [List.length_drop]; omega
      have lB : (B.drop q).length ≤ 40 := by rw [List.length_drop]; omega
      obtain ⟨r, r1, r2, w2, d2⟩ := lv_w2 (A.drop q) (B.drop q) (some (.int (mx : Int))) (some (.int (q : Int))) [none, none, none, none, none, none, none, none, none] [] (by omega) (by omega) 64 0 (Nat.zero_le _) (Nat.zero_le _) (by omega)
      obtain ⟨ρ', H', e⟩ := lv_mid h (A.drop q) (B.drop q) mx r (some (.int (q : Int))) none none none none none none none none none [] lA lB r1 r2 (fun c x hcx => hh c x (by
        rcases hcx with ⟨a, b⟩ | ⟨a, b⟩
        · exact .inl ⟨List.mem_of_mem_drop a, List.mem_of_mem_drop b⟩
        · exact .inr ⟨List.mem_of_mem_drop a, List.mem_of_mem_drop b⟩))
      rw [List.drop_zero, List.drop_zero] at d1 d2
      rw [← levC_eq mx d1 d2] at e
      refine ⟨ρ', H', ?_⟩
      refine (seq_of (if_f e0)).trans ?_
      refine (seq_of (assign_of (v := .int ((0 : Nat) : Int)) (H₁ := []) rfl)).trans ?_
      refine (seq_of w1).trans ?_
      have c1 : eCut (eVar 0) (eVar 3) (eVal .none) [some (.str (S A)), some (.str (S B)), some (.int (mx : Int)), some (.int (q : Int)), none, none, none, none, none, none, none, none, none, none] [] = some (.str (S (A.drop q)), []) := by
        rw [ecut_of (a := .str (S A)) (b := .int (q : Int)) (c := .none) (H₁ := []) (H₂ := []) (H₃ := []) rfl rfl rfl, cutV_S [] (by omega) (lo := some (q : Int)) (hi := none) rfl rfl, cut_from A q q1]
      refine (seq_of (assign_of c1)).trans ?_
      have c2 : eCut (eVar 1) (eVar 3) (eVal .none) [some (.str (S (A.drop q))), some (.str (S B)), some (.int (mx : Int)), some (.int (q : Int)), none, none, none, none, none, none, none, none, none, none] [] = some (.str (S (B.drop q)), []) := by
        rw [ecut_of (a := .str (S B)) (b := .int (q : Int)) (c := .none) (H₁ := []) (H₂ := []) (H₃ := []) rfl rfl rfl, cutV_S [] (by omega) (lo := some (q : Int)) (hi := none) rfl rfl, cut_from B q q2]
      refine (seq_of (assign_of c2)).trans ?_
      refine (seq_of (assign_of (v := .int (-((0 : Nat) : Int))) (H₁ := []) rfl)).trans ?_
      refine (seq_of w2).trans ?_
      exact e
  obtain ⟨ρ', H', e⟩ := key
  refine ⟨H', ?_⟩
  exact run_of rfl e

/-! ## the classes -/
section
variable {κ : Nat → Nat}
theorem dropPre_map : ∀ {a b : List Nat}, (∀ x ∈ a, ∀ y ∈ b, Nat.beq (κ x) (κ y) = Nat.beq x y) → dropPre (a.map κ) (b.map κ) = ((dropPre a b).1.map κ, (dropPre a b).2.map κ)
  | [], b, _ => by simp [dropPre]
  | x :: a, [], _ => by simp [dropPre]
  | x :: a, y :: b, h => by
    have h1 := h x (by simp) y (by simp)
    rw [List.map_cons, List.map_cons, dropPre, dropPre, h1]
    cases Nat.beq x y with
    | true => exact dropPre_map fun u hu v hv => h u (by simp [hu]) v (by simp [hv])
    | false => rfl
theorem levRow_map (c : Nat) : ∀ (rest rr : List Nat) (d r m : Nat), (∀ x ∈ rest, Nat.beq (κ c) (κ x) = Nat.beq c x) → levRow (κ c) (rest.map κ) rr d r m = levRow c rest rr d r m
  | [], _, _, _, _, _ => by simp [levRow]
  | x :: rest, [], _, _, _, _ => by simp [levRow]
  | x :: rest, y :: rr, d, r, m, h => by
    rw [List.map_cons, levRow, levRow, h x (by simp)]
    dsimp only
    rw [levRow_map c rest rr _ _ _ fun u hu => h u (by simp [hu])]
theorem levRows_map (mx : Nat) (a : List Nat) : ∀ (bs : List Nat) (i : Nat) (row : List Nat) (r : Nat), (∀ c ∈ bs, ∀ x ∈ a, Nat.beq (κ c) (κ x) = Nat.beq c x) → levRows mx (a.map κ) (bs.map κ) i row r = levRows mx a bs i row r
  | [], _, _, _, _ => by simp [levRows]
  | c :: bs, i, row, r, h => by
    rw [List.map_cons, levRows_cons, levRows_cons, levRow_map c a row _ _ _ fun u hu => h c (by simp) u hu, levRows_map mx a bs _ _ _ fun u hu => h u (by simp [hu])]
theorem dropPre_sub : ∀ (a b : List Nat), (∀ x ∈ (dropPre a b).1, x ∈ a) ∧ (∀ x ∈ (dropPre a b).2, x ∈ b)
  | [], b => by simp [dropPre]
  | x :: a, [] => by simp [dropPre]
  | x :: a, y :: b => by
    rw [dropPre]
    cases Nat.beq x y with
    | true =>
      obtain ⟨h1, h2⟩ := dropPre_sub a b
      exact ⟨fun u hu => List.mem_cons_of_mem _ (h1 u hu), fun u hu => List.mem_cons_of_mem _ (h2 u hu)⟩
    | false => exact ⟨fun u hu => hu, fun u hu => hu⟩
theorem beq_comm' (a b : Nat) : Nat.beq a b = Nat.beq b a := by
  rw [Bool.eq_iff_iff, Nat.beq_eq, Nat.beq_eq]; exact ⟨Eq.symm, Eq.symm⟩
theorem levC_map {a b : List Nat} (mx : Nat) (h : ∀ x ∈ a, ∀ y ∈ b, Nat.beq (κ x) (κ y) = Nat.beq x y) : levC (a.map κ) (b.map κ) mx = levC a b mx := by
  obtain ⟨s1, s2⟩ := dropPre_sub a b
  obtain ⟨s3, s4⟩ := dropPre_sub (dropPre a b).1.reverse (dropPre a b).2.reverse
  have h1 := dropPre_map h
  have h' : ∀ x ∈ (dropPre a b).1.reverse, ∀ y ∈ (dropPre a b).2.reverse, Nat.beq (κ x) (κ y) = Nat.beq x y := fun x hx y hy => h x (s1 x (List.mem_reverse.mp hx)) y (s2 y (List.mem_reverse.mp hy))
  have h2 := dropPre_map h'
  rw [levC_eq (a2 := (dropPre (dropPre a b).1.reverse (dropPre a b).2.reverse).1) (b2 := (dropPre (dropPre a b).1.reverse (dropPre a b).2.reverse).2) mx rfl rfl]
  rw [levC_eq (a1 := (dropPre a b).1.map κ) (b1 := (dropPre a b).2.map κ) (a2 := (dropPre (dropPre a b).1.reverse (dropPre a b).2.reverse).1.map κ) (b2 := (dropPre (dropPre a b).1.reverse (dropPre a b).2.reverse).2.map κ) mx h1.symm (by rw [← List.map_reverse, ← List.map_reverse]; exact h2.symm)]
  rw [← List.map_reverse, ← List.map_reverse]
  have h3 : ∀ x ∈ (dropPre (dropPre a b).1.reverse (dropPre a b).2.reverse).1.reverse, ∀ y ∈ (dropPre (dropPre a b).1.reverse (dropPre a b).2.reverse).2.reverse, Nat.beq (κ x) (κ y) = Nat.beq x y := fun x hx y hy => h' x (s3 x (List.mem_reverse.mp hx)) y (s4 y (List.mem_reverse.mp hy))
  generalize (dropPre (dropPre a b).1.reverse (dropPre a b).2.reverse).1.reverse = a3 at *
  generalize (dropPre (dropPre a b).1.reverse (dropPre a b).2.reverse).2.reverse = b3 at *
  cases a3 with
  | nil => simp
  | cons x a3 => cases b3 with
    | nil => simp
    | cons y b3 =>
      have r1 := levRows_map (κ := κ) mx (x :: a3) (y :: b3) 0 ((List.range (x :: a3).length).map fun i => 2 * (i + 1)) 0 (fun c hc u hu => by rw [beq_comm', h3 u hu c hc, beq_comm'])
      have r2 := levRows_map (κ := κ) mx (y :: b3) (x :: a3) 0 ((List.range (y :: b3).length).map fun i => 2 * (i + 1)) 0 (fun c hc u hu => h3 c hc u hu)
      rw [List.map_cons, List.map_cons] at r1 r2 ⊢
      dsimp only
      simp only [List.length_cons, List.length_map] at r1 r2 ⊢
      rw [r1, r2]
end
end Mine
end

/-! part P17 -/
section
set_option maxRecDepth 100000
set_option linter.unusedVariables false
open PySem PyProof.Rows
namespace Mine
theorem eif_t {t : Tx} {f g : Ex} {ρ : Lo} {H H₁ : Hp} (e : t ρ H = some (true, H₁)) : eIf t f g ρ H = f ρ H₁ := by unfold eIf; rw [e]; rfl
theorem eif_f {t : Tx} {f g : Ex} {ρ : Lo} {H H₁ : Hp} (e : t ρ H = some (false, H₁)) : eIf t f g ρ H = g ρ H₁ := by unfold eIf; rw [e]; rfl
theorem expr_of {f : Ex} {ρ : Lo} {H H₁ : Hp} {v : V} (e : f ρ H = some (v, H₁)) : gExpr f ρ H = some (.next, ρ, H₁) := by unfold gExpr; rw [e]; rfl
theorem meth1 {T : String} {f g : Ex} {h : CF} {ρ : Lo} {H H₁ H₂ : Hp} {a b : V} (e1 : f ρ H = some (a, H₁)) (ht : isTy a H₁ T = true) (e2 : g ρ H₁ = some (b, H₂)) : eMeth T f [g] h ρ H = h [a, b] H₂ := by
  unfold eMeth
  simp only [e1, Option.bind_some, ht, if_true, eRow, e2]
theorem list3 {f g k : Ex} {ρ : Lo} {H : Hp} {a b c : V} (e1 : f ρ H = some (a, H)) (e2 : g ρ H = some (b, H)) (e3 : k ρ H = some (c, H)) : eList [f, g, k] ρ H = some (.ref H.length, H ++ [.list [a, b, c]]) := by
  unfold eList
  simp only [eRow, e1, e2, e3, Option.bind_some, Option.map_some]
theorem min3 (H : Hp) (a b c : Nat) : bMin [.ref H.length] (H ++ [.list [.int (a : Int), .int (b : Int), .int (c : Int)]]) = some (.int (Nat.min (Nat.min a b) c : Int), H ++ [.list [.int (a : Int), .int (b : Int), .int (c : Int)]]) := by
  have h1 : (H ++ [O.list [V.int (a : Int), .int (b : Int), .int (c : Int)]])[H.length]? = some (.list [.int (a : Int), .int (b : Int), .int (c : Int)]) := by simp
  have h2 : intsOf [V.int (a : Int), .int (b : Int), .int (c : Int)] = some [(a : Int), (b : Int), (c : Int)] := rfl
  have h3 : minL [(a : Int), (b : Int), (c : Int)] = some ((Nat.min (Nat.min a b) c : Nat) : Int) := by
    show some (if (c : Int) < (if (b : Int) < (a : Int) then (b : Int) else a) then (c : Int) else (if (b : Int) < (a : Int) then (b : Int) else a)) = _
    congr 1
    show _ = ((min (min a b) c : Nat) : Int)
    split <;> split <;> omega
  simp only [bMin, h1, h2, h3, Option.bind_some, Option.map_some]
theorem append_at {H : Hp} {a : Nat} {xs : List V} {v : V} (h : H[a]? = some (.list xs)) (hl : xs.length ≤ 1000) : mAppend [.ref a, v] H = some (.none, H.set a (.list (xs ++ [v]))) := by
  have : xs.length ≤ 1000000 := by omega
  simp only [mAppend, h, if_pos this]
theorem natsV_get {l : List Nat} {i : Nat} (h : i < l.length) : (natsV l)[i]? = some (.int ((l.getD i 0 : Nat) : Int)) := by
  unfold natsV
  rw [List.getElem?_map, List.getElem?_eq_getElem h, List.getD_eq_getElem?_getD, List.getElem?_eq_getElem h]
  rfl
theorem natsV_len (l : List Nat) : (natsV l).length = l.length := by simp [natsV]

noncomputable def fwRise : Ex := eIf (tVal (bind2 (eVar 4) (eVal (.int 0)) cGt)) (bind2 (bind2 (eVar 1) (bind2 (eVar 4) (eVal (.int 1)) oSub) Mine.sub) (eIf (tVal (bind2 (eVar 2) (eVal (.str "(")) cEq)) (eVal (.int 0)) (eVal (.int 1))) oAdd) (eVal (.int 99))
noncomputable def fwFall : Ex := eIf (tVal (bind2 (bind2 (eVar 4) (eVal (.int 1)) oAdd) (eCall [(eVar 1)] bLen) cLt)) (bind2 (bind2 (eVar 1) (bind2 (eVar 4) (eVal (.int 1)) oAdd) Mine.sub) (eIf (tVal (bind2 (eVar 2) (eVal (.str ")")) cEq)) (eVal (.int 0)) (eVal (.int 1))) oAdd) (eVal (.int 99))
noncomputable def fwB : Sx := gSeq (gAssign 5 fwRise) (gSeq (gAssign 6 fwFall) (gSeq (gExpr (eMeth "list" (eVar 3) [(eCall [(eList [(eVar 5), (eVar 6), (bind2 (bind2 (eVar 1) (eVar 4) Mine.sub) (eVal (.int 1)) oAdd)])] bMin)] mAppend)) gNil))
noncomputable def riseN (c : Nat) (l : List Nat) (h : Nat) : Nat := if h = 0 then 99 else (l.getD (h - 1) 0) + (if Nat.beq c 40 then 0 else 1)
noncomputable def fallN (c : Nat) (l : List Nat) (h : Nat) : Nat := if h + 1 < l.length then (l.getD (h + 1) 0) + (if Nat.beq c 41 then 0 else 1) else 99
noncomputable def fwAt (c : Nat) (l : List Nat) (h : Nat) : Nat := Nat.min (Nat.min (riseN c l h) (fallN c l h)) (l.getD h 0 + 1)

theorem chr40 : Str.ofString "(" = S [40] := by decide +kernel
theorem chr41 : Str.ofString ")" = S [41] := by decide +kernel

theorem eq_lit {c d : Nat} {y : Str} {n : Nat} {ρ : Lo} {H : Hp} (hy : y = S [d]) (h : ρ[n]? = some (some (.str (S [c])))) :
    eIf (tVal (bind2 (eVar n) (eVal (.str y)) cEq)) (eVal (.int 0)) (eVal (.int 1)) ρ H = some (.int ((if Nat.beq c d then 0 else 1 : Nat) : Int), H) := by
  have e : tVal (bind2 (eVar n) (eVal (.str y)) cEq) ρ H = some (Nat.beq c d, H) := by
    refine tval_of (v := .bool (Nat.beq c d)) ?_ rfl
    rw [bind2_of (evar_of H h) (b := .str y) (H₂ := H) rfl, hy, cEq_S]
  cases hb : Nat.beq c d with
  | true => rw [hb] at e; rw [eif_t e]; rfl
  | false => rw [hb] at e; rw [eif_f e]; rfl

theorem rise_ok (o0 o3 o5 o6 : Option V) (c F h : Nat) (l : List Nat) (H : Hp) (hF : H[F]? = some (.list (natsV l))) (hh : h < l.length) (hl : l.length ≤ 1000) :
    fwRise [o0, some (.ref F), some (.str (S [c])), o3, some (.int (h : Int)), o5, o6] H = some (.int (riseN c l h : Int), H) := by
  unfold fwRise
  have e : tVal (bind2 (eVar 4) (eVal (.int 0)) cGt) [o0, some (.ref F), some (.str (S [c])), o3, some (.int (h : Int)), o5, o6] H = some (decide ((0 : Int) < (h : Int)), H) := by
    refine tval_of (v := .bool (decide ((0 : Int) < (h : Int)))) ?_ rfl
    rw [bind2_of (a := .int (h : Int)) (b := .int 0) (H₁ := H) (H₂ := H) rfl rfl]; rfl
  cases h with
  | zero =>
    rw [eif_f (e.trans (by rfl))]; rfl
  | succ h =>
    rw [decide_eq_true (by omega)] at e
    rw [eif_t e]
    have i1 : bind2 (eVar 4) (eVal (.int 1)) oSub [o0, some (.ref F), some (.str (S [c])), o3, some (.int ((h + 1 : Nat) : Int)), o5, o6] H = some (.int (h : Int), H) := by
      rw [bind2_of (a := .int ((h + 1 : Nat) : Int)) (b := .int 1) (H₁ := H) (H₂ := H) rfl rfl]
      show some (V.int (((h + 1 : Nat) : Int) - 1), H) = _
      congr 3
      omega
    have i2 := (bind2_of (h := Mine.sub) (f := eVar 1) (ρ := [o0, some (.ref F), some (.str (S [c])), o3, some (.int ((h + 1 : Nat) : Int)), o5, o6]) (a := .ref F) (H₁ := H) (H := H) rfl i1).trans (sub_list hF (natsV_get (i := h) (by omega)) (by rw [natsV_len]; exact hl))
    rw [bind2_of i2 (eq_lit chr40 (c := c) rfl)]
    rfl
theorem fall_ok (o0 o3 o5 o6 : Option V) (c F h : Nat) (l : List Nat) (H : Hp) (hF : H[F]? = some (.list (natsV l))) (hh : h < l.length) (hl : l.length ≤ 1000) :
    fwFall [o0, some (.ref F), some (.str (S [c])), o3, some (.int (h : Int)), o5, o6] H = some (.int (fallN c l h : Int), H) := by
  unfold fwFall fallN
  have i1 : bind2 (eVar 4) (eVal (.int 1)) oAdd [o0, some (.ref F), some (.str (S [c])), o3, some (.int (h : Int)), o5, o6] H = some (.int ((h + 1 : Nat) : Int), H) := by
    rw [bind2_of (a := .int (h : Int)) (b := .int 1) (H₁ := H) (H₂ := H) rfl rfl]; rfl
  have i0 : eCall [(eVar 1)] bLen [o0, some (.ref F), some (.str (S [c])), o3, some (.int (h : Int)), o5, o6] H = some (.int (l.length : Int), H) := by
    rw [ecall1 (a := .ref F) (H₁ := H) rfl]
    have : l.length < 1000000000 := by omega
    simp only [bLen, hF, natsV_len, if_pos this]
  have e : tVal (bind2 (bind2 (eVar 4) (eVal (.int 1)) oAdd) (eCall [(eVar 1)] bLen) cLt) [o0, some (.ref F), some (.str (S [c])), o3, some (.int (h : Int)), o5, o6] H = some (decide (h + 1 < l.length), H) := by
    refine tval_of (v := .bool (decide (h + 1 < l.length))) ?_ rfl
    rw [bind2_of i1 i0]
    show some (V.bool (decide (((h + 1 : Nat) : Int) < (l.length : Int))), H) = _
    rw [decide_eq_decide.mpr (by omega : ((h + 1 : Nat) : Int) < (l.length : Int) ↔ h + 1 < l.length)]
  by_cases hlt : h + 1 < l.length
  · rw [decide_eq_true hlt] at e
    rw [eif_t e, if_pos hlt]
    have i2 := (bind2_of (h := Mine.sub) (f := eVar 1) (a := .ref F) (H₁ := H) (H := H) (ρ := [o0, some (.ref F), some (.str (S [c])), o3, some (.int (h : Int)), o5, o6]) rfl i1).trans (sub_list hF (natsV_get (i := h + 1) hlt) (by rw [natsV_len]; exact hl))
    rw [bind2_of i2 (eq_lit chr41 (c := c) rfl)]
    rfl
  · rw [decide_eq_false hlt] at e
    rw [eif_f e, if_neg hlt]
    rfl
theorem few_step (o0 o5 o6 : Option V) (c F Aa h : Nat) (l acc : List Nat) (H : Hp) (hF : H[F]? = some (.list (natsV l))) (hA : H[Aa]? = some (.list (natsV acc))) (hh : h < l.length) (hl : l.length ≤ 1000) (ha : acc.length ≤ 1000) :
    ∃ X, fwB [o0, some (.ref F), some (.str (S [c])), some (.ref Aa), some (.int (h : Int)), o5, o6] H = some (.next, [o0, some (.ref F), some (.str (S [c])), some (.ref Aa), some (.int (h : Int)), some (.int (riseN c l h : Int)), some (.int (fallN c l h : Int))], (H ++ [X]).set Aa (.list (natsV (acc ++ [fwAt c l h])))) := by
  refine ⟨.list [.int (riseN c l h : Int), .int (fallN c l h : Int), .int ((l.getD h 0 + 1 : Nat) : Int)], ?_⟩
  unfold fwB
  refine (seq_of (assign_of (rise_ok o0 (some (.ref Aa)) o5 o6 c F h l H hF hh hl))).trans ?_
  refine (seq_of (assign_of (fall_ok o0 (some (.ref Aa)) (some (.int (riseN c l h : Int))) o6 c F h l H hF hh hl))).trans ?_
  have i2 := (bind2_of (h := Mine.sub) (f := eVar 1) (g := eVar 4) (a := .ref F) (b := .int (h : Int)) (H₁ := H) (H := H) (H₂ := H) (ρ := [o0, some (.ref F), some (.str (S [c])), some (.ref Aa), some (.int (h : Int)), some (.int (riseN c l h : Int)), some (.int (fallN c l h : Int))]) rfl rfl).trans (sub_list hF (natsV_get (i := h) hh) (by rw [natsV_len]; exact hl))
  have i3 : bind2 (bind2 (eVar 1) (eVar 4) Mine.sub) (eVal (.int 1)) oAdd [o0, some (.ref F), some (.str (S [c])), some (.ref Aa), some (.int (h : Int)), some (.int (riseN c l h : Int)), some (.int (fallN c l h : Int))] H = some (.int ((l.getD h 0 + 1 : Nat) : Int), H) := by
    rw [bind2_of i2 (b := .int 1) (H₂ := H) rfl]; rfl
  have i4 := (ecall1 (h := bMin) (list3 (f := eVar 5) (g := eVar 6) (a := .int (riseN c l h : Int)) (b := .int (fallN c l h : Int)) rfl rfl i3)).trans (min3 H (riseN c l h) (fallN c l h) (l.getD h 0 + 1))
  have i5 := meth1 (T := "list") (h := mAppend) (f := eVar 3) (a := .ref Aa) (H₁ := H) rfl (by simp only [isTy, hA]; rfl) i4
  have hA' := app_at (ext := [O.list [.int (riseN c l h : Int), .int (fallN c l h : Int), .int ((l.getD h 0 + 1 : Nat) : Int)]]) hA
  have i6 := i5.trans (append_at hA' (by rw [natsV_len]; exact ha))
  refine (seq_of (expr_of i6)).trans ?_
  unfold natsV fwAt
  rw [List.map_append]
  rfl
end Mine
end

/-! part P18 -/
section
set_option maxRecDepth 100000
set_option linter.unusedVariables false
open PySem PyProof.Rows
namespace Mine
theorem chars_S (t : List Nat) : chars (S t) = t.map fun c => V.str (S [c]) := by unfold chars; rw [S_cps]; rfl
theorem fwStep_eq (c : Nat) (l : List Nat) : fwStep c l = (List.range l.length).map (fwAt c l) := rfl
theorem fwStep_len (c : Nat) (l : List Nat) : (fwStep c l).length = l.length := by rw [fwStep_eq]; simp
theorem few_in (o0 : Option V) (c F Aa : Nat) (l : List Nat) (xs0 : List V) (hl : l.length ≤ 1000) (hne : F ≠ Aa) : ∀ (n i : Nat) (o4 o5 o6 : Option V) (H : Hp), i + n = l.length → H[F]? = some (.list (natsV l)) → H[Aa]? = some (.list (natsV ((List.range i).map (fwAt c l)))) →
    ∃ o4' o5' o6' H', gTurns none xs0 (tName 4) fwB (idxs i n) [o0, some (.ref F), some (.str (S [c])), some (.ref Aa), o4, o5, o6] H = some (.next, [o0, some (.ref F), some (.str (S [c])), some (.ref Aa), o4', o5', o6'], H') ∧ H'[Aa]? = some (.list (natsV (fwStep c l))) := by
  intro n
  induction n with
  | zero =>
    intro i o4 o5 o6 H h1 h2 h3
    have : i = l.length := by omega
    subst this
    exact ⟨_, _, _, H, rfl, h3⟩
  | succ n ih =>
    intro i o4 o5 o6 H h1 h2 h3
    obtain ⟨X, st⟩ := few_step o0 o5 o6 c F Aa i l _ H h2 h3 (by omega) hl (by simp; omega)
    have hAl : Aa < H.length := (List.getElem?_eq_some_iff.mp h3).1
    have e1 : ((H ++ [X]).set Aa (.list (natsV ((List.range i).map (fwAt c l) ++ [fwAt c l i]))))[F]? = some (.list (natsV l)) := by
      rw [List.getElem?_set_ne (Ne.symm hne)]; exact app_at h2
    have e2 : ((H ++ [X]).set Aa (.list (natsV ((List.range i).map (fwAt c l) ++ [fwAt c l i]))))[Aa]? = some (.list (natsV ((List.range (i + 1)).map (fwAt c l)))) := by
      rw [List.getElem?_set_self (by simp; omega), List.range_succ, List.map_append]; rfl
    rw [idxs_succ]
    have t1 := turns_next (xs := xs0) (vs := idxs (i + 1) n) (n := 4) (v := V.int (i : Int)) (b := fwB) (H := H) (ρ := [o0, some (.ref F), some (.str (S [c])), some (.ref Aa), o4, o5, o6]) st
    rw [t1]
    exact ih (i + 1) _ _ _ _ (by omega) e1 e2
noncomputable def fwOut : Sx := gSeq (gAssign 3 (eList [])) (gSeq (gFor (eCall [(eCall [(eVar 1)] bLen)] bRange) (tName 4) fwB) (gSeq (gAssign 1 (eVar 3)) gNil))
theorem few_out (o0 : Option V) (c F : Nat) (l : List Nat) (hl : l.length ≤ 1000) (o3 o4 o5 o6 : Option V) (H : Hp) (hF : H[F]? = some (.list (natsV l))) :
    ∃ F' o3' o4' o5' o6' H', fwOut [o0, some (.ref F), some (.str (S [c])), o3, o4, o5, o6] H = some (.next, [o0, some (.ref F'), some (.str (S [c])), o3', o4', o5', o6'], H') ∧ H'[F']? = some (.list (natsV (fwStep c l))) := by
  have hFl : F < H.length := (List.getElem?_eq_some_iff.mp hF).1
  obtain ⟨a4, a5, a6, H', e1, e2⟩ := few_in o0 c F H.length l (idxs 0 l.length) hl (by omega) l.length 0 o4 o5 o6 ((H ++ [.list []]) ++ [.range 0 (l.length : Int) 1]) (by omega) (app_at (app_at hF)) (app_at (by simp; rfl))
  refine ⟨H.length, some (.ref H.length), a4, a5, a6, H', ?_, e2⟩
  unfold fwOut
  refine (seq_of (assign_of (v := .ref H.length) (H₁ := H ++ [.list []]) rfl)).trans ?_
  have i0 : eCall [(eVar 1)] bLen [o0, some (.ref F), some (.str (S [c])), some (.ref H.length), o4, o5, o6] (H ++ [.list []]) = some (.int (l.length : Int), H ++ [.list []]) := by
    rw [ecall1 (a := .ref F) (H₁ := H ++ [.list []]) rfl]
    have : l.length < 1000000000 := by omega
    have h2 := app_at (ext := [O.list []]) hF
    simp only [bLen, h2, natsV_len, if_pos this]
  refine (seq_of ((for_range i0 hl).trans e1)).trans ?_
  refine (seq_of (assign_of (v := .ref H.length) (H₁ := H') rfl)).trans ?_
  rfl
theorem few_turns (o0 : Option V) (xs0 : List V) : ∀ (cs : List Nat) (F : Nat) (l : List Nat) (o2 o3 o4 o5 o6 : Option V) (H : Hp), l.length ≤ 1000 → H[F]? = some (.list (natsV l)) →
    ∃ F' o2' o3' o4' o5' o6' H', gTurns none xs0 (tName 2) fwOut (cs.map fun c => V.str (S [c])) [o0, some (.ref F), o2, o3, o4, o5, o6] H = some (.next, [o0, some (.ref F'), o2', o3', o4', o5', o6'], H') ∧ H'[F']? = some (.list (natsV (cs.foldl (fun l c => fwStep c l) l))) := by
  intro cs
  induction cs with
  | nil => intro F l o2 o3 o4 o5 o6 H hl hF; exact ⟨F, _, _, _, _, _, H, rfl, hF⟩
  | cons c cs ih =>
    intro F l o2 o3 o4 o5 o6 H hl hF
    obtain ⟨F', o3', o4', o5', o6', H', e1, e2⟩ := few_out o0 c F l hl o3 o4 o5 o6 H hF
    rw [List.map_cons, turns_next (ρ := [o0, some (.ref F), o2, o3, o4, o5, o6]) e1]
    exact ih F' (fwStep c l) _ _ _ _ _ H' (by rw [fwStep_len]; exact hl) e2
theorem few_eq : g_law_fewest = (gSeq (gAssign 1 (bind2 (eList [(eVal (.int 0))]) (bind2 (eList [(eVal (.int 99))]) (eCall [(eVar 0)] bLen) oMul) oAdd))
  (gSeq (gFor (eVar 0) (tName 2) fwOut) (gSeq (gRet (bind2 (eVar 1) (eVal (.int 0)) Mine.sub)) gNil))) := rfl
theorem flat_rep (v : V) (n : Nat) : (List.replicate n [v]).flatten = List.replicate n v := by
  induction n with
  | zero => rfl
  | succ n ih => rw [List.replicate_succ, List.flatten_cons, ih]; rfl
theorem run_few (t : List Nat) (ht : t.length ≤ 900) : ∃ H', Mine.run g_law_fewest 1 6 [.str (S t)] [] = some (.int (fewC t : Int), H') := by
  have i0 : bind2 (eList [(eVal (.int 99))]) (eCall [(eVar 0)] bLen) oMul [some (.str (S t)), none, none, none, none, none, none] [.list [.int 0]] = some (.ref 2, [.list [.int 0], .list [.int 99], .list (List.replicate t.length (.int 99))]) := by
    rw [bind2_of (a := .ref 1) (H₁ := [.list [.int 0], .list [.int 99]]) rfl ((ecall1 (a := .str (S t)) rfl).trans (bLen_S _ (by omega)))]
    have h1 : (0 : Int) ≤ (t.length : Int) ∧ (t.length : Int) ≤ 1000 ∧ ([V.int 99] : List V).length ≤ 1000 := by simp; omega
    have h2 : ([O.list [V.int 0], .list [.int 99]] : Hp)[1]? = some (.list [.int 99]) := rfl
    simp only [oMul, h2, if_pos h1, Int.toNat_natCast, flat_rep]
    rfl
  have i1 : bind2 (eList [(eVal (.int 0))]) (bind2 (eList [(eVal (.int 99))]) (eCall [(eVar 0)] bLen) oMul) oAdd [some (.str (S t)), none, none, none, none, none, none] [] = some (.ref 3, [.list [.int 0], .list [.int 99], .list (List.replicate t.length (.int 99)), .list (natsV (0 :: List.replicate t.length 99))]) := by
    rw [bind2_of (a := .ref 0) (H₁ := [.list [.int 0]]) rfl i0]
    have h1 : ([O.list [V.int 0], .list [.int 99], .list (List.replicate t.length (.int 99))] : Hp)[0]? = some (.list [.int 0]) := rfl
    have h2 : ([O.list [V.int 0], .list [.int 99], .list (List.replicate t.length (.int 99))] : Hp)[2]? = some (.list (List.replicate t.length (.int 99))) := rfl
    have h3 : ([V.int 0] : List V).length + (List.replicate t.length (V.int 99)).length ≤ 1000000 := by simp; omega
    simp only [oAdd, h1, h2, if_pos h3]
    unfold natsV
    rw [List.map_cons, List.map_replicate]
    rfl
  obtain ⟨F', o2, o3, o4, o5, o6, H', e1, e2⟩ := few_turns (some (.str (S t))) (chars (S t)) t 3 (0 :: List.replicate t.length 99) none none none none none [.list [.int 0], .list [.int 99], .list (List.replicate t.length (.int 99)), .list (natsV (0 :: List.replicate t.length 99))] (by simp; omega) rfl
  refine ⟨H', run_of (ρ' := [some (.str (S t)), some (.ref F'), o2, o3, o4, o5, o6]) rfl ?_⟩
  · rw [few_eq]
    refine (seq_of (assign_of i1)).trans ?_
    have e3 : gFor (eVar 0) (tName 2) fwOut [some (.str (S t)), some (.ref 3), none, none, none, none, none] [.list [.int 0], .list [.int 99], .list (List.replicate t.length (.int 99)), .list (natsV (0 :: List.replicate t.length 99))] = some (.next, [some (.str (S t)), some (.ref F'), o2, o3, o4, o5, o6], H') := by
      unfold gFor
      rw [show eVar 0 [some (V.str (S t)), some (.ref 3), none, none, none, none, none] [O.list [.int 0], .list [.int 99], .list (List.replicate t.length (.int 99)), .list (natsV (0 :: List.replicate t.length 99))] = some (.str (S t), _) from rfl, Option.bind_some]
      show gTurns none (chars (S t)) (tName 2) fwOut (chars (S t)) _ _ = _
      rw [← e1]
      rw [chars_S t]
    refine (seq_of e3).trans ?_
    have hlen : ∀ (cs l : List Nat), (cs.foldl (fun l c => fwStep c l) l).length = l.length := by
      intro cs
      induction cs with
      | nil => intro l; rfl
      | cons c cs ih => intro l; rw [List.foldl_cons, ih, fwStep_len]
    refine seq_ret (ret_of ?_)
    rw [bind2_of (a := .ref F') (b := .int ((0 : Nat) : Int)) (H₁ := H') (H₂ := H') rfl rfl]
    exact sub_list e2 (natsV_get (i := 0) (by rw [hlen]; simp)) (by rw [natsV_len, hlen]; simp; omega)
theorem few_map {κ : Nat → Nat} {t : List Nat} (h40 : ∀ c ∈ t, Nat.beq (κ c) 40 = Nat.beq c 40) (h41 : ∀ c ∈ t, Nat.beq (κ c) 41 = Nat.beq c 41) : fewC (t.map κ) = fewC t := by
  have : ∀ (cs l : List Nat), (∀ c ∈ cs, c ∈ t) → (cs.map κ).foldl (fun l c => fwStep c l) l = cs.foldl (fun l c => fwStep c l) l := by
    intro cs
    induction cs with
    | nil => intro l _; rfl
    | cons c cs ih =>
      intro l hc
      have e : fwStep (κ c) l = fwStep c l := by unfold fwStep; rw [h40 c (hc c (by simp)), h41 c (hc c (by simp))]
      rw [List.map_cons, List.foldl_cons, List.foldl_cons, e, ih _ fun u hu => hc u (by simp [hu])]
  unfold fewC
  rw [this _ _ fun _ h => h, List.length_map]
end Mine
end

/-! part P19 -/
section
set_option maxRecDepth 100000
set_option linter.unusedVariables false
open PySem PyProof.Rows
namespace Mine
noncomputable def isBr (c : Nat) : Bool := Nat.beq c 40 || Nat.beq c 41
noncomputable def ckT : Sx := (gSeq (gIf (tVal (bind2 (eVar 3) (eVal (.str "(")) cEq)) (gSeq (gAug 1 (eVal (.int 1)) iAdd)
  gNil) (gSeq (gIf (tVal (bind2 (eVar 3) (eVal (.str ")")) cEq)) (gSeq (gAug 1 (eVal (.int 1)) iSub)
  (gSeq (gIf (tVal (bind2 (eVar 1) (eVal (.int 0)) cLt)) (gSeq (gRet (eVal (.bool false)))
  gNil) gNil)
  gNil)) gNil)
  gNil))
  gNil)
theorem check_eq (h : CF) : g_check_parenthesis h = (gSeq (gAssign 0 (eCall [(eVar 0)] h)) (gSeq (gAssign 1 (eVal (.int 0))) (gSeq (gEsc 2 3 (eVar 0) ckT) (gSeq (gRet (bind2 (eVar 1) (eVal (.int 0)) cEq)) gNil)))) := rfl
noncomputable def chkGo : Nat → List Nat → Bool
  | h, [] => h == 0
  | h, c :: r => if Nat.beq c 40 then chkGo (h + 1) r else if Nat.beq c 41 then (if h = 0 then false else chkGo (h - 1) r) else chkGo h r
theorem chkGo_cons (h c : Nat) (r : List Nat) : chkGo h (c :: r) = if Nat.beq c 40 then chkGo (h + 1) r else if Nat.beq c 41 then (if h = 0 then false else chkGo (h - 1) r) else chkGo h r := by
  cases h <;> rfl
theorem chk_bal : ∀ (t : List Nat) (h : Nat), chkGo h t = balGo h (t.filter isBr)
  | [], h => rfl
  | c :: r, h => by
    have e40 : (c == 40) = Nat.beq c 40 := by rw [Bool.eq_iff_iff, Nat.beq_eq, beq_iff_eq]
    rw [chkGo_cons, List.filter_cons]
    unfold isBr
    cases h1 : Nat.beq c 40 with
    | true =>
      simp only [Bool.true_or, if_true, balGo, e40, h1]
      exact chk_bal r (h + 1)
    | false =>
      cases h2 : Nat.beq c 41 with
      | true =>
        simp only [Bool.false_or, if_true, balGo, e40, h1, Bool.false_eq_true, if_false]
        cases h with
        | zero => rfl
        | succ h => exact chk_bal r h
      | false =>
        simp only [Bool.false_or, Bool.false_eq_true, if_false]
        exact chk_bal r h

theorem eqlit_t {c d n : Nat} {y : Str} {ρ : Lo} {H : Hp} (hy : y = S [d]) (h : ρ[n]? = some (some (.str (S [c])))) : tVal (bind2 (eVar n) (eVal (.str y)) cEq) ρ H = some (Nat.beq c d, H) := by
  refine tval_of (v := .bool (Nat.beq c d)) ?_ rfl
  rw [bind2_of (evar_of H h) (b := .str y) (H₂ := H) rfl, hy, cEq_S]
theorem ck_open (o0 o2 : Option V) (h : Nat) (H : Hp) {c : Nat} (hc : Nat.beq c 40 = true) : ckT [o0, some (.int (h : Int)), o2, some (.str (S [c]))] H = some (.next, [o0, some (.int ((h + 1 : Nat) : Int)), o2, some (.str (S [c]))], H) := by
  have e := eqlit_t (n := 3) (ρ := [o0, some (.int (h : Int)), o2, some (.str (S [c]))]) (H := H) chr40 rfl
  rw [hc] at e
  unfold ckT
  refine (seq_of ((if_t e).trans (seq_of (aug_of ((bind2_of (a := .int (h : Int)) (b := .int 1) (H₁ := H) (H₂ := H) rfl rfl).trans (show iAdd _ _ _ = some (.int ((h + 1 : Nat) : Int), H) from rfl)))))).trans ?_
  rfl
theorem ck_other (o0 o2 : Option V) (h : Nat) (H : Hp) {c : Nat} (hc : Nat.beq c 40 = false) (hc' : Nat.beq c 41 = false) : ckT [o0, some (.int (h : Int)), o2, some (.str (S [c]))] H = some (.next, [o0, some (.int (h : Int)), o2, some (.str (S [c]))], H) := by
  have e := eqlit_t (n := 3) (ρ := [o0, some (.int (h : Int)), o2, some (.str (S [c]))]) (H := H) chr40 rfl
  have e' := eqlit_t (n := 3) (ρ := [o0, some (.int (h : Int)), o2, some (.str (S [c]))]) (H := H) chr41 rfl
  rw [hc] at e
  rw [hc'] at e'
  unfold ckT
  refine (seq_of ((if_f e).trans (seq_of (if_f e')))).trans ?_
  rfl
theorem ck_close (o0 o2 : Option V) (h : Nat) (H : Hp) {c : Nat} (hc : Nat.beq c 40 = false) (hc' : Nat.beq c 41 = true) : ckT [o0, some (.int ((h + 1 : Nat) : Int)), o2, some (.str (S [c]))] H = some (.next, [o0, some (.int (h : Int)), o2, some (.str (S [c]))], H) := by
  have e := eqlit_t (n := 3) (ρ := [o0, some (.int ((h + 1 : Nat) : Int)), o2, some (.str (S [c]))]) (H := H) chr40 rfl
  have e' := eqlit_t (n := 3) (ρ := [o0, some (.int ((h + 1 : Nat) : Int)), o2, some (.str (S [c]))]) (H := H) chr41 rfl
  rw [hc] at e
  rw [hc'] at e'
  have e2 : bind2 (eVar 1) (eVal (.int 1)) iSub [o0, some (.int ((h + 1 : Nat) : Int)), o2, some (.str (S [c]))] H = some (.int (h : Int), H) := by
    rw [bind2_of (a := .int ((h + 1 : Nat) : Int)) (b := .int 1) (H₁ := H) (H₂ := H) rfl rfl]
    show some (V.int (((h + 1 : Nat) : Int) - 1), H) = _
    congr 3
    omega
  have e3 : tVal (bind2 (eVar 1) (eVal (.int 0)) cLt) [o0, some (.int (h : Int)), o2, some (.str (S [c]))] H = some (false, H) := by
    refine tval_of (v := .bool false) ?_ rfl
    rw [bind2_of (a := .int (h : Int)) (b := .int 0) (H₁ := H) (H₂ := H) rfl rfl]
    show some (V.bool (decide ((h : Int) < 0)), H) = _
    rw [decide_eq_false (by omega)]
  unfold ckT
  refine (seq_of ((if_f e).trans (seq_of ((if_t e').trans ((seq_of (aug_of e2)).trans (seq_of (if_f e3))))))).trans ?_
  rfl
theorem ck_below (o0 o2 : Option V) (H : Hp) {c : Nat} (hc : Nat.beq c 40 = false) (hc' : Nat.beq c 41 = true) : ∃ ρ', ckT [o0, some (.int ((0 : Nat) : Int)), o2, some (.str (S [c]))] H = some (.ret (.bool false), ρ', H) := by
  have e := eqlit_t (n := 3) (ρ := [o0, some (.int ((0 : Nat) : Int)), o2, some (.str (S [c]))]) (H := H) chr40 rfl
  have e' := eqlit_t (n := 3) (ρ := [o0, some (.int ((0 : Nat) : Int)), o2, some (.str (S [c]))]) (H := H) chr41 rfl
  rw [hc] at e
  rw [hc'] at e'
  have e2 : bind2 (eVar 1) (eVal (.int 1)) iSub [o0, some (.int ((0 : Nat) : Int)), o2, some (.str (S [c]))] H = some (.int (-1), H) := by
    rw [bind2_of (a := .int ((0 : Nat) : Int)) (b := .int 1) (H₁ := H) (H₂ := H) rfl rfl]; rfl
  have e3 : tVal (bind2 (eVar 1) (eVal (.int 0)) cLt) [o0, some (.int (-1)), o2, some (.str (S [c]))] H = some (true, H) := by
    refine tval_of (v := .bool true) ?_ rfl
    rw [bind2_of (a := .int (-1)) (b := .int 0) (H₁ := H) (H₂ := H) rfl rfl]; rfl
  refine ⟨[o0, some (.int (-1)), o2, some (.str (S [c]))], ?_⟩
  unfold ckT
  refine seq_ret ((if_f e).trans (seq_ret ((if_t e').trans ((seq_of (aug_of e2)).trans (seq_ret ((if_t e3).trans (seq_ret (ret_of (v := .bool false) (H₁ := H) rfl))))))))

theorem esc_next {n n' i : Nat} {b : Sx} {v : V} {vs : List V} {ρ ρ₂ : Lo} {H H₂ : Hp} (e : b (put n' v (put n (.int (i : Int)) ρ)) H = some (.next, ρ₂, H₂)) : escTurns n n' b i (v :: vs) ρ H = escTurns n n' b (i + 1) vs ρ₂ H₂ := by
  rw [escTurns]; dsimp only; rw [e]; rfl
theorem esc_ret {n n' i : Nat} {b : Sx} {v u : V} {vs : List V} {ρ ρ₂ : Lo} {H H₂ : Hp} (e : b (put n' v (put n (.int (i : Int)) ρ)) H = some (.ret u, ρ₂, H₂)) : escTurns n n' b i (v :: vs) ρ H = some (.ret u, ρ₂, H₂) := by
  rw [escTurns]; dsimp only; rw [e]; rfl

theorem ck_turns (o0 : Option V) (H : Hp) : ∀ (t : List Nat) (i h : Nat) (o2 o3 : Option V), ∃ f ρ', escTurns 2 3 ckT i (t.map fun c => V.str (S [c])) [o0, some (.int (h : Int)), o2, o3] H = some (f, ρ', H) ∧
    (f = .ret (.bool (chkGo h t)) ∨ (f = .next ∧ ∃ j : Nat, ρ'[1]? = some (some (.int (j : Int))) ∧ (j == 0) = chkGo h t)) := by
  intro t
  induction t with
  | nil => intro i h o2 o3; exact ⟨_, _, rfl, .inr ⟨rfl, h, rfl, rfl⟩⟩
  | cons c t ih =>
    intro i h o2 o3
    rw [List.map_cons, chkGo_cons]
    cases hc : Nat.beq c 40 with
    | true =>
      rw [esc_next (ρ := [o0, some (.int (h : Int)), o2, o3]) (ck_open o0 (some (.int (i : Int))) h H hc)]
      exact ih (i + 1) (h + 1) _ _
    | false =>
      cases hc' : Nat.beq c 41 with
      | false =>
        rw [esc_next (ρ := [o0, some (.int (h : Int)), o2, o3]) (ck_other o0 (some (.int (i : Int))) h H hc hc')]
        exact ih (i + 1) h _ _
      | true =>
        cases h with
        | zero =>
          obtain ⟨ρ', e⟩ := ck_below o0 (some (.int (i : Int))) H hc hc'
          exact ⟨_, _, esc_ret (ρ := [o0, some (.int ((0 : Nat) : Int)), o2, o3]) e, .inl rfl⟩
        | succ h =>
          rw [esc_next (ρ := [o0, some (.int ((h + 1 : Nat) : Int)), o2, o3]) (ck_close o0 (some (.int (i : Int))) h H hc hc')]
          exact ih (i + 1) h _ _
theorem run_check (h : CF) (t : List Nat) (hh : ∀ H, h [.str (S t)] H = some (.str (S t), H)) (ht : t.all (· != 92) = true) : ∃ H', Mine.run (g_check_parenthesis h) 1 3 [.str (S t)] [] = some (.bool (balGo 0 (t.filter isBr)), H') := by
  rw [← chk_bal]
  obtain ⟨f, ρ', e1, e2⟩ := ck_turns (some (.str (S t))) [] t 0 0 none none
  have e3 : gEsc 2 3 (eVar 0) ckT [some (.str (S t)), some (.int ((0 : Nat) : Int)), none, none] [] = some (f, ρ', []) := by
    unfold gEsc
    rw [evar_of (v := .str (S t)) [] rfl, Option.bind_some]
    show (if (S t).cps.toList.all (· != 92) then _ else _) = _
    rw [S_cps, if_pos ht, chars_S]
    exact e1
  have pre : ∀ z, gSeq (gEsc 2 3 (eVar 0) ckT) (gSeq (gRet (bind2 (eVar 1) (eVal (.int 0)) cEq)) gNil) [some (.str (S t)), some (.int ((0 : Nat) : Int)), none, none] [] = z → g_check_parenthesis h [some (.str (S t)), none, none, none] [] = z := fun z hz => by
    rw [check_eq]
    refine (seq_of (assign_of ((ecall1 (a := .str (S t)) (H₁ := []) rfl).trans (hh [])))).trans ?_
    refine (seq_of (assign_of (v := .int ((0 : Nat) : Int)) (H₁ := []) rfl)).trans ?_
    exact hz
  rcases e2 with rfl | ⟨rfl, j, h1, h2⟩
  · exact ⟨[], run_of rfl (pre _ (seq_ret e3))⟩
  · have e4 : bind2 (eVar 1) (eVal (.int 0)) cEq ρ' [] = some (.bool (chkGo 0 t), []) := by
      rw [bind2_of (evar_of [] h1) (b := .int 0) (H₂ := []) rfl, ← h2]
      show some (V.bool ((j : Int) == 0), ([] : Hp)) = _
      congr 3
      rw [Bool.eq_iff_iff]; simp
    exact ⟨[], run_of rfl (pre _ ((seq_of e3).trans (seq_ret (ret_of e4))))⟩
end Mine
end

/-! part P20 -/
section
set_option maxRecDepth 100000
set_option linter.unusedVariables false
open PySem PyProof.Rows
namespace Mine
theorem strIn_one (c : Nat) (t : List Nat) : strIn (S [c]) (S t) = decide (c ∈ t) := by
  have h := PySem.StrLaws.found_one (S t) c
  rw [S_cps] at h
  exact h
theorem brk_in (c : Nat) : strIn (S [c]) (Str.ofString "()") = isBr c := by
  have : Str.ofString "()" = S [40, 41] := by decide +kernel
  rw [this, strIn_one]
  unfold isBr
  rw [Bool.eq_iff_iff]
  simp [Nat.beq_eq]
/-! ## texts as rows of points -/
noncomputable def strsV (ls : List (List Nat)) : List V := ls.map fun l => V.str (S l)
theorem strsOf_S : ∀ ls : List (List Nat), strsOf (strsV ls) = some (ls.map S)
  | [] => rfl
  | l :: ls => by
    show (strsOf (strsV ls)).map _ = _
    rw [strsOf_S ls]; rfl
theorem S_append (a b : List Nat) : S a ++ S b = S (a ++ b) := by
  show (⟨a.toArray ++ b.toArray⟩ : Str) = ⟨(a ++ b).toArray⟩
  rw [List.append_toArray]
theorem join_S (ls : List (List Nat)) : Txt.join (Str.ofString "") (ls.map S) = S ls.flatten := by
  have h1 := eq_of_beq (join_plain_closes (Str.ofString "") (ls.map S))
  have h2 : Str.ofString "" = ⟨#[]⟩ := by decide +kernel
  rw [h1, h2]
  induction ls with
  | nil => rfl
  | cons l ls ih =>
    rw [List.map_cons, join_nil_cons, ih (by
      have := eq_of_beq (join_plain_closes (Str.ofString "") (ls.map S))
      exact this), List.flatten_cons, S_append]
theorem mjoin_S {H : Hp} {a : Nat} {ls : List (List Nat)} (h : H[a]? = some (.list (strsV ls))) (hw : (ls.map List.length).sum + ls.length ≤ 1000) : mJoin [.str (Str.ofString ""), .ref a] H = some (.str (S ls.flatten), H) := by
  have h1 : JoinOk (Str.ofString "") (ls.map S) = true := by
    refine joinOk_of_weight ?_ (by decide)
    rw [List.map_map, List.length_map]
    have : (ls.map ((fun x : Str => x.length) ∘ S)) = ls.map List.length := List.map_congr_left fun l _ => S_len l
    rw [this]
    omega
  simp only [mJoin, h, strsOf_S, Option.bind_some, h1, if_true, join_S]

/-! ## comprehensions -/
theorem set_same {H : Hp} {D : Nat} {o : O} (h : H[D]? = some o) : H.set D o = H := by
  obtain ⟨hl, e⟩ := List.getElem?_eq_some_iff.mp h
  rw [← e]; exact List.set_getElem_self hl
theorem emit_of {f : Ex} {D : Nat} {ρ : Lo} {H : Hp} {v : V} {acc : List V} (e : f ρ H = some (v, H)) (hD : H[D]? = some (.list acc)) (hl : acc.length ≤ 1000) : cEmit f D ρ H = some (ρ, H.set D (.list (acc ++ [v]))) := by
  have : acc.length ≤ 1000000 := by omega
  simp only [cEmit, e, Option.bind_some, hD, if_pos this]
theorem comp_turns {kd : Option Nat} {xs0 : List V} {rest : Lo} {tx : Tx} {f : Ex} {P : V → Bool} {g : V → V} (D : Nat) : ∀ (vs acc : List V) (H : Hp) (x : Option V), (∀ Y, okAt kd xs0 (H.set D Y) = true) → (∀ v ∈ vs, ∀ H, tx (some v :: rest) H = some (P v, H)) →
    (∀ v ∈ vs, P v = true → ∀ H, f (some v :: rest) H = some (g v, H)) → H[D]? = some (.list acc) → acc.length + vs.length ≤ 1000 →
    ∃ x', cTurns kd xs0 (tName 0) tx (cEmit f D) vs (x :: rest) H = some (x' :: rest, H.set D (.list (acc ++ (vs.filter P).map g))) := by
  intro vs
  induction vs with
  | nil =>
    intro acc H x hok ht hf hD hl
    refine ⟨x, ?_⟩
    have := hok (.list acc)
    rw [set_same hD] at this
    rw [cTurns, if_pos this]
    simp [set_same hD]
  | cons v vs ih =>
    intro acc H x hok ht hf hD hl
    have hok0 := hok (.list acc)
    rw [set_same hD] at hok0
    rw [cTurns, if_pos hok0]
    have hDl : D < H.length := (List.getElem?_eq_some_iff.mp hD).1
    have e1 : tx (some v :: rest) H = some (P v, H) := ht v (by simp) H
    have hl' : acc.length ≤ 1000 := by simp at hl; omega
    cases hP : P v with
    | true =>
      have e2 := hf v (by simp) hP H
      rw [hP] at e1
      have e3 := emit_of e2 hD hl'
      obtain ⟨x', e4⟩ := ih (acc ++ [g v]) (H.set D (.list (acc ++ [g v]))) (some v) (fun Y => by rw [List.set_set]; exact hok Y) (fun u hu => ht u (by simp [hu])) (fun u hu => hf u (by simp [hu])) (List.getElem?_set_self hDl) (by simp at hl ⊢; omega)
      refine ⟨x', ?_⟩
      show ((tx (some v :: rest) H).bind _) = _
      rw [e1, Option.bind_some, if_pos rfl]
      show (cEmit f D (some v :: rest) H).bind _ = _
      rw [e3, Option.bind_some, e4, List.set_set, List.filter_cons, hP, if_pos rfl]
      simp
    | false =>
      rw [hP] at e1
      obtain ⟨x', e4⟩ := ih acc H (some v) hok (fun u hu => ht u (by simp [hu])) (fun u hu => hf u (by simp [hu])) hD (by simp at hl ⊢; omega)
      refine ⟨x', ?_⟩
      show ((tx (some v :: rest) H).bind _) = _
      rw [e1, Option.bind_some, if_neg (by simp)]
      show cTurns kd xs0 (tName 0) tx (cEmit f D) vs (some v :: rest) H = _
      rw [e4, List.filter_cons, hP, if_neg (by simp)]
theorem ecomp_of {e : Ex} {srcs : List (Option Nat)} {tx : Tx} {f : Ex} {ρ : Lo} {H H₁ : Hp} {v : V} {kd : Option Nat} {xs : List V} {x : Option V} {rest : Lo} {P : V → Bool} {g : V → V} (e1 : e ρ H = some (v, H₁)) (hk : iterKind v H₁ = some (kd, xs)) (hρ : mkρ srcs ρ = x :: rest)
    (hok : ∀ Y, okAt kd xs (H₁ ++ [Y]) = true) (ht : ∀ v ∈ xs, ∀ H, tx (some v :: rest) H = some (P v, H)) (hf : ∀ v ∈ xs, P v = true → ∀ H, f (some v :: rest) H = some (g v, H)) (hl : xs.length ≤ 1000) :
    eComp e srcs (tName 0) tx (cEmit f) ρ H = some (.ref H₁.length, H₁ ++ [.list ((xs.filter P).map g)]) := by
  have hs : ∀ Y, (H₁ ++ [O.list []]).set H₁.length Y = H₁ ++ [Y] := fun Y => by simp
  obtain ⟨x', e2⟩ := comp_turns (xs0 := xs) (kd := kd) (tx := tx) (f := f) (P := P) (g := g) (rest := rest) H₁.length xs [] (H₁ ++ [.list []]) x (fun Y => by rw [hs]; exact hok Y) ht hf (by simp) (by simpa using hl)
  unfold eComp
  rw [e1, Option.bind_some, hk, Option.bind_some]
  dsimp only
  rw [hρ, e2, hs]
  rfl

theorem ones_flat : ∀ r : List Nat, (r.map fun c => [c]).flatten = r
  | [] => rfl
  | c :: r => by rw [List.map_cons, List.flatten_cons, ones_flat r]; rfl
theorem struck_eq : g_law_struck = (gSeq (gAssign 1 (eMeth "str" (eVal (.str (Str.ofString ""))) [(eComp (eVar 0) [none] (tName 0) (tVal (bind2 (eVar 0) (eVal (.str (Str.ofString "()"))) cIn)) (cEmit (eVar 0)))] mJoin))
  (gSeq (gStrike 1) (gSeq (gRet (bind2 (eVar 1) (eVal (.str (Str.ofString ""))) cEq)) gNil))) := rfl
theorem brks_mem : ∀ (r : List Nat), r.all isBr = true → r ∈ brks r.length
  | [], _ => by simp [brks]
  | c :: r, h => by
    simp only [List.all_cons, Bool.and_eq_true] at h
    have ih := brks_mem r h.2
    have hc := h.1
    unfold isBr at hc
    rw [List.length_cons, brks, List.mem_flatMap]
    refine ⟨r, ih, ?_⟩
    simp only [Bool.or_eq_true, Nat.beq_eq] at hc
    rcases hc with rfl | rfl <;> simp
theorem strike_S (r : List Nat) (h : r.all isBr = true) (hl : r.length ≤ 6) : ∃ y, strike 64 (S r) = some y ∧ (y == Str.ofString "") = balGo 0 r := by
  have h1 := List.all_eq_true.mp strike_ok r.length (by simp; omega)
  have h2 := List.all_eq_true.mp h1 r (brks_mem r h)
  have h3 := eq_of_beq h2
  obtain ⟨y, e1, e2⟩ := Option.map_eq_some_iff.mp h3
  exact ⟨y, e1, e2⟩
theorem run_struck (t : List Nat) (hl : (t.filter isBr).length ≤ 6) (ht : t.length ≤ 1000) : ∃ H', Mine.run g_law_struck 1 1 [.str (S t)] [] = some (.bool (balGo 0 (t.filter isBr)), H') := by
  obtain ⟨y, s1, s2⟩ := strike_S (t.filter isBr) (by simp) hl
  have c1 : eComp (eVar 0) [none] (tName 0) (tVal (bind2 (eVar 0) (eVal (.str (Str.ofString "()"))) cIn)) (cEmit (eVar 0)) [some (.str (S t)), none] [] = some (.ref 0, [.list (strsV ((t.filter isBr).map fun c => [c]))]) := by
    have := ecomp_of (e := eVar 0) (srcs := [none]) (tx := tVal (bind2 (eVar 0) (eVal (.str (Str.ofString "()"))) cIn)) (f := eVar 0) (ρ := [some (.str (S t)), none]) (H := []) (H₁ := []) (v := .str (S t)) (kd := none) (xs := chars (S t)) (x := none) (rest := [])
      (P := fun v => match v with | .str x => strIn x (Str.ofString "()") | _ => false) (g := id) rfl rfl rfl (fun _ => rfl) (fun v hv H => ?_) (fun v hv _ H => rfl) (by rw [chars_S]; simpa using ht)
    · rw [this]
      congr 3
      rw [chars_S, List.map_id, List.filter_map]
      unfold strsV
      rw [List.map_map]
      have : ((fun v : V => match v with | .str x => strIn x (Str.ofString "()") | _ => false) ∘ fun c => V.str (S [c])) = isBr := by
        funext c; exact brk_in c
      rw [this]
      rfl
    · rw [chars_S] at hv
      obtain ⟨c, _, rfl⟩ := List.mem_map.mp hv
      exact tval_of (v := .bool (strIn (S [c]) (Str.ofString "()"))) (by rw [bind2_of (a := .str (S [c])) (b := .str (Str.ofString "()")) (H₁ := H) (H₂ := H) rfl rfl]; rfl) rfl
  have hj : ((t.filter isBr).map fun c => [c]).flatten = t.filter isBr := ones_flat _
  have c2 : eMeth "str" (eVal (.str (Str.ofString ""))) [(eComp (eVar 0) [none] (tName 0) (tVal (bind2 (eVar 0) (eVal (.str (Str.ofString "()"))) cIn)) (cEmit (eVar 0)))] mJoin [some (.str (S t)), none] [] = some (.str (S (t.filter isBr)), [.list (strsV ((t.filter isBr).map fun c => [c]))]) := by
    rw [meth1 (T := "str") (h := mJoin) (f := eVal (.str (Str.ofString ""))) (a := .str (Str.ofString "")) (H₁ := []) rfl rfl c1, mjoin_S (ls := (t.filter isBr).map fun c => [c]) rfl (by
      have : (((t.filter isBr).map fun c => [c]).map List.length) = (t.filter isBr).map fun _ => 1 := by rw [List.map_map]; rfl
      rw [this, List.length_map, List.map_const', List.sum_replicate_nat]
      omega), hj]
  refine ⟨_, run_of (ρ' := [some (.str (S t)), some (.str y)]) (H' := [.list (strsV ((t.filter isBr).map fun c => [c]))]) rfl ?_⟩
  rw [struck_eq]
  refine (seq_of (assign_of c2)).trans ?_
  have c3 : gStrike 1 [some (.str (S t)), some (.str (S (t.filter isBr)))] [.list (strsV ((t.filter isBr).map fun c => [c]))] = some (.next, [some (.str (S t)), some (.str y)], [.list (strsV ((t.filter isBr).map fun c => [c]))]) := by
    show (strike 64 (S (t.filter isBr))).map _ = _
    rw [s1]; rfl
  refine (seq_of c3).trans ?_
  refine seq_ret (ret_of ?_)
  rw [bind2_of (a := .str y) (b := .str (Str.ofString "")) (H₁ := [.list (strsV ((t.filter isBr).map fun c => [c]))]) (H₂ := [.list (strsV ((t.filter isBr).map fun c => [c]))]) rfl rfl, ← s2]
  rfl
end Mine
end

/-! part P21 -/
section
set_option maxRecDepth 100000
set_option linter.unusedVariables false
open PySem PyProof.Rows
namespace Mine
theorem intsOf_nats : ∀ ws : List Nat, intsOf (natsV ws) = some (ws.map fun (n : Nat) => (n : Int))
  | [] => rfl
  | w :: ws => by
    show (intsOf (natsV ws)).map _ = _
    rw [intsOf_nats ws]; rfl
theorem fold_nats : ∀ (ws : List Nat) (m : Nat), (ws.map fun (n : Nat) => (n : Int)).foldl (fun m y => if y < m then y else m) (m : Int) = ((ws.foldl Nat.min m : Nat) : Int)
  | [], m => rfl
  | w :: ws, m => by
    rw [List.map_cons, List.foldl_cons, List.foldl_cons, ← fold_nats ws]
    congr 1
    show _ = ((min m w : Nat) : Int)
    split <;> omega
theorem bMin_list {H : Hp} {a w : Nat} {ws : List Nat} (h : H[a]? = some (.list (natsV (w :: ws)))) (hw : w ≤ 1000) : bMin [.ref a] H = some (.int (((w :: ws).foldl Nat.min 1000 : Nat) : Int), H) := by
  have h2 : minL ((w :: ws).map fun (n : Nat) => (n : Int)) = some (((w :: ws).foldl Nat.min 1000 : Nat) : Int) := by
    have h3 : Nat.min 1000 w = w := by show min 1000 w = w; omega
    rw [List.foldl_cons, h3]
    show some _ = _
    rw [fold_nats]
  simp only [bMin, h, intsOf_nats, h2, Option.bind_some, Option.map_some]

theorem eand_t {f g : Ex} {ρ : Lo} {H H₁ : Hp} (e : f ρ H = some (.bool true, H₁)) : eAnd f g ρ H = g ρ H₁ := by unfold eAnd; rw [e]; rfl
theorem nearest_eq (h1 h2 : CF) : g_law_nearest h1 h2 = (gSeq (gAssign 3 (bind2 (eVal (.int 2)) (eCall [(eVar 0)] h1) oMul))
  (gSeq (gAssign 4 (eComp (eVar 1) [none, some 0, some 3, some 2] (tName 0) tTrue (cEmit (eCall [(eVar 0), (eVar 1), (bind2 (eVar 2) (eVar 3) oAdd)] h2))))
  (gSeq (gRet (eAnd (bind2 (eComp (eVar 4) [none] (tName 0) (tVal (eCall [(eVar 0), (eVal (.typ "bool"))] bIsInst)) (cEmit (eVar 0))) (eList []) cEqL) (bind2 (eCall [(eVar 4)] bMin) (eVar 3) cEq))) gNil))) := rfl

theorem run_nearest (h1 h2 : CF) (t : List Nat) (rows : List (List Nat)) (due more : Nat) (hd : due ≤ 400) (hr : rows.length ≤ 900)
    (hf : ∀ H, h1 [.str (S t)] H = some (.int (due : Int), H)) (hl : ∀ r ∈ [] :: rows, ∀ H, h2 [.str (S r), .str (S t), .int ((2 * due + more : Nat) : Int)] H = some (.int ((levC r t (2 * due + more) : Nat) : Int), H))
    (h0 : levC [] t (2 * due + more) ≤ 1000) (hm : (([] :: rows).map fun r => levC r t (2 * due + more)).foldl Nat.min 1000 = 2 * due) :
    ∃ H', Mine.run (g_law_nearest h1 h2) 3 2 [.str (S t), .ref 0, .int (more : Int)] [.list (strsV ([] :: rows))] = some (.bool true, H') ∧ H'[0]? = some (.list (strsV ([] :: rows))) := by
  have e1 : bind2 (eVal (.int 2)) (eCall [(eVar 0)] h1) oMul [some (.str (S t)), some (.ref 0), some (.int (more : Int)), none, none] [.list (strsV ([] :: rows))] = some (.int ((2 * due : Nat) : Int), [.list (strsV ([] :: rows))]) := by
    rw [bind2_of (a := .int ((2 : Nat) : Int)) (H₁ := [.list (strsV ([] :: rows))]) rfl ((ecall1 (a := .str (S t)) rfl).trans (hf _))]
    exact oMul_nat _ (by omega)
  generalize hH0 : [O.list (strsV ([] :: rows))] = H0 at e1 ⊢
  have hH00 : H0[0]? = some (.list (strsV ([] :: rows))) := by rw [← hH0]; rfl
  have hlen : H0.length = 1 := by rw [← hH0]; rfl
  have e2 : eComp (eVar 1) [none, some 0, some 3, some 2] (tName 0) tTrue (cEmit (eCall [(eVar 0), (eVar 1), (bind2 (eVar 2) (eVar 3) oAdd)] h2)) [some (.str (S t)), some (.ref 0), some (.int (more : Int)), some (.int ((2 * due : Nat) : Int)), none] H0 =
      some (.ref 1, H0 ++ [.list (natsV (([] :: rows).map fun r => levC r t (2 * due + more)))]) := by
    have := ecomp_of (e := eVar 1) (srcs := [none, some 0, some 3, some 2]) (tx := tTrue) (f := eCall [(eVar 0), (eVar 1), (bind2 (eVar 2) (eVar 3) oAdd)] h2) (ρ := [some (.str (S t)), some (.ref 0), some (.int (more : Int)), some (.int ((2 * due : Nat) : Int)), none]) (H := H0) (H₁ := H0) (v := .ref 0) (kd := some 0) (xs := strsV ([] :: rows)) (x := none) (rest := [some (.str (S t)), some (.int ((2 * due : Nat) : Int)), some (.int (more : Int))])
      (P := fun _ => true) (g := fun v => match v with | .str x => .int ((levC x.cps.toList t (2 * due + more) : Nat) : Int) | v => v) rfl (by simp only [iterKind, hH00]) rfl (fun Y => by simp only [okAt, app_at hH00]; rfl) (fun v _ H => rfl) (fun v hv _ H => ?_) (by simp [strsV]; omega)
    · rw [this, hlen]
      congr 4
      rw [show (strsV ([] :: rows)).filter (fun _ => true) = strsV ([] :: rows) from List.filter_eq_self.mpr fun _ _ => rfl]
      unfold strsV natsV
      rw [List.map_map, List.map_map]
      refine congrArg O.list (List.map_congr_left fun r _ => ?_)
      show V.int ((levC (S r).cps.toList t (2 * due + more) : Nat) : Int) = _
      rw [S_cps]; rfl
    · obtain ⟨r, hr', rfl⟩ := List.mem_map.mp hv
      rw [ecall3 (a := .str (S r)) (b := .str (S t)) (c := .int ((2 * due + more : Nat) : Int)) (H₁ := H) (H₂ := H) (H₃ := H) rfl rfl (by rw [bind2_of (a := .int ((2 * due : Nat) : Int)) (b := .int (more : Int)) (H₁ := H) (H₂ := H) rfl rfl]; rfl), hl r hr']
      show some (V.int _, H) = some (V.int ((levC (S r).cps.toList t (2 * due + more) : Nat) : Int), H)
      rw [S_cps]
  generalize hws : ([] :: rows).map (fun r => levC r t (2 * due + more)) = ws at e2 hm
  have hws0 : ∃ w ws', ws = w :: ws' ∧ w ≤ 1000 := by rw [← hws]; exact ⟨_, _, rfl, h0⟩
  have hwl : ws.length ≤ 1000 := by rw [← hws]; simp; omega
  obtain ⟨w, ws', hw1, hw2⟩ := hws0
  generalize hH1 : H0 ++ [O.list (natsV ws)] = H1 at e2
  have hH1l : H1.length = 2 := by rw [← hH1]; simp [hlen]
  have hH11 : H1[1]? = some (.list (natsV ws)) := by rw [← hH1, ← hlen]; simp
  have e3 : eComp (eVar 4) [none] (tName 0) (tVal (eCall [(eVar 0), (eVal (.typ "bool"))] bIsInst)) (cEmit (eVar 0)) [some (.str (S t)), some (.ref 0), some (.int (more : Int)), some (.int ((2 * due : Nat) : Int)), some (.ref 1)] H1 = some (.ref 2, H1 ++ [.list []]) := by
    have := ecomp_of (e := eVar 4) (srcs := [none]) (tx := tVal (eCall [(eVar 0), (eVal (.typ "bool"))] bIsInst)) (f := eVar 0) (ρ := [some (.str (S t)), some (.ref 0), some (.int (more : Int)), some (.int ((2 * due : Nat) : Int)), some (.ref 1)]) (H := H1) (H₁ := H1) (v := .ref 1) (kd := some 1) (xs := natsV ws) (x := none) (rest := [])
      (P := fun _ => false) (g := id) rfl (by simp only [iterKind, hH11]) rfl (fun Y => by simp only [okAt, app_at hH11]; rfl) (fun v hv H => ?_) (fun v hv h _ => by cases h) (by rw [natsV_len]; exact hwl)
    · rw [this, hH1l]
      simp
    · obtain ⟨n, _, rfl⟩ := List.mem_map.mp hv
      refine tval_of (v := .bool false) (H' := H) ?_ rfl
      rw [ecall2 (a := .int (n : Int)) (b := .typ "bool") (H₁ := H) (H₂ := H) rfl rfl]; rfl
  have hb2 : ((H1 ++ [O.list []]) ++ [O.list []])[2]? = some (.list []) := app_at (by rw [← hH1l]; simp)
  have hb3 : ((H1 ++ [O.list []]) ++ [O.list []])[3]? = some (.list []) := by
    have : (H1 ++ [O.list []]).length = 3 := by simp [hH1l]
    rw [← this]; simp
  have e4 : bind2 (eComp (eVar 4) [none] (tName 0) (tVal (eCall [(eVar 0), (eVal (.typ "bool"))] bIsInst)) (cEmit (eVar 0))) (eList []) cEqL [some (.str (S t)), some (.ref 0), some (.int (more : Int)), some (.int ((2 * due : Nat) : Int)), some (.ref 1)] H1 = some (.bool true, (H1 ++ [.list []]) ++ [.list []]) := by
    rw [bind2_of e3 (b := .ref 3) (H₂ := (H1 ++ [.list []]) ++ [.list []]) (by
      have : (H1 ++ [O.list []]).length = 3 := by simp [hH1l]
      show some (V.ref (H1 ++ [O.list []]).length, _) = _
      rw [this])]
    simp only [cEqL, hb2, hb3]
  have hb1 : ((H1 ++ [O.list []]) ++ [O.list []])[1]? = some (.list (natsV ws)) := app_at (app_at hH11)
  have hb0 : ((H1 ++ [O.list []]) ++ [O.list []])[0]? = some (.list (strsV ([] :: rows))) := app_at (app_at (by rw [← hH1]; exact app_at hH00))
  generalize (H1 ++ [O.list []]) ++ [O.list []] = H2 at e4 hb0 hb1
  refine ⟨H2, run_of (ρ' := [some (.str (S t)), some (.ref 0), some (.int (more : Int)), some (.int ((2 * due : Nat) : Int)), some (.ref 1)]) rfl ?_, hb0⟩
  rw [nearest_eq]
  refine (seq_of (assign_of e1)).trans ?_
  refine (seq_of (assign_of e2)).trans ?_
  refine seq_ret (ret_of ?_)
  refine (eand_t e4).trans ?_
  show bind2 (eCall [(eVar 4)] bMin) (eVar 3) cEq _ H2 = _
  subst hw1
  rw [bind2_of ((ecall1 (a := .ref 1) (H₁ := H2) rfl).trans (bMin_list hb1 hw2)) (b := .int ((2 * due : Nat) : Int)) (H₂ := H2) rfl, hm]
  show some (V.bool (((2 * due : Nat) : Int) == ((2 * due : Nat) : Int)), H2) = _
  rw [beq_self_eq_true]
end Mine
end

/-! part P22 -/
section
set_option maxRecDepth 100000
set_option linter.unusedVariables false
open PySem PyProof.Rows
namespace Mine
noncomputable def mtL : List Str := [Str.ofString "ss", Str.ofString "rs", Str.ofString "no", Str.ofString "pa", Str.ofString "ff", Str.ofString "fi", Str.ofString "fl", Str.ofString "st"]
noncomputable def kd5 (d : Bool) (n : Int) : Int := if (d && n.fmod 5 == 4) = true then 3 else n.fmod 5
noncomputable def meantOf (k w : Int) : Str := if k = 4 then mtL.getD (w.fmod 8).toNat (Str.ofString "") else if k = 2 then Str.ofString "" else signOf k w
noncomputable def piecesOf : Bool → List Int → List (Str × Str)
  | _, [] => []
  | d, n :: r => (signOf (kd5 d n) (n.fdiv 5), meantOf (kd5 d n) (n.fdiv 5)) :: piecesOf (d || kd5 d n == 4) r
noncomputable def pcB (h : CF) : Sx := (gSeq (gAssign 4 (eIf (tAnd (tVal (eVar 2)) (tAnd (tVal (bind2 (bind2 (eVar 3) (eVal (.int 5)) oMod) (eVal (.int 4)) cEq)) tTrue)) (eVal (.int 3)) (bind2 (eVar 3) (eVal (.int 5)) oMod)))
  (gSeq (gAssign 2 (eOr (eVar 2) (bind2 (eVar 4) (eVal (.int 4)) cEq)))
  (gSeq (gAssign 5 (eCall [(eVar 4), (bind2 (eVar 3) (eVal (.int 5)) oDiv)] h))
  (gSeq (gIf (tVal (bind2 (eVar 4) (eVal (.int 4)) cEq)) (gSeq (gAssign 6 (bind2 (eList (sVs ["ss", "rs", "no", "pa", "ff", "fi", "fl", "st"])) (bind2 (bind2 (eVar 3) (eVal (.int 5)) oDiv) (eVal (.int 8)) oMod) Mine.sub))
  gNil) (gSeq (gAssign 6 (eIf (tVal (bind2 (eVar 4) (eVal (.int 2)) cEq)) (eVal (.str "")) (eVar 5)))
  gNil))
  (gSeq (gExpr (eMeth "list" (eVar 1) [(eList [(eVar 5), (eVar 6)])] mAppend))
  gNil)))))
theorem pieces_eq (h : CF) : g_law_pieces h = (gSeq (gAssign 1 (eList [])) (gSeq (gAssign 2 (eVal (.bool false))) (gSeq (gFor (eVar 0) (tName 3) (pcB h)) (gSeq (gRet (eVar 1)) gNil)))) := rfl
theorem kd5_range (d : Bool) (n : Int) : 0 ≤ kd5 d n ∧ kd5 d n ≤ 4 := by
  have h1 := Int.fmod_nonneg_of_pos n (b := 5) (by omega)
  have h2 := Int.fmod_lt_of_pos n (b := 5) (by omega)
  unfold kd5
  split <;> omega
theorem list2 {f g : Ex} {ρ : Lo} {H : Hp} {a b : V} (e1 : f ρ H = some (a, H)) (e2 : g ρ H = some (b, H)) : eList [f, g] ρ H = some (.ref H.length, H ++ [.list [a, b]]) := by
  unfold eList
  simp only [eRow, e1, e2, Option.bind_some, Option.map_some]
theorem pc_kind (o0 o1 o4 o5 o6 : Option V) (d : Bool) (n : Int) (H : Hp) :
    eIf (tAnd (tVal (eVar 2)) (tAnd (tVal (bind2 (bind2 (eVar 3) (eVal (.int 5)) oMod) (eVal (.int 4)) cEq)) tTrue)) (eVal (.int 3)) (bind2 (eVar 3) (eVal (.int 5)) oMod) [o0, o1, some (.bool d), some (.int n), o4, o5, o6] H = some (.int (kd5 d n), H) := by
  have m : bind2 (eVar 3) (eVal (.int 5)) oMod [o0, o1, some (.bool d), some (.int n), o4, o5, o6] H = some (.int (n.fmod 5), H) := by
    rw [bind2_of (a := .int n) (b := .int 5) (H₁ := H) (H₂ := H) rfl rfl]; rfl
  have t0 : tVal (eVar 2) [o0, o1, some (.bool d), some (.int n), o4, o5, o6] H = some (d, H) := tval_of (v := .bool d) rfl rfl
  have t1 : tVal (bind2 (bind2 (eVar 3) (eVal (.int 5)) oMod) (eVal (.int 4)) cEq) [o0, o1, some (.bool d), some (.int n), o4, o5, o6] H = some (n.fmod 5 == 4, H) :=
    tval_of (v := .bool (n.fmod 5 == 4)) (by rw [bind2_of m (b := .int 4) (H₂ := H) rfl]; rfl) rfl
  unfold kd5
  cases d with
  | false => rw [eif_f (tand_f t0), m]; rfl
  | true =>
    cases hb : n.fmod 5 == 4 with
    | true => rw [hb] at t1; rw [eif_t ((tand_t t0).trans (tand_t t1))]; rfl
    | false => rw [hb] at t1; rw [eif_f ((tand_t t0).trans (tand_f t1)), m]; rfl
theorem eor_t {f g : Ex} {ρ : Lo} {H H₁ : Hp} (e : f ρ H = some (.bool true, H₁)) : eOr f g ρ H = some (.bool true, H₁) := by unfold eOr; rw [e]; rfl
theorem eor_f {f g : Ex} {ρ : Lo} {H H₁ : Hp} (e : f ρ H = some (.bool false, H₁)) : eOr f g ρ H = g ρ H₁ := by unfold eOr; rw [e]; rfl
theorem pc_step (h : CF) (d : Bool) (n : Int) (o4 o5 o6 : Option V) (refs : List V) (H : Hp) (h1 : H[1]? = some (.list refs)) (hl : refs.length ≤ 1000) (hs : ∀ k w H, 0 ≤ k → k ≤ 4 → h [.int k, .int w] H = some (.str (signOf k w), H)) :
    ∃ ext : Hp, pcB h [some (.ref 0), some (.ref 1), some (.bool d), some (.int n), o4, o5, o6] H = some (.next, [some (.ref 0), some (.ref 1), some (.bool (d || kd5 d n == 4)), some (.int n), some (.int (kd5 d n)), some (.str (signOf (kd5 d n) (n.fdiv 5))), some (.str (meantOf (kd5 d n) (n.fdiv 5)))],
      ((H ++ ext) ++ [O.list [.str (signOf (kd5 d n) (n.fdiv 5)), .str (meantOf (kd5 d n) (n.fdiv 5))]]).set 1 (O.list (refs ++ [V.ref (H ++ ext).length]))) := by
  have k0 := pc_kind (some (.ref 0)) (some (.ref 1)) o4 o5 o6 d n H
  obtain ⟨kr1, kr2⟩ := kd5_range d n
  have hsg : ∀ H, h [.int (kd5 d n), .int (n.fdiv 5)] H = some (.str (signOf (kd5 d n) (n.fdiv 5)), H) := fun H => hs _ _ H kr1 kr2
  generalize kd5 d n = k at *
  generalize hsig : signOf k (n.fdiv 5) = sig at *
  have k1 : eOr (eVar 2) (bind2 (eVar 4) (eVal (.int 4)) cEq) [some (.ref 0), some (.ref 1), some (.bool d), some (.int n), some (.int k), o5, o6] H = some (.bool (d || k == 4), H) := by
    cases d with
    | true => exact eor_t rfl
    | false =>
      refine (eor_f rfl).trans ?_
      rw [bind2_of (a := .int k) (b := .int 4) (H₁ := H) (H₂ := H) rfl rfl]; rfl
  generalize (d || k == 4) = d' at *
  have q : ∀ (a b c : Option V) H, bind2 (eVar 3) (eVal (.int 5)) oDiv [some (.ref 0), some (.ref 1), a, some (.int n), some (.int k), b, c] H = some (.int (n.fdiv 5), H) := fun a b c H => by
    rw [bind2_of (a := .int n) (b := .int 5) (H₁ := H) (H₂ := H) rfl rfl]; rfl
  have k2 : eCall [(eVar 4), (bind2 (eVar 3) (eVal (.int 5)) oDiv)] h [some (.ref 0), some (.ref 1), some (.bool d'), some (.int n), some (.int k), o5, o6] H = some (.str sig, H) := by
    rw [ecall2 (a := .int k) (H₁ := H) rfl (q _ _ _ H)]; exact hsg H
  have t4 : tVal (bind2 (eVar 4) (eVal (.int 4)) cEq) [some (.ref 0), some (.ref 1), some (.bool d'), some (.int n), some (.int k), some (.str sig), o6] H = some (k == 4, H) :=
    tval_of (v := .bool (k == 4)) (by rw [bind2_of (a := .int k) (b := .int 4) (H₁ := H) (H₂ := H) rfl rfl]; rfl) rfl
  have fin : ∀ (ext : Hp) (mt : Str), gSeq (gExpr (eMeth "list" (eVar 1) [(eList [(eVar 5), (eVar 6)])] mAppend)) gNil [some (.ref 0), some (.ref 1), some (.bool d'), some (.int n), some (.int k), some (.str sig), some (.str mt)] (H ++ ext) =
      some (.next, [some (.ref 0), some (.ref 1), some (.bool d'), some (.int n), some (.int k), some (.str sig), some (.str mt)], ((H ++ ext) ++ [O.list [.str sig, .str mt]]).set 1 (O.list (refs ++ [V.ref (H ++ ext).length]))) := fun ext mt => by
    have l1 : eList [(eVar 5), (eVar 6)] [some (.ref 0), some (.ref 1), some (.bool d'), some (.int n), some (.int k), some (.str sig), some (.str mt)] (H ++ ext) = some (.ref (H ++ ext).length, (H ++ ext) ++ [.list [.str sig, .str mt]]) := list2 rfl rfl
    have l2 := meth1 (T := "list") (h := mAppend) (f := eVar 1) (a := .ref 1) (H := H ++ ext) (H₁ := H ++ ext) rfl (by simp only [isTy, app_at h1]; rfl) l1
    have l3 := l2.trans (append_at (app_at (app_at h1)) hl)
    refine (seq_of (expr_of l3)).trans rfl
  have pre : ∀ z, gSeq (gIf (tVal (bind2 (eVar 4) (eVal (.int 4)) cEq)) (gSeq (gAssign 6 (bind2 (eList (sVs ["ss", "rs", "no", "pa", "ff", "fi", "fl", "st"])) (bind2 (bind2 (eVar 3) (eVal (.int 5)) oDiv) (eVal (.int 8)) oMod) Mine.sub)) gNil)
      (gSeq (gAssign 6 (eIf (tVal (bind2 (eVar 4) (eVal (.int 2)) cEq)) (eVal (.str "")) (eVar 5))) gNil)) (gSeq (gExpr (eMeth "list" (eVar 1) [(eList [(eVar 5), (eVar 6)])] mAppend)) gNil)
      [some (.ref 0), some (.ref 1), some (.bool d'), some (.int n), some (.int k), some (.str sig), o6] H = z → pcB h [some (.ref 0), some (.ref 1), some (.bool d), some (.int n), o4, o5, o6] H = z := fun z hz => by
    unfold pcB
    refine (seq_of (assign_of k0)).trans ?_
    refine (seq_of (assign_of k1)).trans ?_
    refine (seq_of (assign_of k2)).trans ?_
    exact hz
  unfold meantOf
  cases hb : k == 4 with
  | true =>
    have hk4 : k = 4 := by simpa using hb
    rw [hb] at t4
    rw [if_pos hk4]
    refine ⟨[.list (mtL.map .str)], ?_⟩
    have hj0 := Int.fmod_nonneg_of_pos (n.fdiv 5) (b := 8) (by omega)
    have hj1 := Int.fmod_lt_of_pos (n.fdiv 5) (b := 8) (by omega)
    obtain ⟨j, hj⟩ : ∃ j : Nat, (n.fdiv 5).fmod 8 = (j : Int) := ⟨((n.fdiv 5).fmod 8).toNat, by omega⟩
    have hj8 : j < 8 := by omega
    have hj' : ((n.fdiv 5).fmod 8).toNat = j := by omega
    rw [hj']
    have g1 : eList (sVs ["ss", "rs", "no", "pa", "ff", "fi", "fl", "st"]) [some (.ref 0), some (.ref 1), some (.bool d'), some (.int n), some (.int k), some (.str sig), o6] H = some (.ref H.length, H ++ [.list (mtL.map .str)]) := eList_strs _ _ _
    have g2 : bind2 (bind2 (eVar 3) (eVal (.int 5)) oDiv) (eVal (.int 8)) oMod [some (.ref 0), some (.ref 1), some (.bool d'), some (.int n), some (.int k), some (.str sig), o6] (H ++ [.list (mtL.map .str)]) = some (.int (j : Int), H ++ [.list (mtL.map .str)]) := by
      rw [bind2_of (q _ _ _ _) (b := .int 8) (H₂ := H ++ [.list (mtL.map .str)]) rfl, ← hj]; rfl
    have g3 : (mtL.map V.str)[j]? = some (.str (mtL.getD j (Str.ofString ""))) := by
      match j, hj8 with
      | 0, _ => rfl
      | 1, _ => rfl
      | 2, _ => rfl
      | 3, _ => rfl
      | 4, _ => rfl
      | 5, _ => rfl
      | 6, _ => rfl
      | 7, _ => rfl
    have g4 := (bind2_of (h := Mine.sub) g1 g2).trans (sub_list (by simp) g3 (by simp [mtL]))
    refine pre _ ?_
    refine (seq_of ((if_t t4).trans ((seq_of (assign_of g4)).trans rfl))).trans ?_
    exact fin _ _
  | false =>
    have hk4 : ¬ k = 4 := by simpa using hb
    rw [hb] at t4
    rw [if_neg hk4]
    refine ⟨[], ?_⟩
    have t2 : tVal (bind2 (eVar 4) (eVal (.int 2)) cEq) [some (.ref 0), some (.ref 1), some (.bool d'), some (.int n), some (.int k), some (.str sig), o6] H = some (k == 2, H) :=
      tval_of (v := .bool (k == 2)) (by rw [bind2_of (a := .int k) (b := .int 2) (H₁ := H) (H₂ := H) rfl rfl]; rfl) rfl
    have g4 : eIf (tVal (bind2 (eVar 4) (eVal (.int 2)) cEq)) (eVal (.str "")) (eVar 5) [some (.ref 0), some (.ref 1), some (.bool d'), some (.int n), some (.int k), some (.str sig), o6] H = some (.str (if k = 2 then Str.ofString "" else sig), H) := by
      cases hc : k == 2 with
      | true =>
        have : k = 2 := by simpa using hc
        rw [hc] at t2
        rw [eif_t t2, if_pos this]; rfl
      | false =>
        have : ¬ k = 2 := by simpa using hc
        rw [hc] at t2
        rw [eif_f t2, if_neg this]; rfl
    refine pre _ ?_
    rw [hsig]
    refine (seq_of ((if_f t4).trans ((seq_of (assign_of g4)).trans rfl))).trans ?_
    have := fin [] (if k = 2 then Str.ofString "" else sig)
    rw [List.append_nil] at this ⊢
    exact this
end Mine
end

/-! part P23 -/
section
set_option maxRecDepth 100000
set_option linter.unusedVariables false
open PySem PyProof.Rows
namespace Mine
theorem turns_nextL {xs vs : List V} {l n : Nat} {b : Sx} {v : V} {ρ ρ₂ : Lo} {H H₂ : Hp} (hl : H[l]? = some (.list xs)) (e : b (put n v ρ) H = some (.next, ρ₂, H₂)) : gTurns (some l) xs (tName n) b (v :: vs) ρ H = gTurns (some l) xs (tName n) b vs ρ₂ H₂ := by
  have hok : okAt (some l) xs H = true := by simp only [okAt, hl, decide_true]
  rw [gTurns, if_pos hok]; simp only [tName, Option.bind_some, e]
theorem turns_endL {xs : List V} {l n : Nat} {b : Sx} {ρ : Lo} {H : Hp} (hl : H[l]? = some (.list xs)) : gTurns (some l) xs (tName n) b [] ρ H = some (.next, ρ, H) := by
  have hok : okAt (some l) xs H = true := by simp only [okAt, hl, decide_true]
  rw [gTurns, if_pos hok]
noncomputable def PcP (H : Hp) (j : Nat) (ab : Str × Str) : Prop := 2 ≤ j ∧ H[j]? = some (.list [.str ab.1, .str ab.2])
theorem PcP.mem {H : Hp} : ∀ {js : List Nat} {rows : List (Str × Str)}, Paired (PcP H) js rows → ∀ j ∈ js, 2 ≤ j ∧ j < H.length
  | _, _, .nil, j, h => by cases h
  | _, _, .cons x t, j, h => by
    rcases List.mem_cons.mp h with rfl | h
    · exact ⟨x.1, (List.getElem?_eq_some_iff.mp x.2).1⟩
    · exact PcP.mem t j h
theorem pc_turns (h : CF) (nums : List V) (hs : ∀ k w H, 0 ≤ k → k ≤ 4 → h [.int k, .int w] H = some (.str (signOf k w), H)) : ∀ (ns : List Int) (d : Bool) (js : List Nat) (rows : List (Str × Str)) (o3 o4 o5 o6 : Option V) (H : Hp), H[0]? = some (.list nums) → H[1]? = some (.list (js.map .ref)) →
    Paired (PcP H) js rows → js.Nodup → js.length + ns.length ≤ 1000 →
    ∃ js' o2' o3' o4' o5' o6' H', gTurns (some 0) nums (tName 3) (pcB h) (ns.map .int) [some (.ref 0), some (.ref 1), some (.bool d), o3, o4, o5, o6] H = some (.next, [some (.ref 0), some (.ref 1), o2', o3', o4', o5', o6'], H') ∧ H'[0]? = some (.list nums) ∧ H'[1]? = some (.list (js'.map .ref)) ∧
      Paired (PcP H') js' (rows ++ piecesOf d ns) ∧ js'.Nodup := by
  intro ns
  induction ns with
  | nil =>
    intro d js rows o3 o4 o5 o6 H h0 h1 hp hn hl
    exact ⟨js, _, _, _, _, _, H, turns_endL h0, h0, h1, by rw [piecesOf, List.append_nil]; exact hp, hn⟩
  | cons n ns ih =>
    intro d js rows o3 o4 o5 o6 H h0 h1 hp hn hl
    obtain ⟨ext, st⟩ := pc_step h d n o4 o5 o6 (js.map .ref) H h1 (by simp at hl ⊢; omega) hs
    generalize hJ : (H ++ ext).length = J at st
    have hJH : H.length ≤ J := by rw [← hJ]; simp
    have hlen2 : 1 < H.length := (List.getElem?_eq_some_iff.mp h1).1
    generalize hrow : [V.str (signOf (kd5 d n) (n.fdiv 5)), .str (meantOf (kd5 d n) (n.fdiv 5))] = row at st
    generalize hH' : ((H ++ ext) ++ [O.list row]).set 1 (O.list (js.map V.ref ++ [V.ref J])) = H' at st
    have keep : ∀ j o, j ≠ 1 → H[j]? = some o → H'[j]? = some o := fun j o hj e => by
      rw [← hH', List.getElem?_set_ne (Ne.symm hj)]; exact app_at (app_at e)
    have g1 : H'[1]? = some (.list ((js ++ [J]).map .ref)) := by
      rw [← hH', List.getElem?_set_self (by simp; omega), List.map_append]; rfl
    have gJ : H'[J]? = some (.list row) := by
      rw [← hH', List.getElem?_set_ne (by omega), ← hJ]; simp
    have hp' : Paired (PcP H') (js ++ [J]) (rows ++ [(signOf (kd5 d n) (n.fdiv 5), meantOf (kd5 d n) (n.fdiv 5))]) :=
      Paired.app (Paired.mono' (fun j ab hh => ⟨hh.1, keep j _ (by have := hh.1; omega) hh.2⟩) hp) (.cons ⟨by omega, by rw [gJ, ← hrow]⟩ .nil)
    have hn' : (js ++ [J]).Nodup := List.nodup_append.mpr ⟨hn, by simp, fun a ha b hb => by
      rw [List.mem_singleton.mp hb]
      have := (PcP.mem hp a ha).2
      omega⟩
    obtain ⟨js', a2, a3, a4, a5, a6, H'', e1, e2, e3, e4, e5⟩ := ih (d || kd5 d n == 4) (js ++ [J]) _ (some (.int n)) (some (.int (kd5 d n))) (some (.str (signOf (kd5 d n) (n.fdiv 5)))) (some (.str (meantOf (kd5 d n) (n.fdiv 5)))) H' (keep 0 _ (by omega) h0) g1 hp' hn' (by simp at hl ⊢; omega)
    refine ⟨js', a2, a3, a4, a5, a6, H'', ?_, e2, e3, ?_, e5⟩
    · rw [List.map_cons, turns_nextL (ρ := [some (.ref 0), some (.ref 1), some (.bool d), o3, o4, o5, o6]) h0 st]
      exact e1
    · rw [piecesOf]
      rw [List.append_assoc] at e4
      exact e4
noncomputable def pieceRows (d : Bool) (ns : List Int) : List (List V) := (piecesOf d ns).map fun ab => [V.str ab.1, .str ab.2]
theorem paired_rows {H : Hp} : ∀ {js : List Nat} {rows : List (Str × Str)}, Paired (PcP H) js rows → Paired (IsL1 H 1) js (rows.map fun ab => [V.str ab.1, .str ab.2])
  | _, _, .nil => .nil
  | _, _, .cons x t => .cons ⟨by have := x.1; omega, x.2, rfl⟩ (paired_rows t)
theorem run_pieces (h : CF) (ns : List Int) (hl : ns.length ≤ 900) (hs : ∀ k w H, 0 ≤ k → k ≤ 4 → h [.int k, .int w] H = some (.str (signOf k w), H)) :
    ∃ H', Mine.run (g_law_pieces h) 1 6 [.ref 0] [.list (ns.map .int)] = some (.ref 1, H') ∧ H'[0]? = some (.list (ns.map .int)) ∧ Reads H' 1 (.ref 1) (.lists (pieceRows false ns)) := by
  obtain ⟨js', a2, a3, a4, a5, a6, H', e1, e2, e3, e4, e5⟩ := pc_turns h (ns.map .int) hs ns false [] [] none none none none [.list (ns.map .int), .list []] rfl rfl .nil List.nodup_nil (by simp; omega)
  refine ⟨H', run_of (ρ' := [some (.ref 0), some (.ref 1), a2, a3, a4, a5, a6]) rfl ?_, e2, 1, js', rfl, Nat.le_refl _, e3, ?_, List.nodup_cons.mpr ⟨fun h => ?_, e5⟩⟩
  · rw [pieces_eq]
    refine (seq_of (assign_of (v := .ref 1) (H₁ := [.list (ns.map .int), .list []]) rfl)).trans ?_
    refine (seq_of (assign_of (v := .bool false) (H₁ := [.list (ns.map .int), .list []]) rfl)).trans ?_
    have e6 : gFor (eVar 0) (tName 3) (pcB h) [some (.ref 0), some (.ref 1), some (.bool false), none, none, none, none] [.list (ns.map .int), .list []] = some (.next, [some (.ref 0), some (.ref 1), a2, a3, a4, a5, a6], H') := by
      unfold gFor
      rw [show eVar 0 [some (V.ref 0), some (.ref 1), some (.bool false), none, none, none, none] [O.list (ns.map .int), .list []] = some (.ref 0, [O.list (ns.map .int), .list []]) from rfl, Option.bind_some]
      exact e1
    refine (seq_of e6).trans ?_
    exact seq_ret (ret_of rfl)
  · rw [List.nil_append] at e4
    exact paired_rows e4
  · have := (PcP.mem e4 1 h).1
    omega
end Mine
end

/-! part P24 -/
section
set_option maxRecDepth 100000
set_option linter.unusedVariables false
open PySem PyProof.Rows
namespace Mine
noncomputable def tbN (i : Int) : Option Str := (tabCs.find? fun p => p.1 == i).map (·.2)
noncomputable def b1N : List Nat := [173, 847, 6150, 6155, 6156, 6157, 8203, 8204, 8205, 8288, 65279] ++ (List.range 16).map fun i => 65024 + i
noncomputable def otN : List Nat := [42, 120, 172, 174, 8202, 8206, 20013, 65023, 65280]
noncomputable def dbN : List (Nat × List Nat) := [(223, [115, 115]), (8360, [114, 115]), (8470, [110, 111]), (13184, [112, 97]), (64256, [102, 102]), (64257, [102, 105]), (64258, [102, 108]), (64262, [115, 116])]
noncomputable def pieceTab : List (Nat × List Nat) := [(40, [40]), (41, [41])] ++ b1N.map (fun c => (c, [])) ++ otN.map (fun c => (c, [c])) ++ dbN
noncomputable def metL : List Nat := pieceTab.flatMap fun p => p.1 :: p.2
noncomputable def metOk (c : Nat) : Bool := okLow (S [c]) && [40, 41].all (fun x => cost (S [c]) (S [x]) == (cst c x : Int) && cost (S [x]) (S [c]) == (cst x c : Int)) && c != 92 && c != 34
theorem met_ok : metL.all metOk = true := by decide +kernel
noncomputable def digitsOk (c : Nat) : Bool := match octs (c : Int) with
  | [.int d] => Builtin.bitAnd d 64 == 0 && Builtin.bitAnd d 63 == c
  | [.int d, .int e] => Builtin.bitAnd d 64 == 64 && Builtin.bitAnd e 64 == 0 && decide (Builtin.Int.intBits (Builtin.bitAnd d 63) ≤ 1000) && Builtin.bitOr (Builtin.bitAnd d 63 * 64) (Builtin.bitAnd e 63) == c
  | [.int d, .int e, .int f] => Builtin.bitAnd d 64 == 64 && Builtin.bitAnd e 64 == 64 && Builtin.bitAnd f 64 == 0 && decide (Builtin.Int.intBits (Builtin.bitAnd d 63) ≤ 1000) &&
      decide (Builtin.Int.intBits (Builtin.bitOr (Builtin.bitAnd d 63 * 64) (Builtin.bitAnd e 63)) ≤ 1000) && Builtin.bitOr (Builtin.bitOr (Builtin.bitAnd d 63 * 64) (Builtin.bitAnd e 63) * 64) (Builtin.bitAnd f 63) == c
  | _ => false
noncomputable def pieceOk (p : Nat × List Nat) : Bool := digitsOk p.1 && decide (p.1 < 262144) && (setS setNs (p.1 : Int) == p.2.isEmpty) && (p.2.isEmpty || low3 tbN (S [p.1]) == S p.2) && ([p.1].filter isBr == p.2.filter isBr) && decide (p.2.length ≤ 2)
theorem piece_ok : pieceTab.all pieceOk = true := by decide +kernel
end Mine
end

/-! part P25 -/
section
set_option maxRecDepth 100000
set_option linter.unusedVariables false
open PySem PyProof.Rows
namespace Mine
theorem in_b1 : ∀ j : Fin 27, ((b1L.getD j.val 0).toNat, []) ∈ pieceTab := by decide +kernel
theorem in_ot : ∀ j : Fin 9, ((otL.getD j.val 0).toNat, [(otL.getD j.val 0).toNat]) ∈ pieceTab := by decide +kernel
theorem in_db : ∀ j : Fin 8, ((dbL.getD j.val 0).toNat, (mtL.getD j.val (Str.ofString "")).cps.toList) ∈ pieceTab := by decide +kernel
theorem S_of (x : Str) : S x.cps.toList = x := by cases x; simp [S]
theorem chrS_S (i : Int) : chrS i = S [i.toNat] := rfl
theorem empty_S : Str.ofString "" = S [] := by decide +kernel
theorem piece_in (k w : Int) (h0 : 0 ≤ k) (h4 : k ≤ 4) : ∃ p ∈ pieceTab, signOf k w = S [p.1] ∧ meantOf k w = S p.2 ∧ (k ≠ 4 → p.2.length ≤ 1) := by
  have hk : k = 0 ∨ k = 1 ∨ k = 2 ∨ k = 3 ∨ k = 4 := by omega
  rcases hk with rfl | rfl | rfl | rfl | rfl
  · exact ⟨(40, [40]), by decide, chr40, chr40, fun _ => Nat.le_refl _⟩
  · exact ⟨(41, [41]), by decide, chr41, chr41, fun _ => Nat.le_refl _⟩
  · obtain ⟨j, hj⟩ := fmod_lt w 27 (by decide)
    have hj' : (w.fmod 27).toNat = j.val := by have : w.fmod 27 = (j.val : Int) := hj; omega
    refine ⟨_, in_b1 j, ?_, ?_, fun _ => Nat.zero_le _⟩
    · show chrS (b1L.getD (w.fmod 27).toNat 0) = _
      rw [hj', chrS_S]
    · exact empty_S
  · obtain ⟨j, hj⟩ := fmod_lt w 9 (by decide)
    have hj' : (w.fmod 9).toNat = j.val := by have : w.fmod 9 = (j.val : Int) := hj; omega
    refine ⟨_, in_ot j, ?_, ?_, fun _ => Nat.le_refl _⟩
    · show chrS (otL.getD (w.fmod 9).toNat 0) = _
      rw [hj', chrS_S]
    · show chrS (otL.getD (w.fmod 9).toNat 0) = _
      rw [hj', chrS_S]
  · obtain ⟨j, hj⟩ := fmod_lt w 8 (by decide)
    have hj' : (w.fmod 8).toNat = j.val := by have : w.fmod 8 = (j.val : Int) := hj; omega
    refine ⟨_, in_db j, ?_, ?_, fun h => absurd rfl h⟩
    · show chrS (dbL.getD (w.fmod 8).toNat 0) = _
      rw [hj', chrS_S]
    · show mtL.getD (w.fmod 8).toNat (Str.ofString "") = _
      rw [hj', S_of]
noncomputable def pcStr (p : Nat × List Nat) : Str × Str := (S [p.1], S p.2)
theorem tab_len2 {p : Nat × List Nat} (h : p ∈ pieceTab) : p.2.length ≤ 2 := by
  have := List.all_eq_true.mp piece_ok p h
  simp only [pieceOk, Bool.and_eq_true, decide_eq_true_eq] at this
  exact this.2
theorem pieces_codes : ∀ (ns : List Int) (d : Bool), ∃ pcs : List (Nat × List Nat), piecesOf d ns = pcs.map pcStr ∧ pcs.length = ns.length ∧ (∀ p ∈ pcs, p ∈ pieceTab) ∧ (pcs.map (·.2)).flatten.length ≤ ns.length + (if d then 0 else 1)
  | [], d => ⟨[], rfl, rfl, (fun _ h => nomatch h), Nat.zero_le _⟩
  | n :: ns, d => by
    obtain ⟨k0, k4⟩ := kd5_range d n
    obtain ⟨p, hp, e1, e2, e3⟩ := piece_in (kd5 d n) (n.fdiv 5) k0 k4
    obtain ⟨pcs, f1, f2, f3, f4⟩ := pieces_codes ns (d || kd5 d n == 4)
    refine ⟨p :: pcs, ?_, by simp [f2], fun q hq => ?_, ?_⟩
    · rw [piecesOf, f1, e1, e2]; rfl
    · rcases List.mem_cons.mp hq with rfl | hq
      · exact hp
      · exact f3 q hq
    · rw [List.map_cons, List.flatten_cons, List.length_append, List.length_cons]
      have h2 := tab_len2 hp
      by_cases hk : kd5 d n = 4
      · have hd : d = false := by
          cases d with
          | false => rfl
          | true =>
            exfalso
            unfold kd5 at hk
            cases hb : n.fmod 5 == 4 with
            | true => rw [hb] at hk; simp at hk
            | false => rw [hb] at hk; simp at hb hk; exact hb hk
        subst hd
        rw [hk] at f4
        simp at f4 ⊢
        omega
      · have h1 := e3 hk
        have hb : (kd5 d n == 4) = false := by simpa using hk
        rw [hb, Bool.or_false] at f4
        omega

/-! ## a varint of the table -/
theorem parse_ok {c : Nat} (hc : digitsOk c = true) {H : Hp} {a l : Nat} {pre post : List V} (ha : H[a]? = some (.iter l pre.length)) (hl : H[l]? = some (.list (pre ++ octs (c : Int) ++ post))) :
    Mine.run g_parse_varint 1 2 [.ref a] H = some (.int (c : Int), H.set a (.iter l (pre ++ octs (c : Int)).length)) := by
  unfold digitsOk at hc
  split at hc
  · rename_i d hd
    simp only [Bool.and_eq_true, beq_iff_eq] at hc
    rw [hd] at hl ⊢
    have h0 : (pre ++ [V.int d] ++ post)[pre.length]? = some (.int d) := by simp
    rw [var1 ha hl h0 hc.1, hc.2]
    simp
  · rename_i d e hd
    simp only [Bool.and_eq_true, beq_iff_eq, decide_eq_true_eq] at hc
    rw [hd] at hl ⊢
    have h0 : (pre ++ [V.int d, .int e] ++ post)[pre.length]? = some (.int d) := by simp
    have h1 : (pre ++ [V.int d, .int e] ++ post)[pre.length + 1]? = some (.int e) := by simp
    rw [var2 ha hl h0 h1 hc.1.1.1 hc.1.1.2 hc.1.2, hc.2]
    simp
  · rename_i d e f hd
    simp only [Bool.and_eq_true, beq_iff_eq, decide_eq_true_eq] at hc
    rw [hd] at hl ⊢
    have h0 : (pre ++ [V.int d, .int e, .int f] ++ post)[pre.length]? = some (.int d) := by simp
    have h1 : (pre ++ [V.int d, .int e, .int f] ++ post)[pre.length + 1]? = some (.int e) := by simp
    have h2 : (pre ++ [V.int d, .int e, .int f] ++ post)[pre.length + 2]? = some (.int f) := by simp
    rw [var3 ha hl h0 h1 h2 hc.1.1.1.1.1 hc.1.1.1.1.2 hc.1.1.1.2 hc.1.1.2 hc.1.2, hc.2]
    simp
  · cases hc
end Mine
end

/-! part P26 -/
section
set_option maxRecDepth 100000
set_option linter.unusedVariables false
open PySem PyProof.Rows
namespace Mine
theorem pair_turns {refs0 : List V} {p D : Nat} {f : Ex} {sel : V → V → V} (hf : ∀ a b H, f [some a, some b] H = some (sel a b, H)) : ∀ (js : List Nat) (rows : List (V × V)) (acc : List V) (H : Hp) (x y : Option V), (∀ Y, okAt (some p) refs0 (H.set D Y) = true) →
    Paired (fun j (ab : V × V) => ∀ Y, (H.set D Y)[j]? = some (.list [ab.1, ab.2])) js rows → H[D]? = some (.list acc) → acc.length + js.length ≤ 1000 →
    ∃ x' y', cTurns (some p) refs0 (tPair 0 1) tTrue (cEmit f D) (js.map .ref) [x, y] H = some ([x', y'], H.set D (.list (acc ++ rows.map fun ab => sel ab.1 ab.2))) := by
  intro js
  induction js with
  | nil =>
    intro rows acc H x y hok hp hD hl
    cases hp
    have := hok (.list acc)
    rw [set_same hD] at this
    refine ⟨x, y, ?_⟩
    rw [List.map_nil, cTurns, if_pos this]
    simp [set_same hD]
  | cons j js ih =>
    intro rows acc H x y hok hp hD hl
    cases hp with
    | @cons _ ab _ rows hj hp =>
      have hok0 := hok (.list acc)
      rw [set_same hD] at hok0
      have hDl : D < H.length := (List.getElem?_eq_some_iff.mp hD).1
      have hj0 := hj (.list acc)
      rw [set_same hD] at hj0
      have e3 := emit_of (ρ := [some ab.1, some ab.2]) (hf ab.1 ab.2 H) hD (by simp at hl; omega)
      obtain ⟨x', y', e4⟩ := ih rows (acc ++ [sel ab.1 ab.2]) (H.set D (.list (acc ++ [sel ab.1 ab.2]))) (some ab.1) (some ab.2) (fun Y => by rw [List.set_set]; exact hok Y)
        (Paired.mono' (fun j ab h Y => by rw [List.set_set]; exact h Y) hp) (List.getElem?_set_self hDl) (by simp at hl ⊢; omega)
      refine ⟨x', y', ?_⟩
      rw [List.map_cons, cTurns, if_pos hok0]
      have et : tPair 0 1 (.ref j) [x, y] H = some [some ab.1, some ab.2] := by
        simp only [tPair, hj0]; rfl
      rw [et, Option.bind_some]
      show (cEmit f D [some ab.1, some ab.2] H).bind _ = _
      rw [e3, Option.bind_some, e4, List.set_set]
      simp
theorem ecomp_pair {e : Ex} {srcs : List (Option Nat)} {f : Ex} {ρ : Lo} {H : Hp} {p : Nat} {js : List Nat} {rows : List (V × V)} {x y : Option V} {sel : V → V → V} (e1 : e ρ H = some (.ref p, H)) (hH : H[p]? = some (.list (js.map .ref))) (hρ : mkρ srcs ρ = [x, y])
    (hp : Paired (fun j (ab : V × V) => H[j]? = some (.list [ab.1, ab.2])) js rows) (hf : ∀ a b H, f [some a, some b] H = some (sel a b, H)) (hl : js.length ≤ 1000) :
    eComp e srcs (tPair 0 1) tTrue (cEmit f) ρ H = some (.ref H.length, H ++ [.list (rows.map fun ab => sel ab.1 ab.2)]) := by
  have hs : ∀ Y, (H ++ [O.list []]).set H.length Y = H ++ [Y] := fun Y => by simp
  obtain ⟨x', y', e2⟩ := pair_turns (refs0 := js.map .ref) (p := p) (D := H.length) hf js rows [] (H ++ [.list []]) x y (fun Y => by rw [hs]; simp only [okAt, app_at hH]; simp)
    (Paired.mono' (fun j ab h Y => by rw [hs]; exact app_at h) hp) (by simp) (by simpa using hl)
  have hk : iterKind (.ref p) H = some (some p, js.map .ref) := by simp only [iterKind, hH]
  unfold eComp
  rw [e1, Option.bind_some, hk, Option.bind_some]
  dsimp only
  rw [hρ, e2, hs]
  rfl

noncomputable def prsE : Ex := eCall [(eCall [(eVar 1)] (Mine.run g_parse_varint 1 2))] bChr
theorem parse_turns {refs0 : List V} {p tp l D : Nat} (n1 : tp ≠ D) (n2 : l ≠ tp) (n3 : l ≠ D) (n4 : p ≠ tp) (n5 : p ≠ D) : ∀ (cs : List Nat) (vs pre post acc : List V) (H : Hp) (x : Option V), vs.length = cs.length → (∀ c ∈ cs, digitsOk c = true ∧ c < 262144) →
    H[p]? = some (.list refs0) → H[tp]? = some (.iter l pre.length) → H[l]? = some (.list (pre ++ (cs.flatMap fun (c : Nat) => octs (c : Int)) ++ post)) → H[D]? = some (.list acc) → acc.length + cs.length ≤ 1000 →
    ∃ x' H', cTurns (some p) refs0 (tName 0) tTrue (cEmit prsE D) vs [x, some (.ref tp)] H = some ([x', some (.ref tp)], H') ∧ H'[tp]? = some (.iter l (pre ++ (cs.flatMap fun (c : Nat) => octs (c : Int))).length) ∧
      H'[D]? = some (.list (acc ++ strsV (cs.map fun c => [c]))) ∧ (∀ j, j ≠ tp → j ≠ D → H'[j]? = H[j]?) ∧ H'.length = H.length := by
  intro cs
  induction cs with
  | nil =>
    intro vs pre post acc H x hv hc hp ht hl hD hn
    have : vs = [] := List.eq_nil_of_length_eq_zero hv
    subst this
    have hok : okAt (some p) refs0 H = true := by simp only [okAt, hp, decide_true]
    refine ⟨x, H, by rw [cTurns, if_pos hok], by simpa using ht, by simpa [strsV] using hD, fun _ _ _ => rfl, rfl⟩
  | cons c cs ih =>
    intro vs pre post acc H x hv hc hp ht hl hD hn
    cases vs with
    | nil => cases hv
    | cons v vs =>
      obtain ⟨hc1, hc2⟩ := hc c (by simp)
      have hok : okAt (some p) refs0 H = true := by simp only [okAt, hp, decide_true]
      have hl' : H[l]? = some (.list (pre ++ octs (c : Int) ++ ((cs.flatMap fun (c : Nat) => octs (c : Int)) ++ post))) := by
        rw [hl, List.flatMap_cons]; simp
      have e1 := parse_ok hc1 ht hl'
      have htl : tp < H.length := (List.getElem?_eq_some_iff.mp ht).1
      have hDl : D < H.length := (List.getElem?_eq_some_iff.mp hD).1
      generalize hpre : pre ++ octs (c : Int) = pre' at e1 hl'
      have e2 : prsE [some v, some (.ref tp)] H = some (.str (S [c]), H.set tp (.iter l pre'.length)) := by
        unfold prsE
        rw [ecall1 ((ecall1 (a := .ref tp) (H₁ := H) rfl).trans e1)]
        have hi : 0 ≤ (c : Int) ∧ (c : Int) ≤ 1114111 := by omega
        simp only [bChr, if_pos hi]
        rfl
      have hD1 : (H.set tp (.iter l pre'.length))[D]? = some (.list acc) := by rw [List.getElem?_set_ne n1]; exact hD
      have e3 : cEmit prsE D [some v, some (.ref tp)] H = some ([some v, some (.ref tp)], (H.set tp (.iter l pre'.length)).set D (.list (acc ++ [.str (S [c])]))) := by
        have : acc.length ≤ 1000000 := by omega
        simp only [cEmit, e2, Option.bind_some, hD1, if_pos this]
      generalize hH1 : (H.set tp (.iter l pre'.length)).set D (.list (acc ++ [.str (S [c])])) = H1 at e3
      have k1 : ∀ j, j ≠ tp → j ≠ D → H1[j]? = H[j]? := fun j h1 h2 => by
        rw [← hH1, List.getElem?_set_ne (Ne.symm h2), List.getElem?_set_ne (Ne.symm h1)]
      have k2 : H1[tp]? = some (.iter l pre'.length) := by
        rw [← hH1, List.getElem?_set_ne (Ne.symm n1), List.getElem?_set_self htl]
      have k3 : H1[D]? = some (.list (acc ++ [.str (S [c])])) := by
        rw [← hH1, List.getElem?_set_self (by rw [List.length_set]; exact hDl)]
      have k4 : H1.length = H.length := by rw [← hH1]; simp
      have hl1 : H1[l]? = some (.list (pre' ++ (cs.flatMap fun (c : Nat) => octs (c : Int)) ++ post)) := by
        rw [k1 l n2 n3, hl']; simp
      obtain ⟨x', H', f1, f2, f3, f4, f5⟩ := ih vs pre' post (acc ++ [.str (S [c])]) H1 (some v) (by simpa using hv) (fun u hu => hc u (by simp [hu])) (by rw [k1 p n4 n5]; exact hp) k2 hl1 k3 (by simp at hn ⊢; omega)
      refine ⟨x', H', ?_, ?_, ?_, fun j h1 h2 => (f4 j h1 h2).trans (k1 j h1 h2), f5.trans k4⟩
      · rw [cTurns, if_pos hok]
        show (cEmit prsE D [some v, some (.ref tp)] H).bind _ = _
        rw [e3, Option.bind_some]
        exact f1
      · rw [f2, ← hpre, List.flatMap_cons]; simp
      · rw [f3]
        unfold strsV
        simp
theorem ecomp_parse {ρ : Lo} {H : Hp} {p tp l : Nat} {refs : List V} {cs : List Nat} {xs : List V} (hv : refs.length = cs.length) (hc : ∀ c ∈ cs, digitsOk c = true ∧ c < 262144) (n2 : l ≠ tp) (n4 : p ≠ tp) (e1 : ρ[2]? = some (some (.ref p))) (e3 : ρ[3]? = some (some (.ref tp)))
    (hp : H[p]? = some (.list refs)) (ht : H[tp]? = some (.iter l 0)) (hl : H[l]? = some (.list xs)) (hx : xs = cs.flatMap fun (c : Nat) => octs (c : Int)) (hn : cs.length ≤ 900) :
    ∃ H', eComp (eVar 2) [none, some 3] (tName 0) tTrue (cEmit prsE) ρ H = some (.ref H.length, H') ∧ H'[tp]? = some (.iter l xs.length) ∧ H'[H.length]? = some (.list (strsV (cs.map fun c => [c]))) ∧ (∀ j, j ≠ tp → j < H.length → H'[j]? = H[j]?) ∧ H'.length = H.length + 1 := by
  have htl : tp < H.length := (List.getElem?_eq_some_iff.mp ht).1
  have hpl : p < H.length := (List.getElem?_eq_some_iff.mp hp).1
  have hll : l < H.length := (List.getElem?_eq_some_iff.mp hl).1
  obtain ⟨x', H', f1, f2, f3, f4, f5⟩ := parse_turns (refs0 := refs) (p := p) (tp := tp) (l := l) (D := H.length) (by omega) n2 (by omega) n4 (by omega) cs refs [] [] [] (H ++ [.list []]) none hv hc (app_at hp) (app_at ht) (by rw [List.nil_append, List.append_nil, ← hx]; exact app_at hl) (by simp) (by simp; omega)
  have hk : iterKind (.ref p) H = some (some p, refs) := by simp only [iterKind, hp]
  have hm : mkρ [none, some 3] ρ = [none, some (.ref tp)] := by
    unfold mkρ
    simp [e3]
  refine ⟨H', ?_, by rw [f2, List.nil_append, ← hx], by rw [f3]; rfl, fun j h1 h2 => ?_, by rw [f5]; simp⟩
  · unfold eComp
    rw [evar_of H e1, Option.bind_some, hk, Option.bind_some]
    dsimp only
    rw [hm, f1]
    rfl
  · rw [f4 j h1 (by omega), List.getElem?_append_left h2]
end Mine
end

/-! part L1 -/
section
set_option maxRecDepth 100000
set_option linter.unusedVariables false
open PySem PyProof.Rows
namespace Mine
noncomputable def rowsS : Nat → List Str
  | 3 => rows3
  | 4 => rows4
  | 5 => rows5
  | _ => rows6
noncomputable def rowsN (M : Nat) : List (List Nat) := (rowsS M).map fun x => x.cps.toList
noncomputable def takenN (M : Nat) : List (List Nat) := (rowsN M).filter fun r => balGo 0 r
noncomputable def nearOne (rows : List (List Nat)) (more : Nat) (t : List Nat) : Bool :=
  let due := 2 * fewC t
  Nat.beq (rows.foldl (fun m r => Nat.min m (levC r t (due + more))) 1000) due
noncomputable def nearPat (rows : List (List Nat)) (more n : Nat) : Bool := (pats n).all (nearOne rows more)
theorem all_chunk {α : Type} (f : α → Bool) (c : Nat) : ∀ (k : Nat) (l : List α), l.length ≤ c * k → (∀ i, i < k → ((l.drop (c * i)).take c).all f = true) → l.all f = true := by
  intro k
  induction k with
  | zero =>
    intro l hl _
    have : l = [] := List.eq_nil_of_length_eq_zero (by simpa using hl)
    subst this; rfl
  | succ k ih =>
    intro l hl h
    have h0 : (l.take c).all f = true := by have := h 0 (Nat.succ_pos _); rwa [Nat.mul_zero, List.drop_zero] at this
    have h1 : (l.drop c).all f = true := ih (l.drop c) (by rw [List.length_drop]; rw [Nat.mul_succ] at hl; omega) fun i hi => by
      have := h (i + 1) (Nat.succ_lt_succ hi)
      rw [Nat.mul_succ, Nat.add_comm, ← List.drop_drop] at this
      exact this
    have e := List.take_append_drop c l
    rw [← e, List.all_append, h0, h1]; rfl
theorem rows_fine : [3, 4, 5, 6].all (fun M => (rowsN M).all (fun r => r.all (fun c => Nat.beq c 40 || Nat.beq c 41) && decide (r.length ≤ 6)) && decide ((takenN M).head? = some []) && decide ((rowsN M).length ≤ 100)) = true := by decide +kernel
theorem near3 : nearPat (takenN 3) 0 3 && (List.range 4).all (nearPat (takenN 3) 1) = true := by decide +kernel
theorem near4 : nearPat (takenN 4) 0 3 && nearPat (takenN 4) 0 4 && (List.range 5).all (nearPat (takenN 4) 1) = true := by decide +kernel
theorem near5 : nearPat (takenN 5) 0 4 && nearPat (takenN 5) 0 5 && (List.range 6).all (nearPat (takenN 5) 1) = true := by decide +kernel
end Mine
end

/-! part L2 -/
section
set_option maxRecDepth 100000
namespace Mine
theorem chAa : (((pats 5).drop (81 * 0)).take 81).all (nearOne (takenN 6) 0) = true := by decide +kernel
theorem chAb : (((pats 5).drop (81 * 1)).take 81).all (nearOne (takenN 6) 0) = true := by decide +kernel
theorem chAc : (((pats 5).drop (81 * 2)).take 81).all (nearOne (takenN 6) 0) = true := by decide +kernel
theorem near6a : nearPat (takenN 6) 0 5 = true := by
  refine all_chunk _ 81 3 _ (by decide +kernel) fun i hi => ?_
  match i, hi with
  | 0, _ => exact chAa
  | 1, _ => exact chAb
  | 2, _ => exact chAc
end Mine
end

/-! part L3 -/
section
set_option maxRecDepth 100000
namespace Mine
theorem chBa : (((pats 6).drop (81 * 0)).take 81).all (nearOne (takenN 6) 1) = true := by decide +kernel
theorem chBb : (((pats 6).drop (81 * 1)).take 81).all (nearOne (takenN 6) 1) = true := by decide +kernel
theorem chBc : (((pats 6).drop (81 * 2)).take 81).all (nearOne (takenN 6) 1) = true := by decide +kernel
theorem chBd : (((pats 6).drop (81 * 3)).take 81).all (nearOne (takenN 6) 1) = true := by decide +kernel
theorem chBe : (((pats 6).drop (81 * 4)).take 81).all (nearOne (takenN 6) 1) = true := by decide +kernel
theorem chBf : (((pats 6).drop (81 * 5)).take 81).all (nearOne (takenN 6) 1) = true := by decide +kernel
theorem chBg : (((pats 6).drop (81 * 6)).take 81).all (nearOne (takenN 6) 1) = true := by decide +kernel
theorem chBh : (((pats 6).drop (81 * 7)).take 81).all (nearOne (takenN 6) 1) = true := by decide +kernel
theorem chBi : (((pats 6).drop (81 * 8)).take 81).all (nearOne (takenN 6) 1) = true := by decide +kernel
theorem near6b : nearPat (takenN 6) 1 6 = true := by
  refine all_chunk _ 81 9 _ (by decide +kernel) fun i hi => ?_
  match i, hi with
  | 0, _ => exact chBa
  | 1, _ => exact chBb
  | 2, _ => exact chBc
  | 3, _ => exact chBd
  | 4, _ => exact chBe
  | 5, _ => exact chBf
  | 6, _ => exact chBg
  | 7, _ => exact chBh
  | 8, _ => exact chBi
end Mine
end

/-! part P27 -/
section
set_option maxRecDepth 100000
set_option linter.unusedVariables false
open PySem PyProof.Rows
namespace Mine
structure NearOk (t : List Nat) (rows : List (List Nat)) (more : Nat) : Prop where
  met : ∀ c ∈ t, c ∈ metL
  len : t.length ≤ 6
  br : ∀ r ∈ rows, r.all isBr = true ∧ r.length ≤ 6
  few : rows.length ≤ 100
  fold : (([] :: rows).map fun r => levC r t (2 * fewC t + more)).foldl Nat.min 1000 = 2 * fewC t

structure LawC (h_chk h_near h_oct h_pcs h_rows h_stk hb1 hb3 : CF) : Prop where
  pcs : ∀ (ns : List Int) (a : Nat) (H : Hp), H[a]? = some (.list (ns.map .int)) → ns.length ≤ 900 → h_pcs [.ref a] H = some (.ref (H.length + (pieceRows false ns).length), (H ++ (pieceRows false ns).map .list) ++ [.list (refsFrom H.length (pieceRows false ns).length)])
  oct : ∀ (t : List Nat) (H : Hp), (∀ c ∈ t, c < 64 * 64 ^ 3) → t.length ≤ 200 → h_oct [.str (S t)] H = some (.ref H.length, H ++ [.list (octsOf (S t))])
  rows : ∀ (M : Nat) (H : Hp), M = 3 ∨ M = 4 ∨ M = 5 ∨ M = 6 → h_rows [.int (M : Int)] H = some (.ref H.length, H ++ [.list (strsV (rowsN M))])
  chk : ∀ (t : List Nat) (H : Hp), t.all (fun c => c != 92 && c != 34) = true → t.length ≤ 100 → h_chk [.str (S t)] H = some (.bool (balGo 0 (t.filter isBr)), H)
  stk : ∀ (t : List Nat) (H : Hp), (t.filter isBr).length ≤ 6 → t.length ≤ 100 → h_stk [.str (S t)] H = some (.bool (balGo 0 (t.filter isBr)), H)
  near : ∀ (t : List Nat) (rows : List (List Nat)) (more a : Nat) (H : Hp), H[a]? = some (.list (strsV ([] :: rows))) → NearOk t rows more → h_near [.str (S t), .ref a, .int (more : Int)] H = some (.bool true, H)
  b1 : ∀ (c : Nat) (H : Hp), hb1 [.str (S [c])] H = some (.bool (setS setNs (c : Int)), H)
  b3 : ∀ (c : Nat) (H : Hp), okLow (S [c]) = true → hb3 [.str (S [c])] H = some (.str (low3 tbN (S [c])), H)

noncomputable def lwJ (n : Nat) : Ex := eMeth "str" (eVal (.str (Str.ofString ""))) [(eComp (eVar 2) [none, none] (tPair 0 1) tTrue (cEmit (eVar n)))] mJoin
noncomputable def lwP (hb1 hb3 : CF) : Ex := eMeth "str" (eVal (.str (Str.ofString ""))) [(eComp (eVar 4) [none] (tName 0) (tNot (tVal (eCall [(eVar 0)] hb1))) (cEmit (eCall [(eVar 0)] hb3)))] mJoin
noncomputable def lwT : Ex := eMeth "str" (eVal (.str (Str.ofString ""))) [(eComp (eVar 2) [none, some 3] (tName 0) tTrue (cEmit prsE))] mJoin
noncomputable def lwRow (h_chk h_stk : CF) : Sx := (gSeq (gAssign 9 (eCall [(eVar 8)] h_chk))
  (gSeq (gIf (tVal (bind2 (eVar 9) (eCall [(eVar 8)] h_stk) cIsNot)) (gSeq (gRet (eVal (.bool false))) gNil) gNil)
  (gSeq (gIf (tVal (eVar 9)) (gSeq (gExpr (eMeth "list" (eVar 7) [(eVar 8)] mAppend)) gNil) gNil)
  gNil)))
noncomputable def lw3 (h_chk h_near h_rows h_stk : CF) : Sx := (gSeq (gAssign 6 (eCall [(eCall [(eCall [(eVar 4)] bLen), (eCall [(eVar 5)] bLen)] bMax)] h_rows))
  (gSeq (gAssign 7 (eList []))
  (gSeq (gFor (eVar 6) (tName 8) (lwRow h_chk h_stk))
  (gSeq (gIf (tOr (tVal (bind2 (eCall [(eVar 4)] h_chk) (eCall [(eVar 4)] h_stk) cIsNot)) (tOr (tVal (bind2 (eCall [(eVar 5)] h_chk) (eCall [(eVar 4)] h_stk) cIsNot)) tFalse)) (gSeq (gRet (eVal (.bool false))) gNil) gNil)
  (gSeq (gRet (eAnd (eCall [(eVar 4), (eVar 7), (eVal (.int 0))] h_near) (eCall [(eVar 5), (eVar 7), (eVal (.int 1))] h_near)))
  gNil)))))
noncomputable def lw2 (h_oct hb1 hb3 : CF) (k : Sx) : Sx := (gSeq (gAssign 3 (eCall [(eCall [lwJ 0] h_oct)] bIter))
  (gSeq (gAssign 4 lwT)
  (gSeq (gIf (tOr (tVal (bind2 (eCall [(eVar 3)] bList) (eList []) cNeL)) (tOr (tVal (bind2 (eVar 4) (lwJ 0) cNe)) tFalse)) (gSeq (gRet (eVal (.bool false))) gNil) gNil)
  (gSeq (gAssign 5 (lwP hb1 hb3))
  (gSeq (gIf (tVal (bind2 (eVar 5) (lwJ 1) cNe)) (gSeq (gRet (eVal (.bool false))) gNil) gNil)
  k)))))
theorem law_eq (al : Addr) (xs : List V) (h_chk h_near h_oct h_pcs h_rows h_stk hb1 hb3 : CF) : glaw al xs h_chk h_near h_oct h_pcs h_rows h_stk (Mine.run g_parse_varint 1 2) hb1 hb3 =
  (gSeq (gAssign 1 (bind2 (eCutB al xs (eVar 0) (eVal .none) (eVal (.int 5))) (eCut (eList (iVs [0, 12, 9])) (eCall [(eVar 0)] (bLenB al xs)) (eVal .none)) oAdd))
  (gSeq (gAssign 2 (eCall [(eVar 1)] h_pcs))
  (lw2 h_oct hb1 hb3 (lw3 h_chk h_near h_rows h_stk)))) := rfl

/-! ## the rows' loop and the end -/
theorem isnot_same (b : Bool) (H : Hp) : cIsNot (.bool b) (.bool b) H = some (.bool false, H) := by cases b <;> rfl
section
variable {h_chk h_near h_oct h_pcs h_rows h_stk hb1 hb3 : CF}
theorem filter_br {r : List Nat} (h : r.all isBr = true) : r.filter isBr = r := List.filter_eq_self.mpr fun a ha => List.all_eq_true.mp h a ha
theorem br_plain {r : List Nat} (h : r.all isBr = true) : r.all (fun c => c != 92 && c != 34) = true := by
  rw [List.all_eq_true] at h ⊢
  intro c hc
  have := h c hc
  unfold isBr at this
  simp only [Bool.or_eq_true, Nat.beq_eq] at this
  rcases this with rfl | rfl <;> rfl
theorem row_step (C : LawC h_chk h_near h_oct h_pcs h_rows h_stk hb1 hb3) (r : List Nat) (hr : r.all isBr = true) (hl : r.length ≤ 6) (o0 o1 o2 o3 o4 o5 o6 o9 : Option V) (tk : Nat) (acc : List (List Nat)) (H : Hp) (hT : H[tk]? = some (.list (strsV acc))) (ha : acc.length ≤ 900) :
    lwRow h_chk h_stk [o0, o1, o2, o3, o4, o5, o6, some (.ref tk), some (.str (S r)), o9] H = some (.next, [o0, o1, o2, o3, o4, o5, o6, some (.ref tk), some (.str (S r)), some (.bool (balGo 0 r))], H.set tk (.list (strsV (acc ++ (if balGo 0 r then [r] else []))))) := by
  have e1 : eCall [(eVar 8)] h_chk [o0, o1, o2, o3, o4, o5, o6, some (.ref tk), some (.str (S r)), o9] H = some (.bool (balGo 0 r), H) := by
    rw [ecall1 (a := .str (S r)) (H₁ := H) rfl, C.chk r H (br_plain hr) (by omega), filter_br hr]
  have e2 : eCall [(eVar 8)] h_stk [o0, o1, o2, o3, o4, o5, o6, some (.ref tk), some (.str (S r)), some (.bool (balGo 0 r))] H = some (.bool (balGo 0 r), H) := by
    rw [ecall1 (a := .str (S r)) (H₁ := H) rfl, C.stk r H (by rw [filter_br hr]; exact hl) (by omega), filter_br hr]
  have e3 : tVal (bind2 (eVar 9) (eCall [(eVar 8)] h_stk) cIsNot) [o0, o1, o2, o3, o4, o5, o6, some (.ref tk), some (.str (S r)), some (.bool (balGo 0 r))] H = some (false, H) :=
    tval_of (v := .bool false) (by rw [bind2_of (a := .bool (balGo 0 r)) (H₁ := H) rfl e2]; exact isnot_same _ _) rfl
  have e4 : tVal (eVar 9) [o0, o1, o2, o3, o4, o5, o6, some (.ref tk), some (.str (S r)), some (.bool (balGo 0 r))] H = some (balGo 0 r, H) := tval_of (v := .bool (balGo 0 r)) rfl rfl
  unfold lwRow
  refine (seq_of (assign_of e1)).trans ?_
  refine (seq_of (if_f e3)).trans ?_
  cases hb : balGo 0 r with
  | true =>
    rw [hb] at e4
    have e5 : eMeth "list" (eVar 7) [(eVar 8)] mAppend [o0, o1, o2, o3, o4, o5, o6, some (.ref tk), some (.str (S r)), some (.bool true)] H = some (.none, H.set tk (.list (strsV acc ++ [.str (S r)]))) := by
      rw [meth1 (T := "list") (a := .ref tk) (b := .str (S r)) (H₁ := H) (H₂ := H) rfl (by simp only [isTy, hT]; rfl) rfl]
      exact append_at hT (by simp [strsV]; omega)
    refine (seq_of ((if_t e4).trans ((seq_of (expr_of e5)).trans rfl))).trans ?_
    unfold strsV
    rw [if_pos rfl, List.map_append]
    rfl
  | false =>
    rw [hb] at e4
    refine (seq_of (if_f e4)).trans ?_
    rw [if_neg (by simp), List.append_nil, set_same hT]
    rfl
theorem rows_loop (C : LawC h_chk h_near h_oct h_pcs h_rows h_stk hb1 hb3) (all : List V) (rr tk : Nat) (hne : rr ≠ tk) (o0 o1 o2 o3 o4 o5 o6 : Option V) : ∀ (rs acc : List (List Nat)) (o8 o9 : Option V) (H : Hp), (∀ r ∈ rs, r.all isBr = true ∧ r.length ≤ 6) → H[rr]? = some (.list all) → H[tk]? = some (.list (strsV acc)) → acc.length + rs.length ≤ 900 →
    ∃ o8' o9' H', gTurns (some rr) all (tName 8) (lwRow h_chk h_stk) (strsV rs) [o0, o1, o2, o3, o4, o5, o6, some (.ref tk), o8, o9] H = some (.next, [o0, o1, o2, o3, o4, o5, o6, some (.ref tk), o8', o9'], H') ∧ H'[tk]? = some (.list (strsV (acc ++ rs.filter fun r => balGo 0 r))) := by
  intro rs
  induction rs with
  | nil => intro acc o8 o9 H hr h1 h2 hl; exact ⟨o8, o9, H, turns_endL h1, by simpa using h2⟩
  | cons r rs ih =>
    intro acc o8 o9 H hr h1 h2 hl
    obtain ⟨hr1, hr2⟩ := hr r (by simp)
    have st := row_step C r hr1 hr2 o0 o1 o2 o3 o4 o5 o6 o9 tk acc H h2 (by simp at hl; omega)
    have htl : tk < H.length := (List.getElem?_eq_some_iff.mp h2).1
    obtain ⟨o8', o9', H', e1, e2⟩ := ih (acc ++ (if balGo 0 r then [r] else [])) (some (.str (S r))) (some (.bool (balGo 0 r))) _ (fun u hu => hr u (by simp [hu])) (by rw [List.getElem?_set_ne (Ne.symm hne)]; exact h1) (List.getElem?_set_self htl)
      (by simp only [List.length_append, List.length_cons] at hl ⊢; split <;> simp <;> omega)
    refine ⟨o8', o9', H', ?_, ?_⟩
    · show gTurns (some rr) all (tName 8) (lwRow h_chk h_stk) (.str (S r) :: strsV rs) _ H = _
      rw [turns_nextL (ρ := [o0, o1, o2, o3, o4, o5, o6, some (.ref tk), o8, o9]) h1 st]
      exact e1
    · rw [e2, List.filter_cons]
      cases balGo 0 r <;> simp
theorem law3_ok (C : LawC h_chk h_near h_oct h_pcs h_rows h_stk hb1 hb3) (T P : List Nat) (M : Nat) (hM : M = 3 ∨ M = 4 ∨ M = 5 ∨ M = 6) (hmx : M = max T.length P.length) (hT : T.all (fun c => c != 92 && c != 34) = true) (hP : P.all (fun c => c != 92 && c != 34) = true)
    (hTP : T.filter isBr = P.filter isBr) (tl : List (List Nat)) (htk : takenN M = [] :: tl) (hrows : ∀ r ∈ rowsN M, r.all isBr = true ∧ r.length ≤ 6) (hrl : (rowsN M).length ≤ 100) (n0 : NearOk T tl 0) (n1 : NearOk P tl 1) (o0 o1 o2 o3 o6 o7 o8 o9 : Option V) (H : Hp) :
    ∃ ρ' H', lw3 h_chk h_near h_rows h_stk [o0, o1, o2, o3, some (.str (S T)), some (.str (S P)), o6, o7, o8, o9] H = some (.ret (.bool true), ρ', H') := by
  have lT := n0.len
  have lP := n1.len
  have e1 : eCall [(eCall [(eCall [(eVar 4)] bLen), (eCall [(eVar 5)] bLen)] bMax)] h_rows [o0, o1, o2, o3, some (.str (S T)), some (.str (S P)), o6, o7, o8, o9] H = some (.ref H.length, H ++ [.list (strsV (rowsN M))]) := by
    have a1 : eCall [(eVar 4)] bLen [o0, o1, o2, o3, some (.str (S T)), some (.str (S P)), o6, o7, o8, o9] H = some (.int (T.length : Int), H) := by
      rw [ecall1 (a := .str (S T)) (H₁ := H) rfl]; exact bLen_S H (by omega)
    have a2 : eCall [(eVar 5)] bLen [o0, o1, o2, o3, some (.str (S T)), some (.str (S P)), o6, o7, o8, o9] H = some (.int (P.length : Int), H) := by
      rw [ecall1 (a := .str (S P)) (H₁ := H) rfl]; exact bLen_S H (by omega)
    have a3 : eCall [(eCall [(eVar 4)] bLen), (eCall [(eVar 5)] bLen)] bMax [o0, o1, o2, o3, some (.str (S T)), some (.str (S P)), o6, o7, o8, o9] H = some (.int (M : Int), H) := by
      rw [ecall2 a1 a2]
      show some (V.int (if (T.length : Int) < (P.length : Int) then (P.length : Int) else (T.length : Int)), H) = _
      congr 3
      split <;> omega
    rw [ecall1 a3, C.rows M H hM]
  generalize hH1 : H ++ [O.list (strsV (rowsN M))] = H1 at e1
  have hr1 : H1[H.length]? = some (.list (strsV (rowsN M))) := by rw [← hH1]; simp
  have hl1 : H1.length = H.length + 1 := by rw [← hH1]; simp
  obtain ⟨o8', o9', H', e2, e3⟩ := rows_loop C (strsV (rowsN M)) H.length (H.length + 1) (by omega) o0 o1 o2 o3 (some (.str (S T))) (some (.str (S P))) (some (.ref H.length)) (rowsN M) [] o8 o9 (H1 ++ [.list []]) hrows (app_at hr1) (by rw [← hl1]; simp [strsV]) (by simp; omega)
  rw [List.nil_append] at e3
  have e3' : H'[H.length + 1]? = some (.list (strsV ([] :: tl))) := by rw [← htk]; exact e3
  have e4 : gFor (eVar 6) (tName 8) (lwRow h_chk h_stk) [o0, o1, o2, o3, some (.str (S T)), some (.str (S P)), some (.ref H.length), some (.ref (H.length + 1)), o8, o9] (H1 ++ [.list []]) = some (.next, [o0, o1, o2, o3, some (.str (S T)), some (.str (S P)), some (.ref H.length), some (.ref (H.length + 1)), o8', o9'], H') := by
    unfold gFor
    rw [evar_of (v := .ref H.length) _ rfl, Option.bind_some]
    have hk : iterKind (.ref H.length) (H1 ++ [.list []]) = some (some H.length, strsV (rowsN M)) := by simp only [iterKind, app_at hr1]
    rw [hk, Option.bind_some]
    exact e2
  generalize hρ : [o0, o1, o2, o3, some (V.str (S T)), some (V.str (S P)), some (.ref H.length), some (.ref (H.length + 1)), o8', o9'] = ρ at e4
  have v4 : ∀ H, eVar 4 ρ H = some (.str (S T), H) := fun H => evar_of H (by rw [← hρ]; rfl)
  have v5 : ∀ H, eVar 5 ρ H = some (.str (S P), H) := fun H => evar_of H (by rw [← hρ]; rfl)
  have v7 : ∀ H', eVar 7 ρ H' = some (.ref (H.length + 1), H') := fun H' => evar_of H' (by rw [← hρ]; rfl)
  have c4 : eCall [(eVar 4)] h_chk ρ H' = some (.bool (balGo 0 (T.filter isBr)), H') := by rw [ecall1 (v4 H')]; exact C.chk T H' hT (by omega)
  have c5 : eCall [(eVar 5)] h_chk ρ H' = some (.bool (balGo 0 (T.filter isBr)), H') := by rw [ecall1 (v5 H'), hTP]; exact C.chk P H' hP (by omega)
  have fl : (T.filter isBr).length ≤ 6 := Nat.le_trans (List.length_filter_le ..) lT
  have s4 : eCall [(eVar 4)] h_stk ρ H' = some (.bool (balGo 0 (T.filter isBr)), H') := by rw [ecall1 (v4 H')]; exact C.stk T H' fl (by omega)
  have t1 : tVal (bind2 (eCall [(eVar 4)] h_chk) (eCall [(eVar 4)] h_stk) cIsNot) ρ H' = some (false, H') := tval_of (v := .bool false) (by rw [bind2_of c4 s4]; exact isnot_same _ _) rfl
  have t2 : tVal (bind2 (eCall [(eVar 5)] h_chk) (eCall [(eVar 4)] h_stk) cIsNot) ρ H' = some (false, H') := tval_of (v := .bool false) (by rw [bind2_of c5 s4]; exact isnot_same _ _) rfl
  have q0 : eCall [(eVar 4), (eVar 7), (eVal (.int 0))] h_near ρ H' = some (.bool true, H') := by
    rw [ecall3 (v4 H') (v7 H') (c := .int ((0 : Nat) : Int)) (H₃ := H') rfl]; exact C.near T tl 0 _ H' e3' n0
  have q1 : eCall [(eVar 5), (eVar 7), (eVal (.int 1))] h_near ρ H' = some (.bool true, H') := by
    rw [ecall3 (v5 H') (v7 H') (c := .int ((1 : Nat) : Int)) (H₃ := H') rfl]; exact C.near P tl 1 _ H' e3' n1
  refine ⟨ρ, H', ?_⟩
  unfold lw3
  refine (seq_of (assign_of e1)).trans ?_
  have e5 : gAssign 7 (eList []) (put 6 (V.ref H.length) [o0, o1, o2, o3, some (V.str (S T)), some (V.str (S P)), o6, o7, o8, o9]) H1 = some (.next, [o0, o1, o2, o3, some (.str (S T)), some (.str (S P)), some (.ref H.length), some (.ref (H.length + 1)), o8, o9], H1 ++ [.list []]) := by
    rw [assign_of (v := .ref H1.length) (H₁ := H1 ++ [.list []]) rfl, hl1]; rfl
  refine (seq_of e5).trans ?_
  refine (seq_of e4).trans ?_
  refine (seq_of (if_f ((tor_f t1).trans (tor_f t2)))).trans ?_
  exact seq_ret (ret_of ((eand_t q0).trans q1))
end
end Mine
end

/-! part P28 -/
section
set_option maxRecDepth 100000
set_option linter.unusedVariables false
open PySem PyProof.Rows
namespace Mine
section
variable {h_chk h_near h_oct h_pcs h_rows h_stk hb1 hb3 : CF}
/-- the pieces as they lie in the heap -/
structure PcIn (p : Nat) (js : List Nat) (pcs : List (Nat × List Nat)) (H : Hp) : Prop where
  at_ : H[p]? = some (.list (js.map .ref))
  rows : Paired (fun j (ab : V × V) => H[j]? = some (.list [ab.1, ab.2])) js (pcs.map fun q => (V.str (S [q.1]), V.str (S q.2)))
theorem PcIn.app {p : Nat} {js : List Nat} {pcs : List (Nat × List Nat)} {H : Hp} (x : PcIn p js pcs H) (ext : Hp) : PcIn p js pcs (H ++ ext) :=
  ⟨app_at x.at_, Paired.mono' (fun _ _ h => app_at h) x.rows⟩
theorem PcIn.keep {p : Nat} {js : List Nat} {pcs : List (Nat × List Nat)} {H H' : Hp} {tp : Nat} {o : O} (x : PcIn p js pcs H) (ht : H[tp]? = some o) (ho : ∀ xs, o ≠ .list xs) (hk : ∀ j, j ≠ tp → j < H.length → H'[j]? = H[j]?) : PcIn p js pcs H' := by
  have k : ∀ (j : Nat) (xs : List V), H[j]? = some (O.list xs) → H'[j]? = some (O.list xs) := fun j xs h => by
    rw [hk j (fun e => by subst e; rw [h] at ht; cases ht; exact ho _ rfl) (List.getElem?_eq_some_iff.mp h).1]; exact h
  exact ⟨k _ _ x.at_, Paired.mono' (fun _ _ h => k _ _ h) x.rows⟩
theorem PcIn.len {p : Nat} {js : List Nat} {pcs : List (Nat × List Nat)} {H : Hp} (x : PcIn p js pcs H) : js.length = pcs.length := by
  have := x.rows.length
  simpa using this
theorem lwJ0 {p : Nat} {js : List Nat} {pcs : List (Nat × List Nat)} {H : Hp} (x : PcIn p js pcs H) (hl : pcs.length ≤ 100) (ρ : Lo) (h2 : ρ[2]? = some (some (.ref p))) : ∃ X, lwJ 0 ρ H = some (.str (S (pcs.map (·.1))), H ++ [X]) := by
  have e1 := ecomp_pair (e := eVar 2) (srcs := [none, none]) (f := eVar 0) (ρ := ρ) (H := H) (x := none) (y := none) (sel := fun a _ => a) (evar_of H h2) x.at_ rfl x.rows (fun _ _ _ => rfl) (by rw [x.len]; omega)
  have hs : (pcs.map fun q => (V.str (S [q.1]), V.str (S q.2))).map (fun ab => ab.1) = strsV ((pcs.map (·.1)).map fun c => [c]) := by
    unfold strsV; simp [List.map_map]
  refine ⟨.list (strsV ((pcs.map (·.1)).map fun c => [c])), ?_⟩
  · unfold lwJ
    rw [hs] at e1
    rw [meth1 (a := .str (Str.ofString "")) (H₁ := H) rfl rfl e1, mjoin_S (ls := (pcs.map (·.1)).map fun c => [c]) (by simp) (by
      have : (((pcs.map (·.1)).map fun c => [c]).map List.length) = (pcs.map (·.1)).map fun _ => 1 := by rw [List.map_map]; rfl
      rw [this, List.length_map, List.map_const', List.sum_replicate_nat]
      simp; omega), ones_flat]
theorem lwJ1 {p : Nat} {js : List Nat} {pcs : List (Nat × List Nat)} {H : Hp} (x : PcIn p js pcs H) (hl : pcs.length ≤ 100) (hm : (pcs.map (·.2)).flatten.length ≤ 100) (ρ : Lo) (h2 : ρ[2]? = some (some (.ref p))) : ∃ X, lwJ 1 ρ H = some (.str (S (pcs.map (·.2)).flatten), H ++ [X]) := by
  have e1 := ecomp_pair (e := eVar 2) (srcs := [none, none]) (f := eVar 1) (ρ := ρ) (H := H) (x := none) (y := none) (sel := fun _ b => b) (evar_of H h2) x.at_ rfl x.rows (fun _ _ _ => rfl) (by rw [x.len]; omega)
  have hs : (pcs.map fun q => (V.str (S [q.1]), V.str (S q.2))).map (fun ab => ab.2) = strsV (pcs.map (·.2)) := by
    unfold strsV; simp [List.map_map]
  refine ⟨.list (strsV (pcs.map (·.2))), ?_⟩
  · unfold lwJ
    rw [hs] at e1
    rw [meth1 (a := .str (Str.ofString "")) (H₁ := H) rfl rfl e1, mjoin_S (ls := pcs.map (·.2)) (by simp) (by rw [List.length_flatten] at hm; simp only [List.length_map] at hm ⊢; omega)]

theorem tab_facts {p : Nat × List Nat} (h : p ∈ pieceTab) : digitsOk p.1 = true ∧ p.1 < 262144 ∧ setS setNs (p.1 : Int) = p.2.isEmpty ∧ (p.2.isEmpty = false → low3 tbN (S [p.1]) = S p.2) ∧ [p.1].filter isBr = p.2.filter isBr ∧ okLow (S [p.1]) = true := by
  have := List.all_eq_true.mp piece_ok p h
  simp only [pieceOk, Bool.and_eq_true, decide_eq_true_eq, beq_iff_eq, Bool.or_eq_true] at this
  obtain ⟨⟨⟨⟨⟨h1, h2⟩, h3⟩, h4⟩, h5⟩, h6⟩ := this
  have hm : p.1 ∈ metL := List.mem_flatMap.mpr ⟨p, h, by simp⟩
  have := List.all_eq_true.mp met_ok p.1 hm
  simp only [metOk, Bool.and_eq_true] at this
  exact ⟨h1, h2, h3, fun e => by rcases h4 with h4 | h4; · rw [e] at h4; cases h4
                                 · exact h4, h5, this.1.1.1⟩
theorem prep_flat : ∀ (pcs : List (Nat × List Nat)), (∀ q ∈ pcs, q ∈ pieceTab) → ((strsV ((pcs.map (·.1)).map fun c => [c])).filter (fun v => match v with | .str x => !(setS setNs (x.cps.getD 0 0 : Nat)) | _ => false)).map (fun v => match v with | .str x => V.str (low3 tbN x) | v => v) = strsV ((pcs.filter fun q => !q.2.isEmpty).map (·.2))
  | [], _ => rfl
  | q :: pcs, h => by
    have ih := prep_flat pcs fun u hu => h u (by simp [hu])
    obtain ⟨_, _, h3, h4, _, _⟩ := tab_facts (h q (by simp))
    show ((V.str (S [q.1]) :: strsV ((pcs.map (·.1)).map fun c => [c])).filter _).map _ = _
    rw [List.filter_cons, List.filter_cons]
    have e : (match (V.str (S [q.1])) with | .str x => !(setS setNs (x.cps.getD 0 0 : Nat)) | _ => false) = !(setS setNs (q.1 : Int)) := rfl
    rw [e, h3]
    cases hb : q.2.isEmpty with
    | true =>
      simp only [Bool.not_true, Bool.false_eq_true, if_false]
      exact ih
    | false =>
      simp only [Bool.not_false, if_true]
      rw [List.map_cons, ih, List.map_cons]
      show V.str (low3 tbN (S [q.1])) :: _ = V.str (S q.2) :: _
      rw [h4 hb]; rfl
theorem flat_skip : ∀ (pcs : List (Nat × List Nat)), ((pcs.filter fun q => !q.2.isEmpty).map (·.2)).flatten = (pcs.map (·.2)).flatten
  | [] => rfl
  | q :: pcs => by
    rw [List.filter_cons]
    cases hb : q.2.isEmpty with
    | true =>
      have : q.2 = [] := by simpa using hb
      simp [flat_skip pcs, this]
    | false => simp [flat_skip pcs]
theorem lwP_ok (C : LawC h_chk h_near h_oct h_pcs h_rows h_stk hb1 hb3) {pcs : List (Nat × List Nat)} (hp : ∀ q ∈ pcs, q ∈ pieceTab) (hl : pcs.length ≤ 100) (hm : (pcs.map (·.2)).flatten.length ≤ 100) (ρ : Lo) (H : Hp) (h4 : ρ[4]? = some (some (.str (S (pcs.map (·.1)))))) :
    ∃ X, lwP hb1 hb3 ρ H = some (.str (S (pcs.map (·.2)).flatten), H ++ [X]) := by
  have hch : chars (S (pcs.map (·.1))) = strsV ((pcs.map (·.1)).map fun c => [c]) := by rw [chars_S]; unfold strsV; simp [List.map_map]
  have e1 := ecomp_of (e := eVar 4) (srcs := [none]) (tx := tNot (tVal (eCall [(eVar 0)] hb1))) (f := eCall [(eVar 0)] hb3) (ρ := ρ) (H := H) (H₁ := H) (v := .str (S (pcs.map (·.1)))) (kd := none) (xs := strsV ((pcs.map (·.1)).map fun c => [c])) (x := none) (rest := [])
    (P := fun v => match v with | .str x => !(setS setNs (x.cps.getD 0 0 : Nat)) | _ => false) (g := fun v => match v with | .str x => V.str (low3 tbN x) | v => v) (evar_of H h4) (by rw [← hch]; rfl) rfl (fun _ => rfl)
    (fun v hv H => by
      obtain ⟨l, hl, rfl⟩ := List.mem_map.mp hv
      obtain ⟨c, hc, rfl⟩ := List.mem_map.mp hl
      refine tnot_of (tval_of (v := .bool (setS setNs (c : Int))) ?_ rfl)
      rw [ecall1 (a := .str (S [c])) (H₁ := H) rfl]; exact C.b1 c H)
    (fun v hv _ H => by
      obtain ⟨l, hl, rfl⟩ := List.mem_map.mp hv
      obtain ⟨c, hc, rfl⟩ := List.mem_map.mp hl
      obtain ⟨q, hq, rfl⟩ := List.mem_map.mp hc
      rw [ecall1 (a := .str (S [q.1])) (H₁ := H) rfl]; exact C.b3 q.1 H (tab_facts (hp q hq)).2.2.2.2.2) (by simp [strsV]; omega)
  rw [prep_flat pcs hp] at e1
  refine ⟨.list (strsV ((pcs.filter fun q => !q.2.isEmpty).map (·.2))), ?_⟩
  · unfold lwP
    rw [meth1 (a := .str (Str.ofString "")) (H₁ := H) rfl rfl e1, mjoin_S (ls := (pcs.filter fun q => !q.2.isEmpty).map (·.2)) (by simp) (by
      have h1 : ((pcs.filter fun q => !q.2.isEmpty).map (·.2)).flatten.length ≤ 100 := by rw [flat_skip]; exact hm
      rw [List.length_flatten] at h1
      have h2 : (pcs.filter fun q => !q.2.isEmpty).length ≤ pcs.length := List.length_filter_le ..
      simp only [List.length_map] at h1 ⊢
      omega), flat_skip]
end
end Mine
end

/-! part P29 -/
section
set_option maxRecDepth 100000
set_option linter.unusedVariables false
open PySem PyProof.Rows
namespace Mine
section
variable {h_chk h_near h_oct h_pcs h_rows h_stk hb1 hb3 : CF}
theorem ne_same (x : Str) (H : Hp) : cNe (.str x) (.str x) H = some (.bool false, H) := by
  show some (V.bool (x != x), H) = _
  rw [bne_self_eq_false]
theorem lw2_ok (C : LawC h_chk h_near h_oct h_pcs h_rows h_stk hb1 hb3) (k : Sx) {p : Nat} {js : List Nat} {pcs : List (Nat × List Nat)} (hp : ∀ q ∈ pcs, q ∈ pieceTab) (hl : pcs.length ≤ 100) (hm : (pcs.map (·.2)).flatten.length ≤ 100) (o0 o1 o3 o4 o5 o6 o7 o8 o9 : Option V)
    (hk : ∀ o3 H, ∃ ρ' H', k [o0, o1, some (.ref p), o3, some (.str (S (pcs.map (·.1)))), some (.str (S (pcs.map (·.2)).flatten)), o6, o7, o8, o9] H = some (.ret (.bool true), ρ', H')) (H : Hp) (x : PcIn p js pcs H) :
    ∃ ρ' H', lw2 h_oct hb1 hb3 k [o0, o1, some (.ref p), o3, o4, o5, o6, o7, o8, o9] H = some (.ret (.bool true), ρ', H') := by
  obtain ⟨X, j0⟩ := lwJ0 x hl [o0, o1, some (.ref p), o3, o4, o5, o6, o7, o8, o9] rfl
  have hcs : ∀ c ∈ pcs.map (·.1), digitsOk c = true ∧ c < 262144 := fun c hc => by
    obtain ⟨q, hq, rfl⟩ := List.mem_map.mp hc
    have := tab_facts (hp q hq)
    exact ⟨this.1, this.2.1⟩
  have hTl : (pcs.map (·.1)).length ≤ 100 := by simpa using hl
  generalize hT : pcs.map (·.1) = T at *
  generalize hP : (pcs.map (·.2)).flatten = P at *
  have hoc := C.oct T (H ++ [X]) (fun c hc => by have := (hcs c hc).2; omega) (by omega)
  have hox : octsOf (S T) = T.flatMap fun (c : Nat) => octs (c : Int) := by unfold octsOf; rw [S_cps]
  have hol : (H ++ [X]).length = H.length + 1 := by simp
  rw [hol] at hoc
  generalize hH2 : (H ++ [X]) ++ [O.list (octsOf (S T))] = H2 at hoc
  have h2l : H2.length = H.length + 2 := by rw [← hH2]; simp
  have h2o : H2[H.length + 1]? = some (.list (octsOf (S T))) := by rw [← hH2, ← hol]; simp
  have x2 : PcIn p js pcs H2 := by rw [← hH2]; exact (x.app _).app _
  have e1 : eCall [(eCall [lwJ 0] h_oct)] bIter [o0, o1, some (.ref p), o3, o4, o5, o6, o7, o8, o9] H = some (.ref (H.length + 2), H2 ++ [.iter (H.length + 1) 0]) := by
    rw [ecall1 ((ecall1 j0).trans hoc)]
    simp only [bIter, h2o, h2l]
  generalize hH3 : H2 ++ [O.iter (H.length + 1) 0] = H3 at e1
  have x3 : PcIn p js pcs H3 := by rw [← hH3]; exact x2.app _
  have h3l : H3.length = H.length + 3 := by rw [← hH3]; simp [h2l]
  have h3o : H3[H.length + 1]? = some (.list (octsOf (S T))) := by rw [← hH3]; exact app_at h2o
  have h3t : H3[H.length + 2]? = some (.iter (H.length + 1) 0) := by rw [← hH3, ← h2l]; simp
  have hpl : p < H.length := (List.getElem?_eq_some_iff.mp x.at_).1
  obtain ⟨H4, p1, p2, p3, p4, p5⟩ := ecomp_parse (ρ := [o0, o1, some (.ref p), some (.ref (H.length + 2)), o4, o5, o6, o7, o8, o9]) (H := H3) (p := p) (tp := H.length + 2) (l := H.length + 1) (refs := js.map .ref) (cs := T) (xs := octsOf (S T))
    (by rw [List.length_map, x.len, ← hT, List.length_map]) hcs (by omega) (by omega) rfl rfl x3.at_ h3t h3o hox (by omega)
  have x4 : PcIn p js pcs H4 := x3.keep h3t (fun _ h => by cases h) fun j h1 h2 => p4 j h1 h2
  have h4o : H4[H.length + 1]? = some (.list (octsOf (S T))) := by rw [p4 _ (by omega) (by omega)]; exact h3o
  have e2 : lwT [o0, o1, some (.ref p), some (.ref (H.length + 2)), o4, o5, o6, o7, o8, o9] H3 = some (.str (S T), H4) := by
    unfold lwT
    rw [meth1 (a := .str (Str.ofString "")) (H₁ := H3) rfl rfl p1, mjoin_S (ls := T.map fun c => [c]) p3 (by
      have : ((T.map fun c => [c]).map List.length) = T.map fun _ => 1 := by rw [List.map_map]; rfl
      rw [this, List.length_map, List.map_const', List.sum_replicate_nat]
      omega), ones_flat]
  have h4tl : H.length + 2 < H4.length := by rw [p5, h3l]; omega
  have b1 : eCall [(eVar 3)] bList [o0, o1, some (.ref p), some (.ref (H.length + 2)), some (.str (S T)), o5, o6, o7, o8, o9] H4 = some (.ref H4.length, H4.set (H.length + 2) .dead ++ [.list []]) := by
    rw [ecall1 (a := .ref (H.length + 2)) (H₁ := H4) rfl]
    simp only [bList, p2, h4o, if_true]
  generalize hH5 : H4.set (H.length + 2) O.dead ++ [O.list []] = H5 at b1
  have h5l : H5.length = H4.length + 1 := by rw [← hH5]; simp
  have x5 : PcIn p js pcs H5 := by
    rw [← hH5]
    refine PcIn.app ?_ _
    exact x4.keep p2 (fun _ h => by cases h) fun j h1 _ => by rw [List.getElem?_set_ne (Ne.symm h1)]
  have h5e : H5[H4.length]? = some (.list []) := by
    have : (H4.set (H.length + 2) O.dead).length = H4.length := by simp
    rw [← hH5, ← this]; simp
  have h6e : (H5 ++ [O.list []])[H4.length + 1]? = some (.list []) := by rw [← h5l]; simp
  have t1 : tVal (bind2 (eCall [(eVar 3)] bList) (eList []) cNeL) [o0, o1, some (.ref p), some (.ref (H.length + 2)), some (.str (S T)), o5, o6, o7, o8, o9] H4 = some (false, H5 ++ [.list []]) := by
    refine tval_of (v := .bool false) ?_ rfl
    rw [bind2_of b1 (b := .ref (H4.length + 1)) (H₂ := H5 ++ [.list []]) (by show some (V.ref H5.length, _) = _; rw [h5l])]
    simp only [cNeL, app_at h5e, h6e]
  obtain ⟨X6, j6⟩ := lwJ0 (x5.app [O.list []]) hl [o0, o1, some (.ref p), some (.ref (H.length + 2)), some (.str (S T)), o5, o6, o7, o8, o9] rfl
  rw [hT] at j6
  have t2 : tVal (bind2 (eVar 4) (lwJ 0) cNe) [o0, o1, some (.ref p), some (.ref (H.length + 2)), some (.str (S T)), o5, o6, o7, o8, o9] (H5 ++ [.list []]) = some (false, (H5 ++ [.list []]) ++ [X6]) :=
    tval_of (v := .bool false) (by rw [bind2_of (a := .str (S T)) (H₁ := H5 ++ [.list []]) rfl j6]; exact ne_same _ _) rfl
  have x7 := (x5.app [O.list []]).app [X6]
  generalize (H5 ++ [O.list []]) ++ [X6] = H7 at t2 x7
  obtain ⟨X8, j8⟩ := lwP_ok C hp hl (by rw [hP]; exact hm) [o0, o1, some (.ref p), some (.ref (H.length + 2)), some (.str (S T)), o5, o6, o7, o8, o9] H7 (by rw [hT]; rfl)
  rw [hP] at j8
  obtain ⟨X9, j9⟩ := lwJ1 (x7.app [X8]) hl (by rw [hP]; exact hm) [o0, o1, some (.ref p), some (.ref (H.length + 2)), some (.str (S T)), some (.str (S P)), o6, o7, o8, o9] rfl
  rw [hP] at j9
  have t3 : tVal (bind2 (eVar 5) (lwJ 1) cNe) [o0, o1, some (.ref p), some (.ref (H.length + 2)), some (.str (S T)), some (.str (S P)), o6, o7, o8, o9] (H7 ++ [X8]) = some (false, (H7 ++ [X8]) ++ [X9]) :=
    tval_of (v := .bool false) (by rw [bind2_of (a := .str (S P)) (H₁ := H7 ++ [X8]) rfl j9]; exact ne_same _ _) rfl
  obtain ⟨ρ', H', f⟩ := hk (some (.ref (H.length + 2))) ((H7 ++ [X8]) ++ [X9])
  refine ⟨ρ', H', ?_⟩
  unfold lw2
  refine (seq_of (assign_of e1)).trans ?_
  refine (seq_of (assign_of e2)).trans ?_
  refine (seq_of (if_f ((tor_f t1).trans (tor_f t2)))).trans ?_
  refine (seq_of (assign_of j8)).trans ?_
  refine (seq_of (if_f t3)).trans ?_
  exact f
end
end Mine
end

/-! part P30 -/
section
set_option maxRecDepth 100000
set_option linter.unusedVariables false
open PySem PyProof.Rows
namespace Mine
noncomputable def kp (c : Nat) : Nat := if Nat.beq c 40 then 40 else if Nat.beq c 41 then 41 else 120
theorem kp_cases (c : Nat) : c = 40 ∨ c = 41 ∨ (c ≠ 40 ∧ c ≠ 41 ∧ kp c = 120) := by
  by_cases h1 : c = 40
  · exact .inl h1
  · by_cases h2 : c = 41
    · exact .inr (.inl h2)
    · refine .inr (.inr ⟨h1, h2, ?_⟩)
      have e1 : Nat.beq c 40 = false := by rw [Bool.eq_false_iff, ne_eq, Nat.beq_eq]; exact h1
      have e2 : Nat.beq c 41 = false := by rw [Bool.eq_false_iff, ne_eq, Nat.beq_eq]; exact h2
      unfold kp
      rw [e1, e2]; rfl
theorem nbeq_false {a b : Nat} (h : a ≠ b) : Nat.beq a b = false := by rw [Bool.eq_false_iff, ne_eq, Nat.beq_eq]; exact h
theorem kp_40 (c : Nat) : Nat.beq (kp c) 40 = Nat.beq c 40 := by
  rcases kp_cases c with rfl | rfl | ⟨h1, h2, h3⟩
  · rfl
  · rfl
  · rw [h3, nbeq_false h1]; rfl
theorem kp_41 (c : Nat) : Nat.beq (kp c) 41 = Nat.beq c 41 := by
  rcases kp_cases c with rfl | rfl | ⟨h1, h2, h3⟩
  · rfl
  · rfl
  · rw [h3, nbeq_false h2]; rfl
theorem br_cases {x : Nat} (h : isBr x = true) : x = 40 ∨ x = 41 := by
  unfold isBr at h
  simp only [Bool.or_eq_true, Nat.beq_eq] at h
  exact h
theorem kp_br {x : Nat} (h : isBr x = true) : kp x = x := by rcases br_cases h with rfl | rfl <;> rfl
theorem kp_beq {x : Nat} (h : isBr x = true) (y : Nat) : Nat.beq (kp x) (kp y) = Nat.beq x y := by
  rw [kp_br h]
  rcases br_cases h with rfl | rfl
  · rw [beq_comm', kp_40, beq_comm']
  · rw [beq_comm', kp_41, beq_comm']
theorem pats_mem : ∀ t : List Nat, t.map kp ∈ pats t.length
  | [] => by simp [pats]
  | c :: t => by
    rw [List.length_cons, pats, List.mem_flatMap]
    refine ⟨t.map kp, pats_mem t, ?_⟩
    rw [List.map_cons]
    rcases kp_cases c with rfl | rfl | ⟨_, _, h⟩
    · show 40 :: _ ∈ _; simp
    · show 41 :: _ ∈ _; simp
    · rw [h]; simp
theorem near_fold {rows : List (List Nat)} {more : Nat} {t : List Nat} (hr : ∀ r ∈ rows, r.all isBr = true) (h : nearPat rows more t.length = true) : (rows.map fun r => levC r t (2 * fewC t + more)).foldl Nat.min 1000 = 2 * fewC t := by
  have h1 := List.all_eq_true.mp h _ (pats_mem t)
  have h2 := Nat.eq_of_beq_eq_true h1
  have hf : fewC (t.map kp) = fewC t := few_map (fun c _ => kp_40 c) (fun c _ => kp_41 c)
  rw [hf] at h2
  rw [List.foldl_map]
  have : ∀ (rs : List (List Nat)) (m : Nat), (∀ r ∈ rs, r.all isBr = true) → rs.foldl (fun m r => Nat.min m (levC r t (2 * fewC t + more))) m = rs.foldl (fun m r => Nat.min m (levC r (t.map kp) (2 * fewC t + more))) m := by
    intro rs
    induction rs with
    | nil => intro m _; rfl
    | cons r rs ih =>
      intro m hm
      have hr := hm r (by simp)
      have e1 : r.map kp = r := by
        have : ∀ x ∈ r, kp x = x := fun x hx => kp_br (List.all_eq_true.mp hr x hx)
        exact (List.map_congr_left this).trans (List.map_id' r)
      have e : levC r (t.map kp) (2 * fewC t + more) = levC r t (2 * fewC t + more) := by
        have := levC_map (κ := kp) (a := r) (b := t) (2 * fewC t + more) fun x hx y _ => kp_beq (List.all_eq_true.mp hr x hx) y
        rw [e1] at this; exact this
      rw [List.foldl_cons, List.foldl_cons, e]
      exact ih _ fun u hu => hm u (by simp [hu])
  rw [this rows 1000 hr]
  exact h2
theorem rows_facts {M : Nat} (hM : M = 3 ∨ M = 4 ∨ M = 5 ∨ M = 6) : (∀ r ∈ rowsN M, r.all isBr = true ∧ r.length ≤ 6) ∧ (∃ tl, takenN M = [] :: tl) ∧ (rowsN M).length ≤ 100 := by
  have h := List.all_eq_true.mp rows_fine M (by rcases hM with rfl | rfl | rfl | rfl <;> simp)
  simp only [Bool.and_eq_true, decide_eq_true_eq] at h
  obtain ⟨⟨h1, h2⟩, h3⟩ := h
  refine ⟨fun r hr => ?_, ?_, h3⟩
  · have := List.all_eq_true.mp h1 r hr
    simp only [Bool.and_eq_true, decide_eq_true_eq] at this
    exact this
  · cases e : takenN M with
    | nil => rw [e] at h2; cases h2
    | cons a tl => rw [e] at h2; simp at h2; subst h2; exact ⟨tl, rfl⟩
theorem nearT {M L : Nat} (hL : 3 ≤ L ∧ L ≤ 5) (hM : M = L ∨ M = L + 1) : nearPat (takenN M) 0 L = true := by
  have h3 := near3; have h4 := near4; have h5 := near5; have h6 := near6a
  simp only [Bool.and_eq_true, decide_eq_true_eq] at h3 h4 h5
  obtain ⟨h3, _⟩ := h3
  obtain ⟨⟨h4, h4'⟩, _⟩ := h4
  obtain ⟨⟨h5, h5'⟩, _⟩ := h5
  have : L = 3 ∨ L = 4 ∨ L = 5 := by omega
  rcases this with rfl | rfl | rfl
  · rcases hM with rfl | rfl
    · exact h3
    · exact h4
  · rcases hM with rfl | rfl
    · exact h4'
    · exact h5
  · rcases hM with rfl | rfl
    · exact h5'
    · exact h6
theorem nearP {M n : Nat} (hM : M = 3 ∨ M = 4 ∨ M = 5 ∨ M = 6) (hn : n ≤ M) (h6 : M = 6 → n = 6) : nearPat (takenN M) 1 n = true := by
  have h3 := near3; have h4 := near4; have h5 := near5; have h6b := near6b
  simp only [Bool.and_eq_true, decide_eq_true_eq] at h3 h4 h5
  rcases hM with rfl | rfl | rfl | rfl
  · exact List.all_eq_true.mp h3.2 n (by simp; omega)
  · exact List.all_eq_true.mp h4.2 n (by simp; omega)
  · exact List.all_eq_true.mp h5.2 n (by simp; omega)
  · rw [h6 rfl]; exact h6b
theorem tab_met {q : Nat × List Nat} (h : q ∈ pieceTab) : q.1 ∈ metL ∧ ∀ c ∈ q.2, c ∈ metL :=
  ⟨List.mem_flatMap.mpr ⟨q, h, by simp⟩, fun c hc => List.mem_flatMap.mpr ⟨q, h, by simp [hc]⟩⟩
theorem met_plain {t : List Nat} (h : ∀ c ∈ t, c ∈ metL) : t.all (fun c => c != 92 && c != 34) = true := by
  rw [List.all_eq_true]
  intro c hc
  have := List.all_eq_true.mp met_ok c (h c hc)
  simp only [metOk, Bool.and_eq_true] at this
  rw [this.1.2, this.2]; rfl
theorem br_same : ∀ {pcs : List (Nat × List Nat)}, (∀ q ∈ pcs, q ∈ pieceTab) → (pcs.map (·.1)).filter isBr = (pcs.map (·.2)).flatten.filter isBr
  | [], _ => rfl
  | q :: pcs, h => by
    have ih := br_same fun u (hu : u ∈ pcs) => h u (by simp [hu])
    have h1 := (tab_facts (h q (by simp))).2.2.2.2.1
    rw [List.map_cons, List.map_cons, List.flatten_cons, List.filter_append, ← h1, ← ih]
    rw [show q.1 :: pcs.map (·.1) = [q.1] ++ pcs.map (·.1) from rfl, List.filter_append]
end Mine
end

/-! part P31 -/
section
set_option maxRecDepth 100000
set_option linter.unusedVariables false
open PySem PyProof.Rows
namespace Mine
theorem paired_range (n : Nat) : ∀ (rows : List (V × V)) (H : Hp), (∀ i ab, rows[i]? = some ab → H[n + i]? = some (.list [ab.1, ab.2])) → Paired (fun j (ab : V × V) => H[j]? = some (.list [ab.1, ab.2])) ((List.range rows.length).map fun i => n + i) rows := by
  have gen : ∀ (rows : List (V × V)) (k : Nat) (H : Hp), (∀ i ab, rows[i]? = some ab → H[k + i]? = some (.list [ab.1, ab.2])) → Paired (fun j (ab : V × V) => H[j]? = some (.list [ab.1, ab.2])) ((List.range rows.length).map fun i => k + i) rows := by
    intro rows
    induction rows with
    | nil => intro k H h; exact .nil
    | cons ab rows ih =>
      intro k H h
      rw [List.length_cons, List.range_succ_eq_map, List.map_cons, List.map_map]
      refine .cons (h 0 ab rfl) ?_
      have := ih (k + 1) H fun i u hu => by rw [show k + 1 + i = k + (i + 1) by omega]; exact h (i + 1) u hu
      have e : ((fun i => k + i) ∘ Nat.succ) = fun i => k + 1 + i := by funext i; show k + (i + 1) = k + 1 + i; omega
      rw [e]; exact this
  exact fun rows => gen rows n
noncomputable def numsOf (script : List Int) : List Int := script.take 5 ++ ([0, 12, 9] : List Int).drop script.length
theorem numsOf_len (script : List Int) : 3 ≤ (numsOf script).length ∧ (numsOf script).length ≤ 5 := by
  unfold numsOf
  simp
  omega
section
variable {h_chk h_near h_oct h_pcs h_rows h_stk hb1 hb3 : CF}
theorem run_law (C : LawC h_chk h_near h_oct h_pcs h_rows h_stk hb1 hb3) (al : Addr) (script : List Int) (hs : script.length ≤ 1000) :
    ∃ H', Mine.run (glaw al (script.map .int) h_chk h_near h_oct h_pcs h_rows h_stk (Mine.run g_parse_varint 1 2) hb1 hb3) 1 9 [.base al] [] = some (.bool true, H') := by
  obtain ⟨L3, L5⟩ := numsOf_len script
  have e1 : bind2 (eCutB al (script.map .int) (eVar 0) (eVal .none) (eVal (.int 5))) (eCut (eList (iVs [0, 12, 9])) (eCall [(eVar 0)] (bLenB al (script.map .int))) (eVal .none)) oAdd [some (.base al), none, none, none, none, none, none, none, none, none] [] =
      some (.ref 3, [.list ((script.take 5).map .int), .list [.int 0, .int 12, .int 9], .list ((([0, 12, 9] : List Int).drop script.length).map .int), .list ((numsOf script).map .int)]) := by
    have hl : (script.map V.int).length ≤ 1000000 := by simp; omega
    have c1 : eCutB al (script.map .int) (eVar 0) (eVal .none) (eVal (.int 5)) [some (.base al), none, none, none, none, none, none, none, none, none] [] = some (.ref 0, [.list ((script.take 5).map .int)]) := by
      have : cut (script.map V.int) none (some 5) = (script.take 5).map .int := by
        unfold cut
        have h5 : clipAt (script.map V.int).length 5 = min 5 (script.map V.int).length := clipAt_nat _ 5
        simp only [sFrom, sTo, Option.elim, List.drop_zero, Nat.sub_zero, h5, List.map_take]
        rw [← List.take_take, List.take_length]
      rw [← this]
      unfold eCutB
      rw [evar_of (v := .base al) [] rfl, Option.bind_some]
      show cutB al (script.map .int) (.base al) .none (.int 5) [] = _
      simp only [cutB, if_true, partV, Option.bind_some, if_pos hl]
      rfl
    have c2 : eCut (eList (iVs [0, 12, 9])) (eCall [(eVar 0)] (bLenB al (script.map .int))) (eVal .none) [some (.base al), none, none, none, none, none, none, none, none, none] [.list ((script.take 5).map .int)] =
        some (.ref 2, [.list ((script.take 5).map .int), .list [.int 0, .int 12, .int 9], .list ((([0, 12, 9] : List Int).drop script.length).map .int)]) := by
      have l1 : eList (iVs [0, 12, 9]) [some (.base al), none, none, none, none, none, none, none, none, none] [.list ((script.take 5).map .int)] = some (.ref 1, [.list ((script.take 5).map .int), .list [.int 0, .int 12, .int 9]]) := eList_ints _ _ _
      have l2 : eCall [(eVar 0)] (bLenB al (script.map .int)) [some (.base al), none, none, none, none, none, none, none, none, none] [.list ((script.take 5).map .int), .list [.int 0, .int 12, .int 9]] = some (.int (script.length : Int), [.list ((script.take 5).map .int), .list [.int 0, .int 12, .int 9]]) := by
        rw [ecall1 (a := .base al) (H₁ := [.list ((script.take 5).map .int), .list [.int 0, .int 12, .int 9]]) rfl]
        have hl' : al = al ∧ (script.map V.int).length < 1000000000 := ⟨rfl, by simp; omega⟩
        show (if al = al ∧ (script.map V.int).length < 1000000000 then some (V.int ((script.map V.int).length : Int), _) else none) = _
        rw [if_pos hl', List.length_map]
      rw [ecut_of l1 l2 (c := .none) rfl]
      have h2 : ([O.list ((script.take 5).map .int), .list [.int 0, .int 12, .int 9]] : Hp)[1]? = some (.list [.int 0, .int 12, .int 9]) := rfl
      have h3 : ([V.int 0, .int 12, .int 9] : List V).length ≤ 1000000 := by simp
      simp only [cutV, h2, partV, Option.bind_some, if_pos h3]
      have : cut [V.int 0, .int 12, .int 9] (some (script.length : Int)) none = (([0, 12, 9] : List Int).drop script.length).map .int := by
        unfold cut
        simp only [sFrom, sTo, Option.elim, clipAt_nat]
        rw [List.map_drop, List.take_of_length_le (by simp)]
        show [V.int 0, .int 12, .int 9].drop (min script.length 3) = [V.int 0, .int 12, .int 9].drop script.length
        by_cases h : script.length ≤ 3
        · rw [Nat.min_eq_left h]
        · rw [Nat.min_eq_right (by omega), List.drop_eq_nil_of_le (by simp), List.drop_eq_nil_of_le (by simp; omega)]
      rw [this]; rfl
    rw [bind2_of c1 c2]
    have h1 : ([O.list ((script.take 5).map .int), .list [.int 0, .int 12, .int 9], .list ((([0, 12, 9] : List Int).drop script.length).map .int)] : Hp)[0]? = some (.list ((script.take 5).map .int)) := rfl
    have h3 : ([O.list ((script.take 5).map .int), .list [.int 0, .int 12, .int 9], .list ((([0, 12, 9] : List Int).drop script.length).map .int)] : Hp)[2]? = some (.list ((([0, 12, 9] : List Int).drop script.length).map .int)) := rfl
    have hsz : ((script.take 5).map V.int).length + ((([0, 12, 9] : List Int).drop script.length).map V.int).length ≤ 1000000 := by simp; omega
    simp only [oAdd, h1, h3, if_pos hsz]
    unfold numsOf
    rw [List.map_append]
    rfl
  generalize hns : numsOf script = ns at *
  generalize hH1 : [O.list ((script.take 5).map V.int), .list [.int 0, .int 12, .int 9], .list ((([0, 12, 9] : List Int).drop script.length).map .int), .list (ns.map .int)] = H1 at e1
  have h14 : H1[3]? = some (.list (ns.map .int)) := by rw [← hH1]; rfl
  have h1l : H1.length = 4 := by rw [← hH1]; rfl
  obtain ⟨pcs, f1, f2, f3, f4⟩ := pieces_codes ns false
  have hpr : pieceRows false ns = pcs.map fun q => [V.str (S [q.1]), V.str (S q.2)] := by
    unfold pieceRows; rw [f1, List.map_map]; rfl
  have e2 := C.pcs ns 3 H1 h14 (by omega)
  rw [hpr, List.length_map, h1l] at e2
  generalize hH2 : (H1 ++ (pcs.map fun q => [V.str (S [q.1]), V.str (S q.2)]).map O.list) ++ [O.list (refsFrom 4 pcs.length)] = H2 at e2
  have x : PcIn (4 + pcs.length) ((List.range pcs.length).map fun i => 4 + i) pcs H2 := by
    refine ⟨?_, ?_⟩
    · rw [← hH2, List.getElem?_append_right (by simp [h1l])]
      simp [h1l, refsFrom, List.map_map]
    · have := paired_range 4 (pcs.map fun q => (V.str (S [q.1]), V.str (S q.2))) H2 fun i ab hi => by
        rw [List.getElem?_map, Option.map_eq_some_iff] at hi
        obtain ⟨q, hq, rfl⟩ := hi
        have hil : i < pcs.length := (List.getElem?_eq_some_iff.mp hq).1
        rw [← hH2, List.getElem?_append_left (by simp [h1l]; omega), List.getElem?_append_right (by omega), h1l]
        simp [hq]
      rw [List.length_map] at this
      exact this
  have lT : (pcs.map (·.1)).length = ns.length := by rw [List.length_map, f2]
  have f4' : (pcs.map (·.2)).flatten.length ≤ ns.length + 1 := by simpa using f4
  have hbr := br_same f3
  have mT : ∀ c ∈ pcs.map (·.1), c ∈ metL := fun c hc => by
    obtain ⟨q, hq, rfl⟩ := List.mem_map.mp hc
    exact (tab_met (f3 q hq)).1
  have mP : ∀ c ∈ (pcs.map (·.2)).flatten, c ∈ metL := fun c hc => by
    obtain ⟨l, hl, hcl⟩ := List.mem_flatten.mp hc
    obtain ⟨q, hq, rfl⟩ := List.mem_map.mp hl
    exact (tab_met (f3 q hq)).2 c hcl
  obtain ⟨M, hMx⟩ : ∃ M, M = max (pcs.map (·.1)).length (pcs.map (·.2)).flatten.length := ⟨_, rfl⟩
  have hM : M = 3 ∨ M = 4 ∨ M = 5 ∨ M = 6 := by omega
  obtain ⟨r1, ⟨tl, r2⟩, r3⟩ := rows_facts hM
  have htl : ∀ r ∈ [] :: tl, r.all isBr = true ∧ r.length ≤ 6 := fun r hr => by
    rw [← r2] at hr
    exact r1 r (List.mem_filter.mp hr).1
  have htl2 : tl.length ≤ 100 := by
    have : (takenN M).length ≤ (rowsN M).length := List.length_filter_le ..
    rw [r2, List.length_cons] at this
    omega
  have n0 : NearOk (pcs.map (·.1)) tl 0 := ⟨mT, by omega, fun r hr => htl r (by simp [hr]), htl2, by
    refine near_fold (fun r hr => (htl r hr).1) ?_
    rw [← r2, lT]
    exact nearT ⟨L3, L5⟩ (by omega)⟩
  have n1 : NearOk (pcs.map (·.2)).flatten tl 1 := ⟨mP, by omega, fun r hr => htl r (by simp [hr]), htl2, by
    refine near_fold (fun r hr => (htl r hr).1) ?_
    rw [← r2]
    exact nearP hM (by omega) (by omega)⟩
  obtain ⟨ρ', H', e3⟩ := lw2_ok C (lw3 h_chk h_near h_rows h_stk) f3 (by omega) (by omega) (some (.base al)) (some (.ref 3)) none none none none none none none
    (fun o3 H => law3_ok C _ _ M hM hMx (met_plain mT) (met_plain mP) hbr tl r2 r1 r3 n0 n1 _ _ _ _ _ _ _ _ H) H2 x
  refine ⟨H', run_of (ρ' := ρ') rfl ?_⟩
  rw [law_eq]
  refine (seq_of (assign_of e1)).trans ?_
  refine (seq_of (assign_of ((ecall1 (a := .ref 3) (H₁ := H1) rfl).trans e2))).trans ?_
  exact e3
end
end Mine
end

/-! part P32 -/
section
set_option maxRecDepth 100000
set_option linter.unusedVariables false
open PySem PyProof.Rows
namespace Mine
open Classical in
noncomputable def specOf (C : List V → Prop) (F : List V → Res) : List V → Option Res := fun vs => if C vs then some (F vs) else none
open Classical in
noncomputable def specOf1 (C : List V → List V → Prop) (F : List V → List V → Res) : List V → List V → Option Res := fun vs xs => if C vs xs then some (F vs xs) else none
theorem specOf_some {C : List V → Prop} {F : List V → Res} {vs : List V} {r : Res} (h : specOf C F vs = some r) : C vs ∧ r = F vs := by
  unfold specOf at h
  split at h
  · exact ⟨by assumption, (Option.some.inj h).symm⟩
  · cases h
theorem specOf_of {C : List V → Prop} {F : List V → Res} {vs : List V} (h : C vs) : specOf C F vs = some (F vs) := by unfold specOf; rw [if_pos h]
theorem specOf1_some {C : List V → List V → Prop} {F : List V → List V → Res} {vs xs : List V} {r : Res} (h : specOf1 C F vs xs = some r) : C vs xs ∧ r = F vs xs := by
  unfold specOf1 at h
  split at h
  · exact ⟨by assumption, (Option.some.inj h).symm⟩
  · cases h
theorem specOf1_of {C : List V → List V → Prop} {F : List V → List V → Res} {vs xs : List V} (h : C vs xs) : specOf1 C F vs xs = some (F vs xs) := by unfold specOf1; rw [if_pos h]
theorem call_of {C : List V → Prop} {F : List V → Res} {vs : List V} {H : Hp} (h : C vs) : specCall (specOf C F) vs H = some (resV H (F vs), resH H (F vs)) := by
  unfold specCall; rw [specOf_of h]; rfl

noncomputable def strA (v : V) : List Nat := match v with | .str x => x.cps.toList | _ => []
noncomputable def intA (v : V) : Int := match v with | .int i => i | _ => 0
theorem strA_S (l : List Nat) : strA (.str (S l)) = l := S_cps l

-- sign
noncomputable def cSign (vs : List V) : Prop := ∃ k w, vs = [.int k, .int w] ∧ 0 ≤ k ∧ k ≤ 4
noncomputable def fSign (vs : List V) : Res := .val (.str (signOf (intA (vs.getD 0 .none)) (intA (vs.getD 1 .none))))
theorem sign_run (k w : Int) (h0 : 0 ≤ k) (h4 : k ≤ 4) : ∃ H', Mine.run g_law_sign 2 1 [.int k, .int w] [] = some (.str (signOf k w), H') := by
  have h : runSign k w = some (.str (signOf k w)) := by
    have hk : k = 0 ∨ k = 1 ∨ k = 2 ∨ k = 3 ∨ k = 4 := by omega
    rcases hk with rfl | rfl | rfl | rfl | rfl
    · exact run_sign0 w
    · exact run_sign1 w
    · exact run_sign2 w
    · exact run_sign3 w
    · exact run_sign4 w
  obtain ⟨⟨v, H'⟩, e1, e2⟩ := Option.map_eq_some_iff.mp h
  cases e2
  exact ⟨H', e1⟩
-- octets
theorem digs_scal : ∀ (n : Nat) (c : Int) (ds : List V), ds.all scal = true → (digs n c ds).all scal = true
  | 0, c, ds, h => h
  | n + 1, c, ds, h => by
    rw [digs]
    split
    · exact digs_scal n _ _ (by simp [h, scal])
    · exact h
theorem octs_scal (x : Str) : (octsOf x).all scal = true := by
  unfold octsOf
  rw [List.all_eq_true]
  intro v hv
  obtain ⟨c, _, hc⟩ := List.mem_flatMap.mp hv
  exact List.all_eq_true.mp (digs_scal 3 (c : Int) [V.int ((c : Int).fmod 64)] rfl) v hc
noncomputable def cOct (vs : List V) : Prop := ∃ t : List Nat, vs = [.str (S t)] ∧ (∀ c ∈ t, c < 64 * 64 ^ 3) ∧ t.length ≤ 200
noncomputable def fOct (vs : List V) : Res := .list (octsOf (S (strA (vs.getD 0 .none))))
-- rows
noncomputable def cRows (vs : List V) : Prop := ∃ M : Nat, vs = [.int (M : Int)] ∧ (M = 3 ∨ M = 4 ∨ M = 5 ∨ M = 6)
noncomputable def fRows (vs : List V) : Res := .list (strsV (rowsN (intA (vs.getD 0 .none)).toNat))
theorem strsV_rows (M : Nat) : strsV (rowsN M) = (rowsS M).map .str := by
  unfold strsV rowsN
  rw [List.map_map]
  refine List.map_congr_left fun x _ => ?_
  show V.str (S x.cps.toList) = _
  rw [S_of]
theorem strsV_scal (ls : List (List Nat)) : (strsV ls).all scal = true := by
  rw [List.all_eq_true]
  intro v hv
  obtain ⟨l, _, rfl⟩ := List.mem_map.mp hv
  rfl
-- texts
noncomputable def cChk (vs : List V) : Prop := ∃ t : List Nat, vs = [.str (S t)] ∧ t.all (fun c => c != 92 && c != 34) = true ∧ t.length ≤ 100
noncomputable def fBal (vs : List V) : Res := .val (.bool (balGo 0 ((strA (vs.getD 0 .none)).filter isBr)))
noncomputable def cStk (vs : List V) : Prop := ∃ t : List Nat, vs = [.str (S t)] ∧ (t.filter isBr).length ≤ 6 ∧ t.length ≤ 100
noncomputable def cFew (vs : List V) : Prop := ∃ t : List Nat, vs = [.str (S t)] ∧ t.length ≤ 6
noncomputable def fFew (vs : List V) : Res := .val (.int (fewC (strA (vs.getD 0 .none)) : Int))
noncomputable def cLev (vs : List V) : Prop := ∃ (r t : List Nat) (m : Nat), vs = [.str (S r), .str (S t), .int (m : Int)] ∧ r.all isBr = true ∧ r.length ≤ 6 ∧ (∀ c ∈ t, c ∈ metL) ∧ t.length ≤ 6
noncomputable def fLev (vs : List V) : Res := .val (.int (levC (strA (vs.getD 0 .none)) (strA (vs.getD 1 .none)) (intA (vs.getD 2 .none)).toNat : Int))
noncomputable def cNear (vs xs : List V) : Prop := ∃ (t : List Nat) (rows : List (List Nat)) (more : Nat), vs = [.str (S t), .ref 0, .int (more : Int)] ∧ xs = strsV ([] :: rows) ∧ NearOk t rows more
noncomputable def cPcs (vs xs : List V) : Prop := ∃ ns : List Int, vs = [.ref 0] ∧ xs = ns.map .int ∧ ns.length ≤ 900
noncomputable def fPcs (vs xs : List V) : Res := .lists (pieceRows false ((intsOf xs).getD []))
theorem intsOf_map : ∀ ns : List Int, intsOf (ns.map .int) = some ns
  | [] => rfl
  | n :: ns => by
    show (intsOf (ns.map .int)).map _ = _
    rw [intsOf_map ns]; rfl
theorem fewC_small (t : List Nat) (h : t.length ≤ 6) : fewC t ≤ 400 := by
  have key : ∀ (cs l : List Nat) (b : Nat), (∀ x ∈ l, x ≤ b) → 99 ≤ b → ∀ x ∈ cs.foldl (fun l c => fwStep c l) l, x ≤ b + cs.length := by
    intro cs
    induction cs with
    | nil => intro l b h _ x hx; exact h x hx
    | cons c cs ih =>
      intro l b h hb x hx
      rw [List.foldl_cons] at hx
      have := ih (fwStep c l) (b + 1) (fun y hy => by
        rw [fwStep_eq] at hy
        obtain ⟨i, hi, rfl⟩ := List.mem_map.mp hy
        have hi' : i < l.length := by simpa using hi
        unfold fwAt
        have h1 : l.getD i 0 ≤ b := by
          rw [List.getD_eq_getElem?_getD, List.getElem?_eq_getElem hi']
          exact h _ (List.getElem_mem hi')
        exact Nat.le_trans (Nat.min_le_right _ _) (by omega)) (by omega) x hx
      rw [List.length_cons]
      omega
  have hlen : ∀ (cs l : List Nat), (cs.foldl (fun l c => fwStep c l) l).length = l.length := by
    intro cs
    induction cs with
    | nil => intro l; rfl
    | cons c cs ih => intro l; rw [List.foldl_cons, ih, fwStep_len]
  unfold fewC
  have h0 := key t (0 :: List.replicate t.length 99) 99 (fun x hx => by
    rcases List.mem_cons.mp hx with rfl | hx
    · omega
    · rw [(List.mem_replicate.mp hx).2]; exact Nat.le_refl _) (Nat.le_refl _)
  have hl := hlen t (0 :: List.replicate t.length 99)
  generalize t.foldl (fun l c => fwStep c l) (0 :: List.replicate t.length 99) = l at h0 hl
  cases l with
  | nil => simp at hl
  | cons x l =>
    show x ≤ 400
    have := h0 x (by simp)
    omega
end Mine
end

/-! part P33 -/
section
set_option maxRecDepth 100000
set_option linter.unusedVariables false
open PySem PyProof.Rows
namespace Mine
theorem levC_nil (t : List Nat) (mx : Nat) : levC [] t mx = 2 * t.length := by
  rw [levC_eq (a1 := []) (b1 := t) (a2 := []) (b2 := t.reverse) mx (by cases t <;> rfl) (by cases t.reverse <;> rfl)]
  show 2 * t.reverse.reverse.length = _
  rw [List.reverse_reverse]
theorem met_cost {c x : Nat} (hc : c ∈ metL) (hx : isBr x = true) : okLow (S [c]) = true ∧ cost (S [c]) (S [x]) = (cst c x : Int) ∧ cost (S [x]) (S [c]) = (cst x c : Int) := by
  have := List.all_eq_true.mp met_ok c hc
  simp only [metOk, Bool.and_eq_true, List.all_cons, List.all_nil, beq_iff_eq] at this
  obtain ⟨⟨⟨h1, ⟨h2, h3⟩, ⟨h4, h5⟩, _⟩, _⟩, _⟩ := this
  rcases br_cases hx with rfl | rfl
  · exact ⟨h1, h2, h3⟩
  · exact ⟨h1, h4, h5⟩
theorem br_met {x : Nat} (hx : isBr x = true) : x ∈ metL := by rcases br_cases hx with rfl | rfl <;> decide
section
variable {w : World} {B : Heap} {k : Nat}
theorem sign_ok {f : Value} (h : CallOk PW w B k f (Mine.run g_law_sign 2 1)) : CallOk PW w B k f (specCall (specOf cSign fSign)) := h.loc fun vs r e => by
  obtain ⟨⟨kk, ww, rfl, h0, h4⟩, rfl⟩ := specOf_some e
  obtain ⟨H', e'⟩ := sign_run kk ww h0 h4
  exact ⟨rfl, _, H', e', rfl, rfl⟩
theorem sign_at (kk ww : Int) (H : Hp) (h0 : 0 ≤ kk) (h4 : kk ≤ 4) : specCall (specOf cSign fSign) [.int kk, .int ww] H = some (.str (signOf kk ww), H) := call_of ⟨kk, ww, rfl, h0, h4⟩
theorem oct_ok {f : Value} (h : CallOk PW w B k f (Mine.run g_law_octets 1 4)) : CallOk PW w B k f (specCall (specOf cOct fOct)) := h.loc fun vs r e => by
  obtain ⟨⟨t, rfl, h1, h2⟩, rfl⟩ := specOf_some e
  obtain ⟨H', e1, e2⟩ := run_octets (S t) (by rw [S_cps]; exact h1) (by rw [S_cps]; exact h2)
  refine ⟨rfl, _, H', e1, 0, rfl, Nat.le_refl _, ?_, octs_scal _⟩
  rw [e2]
  show some (O.list (octsOf (S t))) = some (.list (octsOf (S (strA (.str (S t))))))
  rw [strA_S]
theorem oct_at (t : List Nat) (H : Hp) (h1 : ∀ c ∈ t, c < 64 * 64 ^ 3) (h2 : t.length ≤ 200) : specCall (specOf cOct fOct) [.str (S t)] H = some (.ref H.length, H ++ [.list (octsOf (S t))]) := by
  rw [call_of ⟨t, rfl, h1, h2⟩]
  show some (V.ref H.length, H ++ [.list (octsOf (S (strA (.str (S t)))))]) = _
  rw [strA_S]
theorem rows_ok {f : Value} (h : CallOk PW w B k f (Mine.run g_law_rows 1 3)) : CallOk PW w B k f (specCall (specOf cRows fRows)) := h.loc fun vs r e => by
  obtain ⟨⟨M, rfl, hM⟩, rfl⟩ := specOf_some e
  have hr : rowsRun (M : Int) = some (.list ((rowsS M).map .str)) := by
    rcases hM with rfl | rfl | rfl | rfl
    · exact rows_3
    · exact rows_4
    · exact rows_5
    · exact rows_6
  obtain ⟨⟨v, H'⟩, e1, e2⟩ := Option.bind_eq_some_iff.mp hr
  cases v with
  | ref j =>
    refine ⟨rfl, _, H', e1, j, rfl, Nat.zero_le _, ?_, strsV_scal _⟩
    refine Eq.trans e2 ?_
    show some (O.list ((rowsS M).map .str)) = some (.list (strsV (rowsN ((M : Int)).toNat)))
    rw [Int.toNat_natCast, strsV_rows]
  | none => cases e2
  | bool => cases e2
  | int => cases e2
  | str => cases e2
  | typ => cases e2
  | base => cases e2
theorem rows_at (M : Nat) (H : Hp) (hM : M = 3 ∨ M = 4 ∨ M = 5 ∨ M = 6) : specCall (specOf cRows fRows) [.int (M : Int)] H = some (.ref H.length, H ++ [.list (strsV (rowsN M))]) := by
  rw [call_of ⟨M, rfl, hM⟩]; rfl
theorem chk_ok {f : Value} (h : CallOk PW w B k f (Mine.run (g_check_parenthesis (Mine.run g_strip 1 0)) 1 3)) : CallOk PW w B k f (specCall (specOf cChk fBal)) := h.loc fun vs r e => by
  obtain ⟨⟨t, rfl, h1, h2⟩, rfl⟩ := specOf_some e
  have h92 : t.all (· != 92) = true := by
    rw [List.all_eq_true] at h1 ⊢
    intro c hc
    have := h1 c hc
    rw [Bool.and_eq_true] at this
    exact this.1
  have h34 : strIn (Str.ofString "\"") (S t) = false := by
    have : Str.ofString "\"" = S [34] := by decide +kernel
    rw [this, strIn_one, decide_eq_false_iff_not]
    intro hm
    have := List.all_eq_true.mp h1 34 hm
    simp at this
  obtain ⟨H', e'⟩ := run_check (Mine.run g_strip 1 0) t (fun H => run_strip (S t) H h34) h92
  refine ⟨rfl, _, H', e', ?_, rfl⟩
  show V.bool _ = V.bool (balGo 0 ((strA (.str (S t))).filter isBr))
  rw [strA_S]
theorem chk_at (t : List Nat) (H : Hp) (h1 : t.all (fun c => c != 92 && c != 34) = true) (h2 : t.length ≤ 100) : specCall (specOf cChk fBal) [.str (S t)] H = some (.bool (balGo 0 (t.filter isBr)), H) := by
  rw [call_of ⟨t, rfl, h1, h2⟩]
  show some (V.bool (balGo 0 ((strA (.str (S t))).filter isBr)), H) = _
  rw [strA_S]
theorem stk_ok {f : Value} (h : CallOk PW w B k f (Mine.run g_law_struck 1 1)) : CallOk PW w B k f (specCall (specOf cStk fBal)) := h.loc fun vs r e => by
  obtain ⟨⟨t, rfl, h1, h2⟩, rfl⟩ := specOf_some e
  obtain ⟨H', e'⟩ := run_struck t h1 (by omega)
  refine ⟨rfl, _, H', e', ?_, rfl⟩
  show V.bool _ = V.bool (balGo 0 ((strA (.str (S t))).filter isBr))
  rw [strA_S]
theorem stk_at (t : List Nat) (H : Hp) (h1 : (t.filter isBr).length ≤ 6) (h2 : t.length ≤ 100) : specCall (specOf cStk fBal) [.str (S t)] H = some (.bool (balGo 0 (t.filter isBr)), H) := by
  rw [call_of ⟨t, rfl, h1, h2⟩]
  show some (V.bool (balGo 0 ((strA (.str (S t))).filter isBr)), H) = _
  rw [strA_S]
theorem few_ok {f : Value} (h : CallOk PW w B k f (Mine.run g_law_fewest 1 6)) : CallOk PW w B k f (specCall (specOf cFew fFew)) := h.loc fun vs r e => by
  obtain ⟨⟨t, rfl, h1⟩, rfl⟩ := specOf_some e
  obtain ⟨H', e'⟩ := run_few t (by omega)
  refine ⟨rfl, _, H', e', ?_, rfl⟩
  show V.int _ = V.int (fewC (strA (.str (S t))) : Int)
  rw [strA_S]
theorem few_at (t : List Nat) (H : Hp) (h1 : t.length ≤ 6) : specCall (specOf cFew fFew) [.str (S t)] H = some (.int (fewC t : Int), H) := by
  rw [call_of ⟨t, rfl, h1⟩]
  show some (V.int (fewC (strA (.str (S t))) : Int), H) = _
  rw [strA_S]
theorem lev_ok {f : Value} (h : CallOk PW w B k f (Mine.run (g_levenshtein_distance (Mine.run g_substitution_cost 2 0)) 3 11)) : CallOk PW w B k f (specCall (specOf cLev fLev)) := h.loc fun vs r e => by
  obtain ⟨⟨a, t, m, rfl, h1, h2, h3, h4⟩, rfl⟩ := specOf_some e
  obtain ⟨H', e'⟩ := run_lev (Mine.run g_substitution_cost 2 0) a t m (by omega) (by omega) fun c x hcx H => by
    rcases hcx with ⟨hc, hx⟩ | ⟨hc, hx⟩
    · have hb := List.all_eq_true.mp h1 c hc
      obtain ⟨o1, o2, o3⟩ := met_cost (h3 x hx) hb
      rw [run_cost _ _ H (met_cost (br_met hb) hb).1 o1, o3]
    · have hb := List.all_eq_true.mp h1 x hx
      obtain ⟨o1, o2, o3⟩ := met_cost (h3 c hc) hb
      rw [run_cost _ _ H o1 (met_cost (br_met hb) hb).1, o2]
  refine ⟨rfl, _, H', e', ?_, rfl⟩
  show V.int _ = V.int (levC (strA (.str (S a))) (strA (.str (S t))) ((m : Int)).toNat : Int)
  rw [strA_S, strA_S, Int.toNat_natCast]
theorem lev_at (a t : List Nat) (m : Nat) (H : Hp) (h1 : a.all isBr = true) (h2 : a.length ≤ 6) (h3 : ∀ c ∈ t, c ∈ metL) (h4 : t.length ≤ 6) : specCall (specOf cLev fLev) [.str (S a), .str (S t), .int (m : Int)] H = some (.int (levC a t m : Int), H) := by
  rw [call_of ⟨a, t, m, rfl, h1, h2, h3, h4⟩]
  show some (V.int (levC (strA (.str (S a))) (strA (.str (S t))) ((m : Int)).toNat : Int), H) = _
  rw [strA_S, strA_S, Int.toNat_natCast]
theorem near_ok {f : Value} (h : CallOk PW w B k f (Mine.run (g_law_nearest (specCall (specOf cFew fFew)) (specCall (specOf cLev fLev))) 3 2)) : CallOk PW w B k f (specCall1 1 (specOf1 cNear fun _ _ => .val (.bool true))) := h.loc1 fun vs xs r e => by
  obtain ⟨⟨t, rows, more, rfl, rfl, N⟩, rfl⟩ := specOf1_some e
  obtain ⟨H', e1, e2⟩ := run_nearest (specCall (specOf cFew fFew)) (specCall (specOf cLev fLev)) t rows (fewC t) more (fewC_small t N.len) (by have := N.few; omega) (fun H => few_at t H N.len)
    (fun r hr H => by
      rcases List.mem_cons.mp hr with rfl | hr
      · exact lev_at [] t _ H rfl (Nat.zero_le _) N.met N.len
      · exact lev_at r t _ H (N.br r hr).1 (N.br r hr).2 N.met N.len) (by rw [levC_nil]; have := N.len; omega) N.fold
  exact ⟨rfl, strsV_scal _, _, H', e1, e2, rfl, rfl⟩
theorem near_at (t : List Nat) (rows : List (List Nat)) (more a : Nat) (H : Hp) (ha : H[a]? = some (.list (strsV ([] :: rows)))) (N : NearOk t rows more) :
    specCall1 1 (specOf1 cNear fun _ _ => .val (.bool true)) [.str (S t), .ref a, .int (more : Int)] H = some (.bool true, H) := by
  have e : specOf1 cNear (fun _ _ => Res.val (.bool true)) [.str (S t), .ref 0, .int (more : Int)] (strsV ([] :: rows)) = some (.val (.bool true)) := specOf1_of ⟨t, rows, more, rfl, rfl, N⟩
  show (match H[a]? with | some (.list xs) => (specOf1 cNear (fun _ _ => Res.val (.bool true)) [.str (S t), .ref 0, .int (more : Int)] xs).map (fun r => (resV H r, resH H r)) | _ => none) = _
  rw [ha]
  dsimp only
  rw [e]; rfl
theorem pcs_ok {f : Value} (h : CallOk PW w B k f (Mine.run (g_law_pieces (specCall (specOf cSign fSign))) 1 6)) : CallOk PW w B k f (specCall1 0 (specOf1 cPcs fPcs)) := h.loc1 fun vs xs r e => by
  obtain ⟨⟨ns, rfl, rfl, hl⟩, rfl⟩ := specOf1_some e
  obtain ⟨H', e1, e2, e3⟩ := run_pieces (specCall (specOf cSign fSign)) ns hl fun kk ww H h0 h4 => sign_at kk ww H h0 h4
  refine ⟨rfl, ?_, _, H', e1, e2, ?_⟩
  · rw [List.all_eq_true]
    intro v hv
    obtain ⟨n, _, rfl⟩ := List.mem_map.mp hv
    rfl
  · show Reads H' 1 (.ref 1) (.lists (pieceRows false ((intsOf (ns.map .int)).getD [])))
    rw [intsOf_map]
    exact e3
theorem pcs_at (ns : List Int) (a : Nat) (H : Hp) (ha : H[a]? = some (.list (ns.map .int))) (hl : ns.length ≤ 900) :
    specCall1 0 (specOf1 cPcs fPcs) [.ref a] H = some (.ref (H.length + (pieceRows false ns).length), (H ++ (pieceRows false ns).map .list) ++ [.list (refsFrom H.length (pieceRows false ns).length)]) := by
  have e : specOf1 cPcs fPcs [.ref 0] (ns.map .int) = some (.lists (pieceRows false ns)) := by
    rw [specOf1_of ⟨ns, rfl, rfl, hl⟩]
    show some (Res.lists (pieceRows false ((intsOf (ns.map .int)).getD []))) = _
    rw [intsOf_map]; rfl
  show (match H[a]? with | some (.list xs) => (specOf1 cPcs fPcs [.ref 0] xs).map (fun r => (resV H r, resH H r)) | _ => none) = _
  rw [ha]
  dsimp only
  rw [e]; rfl
theorem lawC : LawC (specCall (specOf cChk fBal)) (specCall1 1 (specOf1 cNear fun _ _ => .val (.bool true))) (specCall (specOf cOct fOct)) (specCall1 0 (specOf1 cPcs fPcs)) (specCall (specOf cRows fRows)) (specCall (specOf cStk fBal))
    (Mine.run (gin_table_b1 (setS setNs)) 1 0) (Mine.run (gmap_table_b3 tbN) 1 1) :=
  ⟨fun ns a H => pcs_at ns a H, fun t H => oct_at t H, fun M H => rows_at M H, fun t H => chk_at t H, fun t H => stk_at t H, fun t rows more a H => near_at t rows more a H,
    fun c H => run_b1 (setS setNs) (S [c]) H rfl, fun c H h => run_b3 tbN (S [c]) H rfl h⟩
end
end Mine
end

/-! part P34 -/
section
set_option maxRecDepth 100000
set_option linter.unusedVariables false
open PySem PyProof.Rows
namespace Mine
noncomputable def FnE (B : Heap) (mg : Str → Option Value) (name : Str) (i : Nat) : Prop := ∃ a, mg name = some (.ref a) ∧ FnAt B a name (fnArgs i) (fnBody i) (fnScope i)
structure Env0 (w : World) (B : Heap) (mg : Str → Option Value) : Prop where
  G : GF B mg
  esc : FnE B mg "_iter_escaped_chars" 1
  strip : FnE B mg "_strip_quoted_realnames" 2
  check : FnE B mg "_check_parenthesis" 3
  varint : FnE B mg "_parse_varint" 5
  b1 : FnE B mg "in_table_b1" 8
  b3 : FnE B mg "map_table_b3" 10
  cost : FnE B mg "_substitution_cost" 15
  lev : FnE B mg "_levenshtein_distance" 16
  sign : FnE B mg "_law_sign" 18
  pieces : FnE B mg "_law_pieces" 19
  octets : FnE B mg "_law_octets" 20
  struck : FnE B mg "_law_struck" 21
  fewest : FnE B mg "_law_fewest" 22
  rows : FnE B mg "_law_rows" 23
  nearest : FnE B mg "_law_nearest" 24
  law : FnE B mg "law" 25
  cmax : ∃ t, mg "_MAX_STRING_SIZE" = some (.int 40 t)
  cmove : ∃ t, mg "_MOVE_COST" = some (.int 2 t)
  ccase : ∃ t, mg "_CASE_COST" = some (.int 1 t)
  set : ∃ aS nS, mg "b1_set" = some (.ref aS) ∧ ∀ h : Heap, (∀ b o, B.get? b = some o → h.get? b = some o) → h.SetOf (intKind PW w) aS (setS setNs) nS
  tab : ∃ aT, mg "b3_exceptions" = some (.ref aT) ∧ (∀ h : Heap, (∀ b o, B.get? b = some o → h.get? b = some o) → ∃ F, h.MapOf (intKind PW w) aT F ∧ ∀ i, (tbN i = Option.none → F i = Option.none) ∧ ∀ y, tbN i = some y → ∃ t, F i = some (.str y t)) ∧ (aT == sysModules) = false
  nlen : NameIs mg "len" (.builtin "len")
  nord : NameIs mg "ord" (.builtin "ord")
  nchr : NameIs mg "chr" (.builtin "chr")
  nmin : NameIs mg "min" (.builtin "min")
  nmax : NameIs mg "max" (.builtin "max")
  niter : NameIs mg "iter" (.builtin "iter")
  nnext : NameIs mg "next" (.builtin "next")
  nisinstance : NameIs mg "isinstance" (.builtin "isinstance")
  nlist : NameIs mg "list" (.type "list")
  nrange : NameIs mg "range" (.type "range")
  nbool : NameIs mg "bool" (.type "bool")
  nenum : NameIs mg "enumerate" (.type "enumerate")
theorem law_callok {w : World} {B : Heap} {mg : Str → Option Value} (E : Env0 w B mg) {al : Addr} {script : List Int} (hBL : BaseL B al (script.map .int)) (hs : script.length ≤ 1000) : ∃ a, mg "law" = some (.ref a) ∧ FnAt B a "law" (fnArgs 25) (fnBody 25) (fnScope 25) ∧ ∃ h, CallOk PW w B 4 (.ref a) h ∧ ∃ H', h [.base al] [] = some (.bool true, H') := by
  obtain ⟨a1, x1, F1⟩ := E.esc
  obtain ⟨a2, x2, F2⟩ := E.strip
  obtain ⟨a3, x3, F3⟩ := E.check
  obtain ⟨a5, x5, F5⟩ := E.varint
  obtain ⟨a8, x8, F8⟩ := E.b1
  obtain ⟨a10, x10, F10⟩ := E.b3
  obtain ⟨a15, x15, F15⟩ := E.cost
  obtain ⟨a16, x16, F16⟩ := E.lev
  obtain ⟨a18, x18, F18⟩ := E.sign
  obtain ⟨a19, x19, F19⟩ := E.pieces
  obtain ⟨a20, x20, F20⟩ := E.octets
  obtain ⟨a21, x21, F21⟩ := E.struck
  obtain ⟨a22, x22, F22⟩ := E.fewest
  obtain ⟨a23, x23, F23⟩ := E.rows
  obtain ⟨a24, x24, F24⟩ := E.nearest
  obtain ⟨a25, x25, F25⟩ := E.law
  obtain ⟨aS, nS, xS, hS⟩ := E.set
  obtain ⟨aT, xT, hT, hM⟩ := E.tab
  have c2 : CallOk PW w B 2 (.ref a2) (Mine.run g_strip 1 0) := c_strip E.G F2
  have c3 : CallOk PW w B 3 (.ref a3) _ := chk_ok (c_check_parenthesis (k := 0) E.G F3 (.inl x1) F1 E.nenum (.inl x2) F2.callee c2)
  have c5 : CallOk PW w B 3 (.ref a5) _ := c_parse_varint E.G F5 E.nnext
  have c8 : CallOk PW w B 3 (.ref a8) _ := cin_table_b1 E.G F8 E.nord xS hS
  have c10 : CallOk PW w B 3 (.ref a10) _ := cmap_table_b3 E.G F10 E.nord xT hT hM
  have c15 : CallOk PW w B 1 (.ref a15) _ := c_substitution_cost E.G F15 E.ccase E.cmove
  have c16 : CallOk PW w B 2 (.ref a16) _ := lev_ok (c_levenshtein_distance E.G F16 (.inl x15) F15.callee c15 E.nlen E.nlist E.nmin E.nrange E.cmax E.cmove)
  have c18 : CallOk PW w B 2 (.ref a18) _ := sign_ok (c_law_sign E.G F18 E.nchr E.nlist E.nrange)
  have c19 : CallOk PW w B 3 (.ref a19) _ := pcs_ok (c_law_pieces E.G F19 (.inl x18) F18.callee c18)
  have c20 : CallOk PW w B 3 (.ref a20) _ := oct_ok (c_law_octets E.G F20 E.nord)
  have c21 : CallOk PW w B 3 (.ref a21) _ := stk_ok (c_law_struck E.G F21)
  have c22 : CallOk PW w B 2 (.ref a22) _ := few_ok (c_law_fewest E.G F22 E.nlen E.nmin E.nrange)
  have c23 : CallOk PW w B 3 (.ref a23) _ := rows_ok (c_law_rows E.G F23 E.nrange)
  have c24 : CallOk PW w B 3 (.ref a24) _ := near_ok (c_law_nearest E.G F24 (.inl x22) F22.callee c22 (.inl x16) F16.callee c16 E.nbool E.nisinstance E.nmin)
  refine ⟨a25, x25, F25, _, claw E.G hBL F25 (.inl x3) F3.callee c3 (.inl x24) F24.callee c24 (.inl x20) F20.callee c20 (.inl x19) F19.callee c19 (.inl x23) F23.callee c23 (.inl x21) F21.callee c21 (.inl x5) F5.callee c5 (.inl x8) F8.callee c8 (.inl x10) F10.callee c10 E.nchr E.niter E.nlen E.nlist E.nmax, ?_⟩
  exact run_law lawC al script hs
end Mine
end

/-! part J1 -/
section
set_option maxRecDepth 100000
set_option linter.unusedVariables false
open PySem PySem.W PyProof.Rows
namespace Mine
theorem FnAt.up {B B' : Heap} {a : Addr} {name : Str} {params : Arguments} {body : List Stmt} {scope : Scope} (x : FnAt B a name params body scope) (hk : ∀ b o, B.get? b = some o → B'.get? b = some o) : FnAt B' a name params body scope := by
  obtain ⟨o, pm, cd, doc, h1, h2, h3⟩ := x
  exact ⟨o, pm, cd, doc, hk _ _ h1, h2, h3.keeps hk⟩
theorem fact_of {w : World} {mg : Str → Option Value} {h : Heap} {Pl : Addr} (fs : Facts (ents w) mg h Pl) (i : Nat) {e : Ent} (hi : (ents w)[i]? = some e) (hu : (entNames.drop (i + 1)).contains e.x = false) : ∃ v, mg e.x = some v ∧ e.P h Pl v := by
  refine fs i e hi fun j e' hij hj hx => ?_
  have h1 : entNames[j]? = some e'.x := by rw [← ent_names w, List.getElem?_map, hj]; rfl
  have h2 : (entNames.drop (i + 1))[j - (i + 1)]? = some e'.x := by rw [List.getElem?_drop, show i + 1 + (j - (i + 1)) = j by omega]; exact h1
  have h3 := List.contains_iff_mem.mpr (List.mem_of_getElem? h2)
  rw [hx, hu] at h3
  cases h3
theorem kv_find : ∀ {cs : List (Int × Str)} {kvs : List (Int × Value)}, KVOf cs kvs → ∀ i : Int, (((cs.find? fun p => p.1 == i).map (·.2)) = none → ((kvs.find? fun kv => kv.1 = i).map (·.2)) = none) ∧ ∀ y, ((cs.find? fun p => p.1 == i).map (·.2)) = some y → ∃ t, ((kvs.find? fun kv => kv.1 = i).map (·.2)) = some (.str y t)
  | _, _, .nil, i => ⟨fun _ => rfl, fun y h => by cases h⟩
  | (c, x) :: cs, (k, v) :: kvs, .cons h t, i => by
    obtain ⟨h1, tk, h2⟩ := h
    dsimp only at h1 h2
    subst h1 h2
    have ih := kv_find t i
    rw [List.find?_cons, List.find?_cons]
    by_cases hc : k = i
    · subst hc
      simp
    · have e1 : (k == i) = false := by simpa using hc
      have e2 : decide (k = i) = false := by simpa using hc
      simp only [e1, e2]
      exact ih
theorem set_up {w : World} {B B' : Heap} {a : Addr} {S : Int → Bool} {n : Nat} (x : B.SetOf (intKind PW w) a S n) (hk : ∀ b o, B.get? b = some o → B'.get? b = some o) : B'.SetOf (intKind PW w) a S n := by
  obtain ⟨o, es, ep, t, h1, r⟩ := x
  exact ⟨o, es, ep, t, hk _ _ h1, r⟩
theorem map_up {w : World} {B B' : Heap} {a : Addr} {F : Int → Option Value} (x : B.MapOf (intKind PW w) a F) (hk : ∀ b o, B.get? b = some o → B'.get? b = some o) : B'.MapOf (intKind PW w) a F := by
  obtain ⟨o, es, ep, h1, r⟩ := x
  exact ⟨o, es, ep, hk _ _ h1, r⟩

theorem env_of {w : World} {s₀ s₁ : Shared} (hL : TopLeft w s₀ s₁) : ∃ mg, s₁.heap.Ns mainGlobals mg ∧ ∀ B : Heap, (∀ b o, s₁.heap.get? b = some o → B.get? b = some o) → Env0 w B mg := by
  obtain ⟨mg₀, mg, c, Pl, ps, l, hg₀, hoth, T, hm, fs⟩ := hL.ex
  refine ⟨mg, T.main.g, fun B hk => ?_⟩
  obtain ⟨mb, hb, hbb⟩ := T.blt
  have G : GF B mg := ⟨T.main.g.keeps hk, ⟨mb, hb.keeps hk, hbb⟩, ⟨_, hL.stat.keeps hk, rfl⟩⟩
  have fn : ∀ (name : Str) (i : Nat), (∃ v, mg name = some v ∧ FnP name (fnArgs i) (fnBody i) (fnScope i) s₁.heap Pl v) → FnE B mg name i := fun name i ⟨v, h1, h2⟩ => by
    obtain ⟨a, rfl, h3⟩ := h2.fn
    exact ⟨a, h1, h3.up hk⟩
  have nb : ∀ (x : Str) (f : Value), entNames.contains x = false → x ∉ bootMainNames → bootBuiltins x = some f → x ≠ "__name__" → NameIs mg x f := fun x f h1 h2 h3 h4 =>
    .inr ⟨(hm x (not_entry h1)).trans (hoth x h2), h3, h4⟩
  refine ⟨G, fn _ 1 (fact_of fs 1 rfl (by decide +kernel)), fn _ 2 (fact_of fs 2 rfl (by decide +kernel)), fn _ 3 (fact_of fs 3 rfl (by decide +kernel)), fn _ 5 (fact_of fs 5 rfl (by decide +kernel)), fn _ 8 (fact_of fs 8 rfl (by decide +kernel)),
    fn _ 10 (fact_of fs 10 rfl (by decide +kernel)), fn _ 15 (fact_of fs 15 rfl (by decide +kernel)), fn _ 16 (fact_of fs 16 rfl (by decide +kernel)), fn _ 18 (fact_of fs 18 rfl (by decide +kernel)), fn _ 19 (fact_of fs 19 rfl (by decide +kernel)),
    fn _ 20 (fact_of fs 20 rfl (by decide +kernel)), fn _ 21 (fact_of fs 21 rfl (by decide +kernel)), fn _ 22 (fact_of fs 22 rfl (by decide +kernel)), fn _ 23 (fact_of fs 23 rfl (by decide +kernel)), fn _ 24 (fact_of fs 24 rfl (by decide +kernel)),
    fn _ 25 (fact_of fs 25 rfl (by decide +kernel)), ?_, ?_, ?_, ?_, ?_, nb _ _ ?_ ?_ ?_ ?_, nb _ _ ?_ ?_ ?_ ?_, nb _ _ ?_ ?_ ?_ ?_, nb _ _ ?_ ?_ ?_ ?_, nb _ _ ?_ ?_ ?_ ?_, nb _ _ ?_ ?_ ?_ ?_, nb _ _ ?_ ?_ ?_ ?_, nb _ _ ?_ ?_ ?_ ?_, nb _ _ ?_ ?_ ?_ ?_, nb _ _ ?_ ?_ ?_ ?_, nb _ _ ?_ ?_ ?_ ?_, nb _ _ ?_ ?_ ?_ ?_⟩
  · obtain ⟨v, h1, t, rfl⟩ := fact_of fs 12 rfl (by decide +kernel); exact ⟨t, h1⟩
  · obtain ⟨v, h1, t, rfl⟩ := fact_of fs 13 rfl (by decide +kernel); exact ⟨t, h1⟩
  · obtain ⟨v, h1, t, rfl⟩ := fact_of fs 14 rfl (by decide +kernel); exact ⟨t, h1⟩
  · obtain ⟨v, h1, a, n, rfl, _, _, h2⟩ := fact_of fs 7 rfl (by show (entNames.drop 8).contains (Str.ofString "b1_set") = false; decide +kernel)
    exact ⟨a, n, h1, fun h hh => set_up h2 fun b o e => hh b o (hk b o e)⟩
  · obtain ⟨v, h1, a, kvs, rfl, _, _, hs, hkv, hd⟩ := fact_of fs 9 rfl (by show (entNames.drop 10).contains (Str.ofString "b3_exceptions") = false; decide +kernel)
    exact ⟨a, h1, fun h hh => ⟨_, map_up hd.mapOf fun b o e => hh b o (hk b o e), fun i => kv_find hkv i⟩, hs⟩
  all_goals first | (decide +kernel) | (show bootBuiltins _ = some _; kernel_rfl)
end Mine
end

/-! part J2 -/
section
set_option maxRecDepth 100000
set_option linter.unusedVariables false
open PySem PySem.W PyProof.Rows
namespace Mine
noncomputable abbrev RWr : RowW := PySem.Challenge.rw_st0035_01.row.toRowW
theorem rw_looks : looksOpen PW = true := by
  unfold looksOpen
  refine look_both (look_both (look_both (look_both (look_both ?_ ?_) ?_) ?_) ?_) ?_
  all_goals decide +kernel
theorem rw_said1 : PySem.Challenge.rw_st0035_01.row.wellSaid = true := by
  unfold OpenRow.wellSaid OpenRow.partSaid
  refine look_both (look_both (look_both (look_both (look_both (look_both (look_both (look_both (look_both (look_both (look_both (look_both (look_both (look_both (look_both rw_looks ?_) ?_) ?_) ?_) ?_) ?_) ?_) ?_) ?_) ?_) ?_) ?_) ?_) ?_) ?_
  all_goals decide +kernel
theorem rw_said : PySem.Challenge.rw_st0035_01.wellSaid = true := by
  unfold OpenLaw.wellSaid
  refine look_both (look_both (look_both (look_both (look_both (look_both (look_both (look_both (look_both (look_both (look_both (look_both (look_both (look_both (look_both (look_both (look_both (look_both rw_said1 ?_) ?_) ?_) ?_) ?_) ?_) ?_) ?_) ?_) ?_) ?_) ?_) ?_) ?_) ?_) ?_) ?_) ?_
  all_goals decide +kernel
theorem rw_prom : RWr.promised := ⟨[.list []], by decide +kernel, by decide +kernel⟩
theorem rw_bare : PW.bare := by refine ⟨rfl, rfl, rfl, rfl, rfl, ?_⟩; decide +kernel
theorem rw_open : opensWell PW = true := by decide +kernel
theorem room_caller : Room callerA 4 := ⟨rfl, by decide +kernel, by decide +kernel⟩

theorem ints_well {P : Params} {h : Heap} : ∀ {vs : List Value} {ns : List Int}, WellAll P h vs (ns.map .int) → Paired (VR []) (ns.map .int) vs
  | [], [], _ => .nil
  | [], _ :: _, h => by cases h
  | _ :: _, [], h => by cases h
  | v :: vs, n :: ns, h => by
    cases h with
    | cons h1 h2 =>
      cases h1
      exact .cons (.int _ _) (ints_well h2)

theorem post_ok (args : List WData) : RWr.claim.post args (.bool true) args = true := by
  have h1 : WShape.has [] (.bool true) .bool = true := by decide +kernel
  have h2 : WTm.holds [] (.eq .res (.lit (.bool true))) { args := args, res := some (.bool true), after := args } = true := by
    simp [WTm.holds, WTm.value, same]
  exact Bool.and_eq_true_iff.mpr ⟨h1, h2⟩
theorem pre_len (ns : List Int) (h : WTm.holds RWr.records RWr.pre { args := [WData.list (ns.map .int)] } = true) : ns.length ≤ 1000 := by
  have h' : WTm.holds [] (.and (.not (.lt (.lit (.int 63)) (.len (.arg 0)))) (.lit (.bool true))) { args := [WData.list (ns.map .int)] } = true := h
  by_cases hc : (63 : Int) < (ns.length : Int)
  · exfalso
    simp [WTm.holds, WTm.value, less?, Num.less?, hc] at h'
  · omega

theorem call_good {w : World} {s s₁ : Shared} {mg : Str → Option Value} (E : ∀ B : Heap, (∀ b o, s.heap.get? b = some o → B.get? b = some o) → Env0 w B mg) (hk : ∀ b o, s.heap.get? b = some o → s₁.heap.get? b = some o) (hg : s₁.gens = #[])
    (args : List WData) (vs : List Value) (hpre : RWr.claim.pre args = true) (hw : WellAll w.params s₁.heap vs args) :
    ∃ f, mg "law" = some f ∧ wpAny (model PW w) callerA (PySem.call f vs) (fun v s' => GoodWG RWr.claim (classAt s.heap) (ExcName.means s.heap) args s₁ (.ok (.ret v)) s')
      (fun e s' => GoodWG RWr.claim (classAt s.heap) (ExcName.means s.heap) args s₁ (.error e) s') s₁ := by
  obtain ⟨p1, p2⟩ := pre_splitW hpre
  obtain ⟨d, r, rfl, h1, h2⟩ := hasAllW_cons p1
  obtain ⟨xs, rfl, h3⟩ := hasW_list h1
  obtain ⟨ns, rfl⟩ := items_int h3
  have hr : r = [] := by
    cases r with
    | nil => rfl
    | cons _ _ => simp [WShape.hasAll] at h2
  subst hr
  have hlen : ns.length ≤ 1000 := pre_len ns p2
  cases hw with
  | cons hw hw' =>
    cases hw'
    cases hw with
    | @list al us _ hal hus =>
      have hBL : BaseL s₁.heap al (ns.map .int) := ⟨us, ⟨0, hal⟩, ints_well hus⟩
      obtain ⟨a, x25, F25, h, hc, H', e⟩ := law_callok (E s₁.heap hk) hBL hlen
      refine ⟨.ref a, x25, ?_⟩
      have S₀ : SR s₁.heap [] [] s₁.heap := ⟨fun _ _ h => h, rfl, List.nodup_nil, fun k a o e => by simp at e, (fun a h => nomatch h), (fun a h => nomatch h)⟩
      refine wpAny_mono (hc [.base al] [] (.bool true) H' e callerA s₁ [] [.ref al] room_caller S₀ (.cons (.base al) .nil)) (fun c s' hh => ?_) fun _ _ h => h.elim
      obtain ⟨α', st, S', rv⟩ := hh
      cases rv
      refine ⟨.inl ⟨.bool true, .bool true, [], rfl, fun _ => rfl, .bool true, post_ok _, fun _ => ⟨List.nodup_nil, fun a h => nomatch h⟩⟩, .of_keep fun b o hb => st.keep b o hb (by simp) (by simp), st.os, st.gens.2 (AllBare.of_eq hg)⟩
end Mine
end

/-! part J3 -/
section
set_option maxRecDepth 100000
set_option linter.unusedVariables false
open PySem PySem.W PyProof.Rows
namespace Mine
theorem law_pin {w : World} {s₀ s : Shared} (hL : TopLeft w s₀ s) : isTheDefsW PW s.heap "law" := by
  obtain ⟨mg, hg, E⟩ := env_of hL
  obtain ⟨a, h1, F⟩ := (E s.heap fun _ _ h => h).law
  obtain ⟨o, pm, cd, doc, h2, h3, h4⟩ := F
  refine ⟨a, o, _, fnArgs 25, fnBody 25, fnScope 25, (glob_of_ns hg _).trans h1, h2, h3, ?_, rfl, rfl, rfl, rfl, rfl, rfl, rfl, rfl, .inl ⟨?_, rfl⟩, [], ?_, .inl ⟨rfl, rfl⟩⟩
  · kernel_rfl
  · kernel_rfl
  · kernel_rfl
theorem law_open : RWr.claim.HoldsOpenBy (callStub RWr.name) [RWr.name] PySem.Challenge.rw_st0035_01.row.keeps PySem.Challenge.rw_st0035_01.row.writes := by
  refine ⟨⟨rw_bare, rw_open, rfl⟩, rw_prom.witness, fun w => ⟨(boot_run w).1, fun s' hs' => ?_⟩⟩
  obtain ⟨hB, hz0⟩ := (boot_run w).2 s' hs'
  obtain ⟨s, hT, hL, hgens, hz⟩ := top_all w s' hB hz0
  have hg0 : s'.gens = #[] := by obtain ⟨_, _, _, _, _, h⟩ := hB; exact h
  refine ⟨s', fence_id s', hg0, s, hT, fun n hn => ?_, (fun x hx => nomatch hx), (fun x hx => nomatch hx), ?_⟩
  · rw [List.mem_singleton.mp hn]; exact law_pin hL
  · refine ClaimW.callFrom_of_specG (c := RWr.claim) (tree := fun vs => do match ← nsGet mainNs RWr.name with
      | some f => do ret (← PySem.call f vs)
      | none => unsupported "claim.caller:no-such-global") hz hgens fun args hpre hlay ord hord => ?_
    obtain ⟨⟨vs, s₁⟩, hlaid⟩ := Option.isSome_iff_exists.mp (layAllW_isSome (R := RWr.records) (cl := classAt s.heap) (P := w.params) (ord := ord) (fun c hc => by cases hc) args RWr.args s (pre_splitW hpre).1)
    have keeps := layAllW_keeps _ _ _ hlaid
    have hal := layAllW_rest _ _ _ hlaid
    obtain ⟨as, hrd, hin, hold⟩ := reads_layAllW hord _ _ _ hlaid hlay s₁.heap (fun _ _ e => e)
    have L : Laid RWr.records w s s₁ args vs as := ⟨⟨ord, hord, hlaid⟩, hrd, hin, hold, keeps, hal.1.trans hgens, hal.2.2.1⟩
    obtain ⟨mg, hg, E⟩ := env_of hL
    obtain ⟨f, hf, h⟩ := call_good E keeps L.gens args vs hpre L.well
    have hi := ident_freeW (r := RWr) rfl rfl rfl
    refine ⟨vs, s₁, hlaid, wpAny_bind (wpAny_nsGet (hg.keeps keeps) ?_)⟩
    rw [show mg RWr.name = some f from hf]
    refine wpAny_bind (wpAny_mono h (fun v s' g => wpAny_pure ⟨_, rfl, ?_⟩) fun e s' g => ?_)
    · have z := g.laid (c := RWr.claim) rfl rfl hi L
      exact ⟨z.1, z.2.1, z.2.2, fun q => by cases q⟩
    · have z := g.laid (c := RWr.claim) rfl rfl hi L
      exact ⟨z.1, z.2.1, z.2.2, fun q => by cases q⟩
end Mine
end

theorem PySem.Challenge.cw_st0035_01_holds : PySem.Challenge.rw_st0035_01.Holds :=
  PySem.W.holds_law Mine.rw_said fun said => ⟨said, Mine.rw_prom, Mine.law_open⟩
