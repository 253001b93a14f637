import PyProof.Rows.All
import Wide.All
import OpenK.AllK
import Wide.FinOn
import PySem.Challenge.RW_sw0057_02
set_option Elab.async false
set_option tactic.hygienic false
set_option genSizeOfSpec false
set_option genSizeOf false
set_option genInjectivity false
set_option genCtorIdx false
set_option bootstrap.genMatcherCode false
section
namespace Mine
open PySem PySem.W PyProof.Rows

/-! ## values of the interpreter -/

structure WS where
  raw : List Nat
  n : Int
  nt : Int
  cnt : List Int
  b : Int
  simple : Bool
  deriving DecidableEq

inductive AV where
  | none
  | bool (b : Bool)
  | int (i : Int)
  | str (s : List Nat)
  | tup (l : List AV)
  | ref (i : Nat)
  | frz (l : List Int)
  | inst (w : WS)
  | self (i : Nat)
noncomputable def AV.ctorIdx (x : AV) : Nat := AV.casesOn x 0 (fun _ => 1) (fun _ => 2) (fun _ => 3) (fun _ => 4) (fun _ => 5) (fun _ => 6) (fun _ => 7) (fun _ => 8)

inductive AO where
  | list (l : List AV)
  | ns (fs : List (Str × AV))
noncomputable def AO.ctorIdx (x : AO) : Nat := AO.casesOn x (fun _ => 0) (fun _ => 1)

/-- the fixed part: the program, the world, the heap at the law's start, the class -/
structure Par where
  prog : Program
  w : World
  h₀ : Heap
  K : Frag
  C : Addr
  fns : List Addr
  ini : Addr
  esc : Addr
  grp : Addr
  flags : Addr

abbrev Par.M (P : Par) : Model := model P.prog P.w

noncomputable def IsIntTup (h : Heap) (v : Value) (l : List Int) : Prop := ∃ a vs, v = .ref a ∧ h.IsTuple a vs ∧ IntsAre vs.toList l

noncomputable def sRaw : Str := Str.ofString "raw"
noncomputable def sN : Str := Str.ofString "n"
noncomputable def sNt : Str := Str.ofString "nt"
noncomputable def sNorm : Str := Str.ofString "norm"
noncomputable def sSimple : Str := Str.ofString "is_simple"

structure InstOk (h : Heap) (od : Obj) (w : WS) : Prop where
  raw : ∃ t, lookIn sRaw od = some (some (.str ⟨w.raw.toArray⟩ t))
  n : ∃ t, lookIn sN od = some (some (.int w.n t))
  nt : ∃ t, lookIn sNt od = some (some (.int w.nt t))
  norm : ∃ a x t, lookIn sNorm od = some (some (.ref a)) ∧ h.IsTuple a #[x, .int w.b t] ∧ IsIntTup h x w.cnt
  simple : lookIn sSimple od = some (some (.bool w.simple))
  only : ∀ x, [sRaw, sN, sNt, sNorm, sSimple].contains x = false → lookIn x od = some none

mutual
noncomputable def RV (P : Par) (ρ : List Addr) (h : Heap) : AV → Value → Prop
  | .none, v => v = .none
  | .bool b, v => v = .bool b
  | .int i, v => ∃ t, v = .int i t
  | .str s, v => ∃ t, v = .str ⟨s.toArray⟩ t
  | .tup l, v => ∃ a vs, v = .ref a ∧ h.IsTuple a vs ∧ RVs P ρ h l vs.toList
  | .ref i, v => ∃ a, v = .ref a ∧ ρ[i]? = some a
  | .frz l, v => ∃ a vs, v = .ref a ∧ P.h₀.IsList a vs ∧ IntsAre vs.toList l
  | .inst w, v => ∃ a D od, v = .ref a ∧ InstAt h a (instObj P.C D) P.C (some od) ∧ D ∉ ρ ∧ InstOk h od w
  | .self i, v => ∃ a D, v = .ref a ∧ h.get? a = some (instObj P.C D) ∧ ρ[i]? = some D
noncomputable def RVs (P : Par) (ρ : List Addr) (h : Heap) : List AV → List Value → Prop
  | [], vs => vs = []
  | x :: l, vs => ∃ v vs', vs = v :: vs' ∧ RV P ρ h x v ∧ RVs P ρ h l vs'
end


/-! ## what stays -/

noncomputable def Kp (W : List Addr) (h h' : Heap) : Prop := ∀ a o, h.get? a = some o → a ∉ W → h'.get? a = some o

structure Step (W : List Addr) (s s' : Shared) : Prop where
  keep : Kp W s.heap s'.heap
  os : s'.os = s.os
  gens : ∀ (g : Nat) x, s.gens[g]? = some x → s'.gens[g]? = some x
  bare : AllBare s.gens → AllBare s'.gens

noncomputable def NewIn (h : Heap) (new : List Addr) : Prop := ∀ a ∈ new, h.get? a = none

theorem Step.refl (W : List Addr) (s : Shared) : Step W s s := ⟨fun _ _ e _ => e, rfl, fun _ _ e => e, id⟩
theorem Step.mono {W W' : List Addr} {s s' : Shared} (x : Step W s s') (h : ∀ a ∈ W, a ∈ W' ∨ s.heap.get? a = none) : Step W' s s' :=
  ⟨fun a o e hn => x.keep a o e fun hm => (h a hm).elim hn fun h0 => (by rw [h0] at e; cases e), x.os, x.gens, x.bare⟩
theorem Step.trans {W W' : List Addr} {s s' s'' : Shared} (x : Step W s s') (y : Step W' s' s'') (h : ∀ a ∈ W', a ∈ W ∨ s.heap.get? a = none) : Step W s s'' :=
  ⟨fun a o e hn => y.keep a o (x.keep a o e hn) fun hm => (h a hm).elim hn fun h0 => (by rw [h0] at e; cases e), y.os.trans x.os, fun g z e => y.gens g z (x.gens g z e), fun b => y.bare (x.bare b)⟩
theorem Step.trans' {W : List Addr} {s s' s'' : Shared} (x : Step W s s') (y : Step W s' s'') : Step W s s'' := x.trans y fun _ h => .inl h
theorem Step.of_keep {W : List Addr} {s : Shared} {h' : Heap} {t : Nat} (k : Kp W s.heap h') : Step W s { s with heap := h', toks := t } := ⟨k, rfl, fun _ _ e => e, id⟩
theorem Step.tok {W : List Addr} {s : Shared} {t : Nat} : Step W s { s with toks := t } := ⟨fun _ _ e _ => e, rfl, fun _ _ e => e, id⟩
theorem Step.pushed {W : List Addr} {s : Shared} {o : Obj} {t : Nat} : Step W s { s with heap := s.heap.push o, toks := t } := .of_keep fun _ _ e _ => Heap.get?_push_of_some _ e

theorem get_size_none (h : Heap) : h.get? h.objs.size = none := by
  cases e : h.get? h.objs.size with
  | none => rfl
  | some o => exact absurd (Heap.lt_size e) (Nat.lt_irrefl _)
theorem get_ge_none {h : Heap} {a : Addr} (ha : h.objs.size ≤ a) : h.get? a = none := by
  cases e : h.get? a with
  | none => rfl
  | some o => exact absurd (Heap.lt_size e) (Nat.not_lt.mpr ha)

/-! ## addresses that may be stored to bear no value that is read as one piece -/

noncomputable def Soft (h : Heap) (ρ : List Addr) (a : Addr) : Prop :=
  (∃ its, h.PlainList a its) ∨ (∃ v, h.IsCell a v) ∨ (a ∈ ρ ∧ ∃ m, h.Ns a m) ∨ (∃ m, h.Ns a m ∧ m sSimple = none) ∨ (∃ o T vs, h.get? a = some o ∧ o.cls = .type T ∧ T ≠ "tuple" ∧ o.data = .fields vs)

set_option tactic.hygienic true
theorem lookIn_ns {h : Heap} {a : Addr} {od : Obj} {name : Str} {v : Value} {m : Str → Option Value} (e : h.get? a = some od) (n : h.Ns a m) (l : lookIn name od = some (some v)) : m name = some v := by
  obtain ⟨o, es, ep, ho, hd, _, hm⟩ := n
  rw [e] at ho
  cases ho
  rw [← hm name]
  unfold lookIn at l
  rw [hd] at l
  dsimp only at l
  unfold nsFind findBy
  rw [← Array.find?_toList]
  split at l
  · rename_i en he
    cases l
    rw [he]; rfl
  · split at l <;> cases l

set_option tactic.hygienic false
set_option tactic.hygienic true
theorem lookIn_dict {od : Obj} {name : Str} {r : Option Value} (l : lookIn name od = some r) : ∃ es n, od.data = .dict es n := by
  unfold lookIn at l
  split at l
  · rename_i es n e; exact ⟨es, n, e⟩
  · cases l

set_option tactic.hygienic false
theorem Soft.no_tup {h : Heap} {ρ : List Addr} {a : Addr} {vs : Array Value} (x : Soft h ρ a) (t : h.IsTuple a vs) : False := by
  obtain ⟨o, ho, hc, n, hd⟩ := t
  rcases x with ⟨its, n', e⟩ | ⟨v, o', e, d⟩ | ⟨_, m, o', es, ep, e, d, _⟩ | ⟨m, ⟨o', es, ep, e, d, _⟩, _⟩ | ⟨o', T, vs', e, _, _, d⟩
  · rw [ho] at e; cases e; simp at hc
  · rw [ho] at e; cases e; rw [hd] at d; cases d
  · rw [ho] at e; cases e; rw [hd] at d; cases d
  · rw [ho] at e; cases e; rw [hd] at d; cases d
  · rw [ho] at e; cases e; rw [hd] at d; cases d

theorem Soft.no_inst {h : Heap} {ρ : List Addr} {a C D : Addr} (x : Soft h ρ a) (t : h.get? a = some (instObj C D)) : False := by
  rcases x with ⟨its, n', e⟩ | ⟨v, o', e, d⟩ | ⟨_, m, o', es, ep, e, d, _⟩ | ⟨m, ⟨o', es, ep, e, d, _⟩, _⟩ | ⟨o', T, vs', e, _, _, d⟩
  · rw [t] at e; cases e
  · rw [t] at e; cases e; cases d
  · rw [t] at e; cases e; cases d
  · rw [t] at e; cases e; cases d
  · rw [t] at e; cases e; cases d

theorem Soft.no_dict {h : Heap} {ρ : List Addr} {D : Addr} {od : Obj} {v : Value} (x : Soft h ρ D) (e : h.get? D = some od) (l : lookIn sSimple od = some (some v)) (hn : D ∉ ρ) : False := by
  obtain ⟨es, n, hd⟩ := lookIn_dict l
  rcases x with ⟨its, n', e'⟩ | ⟨v, o', e', d⟩ | ⟨hm, _⟩ | ⟨m, hns, hm⟩ | ⟨o', T, vs', e', _, _, d⟩
  · rw [e] at e'; cases e'; cases hd
  · rw [e] at e'; cases e'; rw [hd] at d; cases d
  · exact hn hm
  · have := lookIn_ns e hns l
    rw [hm] at this; cases this
  · rw [e] at e'; cases e'; rw [hd] at d; cases d

section
variable {P : Par} {ρ new W : List Addr} {h h' : Heap}

theorem IsTuple.kp {a : Addr} {vs : Array Value} (k : Kp W h h') (hW : ∀ a ∈ W, Soft h ρ a) (t : h.IsTuple a vs) : h'.IsTuple a vs := by
  have hn : a ∉ W := fun hm => (hW a hm).no_tup t
  obtain ⟨o, ho, r⟩ := t
  exact ⟨o, k a o ho hn, r⟩

theorem IsIntTup.kp {v : Value} {l : List Int} (k : Kp W h h') (hW : ∀ a ∈ W, Soft h ρ a) (t : IsIntTup h v l) : IsIntTup h' v l := by
  obtain ⟨a, vs, e, t, i⟩ := t
  exact ⟨a, vs, e, IsTuple.kp k hW t, i⟩

theorem InstOk.kp {od : Obj} {w : WS} (k : Kp W h h') (hW : ∀ a ∈ W, Soft h ρ a) (t : InstOk h od w) : InstOk h' od w := by
  obtain ⟨a, b, c, ⟨x, y, z, d1, d2, d3⟩, e, f⟩ := t
  exact ⟨a, b, c, ⟨x, y, z, d1, IsTuple.kp k hW d2, IsIntTup.kp k hW d3⟩, e, f⟩

theorem InstAt.dict' {x D C : Addr} {od : Obj} (I : InstAt h x (instObj C D) C (some od)) : h.get? D = some od := I.dict

mutual
theorem RV.kp (k : Kp W h h') (hW : ∀ a ∈ W, Soft h ρ a) (hnew : NewIn h new) : ∀ {x : AV} {v : Value}, RV P ρ h x v → RV P (ρ ++ new) h' x v
  | .none, _, e => e
  | .bool _, _, e => e
  | .int _, _, e => e
  | .str _, _, e => e
  | .tup l, _, ⟨a, vs, e, t, r⟩ => ⟨a, vs, e, IsTuple.kp k hW t, RVs.kp k hW hnew r⟩
  | .ref i, _, ⟨a, e, r⟩ => ⟨a, e, by
      have := (List.getElem?_eq_some_iff.mp r).1
      rw [List.getElem?_append_left this]; exact r⟩
  | .frz _, _, r => r
  | .inst w, _, ⟨a, D, od, e, I, hD, ok⟩ => by
      have hdict : h.get? D = some od := I.dict
      have hobj : h.get? a = some (instObj P.C D) := I.at_
      have n1 : a ∉ W := fun hm => (hW a hm).no_inst hobj
      have n2 : D ∉ W := fun hm => (hW D hm).no_dict hdict ok.simple hD
      have k1 := k _ _ hobj n1
      have k2 := k _ _ hdict n2
      refine ⟨a, D, od, e, ⟨k1, I.cls, I.no, k2⟩, ?_, ok.kp k hW⟩
      intro hm
      rcases List.mem_append.mp hm with hm | hm
      · exact hD hm
      · rw [hnew D hm] at hdict; cases hdict
  | .self i, _, ⟨a, D, e, t, r⟩ => ⟨a, D, e, k _ _ t fun hm => (hW a hm).no_inst t, by
      have := (List.getElem?_eq_some_iff.mp r).1
      rw [List.getElem?_append_left this]; exact r⟩
theorem RVs.kp (k : Kp W h h') (hW : ∀ a ∈ W, Soft h ρ a) (hnew : NewIn h new) : ∀ {l : List AV} {vs : List Value}, RVs P ρ h l vs → RVs P (ρ ++ new) h' l vs
  | [], _, e => e
  | _ :: _, _, ⟨v, vs', e, r, rs⟩ => ⟨v, vs', e, RV.kp k hW hnew r, RVs.kp k hW hnew rs⟩
end
end

end Mine
end
section
namespace Mine
open PySem PySem.W PyProof.Rows

abbrev Loc := List (Option AV)
abbrev Sto := List AO
abbrev Names := List (Str × NameKind)

mutual
noncomputable def bel (n : Nat) : AV → Bool
  | .none => true
  | .bool _ => true
  | .int _ => true
  | .str _ => true
  | .tup l => bels n l
  | .ref i => Nat.blt i n
  | .frz _ => true
  | .inst _ => true
  | .self i => Nat.blt i n
noncomputable def bels (n : Nat) : List AV → Bool
  | [] => true
  | x :: l => bel n x && bels n l
end
theorem belB (n : Nat) (b : Bool) : bel n (.bool b) = true := rfl
theorem belI (n : Nat) (b : Int) : bel n (.int b) = true := rfl
theorem belS (n : Nat) (b : List Nat) : bel n (.str b) = true := rfl
theorem belT (n : Nat) (l : List AV) : bel n (.tup l) = bels n l := rfl
theorem belR (n i : Nat) : bel n (.ref i) = Nat.blt i n := rfl
theorem belV (n i : Nat) : bel n (.self i) = Nat.blt i n := rfl
theorem belsN (n : Nat) : bels n [] = true := rfl
theorem belsC (n : Nat) (x : AV) (l : List AV) : bels n (x :: l) = (bel n x && bels n l) := rfl

noncomputable def slot (names : Names) (x : Str) : Option Nat := names.findIdx? fun p => p.1 == x

noncomputable def Fields (P : Par) (ρ : List Addr) (h : Heap) (m : Str → Option Value) (fs : List (Str × AV)) : Prop :=
  ∀ n, match fs.lookup n with
    | some v => ∃ y, m n = some y ∧ RV P ρ h v y
    | none => m n = none

/-- a namespace of few names -/
noncomputable def NsSz (h : Heap) (a : Addr) (k : Nat) : Prop := ∃ o es ep, h.get? a = some o ∧ o.data = .dict es ep ∧ es.size ≤ k
theorem NsSz.at' {h h' : Heap} {a : Addr} {k : Nat} (x : NsSz h a k) (e : ∀ o, h.get? a = some o → h'.get? a = some o) : NsSz h' a k := let ⟨o, es, ep, ho, r⟩ := x; ⟨o, es, ep, e o ho, r⟩

noncomputable def Rep (P : Par) (ρ : List Addr) (h : Heap) (i : Nat) (a : Addr) : AO → Prop
  | .list l => ∃ vs, h.PlainList a vs ∧ RVs P ρ h l vs.toList ∧ bels i l = true
  | .ns fs => ∃ m, h.Ns a m ∧ Fields P ρ h m fs ∧ (∀ p ∈ fs, bel i p.2 = true) ∧ NsSz h a fs.length

structure Inv (P : Par) (ρ : List Addr) (σ : Sto) (h : Heap) : Prop where
  keep : ∀ a o, P.h₀.get? a = some o → h.get? a = some o
  nodup : ρ.Nodup
  fresh : ∀ a ∈ ρ, P.h₀.get? a = none
  len : ρ.length = σ.length
  rep : ∀ i a o, ρ[i]? = some a → σ[i]? = some o → Rep P ρ h i a o

noncomputable def fa (env : Env) : List Addr := env.locals :: env.cells.map (·.2)

structure FrameR (P : Par) (ρ : List Addr) (names : Names) (ℓ : Loc) (env : Env) (h : Heap) : Prop where
  kind : env.scope.kind = .function
  nmEq : env.scope.names = names
  globals : env.globals = mainGlobals
  builtins : env.builtins = builtinsNs
  ns : ∃ m, h.Ns env.locals m ∧ m sSimple = none ∧ ∀ i x v, slot names x = some i → names.lookup x = some .local → ℓ[i]? = some (some v) → ∃ y, m x = some y ∧ RV P ρ h v y
  cell : ∀ i x, slot names x = some i → names.lookup x = some .cell → ∃ c ov, env.cells.lookup x = some c ∧ h.IsCell c ov ∧ ∀ v, ℓ[i]? = some (some v) → ∃ y, ov = some y ∧ RV P ρ h v y
  out : ∀ a ∈ fa env, a ∉ ρ ∧ P.h₀.get? a = none
  soft : ∀ c ∈ env.cells.map (·.2), ∃ v, h.IsCell c v
  apart : env.cells.Pairwise fun x y => x.2 ≠ y.2
  nosimple : names.lookup sSimple = none

section
variable {P : Par} {ρ new W : List Addr} {σ : Sto} {h h' : Heap} {names : Names} {ℓ : Loc} {env : Env}

theorem Inv.at (I : Inv P ρ σ h) {i : Nat} {o : AO} (e : σ[i]? = some o) : ∃ a, ρ[i]? = some a ∧ Rep P ρ h i a o := by
  have hi : i < ρ.length := by rw [I.len]; exact (List.getElem?_eq_some_iff.mp e).1
  exact ⟨ρ[i], by simp [hi], I.rep i _ o (by simp [hi]) e⟩

theorem Inv.softs (I : Inv P ρ σ h) : ∀ a ∈ ρ, Soft h ρ a := by
  intro a ha
  obtain ⟨i, hi, rfl⟩ := List.mem_iff_getElem.mp ha
  have hi' : i < σ.length := by rw [← I.len]; exact hi
  have r := I.rep i ρ[i] σ[i] (by simp [hi]) (by simp [hi'])
  generalize σ[i] = o at r
  cases o with
  | list l => obtain ⟨vs, p, _⟩ := r; exact .inl ⟨vs, p⟩
  | ns fs => obtain ⟨m, n, _⟩ := r; exact .inr (.inr (.inl ⟨ha, m, n⟩))

theorem Soft.live {a : Addr} (x : Soft h ρ a) : ∃ o, h.get? a = some o := by
  rcases x with ⟨its, n', e⟩ | ⟨v, o', e, d⟩ | ⟨_, m, o', es, ep, e, d, _⟩ | ⟨m, ⟨o', es, ep, e, d, _⟩, _⟩ | ⟨o', T, vs', e, _⟩ <;> exact ⟨_, e⟩

theorem FrameR.softs (F : FrameR P ρ names ℓ env h) : ∀ a ∈ fa env, Soft h ρ a := by
  intro a ha
  rcases List.mem_cons.mp ha with rfl | ha
  · obtain ⟨m, n, z, _⟩ := F.ns; exact .inr (.inr (.inr (.inl ⟨m, n, z⟩)))
  · obtain ⟨v, c⟩ := F.soft a ha; exact .inr (.inl ⟨v, c⟩)

theorem softs_app (I : Inv P ρ σ h) (F : FrameR P ρ names ℓ env h) : ∀ a ∈ fa env ++ ρ, Soft h ρ a := fun a ha => (List.mem_append.mp ha).elim (F.softs a) (I.softs a)

/-- a frame behind a step that stores to none of its places -/
theorem FrameR.kpW (F : FrameR P ρ names ℓ env h) (k : Kp W h h') (hd : ∀ a ∈ fa env, a ∉ W) (hW : ∀ a ∈ W, Soft h ρ a) (hn : NewIn h new) : FrameR P (ρ ++ new) names ℓ env h' := by
  have live : ∀ a ∈ fa env, ∃ o, h.get? a = some o := fun a ha => (F.softs a ha).live
  have kL : ∀ a ∈ fa env, ∀ o, h.get? a = some o → h'.get? a = some o := fun a ha o e => k a o e (hd a ha)
  refine ⟨F.kind, F.nmEq, F.globals, F.builtins, ?_, ?_, ?_, ?_, F.apart, F.nosimple⟩
  · obtain ⟨m, n, z, f⟩ := F.ns
    refine ⟨m, n.at' fun o e => kL _ List.mem_cons_self o e, z, fun i x v e1 e2 e3 => ?_⟩
    obtain ⟨y, hy, r⟩ := f i x v e1 e2 e3
    exact ⟨y, hy, r.kp k hW hn⟩
  · intro i x e1 e2
    obtain ⟨c, ov, hc, hi, f⟩ := F.cell i x e1 e2
    refine ⟨c, ov, hc, ?_, fun v e3 => ?_⟩
    · obtain ⟨o, ho, hd⟩ := hi
      exact ⟨o, kL c (List.mem_cons_of_mem _ (List.mem_map.mpr ⟨(x, c), mem_of_lookup hc, rfl⟩)) o ho, hd⟩
    · obtain ⟨y, hy, r⟩ := f v e3
      exact ⟨y, hy, r.kp k hW hn⟩
  · intro a ha
    refine ⟨fun hm => ?_, (F.out a ha).2⟩
    rcases List.mem_append.mp hm with hm | hm
    · exact (F.out a ha).1 hm
    · obtain ⟨o, e⟩ := live a ha
      rw [hn a hm] at e; cases e
  · intro c hc
    obtain ⟨v, o, ho, hd⟩ := F.soft c hc
    exact ⟨v, o, kL c (List.mem_cons_of_mem _ hc) o ho, hd⟩

theorem FrameR.kp (F : FrameR P ρ names ℓ env h) (k : Kp ρ h h') (hW : ∀ a ∈ ρ, Soft h ρ a) (hn : NewIn h new) : FrameR P (ρ ++ new) names ℓ env h' :=
  F.kpW k (fun a ha => (F.out a ha).1) hW hn

mutual
theorem RV.take {n : Nat} : ∀ {x : AV} {v : Value}, RV P ρ h x v → bel n x = true → RV P (ρ.take n) h x v
  | .none, _, e, _ => e
  | .bool _, _, e, _ => e
  | .int _, _, e, _ => e
  | .str _, _, e, _ => e
  | .tup l, _, ⟨a, vs, e, t, r⟩, b => ⟨a, vs, e, t, RVs.take r b⟩
  | .ref i, _, ⟨a, e, r⟩, b => ⟨a, e, by
      have hi : i < n := by simpa [bel, Nat.blt_eq] using b
      rw [List.getElem?_take, if_pos hi]; exact r⟩
  | .frz _, _, r, _ => r
  | .inst w, _, ⟨a, D, od, e, I, hD, ok⟩, _ => ⟨a, D, od, e, I, fun hm => hD (List.mem_of_mem_take hm), ok⟩
  | .self i, _, ⟨a, D, e, t, r⟩, b => ⟨a, D, e, t, by
      have hi : i < n := by simpa [bel, Nat.blt_eq] using b
      rw [List.getElem?_take, if_pos hi]; exact r⟩
theorem RVs.take {n : Nat} : ∀ {l : List AV} {vs : List Value}, RVs P ρ h l vs → bels n l = true → RVs P (ρ.take n) h l vs
  | [], _, e, _ => e
  | _ :: _, _, ⟨v, vs', e, r, rs⟩, b => by
      simp only [belsC, Bool.and_eq_true] at b
      exact ⟨v, vs', e, RV.take r b.1, RVs.take rs b.2⟩
end

theorem bel_mono {n k : Nat} (hk : n ≤ k) : ∀ {x : AV}, bel n x = true → bel k x = true := by
  have key : ∀ x : AV, bel n x = true → bel k x = true := by
    intro x
    refine AV.rec (motive_1 := fun x => bel n x = true → bel k x = true) (motive_2 := fun l => bels n l = true → bels k l = true) ?_ ?_ ?_ ?_ ?_ ?_ ?_ ?_ ?_ ?_ ?_ x
    all_goals try (intros; rfl)
    · intro l ih b; exact ih b
    · intro i b; simp only [belR, Nat.blt_eq] at b ⊢; omega
    · intro i b; simp only [belV, Nat.blt_eq] at b ⊢; omega
    · intro x l ih1 ih2 b
      simp only [belsC, Bool.and_eq_true] at b ⊢
      exact ⟨ih1 b.1, ih2 b.2⟩
  exact fun {x} => key x
theorem bels_mono {n k : Nat} (hk : n ≤ k) : ∀ {l : List AV}, bels n l = true → bels k l = true
  | [], _ => rfl
  | x :: l, b => by
    simp only [belsC, Bool.and_eq_true] at b ⊢
    exact ⟨bel_mono hk b.1, bels_mono hk b.2⟩

set_option tactic.hygienic true
theorem Inv.take (I : Inv P ρ σ h) (n : Nat) : Inv P (ρ.take n) (σ.take n) h := by
  refine ⟨I.keep, I.nodup.sublist (List.take_sublist ..), fun a ha => I.fresh a (List.mem_of_mem_take ha), by rw [List.length_take, List.length_take, I.len], ?_⟩
  intro i a o e1 e2
  rw [List.getElem?_take] at e1 e2
  split at e1
  · rename_i hi
    rw [if_pos hi] at e2
    have r := I.rep i a o e1 e2
    cases o with
    | list l => obtain ⟨vs, p, q, b⟩ := r; exact ⟨vs, p, q.take (bels_mono (Nat.le_of_lt hi) b), b⟩
    | ns fs =>
      obtain ⟨m, p, q, b⟩ := r
      refine ⟨m, p, fun x => ?_, b⟩
      have := q x
      split
      · rename_i v e
        rw [e] at this
        obtain ⟨y, hy, r⟩ := this
        exact ⟨y, hy, r.take (bel_mono (Nat.le_of_lt hi) (b.1 _ (mem_of_lookup e)))⟩
      · rename_i e
        rw [e] at this; exact this
  · cases e1

set_option tactic.hygienic false
theorem RVs.length : ∀ {l : List AV} {vs : List Value}, RVs P ρ h l vs → vs.length = l.length
  | [], _, e => by cases e; rfl
  | _ :: _, _, ⟨v, vs', e, r, rs⟩ => by subst e; simp [RVs.length rs]
theorem RVs.app : ∀ {l l' : List AV} {vs vs' : List Value}, RVs P ρ h l vs → RVs P ρ h l' vs' → RVs P ρ h (l ++ l') (vs ++ vs')
  | [], _, _, _, e, x => by cases e; exact x
  | _ :: _, _, _, _, ⟨v, ws, e, r, rs⟩, x => by subst e; exact ⟨v, _, rfl, r, RVs.app rs x⟩
theorem RVs.get : ∀ {l : List AV} {vs : List Value} (_ : RVs P ρ h l vs) {i : Nat} {x : AV}, l[i]? = some x → ∃ v, vs[i]? = some v ∧ RV P ρ h x v
  | [], _, _, i, x, e => by simp at e
  | _ :: _, _, ⟨v, ws, e, r, rs⟩, 0, x, e' => by subst e; simp at e'; subst e'; exact ⟨v, rfl, r⟩
  | _ :: _, _, ⟨v, ws, e, r, rs⟩, i + 1, x, e' => by subst e; simp at e'; simpa using RVs.get rs e'
theorem RVs.takes : ∀ {l : List AV} {vs : List Value} (_ : RVs P ρ h l vs) (n : Nat), RVs P ρ h (l.take n) (vs.take n)
  | _, _, _, 0 => by simp only [List.take_zero]; rfl
  | [], _, e, n + 1 => by cases e; rfl
  | _ :: _, _, ⟨v, ws, e, r, rs⟩, n + 1 => by subst e; exact ⟨v, _, rfl, r, RVs.takes rs n⟩
theorem RVs.drops : ∀ {l : List AV} {vs : List Value} (_ : RVs P ρ h l vs) (n : Nat), RVs P ρ h (l.drop n) (vs.drop n)
  | _, _, x, 0 => x
  | [], _, e, n + 1 => by cases e; rfl
  | _ :: _, _, ⟨v, ws, e, r, rs⟩, n + 1 => by subst e; exact RVs.drops rs n
theorem RVs.ints : ∀ {l : List Int} {vs : List Value}, RVs P ρ h (l.map .int) vs → IntsAre vs l
  | [], _, e => by cases e; exact .nil
  | _ :: _, _, ⟨v, ws, e, ⟨t, r⟩, rs⟩ => by subst e r; exact .cons _ _ (RVs.ints rs)
theorem RVs.of_ints : ∀ {l : List Int} {vs : List Value}, IntsAre vs l → RVs P ρ h (l.map .int) vs
  | [], _, e => by cases e; rfl
  | _ :: _, _, e => by cases e with | cons n t x => exact ⟨_, _, rfl, ⟨_, rfl⟩, RVs.of_ints x⟩
theorem bels_ints (n : Nat) : ∀ l : List Int, bels n (l.map .int) = true
  | [] => rfl
  | _ :: l => by simp only [List.map_cons, belsC, belI, bels_ints n l, Bool.and_self]
theorem bels_app (n : Nat) : ∀ l l' : List AV, bels n (l ++ l') = (bels n l && bels n l')
  | [], l' => by simp [belsN]
  | x :: l, l' => by simp only [List.cons_append, belsC, bels_app n l l', Bool.and_assoc]
end

/-! ## one evaluation's change -/

structure Mv (W : List Addr) (ρ : List Addr) (s : Shared) (ρ' : List Addr) (s' : Shared) : Prop where
  new : ∃ new, ρ' = ρ ++ new ∧ NewIn s.heap new
  step : Step W s s'

section
variable {P : Par} {ρ ρ' ρ'' W W' : List Addr} {σ σ' : Sto} {s s' s'' : Shared} {names : Names} {ℓ : Loc} {env : Env}

theorem Mv.refl (W ρ : List Addr) (s : Shared) : Mv W ρ s ρ s := ⟨⟨[], (List.append_nil _).symm, fun _ h => nomatch h⟩, .refl _ _⟩
theorem Mv.of_step (x : Step W s s') : Mv W ρ s ρ s' := ⟨⟨[], (List.append_nil _).symm, fun _ h => nomatch h⟩, x⟩
theorem Mv.mem (x : Mv W ρ s ρ' s') {a : Addr} (ha : a ∈ ρ) : a ∈ ρ' := by obtain ⟨n, rfl, _⟩ := x.new; exact List.mem_append_left _ ha
theorem Mv.get (x : Mv W ρ s ρ' s') {i : Nat} {a : Addr} (e : ρ[i]? = some a) : ρ'[i]? = some a := by
  obtain ⟨n, rfl, _⟩ := x.new
  rw [List.getElem?_append_left (List.getElem?_eq_some_iff.mp e).1]; exact e
theorem Mv.cases (x : Mv W ρ s ρ' s') {a : Addr} (ha : a ∈ ρ') : a ∈ ρ ∨ s.heap.get? a = none := by
  obtain ⟨n, rfl, h⟩ := x.new
  exact (List.mem_append.mp ha).imp id (h a)
/-- what is new behind the second move was no object ahead of the first -/
theorem Mv.back (x : Mv W ρ s ρ' s') (live : ∀ a ∈ W, ∃ o, s'.heap.get? a = some o) {a : Addr} (e : s'.heap.get? a = none) : s.heap.get? a = none := by
  cases h : s.heap.get? a with
  | none => rfl
  | some o =>
    by_cases hw : a ∈ W
    · obtain ⟨o', e'⟩ := live a hw
      rw [e] at e'; cases e'
    · rw [x.step.keep a o h hw] at e; cases e
theorem Mv.trans (x : Mv W ρ s ρ' s') (y : Mv W' ρ' s' ρ'' s'') (live : ∀ a ∈ W, ∃ o, s'.heap.get? a = some o) (hW : ∀ a ∈ W', a ∈ W ∨ s.heap.get? a = none) : Mv W ρ s ρ'' s'' := by
  refine ⟨?_, x.step.trans y.step hW⟩
  obtain ⟨n, rfl, hn⟩ := x.new
  obtain ⟨n', rfl, hn'⟩ := y.new
  refine ⟨n ++ n', List.append_assoc .., fun a ha => ?_⟩
  rcases List.mem_append.mp ha with ha | ha
  · exact hn a ha
  · exact x.back live (hn' a ha)

/-- the move of an expression: only the store's own lists are stored to -/
abbrev MvE (ρ : List Addr) (s : Shared) (ρ' : List Addr) (s' : Shared) : Prop := Mv ρ ρ s ρ' s'
theorem MvE.trans (x : MvE ρ s ρ' s') (I : Inv P ρ' σ' s'.heap) (y : MvE ρ' s' ρ'' s'') : MvE ρ s ρ'' s'' :=
  Mv.trans x y (fun a ha => (I.softs a (x.mem ha)).live) fun _ ha => x.cases ha
abbrev MvS (env : Env) (ρ : List Addr) (s : Shared) (ρ' : List Addr) (s' : Shared) : Prop := Mv (fa env ++ ρ) ρ s ρ' s'
theorem MvS.trans (x : MvS env ρ s ρ' s') (I : Inv P ρ' σ' s'.heap) (F : FrameR P ρ' names ℓ env s'.heap) (y : MvS env ρ' s' ρ'' s'') : MvS env ρ s ρ'' s'' := by
  refine Mv.trans x y (fun a ha => ?_) fun a ha => ?_
  · rcases List.mem_append.mp ha with ha | ha
    · exact (F.softs a ha).live
    · exact (I.softs a (x.mem ha)).live
  · rcases List.mem_append.mp ha with ha | ha
    · exact .inl (List.mem_append_left _ ha)
    · exact (x.cases ha).imp (List.mem_append_right _) id
theorem MvE.toS (x : MvE ρ s ρ' s') : MvS env ρ s ρ' s' := ⟨x.new, x.step.mono fun _ ha => .inl (List.mem_append_right _ ha)⟩

theorem RV.mvE {x : AV} {v : Value} (r : RV P ρ s.heap x v) (I : Inv P ρ σ s.heap) (m : MvE ρ s ρ' s') : RV P ρ' s'.heap x v := by
  obtain ⟨n, rfl, hn⟩ := m.new
  exact r.kp m.step.keep I.softs hn
theorem RVs.mvE {x : List AV} {v : List Value} (r : RVs P ρ s.heap x v) (I : Inv P ρ σ s.heap) (m : MvE ρ s ρ' s') : RVs P ρ' s'.heap x v := by
  obtain ⟨n, rfl, hn⟩ := m.new
  exact r.kp m.step.keep I.softs hn
theorem RV.mvS {x : AV} {v : Value} (r : RV P ρ s.heap x v) (I : Inv P ρ σ s.heap) (F : FrameR P ρ names ℓ env s.heap) (m : MvS env ρ s ρ' s') : RV P ρ' s'.heap x v := by
  obtain ⟨n, rfl, hn⟩ := m.new
  exact r.kp m.step.keep (softs_app I F) hn
theorem FrameR.mvE (F : FrameR P ρ names ℓ env s.heap) (I : Inv P ρ σ s.heap) (m : MvE ρ s ρ' s') : FrameR P ρ' names ℓ env s'.heap := by
  obtain ⟨n, rfl, hn⟩ := m.new
  exact F.kp m.step.keep I.softs hn
end

end Mine
end
section
namespace Mine
open PySem PySem.W PyProof.Rows

mutual
inductive BinK where
  | add | sub | mul | fdiv | mod | pow | shl | band
inductive CmpK where
  | eq | ne | lt | le | gt | ge | is | isNot | inn | notIn
inductive BK where
  | len | sum | max | sorted | hex | tuple | list
inductive MK where
  | append | extend | index | count | join | split
inductive FK where
  | raw | n | nt | norm | simple
inductive AugK where
  | add | sub | xor
end
noncomputable def BinK.ctorIdx (x : BinK) : Nat := BinK.casesOn x 0 1 2 3 4 5 6 7
noncomputable def CmpK.ctorIdx (x : CmpK) : Nat := CmpK.casesOn x 0 1 2 3 4 5 6 7 8 9
noncomputable def BK.ctorIdx (x : BK) : Nat := BK.casesOn x 0 1 2 3 4 5 6
noncomputable def MK.ctorIdx (x : MK) : Nat := MK.casesOn x 0 1 2 3 4 5
noncomputable def FK.ctorIdx (x : FK) : Nat := FK.casesOn x 0 1 2 3 4
noncomputable def AugK.ctorIdx (x : AugK) : Nat := AugK.casesOn x 0 1 2

inductive Tg where
  | one (i : Nat)
  | many (l : List Nat)
noncomputable def Tg.ctorIdx (x : Tg) : Nat := Tg.casesOn x (fun _ => 0) (fun _ => 1)

inductive IE where
  | lit (v : AV)
  | var (i : Nat)
  | bin (op : BinK) (a b : IE)
  | neg (a : IE)
  | notE (a : IE)
  | andE (a b : IE)
  | orE (a b : IE)
  | ife (t a b : IE)
  | cmp (op : CmpK) (a b : IE)
  | tup (l : List IE)
  | list (l : List IE)
  | idx (a i : IE)
  | slice (a : IE) (lo hi : Option IE)
  | comp (imp : List (Option Nat)) (elt : IE) (tg : Tg) (it : IE) (ifs : List IE)
  | comp2 (imp : List (Option Nat)) (elt : IE) (x : Nat) (it : IE) (y : Nat) (it2 : IE) (ifs : List IE)
  | rng1 (a : IE)
  | rng2 (a b : IE)
  | call (k : Nat) (args : List IE)
  | cls (a : IE)
  | bi (b : BK) (args : List IE)
  | meth (m : MK) (o : IE) (args : List IE)
  | umeth (k : Nat) (o : IE) (args : List IE)
  | attr (f : FK) (o : IE)
  | wsS
  | wsT
  | dget (k d : IE)
noncomputable def IE.ctorIdx (x : IE) : Nat := IE.casesOn x (fun _ => 0) (fun _ => 1) (fun _ _ _ => 2) (fun _ => 3) (fun _ => 4) (fun _ _ => 5) (fun _ _ => 6) (fun _ _ _ => 7) (fun _ _ _ => 8) (fun _ => 9) (fun _ => 10) (fun _ _ => 11) (fun _ _ _ => 12) (fun _ _ _ _ _ => 13) (fun _ _ _ _ _ _ _ => 14) (fun _ => 15) (fun _ _ => 16) (fun _ _ => 17) (fun _ => 18) (fun _ _ => 19) (fun _ _ _ => 20) (fun _ _ _ => 21) (fun _ _ => 22) 23 24 (fun _ _ => 25)

inductive IS where
  | assign (x : Nat) (e : IE)
  | assignT (xs : List Nat) (e : IE)
  | swap (x y : Nat) (a b : IE)
  | chain (xs : List Nat) (e : IE)
  | assignF (f : FK) (o e : IE)
  | assignI (o i e : IE)
  | aug (x : Nat) (op : AugK) (e : IE)
  | expr (e : IE)
  | forS (tg : Tg) (it : IE) (body els : List IS)
  | forE (tg : Tg) (e : IE) (body els : List IS)
  | forG (tg : Tg) (e : IE) (body els : List IS)
  | whileS (t : IE) (body : List IS)
  | ifS (t : IE) (a b : List IS)
  | ret (e : IE)
  | brk
  | pass
noncomputable def IS.ctorIdx (x : IS) : Nat := IS.casesOn x (fun _ _ => 0) (fun _ _ => 1) (fun _ _ _ _ => 2) (fun _ _ => 3) (fun _ _ _ => 4) (fun _ _ _ => 5) (fun _ _ _ => 6) (fun _ => 7) (fun _ _ _ _ => 8) (fun _ _ _ _ => 9) (fun _ _ _ _ => 10) (fun _ _ => 11) (fun _ _ _ => 12) (fun _ => 13) 14 15

structure FDef where
  params : List Nat
  slots : Nat
  body : List IS

inductive Fl where
  | next | brk | ret (v : AV)
noncomputable def Fl.ctorIdx (x : Fl) : Nat := Fl.casesOn x 0 1 (fun _ => 2)

noncomputable def lim : Nat := 1048576
noncomputable def gas : Nat := 100000

/-! ### operations -/

noncomputable def fkName : FK → Str
  | .raw => sRaw
  | .n => sN
  | .nt => sNt
  | .norm => sNorm
  | .simple => sSimple

noncomputable def normV (w : WS) : AV := .tup [.tup (w.cnt.map .int), .int w.b]
noncomputable def wsField (w : WS) : FK → AV
  | .raw => .str w.raw
  | .n => .int w.n
  | .nt => .int w.nt
  | .norm => normV w
  | .simple => .bool w.simple
theorem wsField_q2 (w : WS) : wsField w (.n) = (.int w.n) := rfl
theorem wsField_q3 (w : WS) : wsField w (.nt) = (.int w.nt) := rfl
theorem wsField_q4 (w : WS) : wsField w (.norm) = (normV w) := rfl
theorem wsField_q5 (w : WS) : wsField w (.simple) = (.bool w.simple) := rfl

section
variable {β : Type}
noncomputable def oI (x : AV) (f : Int → Option β) : Option β := match x with
  | .int a => f a
  | _ => none
theorem oI_q1 (f : Int → Option β) : oI (.int a) f = (f a) := rfl
noncomputable def oS (x : AV) (f : List Nat → Option β) : Option β := match x with
  | .str a => f a
  | _ => none
theorem oS_q1 (f : List Nat → Option β) : oS (.str a) f = (f a) := rfl
noncomputable def oR (x : AV) (f : Nat → Option β) : Option β := match x with
  | .ref a => f a
  | _ => none
theorem oR_q1 (f : Nat → Option β) : oR (.ref a) f = (f a) := rfl
noncomputable def oB (x : AV) (f : Bool → Option β) : Option β := match x with
  | .bool a => f a
  | _ => none
theorem oB_q1 (f : Bool → Option β) : oB (.bool a) f = (f a) := rfl
noncomputable def oT (x : AV) (f : List AV → Option β) : Option β := match x with
  | .tup a => f a
  | _ => none
theorem oT_q1 (f : List AV → Option β) : oT (.tup a) f = (f a) := rfl
noncomputable def oOne (l : List AV) (f : AV → Option β) : Option β := match l with
  | [a] => f a
  | _ => none
theorem oOne_q1 (f : AV → Option β) : oOne ([a]) f = (f a) := rfl
theorem noS {r : β} {G : Prop} (h : none = some r) : G := by cases h
@[elab_as_elim] theorem oI_elim {x : AV} {f : Int → Option β} {r : β} {motive : AV → Prop} (h : oI x f = some r) (k : ∀ a, f a = some r → motive (.int a)) : motive x := by
  cases x <;> first | exact k _ h | exact noS h
@[elab_as_elim] theorem oS_elim {x : AV} {f : List Nat → Option β} {r : β} {motive : AV → Prop} (h : oS x f = some r) (k : ∀ a, f a = some r → motive (.str a)) : motive x := by
  cases x <;> first | exact k _ h | exact noS h
@[elab_as_elim] theorem oR_elim {x : AV} {f : Nat → Option β} {r : β} {motive : AV → Prop} (h : oR x f = some r) (k : ∀ a, f a = some r → motive (.ref a)) : motive x := by
  cases x <;> first | exact k _ h | exact noS h
@[elab_as_elim] theorem oB_elim {x : AV} {f : Bool → Option β} {r : β} {motive : AV → Prop} (h : oB x f = some r) (k : ∀ a, f a = some r → motive (.bool a)) : motive x := by
  cases x <;> first | exact k _ h | exact noS h
@[elab_as_elim] theorem oT_elim {x : AV} {f : List AV → Option β} {r : β} {motive : AV → Prop} (h : oT x f = some r) (k : ∀ a, f a = some r → motive (.tup a)) : motive x := by
  cases x <;> first | exact k _ h | exact noS h
noncomputable def oW (x : AV) (f : WS → Option β) : Option β := match x with
  | .inst a => f a
  | _ => none
theorem oW_q1 (f : WS → Option β) : oW (.inst a) f = (f a) := rfl
noncomputable def oSelf (x : AV) (f : Nat → Option β) : Option β := match x with
  | .self a => f a
  | _ => none
theorem oSelf_q1 (f : Nat → Option β) : oSelf (.self a) f = (f a) := rfl
noncomputable def oN (x : AV) (f : Option β) : Option β := match x with
  | .none => f
  | _ => none
theorem oN_q1 (f : Option β) : oN (.none) f = (f) := rfl
@[elab_as_elim] theorem oW_elim {x : AV} {f : WS → Option β} {r : β} {motive : AV → Prop} (h : oW x f = some r) (k : ∀ a, f a = some r → motive (.inst a)) : motive x := by
  cases x <;> first | exact k _ h | exact noS h
@[elab_as_elim] theorem oSelf_elim {x : AV} {f : Nat → Option β} {r : β} {motive : AV → Prop} (h : oSelf x f = some r) (k : ∀ a, f a = some r → motive (.self a)) : motive x := by
  cases x <;> first | exact k _ h | exact noS h
@[elab_as_elim] theorem oN_elim {x : AV} {f : Option β} {r : β} {motive : AV → Prop} (h : oN x f = some r) (k : f = some r → motive .none) : motive x := by
  cases x <;> first | exact k h | exact noS h
@[elab_as_elim] theorem oOne_elim {l : List AV} {f : AV → Option β} {r : β} {motive : List AV → Prop} (h : oOne l f = some r) (k : ∀ a, f a = some r → motive [a]) : motive l := by
  rcases l with _ | ⟨a, _ | ⟨b, l⟩⟩
  · exact noS h
  · exact k a h
  · exact noS h
noncomputable def oO {α : Type} (o : Option α) (f : α → Option β) : Option β := match o with
  | some a => f a
  | none => none
noncomputable def oP {α γ : Type} (o : Option (α × γ)) (f : α → γ → Option β) : Option β := match o with
  | some (a, c) => f a c
  | none => none
theorem oO_elim {α : Type} {o : Option α} {f : α → Option β} {r : β} {G : Prop} (h : oO o f = some r) (k : ∀ a, o = some a → f a = some r → G) : G := by
  cases o with
  | none => exact noS h
  | some a => exact k a rfl h
theorem oP_elim {α γ : Type} {o : Option (α × γ)} {f : α → γ → Option β} {r : β} {G : Prop} (h : oP o f = some r) (k : ∀ a c, o = some (a, c) → f a c = some r → G) : G := by
  cases o with
  | none => exact noS h
  | some p => cases p with | mk a c => exact k a c rfl h
theorem iN_elim {c : Bool} {o : Option β} {r : β} {G : Prop} (h : (if c = true then o else none) = some r) (k : c = true → o = some r → G) : G := by
  cases c with
  | false => exact noS h
  | true => exact k rfl h
theorem iE_elim {c : Bool} {o o' : Option β} {r : β} {G : Prop} (h : (if c = true then o else o') = some r) (k : c = true → o = some r → G) (k' : c = false → o' = some r → G) : G := by
  cases c with
  | false => exact k' rfl h
  | true => exact k rfl h
theorem iM_elim {c : Bool} {o : Option β} {r : β} {G : Prop} (h : (if c = true then none else o) = some r) (k : c = false → o = some r → G) : G := by
  cases c with
  | true => exact noS h
  | false => exact k rfl h
@[elab_as_elim] theorem ret_elim {α γ : Type} {a v : α} {c w : γ} {motive : α → γ → Prop} (h : some (a, c) = some (v, w)) (k : motive a c) : motive v w := by
  cases h; exact k
@[elab_as_elim] theorem ret3_elim {α γ δ : Type} {a v : α} {c w : γ} {d z : δ} {motive : α → γ → δ → Prop} (h : some (a, c, d) = some (v, w, z)) (k : motive a c d) : motive v w z := by
  cases h; exact k
@[elab_as_elim] theorem ret1_elim {α : Type} {a v : α} {motive : α → Prop} (h : some a = some v) (k : motive a) : motive v := by
  cases h; exact k
end

noncomputable def asInts : List AV → Option (List Int)
  | [] => some []
  | x :: l => oI x fun i => oO (asInts l) fun r => some (i :: r)

noncomputable def normF {β : Type} (v : AV) (f : List AV → Int → Option β) : Option β := oT v fun l => match l with
  | [x, y] => oT x fun c => oI y fun b => f c b
  | _ => none
noncomputable def freeze (fs : List (Str × AV)) : Option WS :=
  oO (fs.lookup sRaw) fun v => oS v fun raw => oO (fs.lookup sN) fun v => oI v fun n => oO (fs.lookup sNt) fun v => oI v fun nt => oO (fs.lookup sNorm) fun v => normF v fun c b => oO (fs.lookup sSimple) fun v => oB v fun s =>
    oO (asInts c) fun cnt => if fs.all (fun p => [sRaw, sN, sNt, sNorm, sSimple].contains p.1) then some ⟨raw, n, nt, cnt, b, s⟩ else none

noncomputable def mapO {α β : Type} (f : α → Option β) : List α → Option (List β)
  | [] => some []
  | x :: l => oO (f x) fun y => oO (mapO f l) fun ys => some (y :: ys)

/-- ints, and tuples of these, as plain data -/
noncomputable def toPy : Nat → AV → Option PyData
  | 0, x => oI x fun i => some (.int i)
  | n + 1, x => match x with
    | .int i => some (.int i)
    | .tup l => oO (mapO (toPy n) l) fun ds => some (.tuple ds)
    | _ => none

noncomputable def asStrs : List AV → Option (List (List Nat))
  | [] => some []
  | x :: l => oS x fun i => oO (asStrs l) fun r => some (i :: r)

/-- Python's == of two lists of ints or of tuples of ints -/
noncomputable def eqL (l l' : List AV) : Option Bool := oO (mapO (toPy 3) l) fun a => oO (mapO (toPy 3) l') fun b => some (PyData.eqvAll a b)

noncomputable def listOf? (σ : Sto) (i : Nat) : Option (List AV) := match σ[i]? with | some o => (match o with | .list l => some l | .ns _ => none) | none => none

noncomputable def small (a : Int) : Bool := Nat.blt a.natAbs (2 ^ 62)

noncomputable def bAdd (x y : AV) (σ : Sto) : Option (AV × Sto) := match x with
  | .int a => oI y fun b => some (.int (a + b), σ)
  | .str a => oS y fun b => if Nat.ble (a.length + b.length) lim then some (.str (a ++ b), σ) else none
  | .ref i => oR y fun j => oO (listOf? σ i) fun l => oO (listOf? σ j) fun l' => if Nat.ble (l.length + l'.length) lim then some (.ref σ.length, σ ++ [.list (l ++ l')]) else none
  | _ => none
theorem bAdd_q1 (y : AV) (σ : Sto) : bAdd (.int a) y σ = (oI y fun b => some (.int (a + b), σ)) := rfl
theorem bAdd_q2 (y : AV) (σ : Sto) : bAdd (.str a) y σ = (oS y fun b => if Nat.ble (a.length + b.length) lim then some (.str (a ++ b), σ) else none) := rfl
theorem bAdd_q3 (y : AV) (σ : Sto) : bAdd (.ref i) y σ = (oR y fun j => oO (listOf? σ i) fun l => oO (listOf? σ j) fun l' => if Nat.ble (l.length + l'.length) lim then some (.ref σ.length, σ ++ [.list (l ++ l')]) else none) := rfl
noncomputable def bMul (x y : AV) (σ : Sto) : Option (AV × Sto) := match x with
  | .int a => oI y fun b => if small a && small b then some (.int (a * b), σ) else none
  | .str a => oI y fun n => if decide (-1000 ≤ n) && decide (n ≤ 1000) && Nat.ble a.length 1000 then some (.str (List.replicate n.toNat a).flatten, σ) else none
  | .ref i => oI y fun n => oO (listOf? σ i) fun l => if decide (-1000 ≤ n) && decide (n ≤ 1000) && Nat.ble l.length 1000 then some (.ref σ.length, σ ++ [.list (List.replicate n.toNat l).flatten]) else none
  | _ => none
theorem bMul_q1 (y : AV) (σ : Sto) : bMul (.int a) y σ = (oI y fun b => if small a && small b then some (.int (a * b), σ) else none) := rfl
theorem bMul_q2 (y : AV) (σ : Sto) : bMul (.str a) y σ = (oI y fun n => if decide (-1000 ≤ n) && decide (n ≤ 1000) && Nat.ble a.length 1000 then some (.str (List.replicate n.toNat a).flatten, σ) else none) := rfl
theorem bMul_q3 (y : AV) (σ : Sto) : bMul (.ref i) y σ = (oI y fun n => oO (listOf? σ i) fun l => if decide (-1000 ≤ n) && decide (n ≤ 1000) && Nat.ble l.length 1000 then some (.ref σ.length, σ ++ [.list (List.replicate n.toNat l).flatten]) else none) := rfl
noncomputable def binop (op : BinK) (x y : AV) (σ : Sto) : Option (AV × Sto) :=
  match op with
  | .add => bAdd x y σ
  | .sub => oI x fun a => oI y fun b => some (.int (a - b), σ)
  | .mul => bMul x y σ
  | .fdiv => oI x fun a => oI y fun b => if b == 0 then none else if Nat.blt b.natAbs 1073741824 then some (.int (Int.fdiv a b), σ) else none
  | .mod => oI x fun a => oI y fun b => if b == 0 then none else some (.int (Int.fmod a b), σ)
  | .pow => oI x fun a => oI y fun b => if small a && decide (0 ≤ b) && decide (b ≤ 1000) then some (.int (a ^ b.toNat), σ) else none
  | .shl => oI x fun a => oI y fun b => if small a && decide (0 ≤ b) && decide (b ≤ 1000) then some (.int (a * 2 ^ b.toNat), σ) else none
  | .band => oI x fun a => oI y fun b => some (.int (Builtin.bitAnd a b), σ)
theorem binop_q1 (x y : AV) (σ : Sto) : binop (.add) x y σ = (bAdd x y σ) := rfl
theorem binop_q2 (x y : AV) (σ : Sto) : binop (.sub) x y σ = (oI x fun a => oI y fun b => some (.int (a - b), σ)) := rfl
theorem binop_q3 (x y : AV) (σ : Sto) : binop (.mul) x y σ = (bMul x y σ) := rfl
theorem binop_q4 (x y : AV) (σ : Sto) : binop (.fdiv) x y σ = (oI x fun a => oI y fun b => if b == 0 then none else if Nat.blt b.natAbs 1073741824 then some (.int (Int.fdiv a b), σ) else none) := rfl
theorem binop_q5 (x y : AV) (σ : Sto) : binop (.mod) x y σ = (oI x fun a => oI y fun b => if b == 0 then none else some (.int (Int.fmod a b), σ)) := rfl
theorem binop_q6 (x y : AV) (σ : Sto) : binop (.pow) x y σ = (oI x fun a => oI y fun b => if small a && decide (0 ≤ b) && decide (b ≤ 1000) then some (.int (a ^ b.toNat), σ) else none) := rfl
theorem binop_q7 (x y : AV) (σ : Sto) : binop (.shl) x y σ = (oI x fun a => oI y fun b => if small a && decide (0 ≤ b) && decide (b ≤ 1000) then some (.int (a * 2 ^ b.toNat), σ) else none) := rfl
theorem binop_q8 (x y : AV) (σ : Sto) : binop (.band) x y σ = (oI x fun a => oI y fun b => some (.int (Builtin.bitAnd a b), σ)) := rfl

noncomputable def augop (op : AugK) (x y : AV) : Option AV := oI x fun a => oI y fun b => match op with
  | .add => some (.int (a + b))
  | .sub => some (.int (a - b))
  | .xor => some (.int (Builtin.bitXor a b))

noncomputable def isNoneV : AV → Bool
  | .none => true
  | _ => false

noncomputable def cEq (x y : AV) (σ : Sto) : Option Bool := match x with
  | .int a => oI y fun b => some (a == b)
  | .str a => oS y fun b => some (a == b)
  | .ref i => oR y fun j => oO (listOf? σ i) fun l => oO (listOf? σ j) fun l' => eqL l l'
  | .tup a => oT y fun b => eqL a b
  | _ => none
theorem cEq_q1 (y : AV) (σ : Sto) : cEq (.int a) y σ = (oI y fun b => some (a == b)) := rfl
theorem cEq_q2 (y : AV) (σ : Sto) : cEq (.str a) y σ = (oS y fun b => some (a == b)) := rfl
theorem cEq_q3 (y : AV) (σ : Sto) : cEq (.ref i) y σ = (oR y fun j => oO (listOf? σ i) fun l => oO (listOf? σ j) fun l' => eqL l l') := rfl
theorem cEq_q4 (y : AV) (σ : Sto) : cEq (.tup a) y σ = (oT y fun b => eqL a b) := rfl
noncomputable def cNe (x y : AV) (σ : Sto) : Option Bool := match x with
  | .int a => oI y fun b => some (a != b)
  | .str a => oS y fun b => some (a != b)
  | .ref i => oR y fun j => oO (listOf? σ i) fun l => oO (listOf? σ j) fun l' => oO (eqL l l') fun b => some (!b)
  | _ => none
theorem cNe_q1 (y : AV) (σ : Sto) : cNe (.int a) y σ = (oI y fun b => some (a != b)) := rfl
theorem cNe_q3 (y : AV) (σ : Sto) : cNe (.ref i) y σ = (oR y fun j => oO (listOf? σ i) fun l => oO (listOf? σ j) fun l' => oO (eqL l l') fun b => some (!b)) := rfl
noncomputable def cIs (x y : AV) : Option Bool := match y with
  | .none => some (isNoneV x)
  | .bool b => oB x fun a => some (a == b)
  | _ => none
theorem cIs_q1 (x : AV) : cIs x (.none) = (some (isNoneV x)) := rfl
noncomputable def cIn (x y : AV) (σ : Sto) : Option Bool := oI x fun a => match y with
  | .ref i => oO (listOf? σ i) fun l => oO (asInts l) fun ns => some (ns.any (· == a))
  | .tup l => oO (asInts l) fun ns => some (ns.any (· == a))
  | _ => none
noncomputable def cNotS (a : List Nat) (y : AV) (σ : Sto) : Option Bool := match y with
  | .str s => (match a with
    | [c] => some (!s.any (· == c))
    | _ => none)
  | .ref i => oO (listOf? σ i) fun l => oO (asStrs l) fun ss => some (!ss.any (· == a))
  | _ => none
theorem cNotS_q1 (a : List Nat) (σ : Sto) : cNotS a (.str s) σ = ((match a with
      | [c] => some (!s.any (· == c))
      | _ => none)) := rfl
theorem cNotS_q2 (a : List Nat) (σ : Sto) : cNotS a (.ref i) σ = (oO (listOf? σ i) fun l => oO (asStrs l) fun ss => some (!ss.any (· == a))) := rfl
noncomputable def cNotIn (x y : AV) (σ : Sto) : Option Bool := match x with
  | .str a => cNotS a y σ
  | .int a => oR y fun i => oO (listOf? σ i) fun l => oO (asInts l) fun ns => some (!ns.any (· == a))
  | _ => none
theorem cNotIn_q1 (y : AV) (σ : Sto) : cNotIn (.str a) y σ = (cNotS a y σ) := rfl
noncomputable def cmpop (op : CmpK) (x y : AV) (σ : Sto) : Option Bool :=
  match op with
  | .eq => cEq x y σ
  | .ne => cNe x y σ
  | .lt => oI x fun a => oI y fun b => some (decide (a < b))
  | .le => oI x fun a => oI y fun b => some (decide (a ≤ b))
  | .gt => oI x fun a => oI y fun b => some (decide (b < a))
  | .ge => oI x fun a => oI y fun b => some (decide (b ≤ a))
  | .is => cIs x y
  | .isNot => oB x fun a => oB y fun b => some (a != b)
  | .inn => cIn x y σ
  | .notIn => cNotIn x y σ
theorem cmpop_q1 (x y : AV) (σ : Sto) : cmpop (.eq) x y σ = (cEq x y σ) := rfl
theorem cmpop_q2 (x y : AV) (σ : Sto) : cmpop (.ne) x y σ = (cNe x y σ) := rfl
theorem cmpop_q3 (x y : AV) (σ : Sto) : cmpop (.lt) x y σ = (oI x fun a => oI y fun b => some (decide (a < b))) := rfl
theorem cmpop_q4 (x y : AV) (σ : Sto) : cmpop (.le) x y σ = (oI x fun a => oI y fun b => some (decide (a ≤ b))) := rfl
theorem cmpop_q5 (x y : AV) (σ : Sto) : cmpop (.gt) x y σ = (oI x fun a => oI y fun b => some (decide (b < a))) := rfl
theorem cmpop_q6 (x y : AV) (σ : Sto) : cmpop (.ge) x y σ = (oI x fun a => oI y fun b => some (decide (b ≤ a))) := rfl
theorem cmpop_q7 (x y : AV) (σ : Sto) : cmpop (.is) x y σ = (cIs x y) := rfl
theorem cmpop_q8 (x y : AV) (σ : Sto) : cmpop (.isNot) x y σ = (oB x fun a => oB y fun b => some (a != b)) := rfl
theorem cmpop_q9 (x y : AV) (σ : Sto) : cmpop (.inn) x y σ = (cIn x y σ) := rfl
theorem cmpop_q10 (x y : AV) (σ : Sto) : cmpop (.notIn) x y σ = (cNotIn x y σ) := rfl

noncomputable def truthV : AV → Option Bool
  | .bool b => some b
  | .int i => some (i != 0)
  | _ => none
theorem truthV_q1  : truthV (.bool b) = (some b) := rfl
theorem truthV_q2  : truthV (.int i) = (some (i != 0)) := rfl

noncomputable def normIdx (i : Int) (n : Nat) : Option Nat :=
  if !Nat.ble n lim then none else
  if decide (0 ≤ i) then (if decide (i < n) then some i.toNat else none)
  else (if decide (0 ≤ i + n) then some (i + n).toNat else none)

noncomputable def idxop (x i : AV) (σ : Sto) : Option AV :=
  match x with
  | .ref j => oI i fun k => oO (listOf? σ j) fun l => oO (normIdx k l.length) fun p => l[p]?
  | .str s => oI i fun k => oO (normIdx k s.length) fun p => oO s[p]? fun c => some (.str [c])
  | .frz l => oI i fun k => oO (normIdx k l.length) fun p => oO l[p]? fun a => some (.int a)
  | .tup l => oI i fun k => oO (normIdx k l.length) fun p => l[p]?
  | _ => none
theorem idxop_q1 (i : AV) (σ : Sto) : idxop (.ref j) i σ = (oI i fun k => oO (listOf? σ j) fun l => oO (normIdx k l.length) fun p => l[p]?) := rfl
theorem idxop_q2 (i : AV) (σ : Sto) : idxop (.str s) i σ = (oI i fun k => oO (normIdx k s.length) fun p => oO s[p]? fun c => some (.str [c])) := rfl
theorem idxop_q4 (i : AV) (σ : Sto) : idxop (.tup l) i σ = (oI i fun k => oO (normIdx k l.length) fun p => l[p]?) := rfl

/-- a bound of a slice: none, or an int that is not below nought -/
noncomputable def bound? : Option AV → Option (Option Nat)
  | none => some none
  | some v => oI v fun k => if decide (0 ≤ k) && decide (k ≤ 1000000) then some (some k.toNat) else none
noncomputable def cut {α : Type} (l : List α) (lo hi : Option Nat) : List α :=
  ((match hi with | some b => l.take b | none => l)).drop (lo.getD 0)

noncomputable def slicev (x : AV) (lo hi : Option Nat) (σ : Sto) : Option (AV × Sto) := match x with
  | .str s => if Nat.ble s.length lim then some (.str (cut s lo hi), σ) else none
  | .ref i => oO (listOf? σ i) fun l => if Nat.ble l.length lim then some (.ref σ.length, σ ++ [.list (cut l lo hi)]) else none
  | .frz l => if Nat.ble l.length lim then some (.ref σ.length, σ ++ [.list ((cut l lo hi).map .int)]) else none
  | _ => none
theorem slicev_q1 (lo hi : Option Nat) (σ : Sto) : slicev (.str s) lo hi σ = (if Nat.ble s.length lim then some (.str (cut s lo hi), σ) else none) := rfl
theorem slicev_q2 (lo hi : Option Nat) (σ : Sto) : slicev (.ref i) lo hi σ = (oO (listOf? σ i) fun l => if Nat.ble l.length lim then some (.ref σ.length, σ ++ [.list (cut l lo hi)]) else none) := rfl
theorem slicev_q3 (lo hi : Option Nat) (σ : Sto) : slicev (.frz l) lo hi σ = (if Nat.ble l.length lim then some (.ref σ.length, σ ++ [.list ((cut l lo hi).map .int)]) else none) := rfl
noncomputable def sliceop (x : AV) (lo hi : Option AV) (σ : Sto) : Option (AV × Sto) :=
  oO (bound? lo) fun lo => oO (bound? hi) fun hi => slicev x lo hi σ

noncomputable def ins (x : Int) : List Int → List Int
  | [] => [x]
  | y :: l => if decide (x ≤ y) then x :: y :: l else y :: ins x l
theorem ins_q1 (x : Int) : ins x ([]) = ([x]) := rfl
theorem ins_q2 (x : Int) : ins x (y :: l) = (if decide (x ≤ y) then x :: y :: l else y :: ins x l) := rfl
noncomputable def isort : List Int → List Int
  | [] => []
  | x :: l => ins x (isort l)

noncomputable def hexText (n : Nat) : List Nat := 48 :: 120 :: (Nat.toDigits 16 n).map Char.toNat

noncomputable def maxL (a : Int) : List Int → Int
  | [] => a
  | b :: l => maxL (if decide (a < b) then b else a) l
theorem maxL_q1 (a : Int) : maxL a ([]) = (a) := rfl
theorem maxL_q2 (a : Int) : maxL a (b :: l) = (maxL (if decide (a < b) then b else a) l) := rfl

noncomputable def sumI : List Int → Int
  | [] => 0
  | a :: l => a + sumI l
theorem sumI_q2  : sumI (a :: l) = (a + sumI l) := rfl

noncomputable def bLen (x : AV) (σ : Sto) : Option (AV × Sto) := match x with
  | .str s => if Nat.ble s.length lim then some (.int s.length, σ) else none
  | .tup l => if Nat.ble l.length lim then some (.int l.length, σ) else none
  | .frz l => if Nat.ble l.length lim then some (.int l.length, σ) else none
  | .ref i => oO (listOf? σ i) fun l => if Nat.ble l.length lim then some (.int l.length, σ) else none
  | _ => none
theorem bLen_q1 (σ : Sto) : bLen (.str s) σ = (if Nat.ble s.length lim then some (.int s.length, σ) else none) := rfl
theorem bLen_q2 (σ : Sto) : bLen (.tup l) σ = (if Nat.ble l.length lim then some (.int l.length, σ) else none) := rfl
theorem bLen_q4 (σ : Sto) : bLen (.ref i) σ = (oO (listOf? σ i) fun l => if Nat.ble l.length lim then some (.int l.length, σ) else none) := rfl
noncomputable def max1 (ns : List Int) (σ : Sto) : Option (AV × Sto) := match ns with
  | a :: ns => some (.int (maxL a ns), σ)
  | [] => none
noncomputable def bMax (args : List AV) (σ : Sto) : Option (AV × Sto) := match args with
  | [x] => oR x fun i => oO (listOf? σ i) fun l => oO (asInts l) fun ns => max1 ns σ
  | [x, y] => oI x fun a => oI y fun b => some (.int (if decide (a < b) then b else a), σ)
  | _ => none
theorem bMax_q1 (σ : Sto) : bMax ([x]) σ = (oR x fun i => oO (listOf? σ i) fun l => oO (asInts l) fun ns => max1 ns σ) := rfl
theorem bMax_q2 (σ : Sto) : bMax ([x, y]) σ = (oI x fun a => oI y fun b => some (.int (if decide (a < b) then b else a), σ)) := rfl
noncomputable def bifn (b : BK) (args : List AV) (σ : Sto) : Option (AV × Sto) :=
  match b with
  | .len => oOne args fun x => bLen x σ
  | .sum => oOne args fun x => oR x fun i => oO (listOf? σ i) fun l => oO (asInts l) fun ns => some (.int (sumI ns), σ)
  | .max => bMax args σ
  | .sorted => oOne args fun x => oR x fun i => oO (listOf? σ i) fun l => oO (asInts l) fun ns => if Nat.blt ns.length 64 then some (.ref σ.length, σ ++ [.list ((isort ns).map .int)]) else none
  | .hex => oOne args fun x => oI x fun a => if decide (0 ≤ a) && decide (a < 1048576) then some (.str (hexText a.toNat), σ) else none
  | .tuple => oOne args fun x => oR x fun i => oO (listOf? σ i) fun l => if Nat.ble l.length lim then some (.tup l, σ) else none
  | .list => oOne args fun x => oS x fun s => if Nat.ble s.length lim then some (.ref σ.length, σ ++ [.list (s.map fun c => .str [c])]) else none
theorem bifn_q1 (args : List AV) (σ : Sto) : bifn (.len) args σ = (oOne args fun x => bLen x σ) := rfl
theorem bifn_q2 (args : List AV) (σ : Sto) : bifn (.sum) args σ = (oOne args fun x => oR x fun i => oO (listOf? σ i) fun l => oO (asInts l) fun ns => some (.int (sumI ns), σ)) := rfl
theorem bifn_q3 (args : List AV) (σ : Sto) : bifn (.max) args σ = (bMax args σ) := rfl
theorem bifn_q5 (args : List AV) (σ : Sto) : bifn (.hex) args σ = (oOne args fun x => oI x fun a => if decide (0 ≤ a) && decide (a < 1048576) then some (.str (hexText a.toNat), σ) else none) := rfl
theorem bifn_q6 (args : List AV) (σ : Sto) : bifn (.tuple) args σ = (oOne args fun x => oR x fun i => oO (listOf? σ i) fun l => if Nat.ble l.length lim then some (.tup l, σ) else none) := rfl
theorem bifn_q7 (args : List AV) (σ : Sto) : bifn (.list) args σ = (oOne args fun x => oS x fun s => if Nat.ble s.length lim then some (.ref σ.length, σ ++ [.list (s.map fun c => .str [c])]) else none) := rfl

noncomputable def joinS (sep : List Nat) : List (List Nat) → List Nat
  | [] => []
  | [x] => x
  | x :: y :: r => x ++ (sep ++ joinS sep (y :: r))
theorem joinS_q2 (sep : List Nat) : joinS sep ([x]) = (x) := rfl
theorem joinS_q3 (sep : List Nat) : joinS sep (x :: y :: r) = (x ++ (sep ++ joinS sep (y :: r))) := rfl

noncomputable def countS (c : Nat) : List Nat → Nat
  | [] => 0
  | x :: l => (if x == c then 1 else 0) + countS c l
theorem countS_q1 (c : Nat) : countS c ([]) = (0) := rfl
theorem countS_q2 (c : Nat) : countS c (x :: l) = ((if x == c then 1 else 0) + countS c l) := rfl
noncomputable def countI (a : Int) : List Int → Nat
  | [] => 0
  | x :: l => (if x == a then 1 else 0) + countI a l
theorem countI_q2 (a : Int) : countI a (x :: l) = ((if x == a then 1 else 0) + countI a l) := rfl
noncomputable def indexS (t : List Nat) : List (List Nat) → Option Nat
  | [] => none
  | x :: l => if x == t then some 0 else match indexS t l with | some k => some (k + 1) | none => none
theorem indexS_q1 (t : List Nat) : indexS t ([]) = (none) := rfl
theorem indexS_q2 (t : List Nat) : indexS t (x :: l) = (if x == t then some 0 else match indexS t l with | some k => some (k + 1) | none => none) := rfl

/-- the pieces of a text between the places where the mark stands, from the left -/
noncomputable def splitS (m : List Nat) : Nat → List Nat → List Nat → List (List Nat)
  | 0, acc, s => [acc.reverse ++ s]
  | _ + 1, acc, [] => [acc.reverse]
  | f + 1, acc, x :: r => if m.isPrefixOf (x :: r) then acc.reverse :: splitS m f [] ((x :: r).drop m.length) else splitS m f (x :: acc) r
theorem splitS_q1 (m : List Nat) : splitS m (0) (acc) (s) = ([acc.reverse ++ s]) := rfl
theorem splitS_q2 (m : List Nat) : splitS m (u1' + 1) (acc) ([]) = ([acc.reverse]) := rfl
theorem splitS_q3 (m : List Nat) : splitS m (f + 1) (acc) (x :: r) = (if m.isPrefixOf (x :: r) then acc.reverse :: splitS m f [] ((x :: r).drop m.length) else splitS m f (x :: acc) r) := rfl

noncomputable def sumLen : List (List Nat) → Nat
  | [] => 0
  | x :: l => x.length + sumLen l
theorem sumLen_q2  : sumLen (x :: l) = (x.length + sumLen l) := rfl

noncomputable def setAt (σ : Sto) (i : Nat) (l : List AV) : Sto := σ.set i (.list l)

noncomputable def mCount (o w : AV) (σ : Sto) : Option (AV × Sto) := match o with
  | .ref i => oI w fun a => oO (listOf? σ i) fun l => oO (asInts l) fun ns => some (.int (countI a ns), σ)
  | .str s => oS w fun t => (match t with
    | [c] => some (.int (countS c s), σ)
    | _ => none)
  | _ => none
theorem mCount_q1 (w : AV) (σ : Sto) : mCount (.ref i) w σ = (oI w fun a => oO (listOf? σ i) fun l => oO (asInts l) fun ns => some (.int (countI a ns), σ)) := rfl
theorem mCount_q2 (w : AV) (σ : Sto) : mCount (.str s) w σ = (oS w fun t => (match t with
      | [c] => some (.int (countS c s), σ)
      | _ => none)) := rfl
noncomputable def method (m : MK) (o : AV) (args : List AV) (σ : Sto) : Option (AV × Sto) :=
  match m with
  | .append => oR o fun i => oOne args fun v => oO (listOf? σ i) fun l => if bel i v && Nat.ble l.length lim then some (.none, setAt σ i (l ++ [v])) else none
  | .extend => oR o fun i => oOne args fun w => oR w fun j => oO (listOf? σ i) fun l => oO (listOf? σ j) fun l' => if i != j && bels i l' && Nat.ble (l.length + l'.length) lim then some (.none, setAt σ i (l ++ l')) else none
  | .index => oR o fun i => oOne args fun w => oS w fun t => oO (listOf? σ i) fun l => oO (asStrs l) fun ss => oO (indexS t ss) fun k => if Nat.ble l.length lim then some (.int k, σ) else none
  | .count => oOne args fun w => mCount o w σ
  | .join => oS o fun sep => oOne args fun w => oR w fun i => oO (listOf? σ i) fun l => oO (asStrs l) fun ss => if Nat.ble (sumLen ss + sep.length * ss.length) lim then some (.str (joinS sep ss), σ) else none
  | .split => oS o fun s => oOne args fun w => oS w fun t => if t.isEmpty || !t.all (Nat.blt · 256) then none else if Nat.ble s.length lim then
      some (.ref σ.length, σ ++ [.list ((splitS t (s.length + 1) [] s).map .str)]) else none
theorem method_q1 (o : AV) (args : List AV) (σ : Sto) : method (.append) o args σ = (oR o fun i => oOne args fun v => oO (listOf? σ i) fun l => if bel i v && Nat.ble l.length lim then some (.none, setAt σ i (l ++ [v])) else none) := rfl
theorem method_q3 (o : AV) (args : List AV) (σ : Sto) : method (.index) o args σ = (oR o fun i => oOne args fun w => oS w fun t => oO (listOf? σ i) fun l => oO (asStrs l) fun ss => oO (indexS t ss) fun k => if Nat.ble l.length lim then some (.int k, σ) else none) := rfl
theorem method_q4 (o : AV) (args : List AV) (σ : Sto) : method (.count) o args σ = (oOne args fun w => mCount o w σ) := rfl
theorem method_q5 (o : AV) (args : List AV) (σ : Sto) : method (.join) o args σ = (oS o fun sep => oOne args fun w => oR w fun i => oO (listOf? σ i) fun l => oO (asStrs l) fun ss => if Nat.ble (sumLen ss + sep.length * ss.length) lim then some (.str (joinS sep ss), σ) else none) := rfl
theorem method_q6 (o : AV) (args : List AV) (σ : Sto) : method (.split) o args σ = (oS o fun s => oOne args fun w => oS w fun t => if t.isEmpty || !t.all (Nat.blt · 256) then none else if Nat.ble s.length lim then
        some (.ref σ.length, σ ++ [.list ((splitS t (s.length + 1) [] s).map .str)]) else none) := rfl

noncomputable def hasMeth (o : AV) (σ : Sto) : Bool := match o with
  | .str _ => true
  | .ref i => (listOf? σ i).isSome
  | _ => false
theorem hasMeth_q1 (σ : Sto) : hasMeth (.str u1') σ = (true) := rfl
theorem hasMeth_q2 (σ : Sto) : hasMeth (.ref i) σ = ((listOf? σ i).isSome) := rfl

noncomputable def flagNames : List (Int × String) :=
  [(1, "OPTIMIZED"), (2, "NEWLOCALS"), (4, "VARARGS"), (8, "VARKEYWORDS"), (16, "NESTED"), (32, "GENERATOR"), (64, "NOFREE"), (128, "COROUTINE"), (256, "ITERABLE_COROUTINE"), (512, "ASYNC_GENERATOR")]
noncomputable def flagName (k : Int) : Option (List Nat) := match flagNames.lookup k with
  | some s => some (Str.ofString s).cps.toList
  | none => none

/-! ### iteration -/

inductive Itr where
  | vals (l : List AV)
  | lst (i : Nat)
  | grp (l : List Int)
noncomputable def Itr.ctorIdx (x : Itr) : Nat := Itr.casesOn x (fun _ => 0) (fun _ => 1) (fun _ => 2)

/-- what _grouping_intervals yields for a list of ints, the k-th -/
noncomputable def grpGo (last : Option Int) : List Int → Nat → Option (Option Int)
  | [], _ => some none
  | a :: l, k => if a == 127 then some none else if a == 0 then (match last with | none => none | some b => some (some b)) else
      match k with
      | 0 => some (some a)
      | k + 1 => grpGo (some a) l k
theorem grpGo_q1 (last : Option Int) : grpGo last ([]) (u1') = (some none) := rfl
theorem grpGo_q2 (last : Option Int) : grpGo last (a :: l) (k) = (if a == 127 then some none else if a == 0 then (match last with | none => none | some b => some (some b)) else
        match k with
        | 0 => some (some a)
        | k + 1 => grpGo (some a) l k) := rfl

noncomputable def itNext (it : Itr) (k : Nat) (σ : Sto) : Option (Option AV) :=
  match it with
  | .vals l => some l[k]?
  | .lst i => match listOf? σ i with | some l => some l[k]? | none => none
  | .grp l => match grpGo none l k with
    | some (some a) => some (some (.int a))
    | some none => some none
    | none => none
theorem itNext_q1 (k : Nat) (σ : Sto) : itNext (.vals l) k σ = (some l[k]?) := rfl
theorem itNext_q2 (k : Nat) (σ : Sto) : itNext (.lst i) k σ = (match listOf? σ i with | some l => some l[k]? | none => none) := rfl

noncomputable def rangeL (a : Int) : Nat → List AV
  | 0 => []
  | n + 1 => .int a :: rangeL (a + 1) n
theorem rangeL_q1 (a : Int) : rangeL a (0) = ([]) := rfl
theorem rangeL_q2 (a : Int) : rangeL a (n + 1) = (.int a :: rangeL (a + 1) n) := rfl

noncomputable def headZero : List Int → Bool
  | z :: _ => z == 0
  | [] => false

/-- what _iter_escaped_chars yields: (place, sign) pairs -/
noncomputable def escGo (pos : Nat) (esc : Bool) : List Nat → List AV
  | [] => if esc then [.tup [.int ((pos : Int) - 1), .str [92]]] else []
  | c :: l => if esc then .tup [.int pos, .str [92, c]] :: escGo (pos + 1) false l
      else if c == 92 then escGo (pos + 1) true l
      else .tup [.int pos, .str [c]] :: escGo (pos + 1) false l
theorem escGo_q1 (pos : Nat) (esc : Bool) : escGo pos esc ([]) = (if esc then [.tup [.int ((pos : Int) - 1), .str [92]]] else []) := rfl
theorem escGo_q2 (pos : Nat) (esc : Bool) : escGo pos esc (c :: l) = (if esc then .tup [.int pos, .str [92, c]] :: escGo (pos + 1) false l
        else if c == 92 then escGo (pos + 1) true l
        else .tup [.int pos, .str [c]] :: escGo (pos + 1) false l) := rfl

noncomputable def setSlots : List Nat → List AV → Loc → Option Loc
  | [], [], ℓ => some ℓ
  | i :: is, v :: vs, ℓ => if Nat.blt i ℓ.length then setSlots is vs (ℓ.set i (some v)) else none
  | _, _, _ => none
theorem setSlots_q1  : setSlots ([]) ([]) (ℓ) = (some ℓ) := rfl
theorem setSlots_q2  : setSlots (i :: is) (v :: vs) (ℓ) = (if Nat.blt i ℓ.length then setSlots is vs (ℓ.set i (some v)) else none) := rfl
noncomputable def bindTg (tg : Tg) (v : AV) (ℓ : Loc) : Option Loc := match tg with
  | .one i => if Nat.blt i ℓ.length then some (ℓ.set i (some v)) else none
  | .many is => oT v fun vs => setSlots is vs ℓ
theorem bindTg_q1 (v : AV) (ℓ : Loc) : bindTg (.one i) v ℓ = (if Nat.blt i ℓ.length then some (ℓ.set i (some v)) else none) := rfl
theorem bindTg_q2 (v : AV) (ℓ : Loc) : bindTg (.many is) v ℓ = (oT v fun vs => setSlots is vs ℓ) := rfl

/-! ### the evaluator -/

structure Rec where
  e : IE → Loc → Sto → Option (AV × Sto)
  t : IE → Loc → Sto → Option (Bool × Sto)
  b : List IS → Loc → Sto → Option (Fl × Loc × Sto)
  f : Nat → List AV → Sto → Option (AV × Sto)

noncomputable def evEs (r : Rec) : List IE → Loc → Sto → Option (List AV × Sto)
  | [], _, σ => some ([], σ)
  | e :: l, ℓ, σ => oP (r.e e ℓ σ) fun v σ => oP (evEs r l ℓ σ) fun vs σ => some (v :: vs, σ)
theorem evEs_q1 (r : Rec) : evEs r ([]) (u1') (σ) = (some ([], σ)) := rfl
theorem evEs_q2 (r : Rec) : evEs r (e :: l) (ℓ) (σ) = (oP (r.e e ℓ σ) fun v σ => oP (evEs r l ℓ σ) fun vs σ => some (v :: vs, σ)) := rfl

noncomputable def evO (r : Rec) : Option IE → Loc → Sto → Option (Option AV × Sto)
  | none, _, σ => some (none, σ)
  | some e, ℓ, σ => oP (r.e e ℓ σ) fun v σ => some (some v, σ)
theorem evO_q1 (r : Rec) : evO r (none) (u1') (σ) = (some (none, σ)) := rfl
theorem evO_q2 (r : Rec) : evO r (some e) (ℓ) (σ) = (oP (r.e e ℓ σ) fun v σ => some (some v, σ)) := rfl

/-- what a loop walks: a range of one or of two, or a value -/
inductive ItK where
  | r1 (a : IE)
  | r2 (a b : IE)
  | val
noncomputable def ItK.ctorIdx (x : ItK) : Nat := ItK.casesOn x (fun _ => 0) (fun _ _ => 1) 2
noncomputable def itK : IE → ItK
  | .rng1 a => .r1 a
  | .rng2 a b => .r2 a b
  | _ => .val
theorem itK_q1  : itK (.rng1 a) = (.r1 a) := rfl
theorem itK_q2  : itK (.rng2 a b) = (.r2 a b) := rfl
theorem itK_v1 : itK (.var i) = .val := rfl
theorem itK_v7 : itK (.meth m a l) = .val := rfl
theorem itK_v9 : itK (.attr f a) = .val := rfl
noncomputable def itVal (x : AV) (σ : Sto) : Option (Itr × Sto) := match x with
  | .str s => if s.all (Nat.blt · 128) then some (.vals (s.map fun c => .str [c]), σ) else none
  | .ref i => if (listOf? σ i).isSome then some (.lst i, σ) else none
  | _ => none
theorem itVal_q1 (σ : Sto) : itVal (.str s) σ = (if s.all (Nat.blt · 128) then some (.vals (s.map fun c => .str [c]), σ) else none) := rfl
theorem itVal_q2 (σ : Sto) : itVal (.ref i) σ = (if (listOf? σ i).isSome then some (.lst i, σ) else none) := rfl
noncomputable def evItK (r : Rec) (k : ItK) (e : IE) (ℓ : Loc) (σ : Sto) : Option (Itr × Sto) :=
  match k with
  | .r1 a => oP (r.e a ℓ σ) fun x σ => oI x fun n => if small n && decide (n ≤ 1000000) then some (.vals (rangeL 0 n.toNat), σ) else none
  | .r2 a b => oP (r.e a ℓ σ) fun x σ => oP (r.e b ℓ σ) fun y σ => oI x fun n => oI y fun m => if small n && small m && decide (m - n ≤ 1000000) then some (.vals (rangeL n (m - n).toNat), σ) else none
  | .val => oP (r.e e ℓ σ) fun x σ => itVal x σ
theorem evItK_q1 (r : Rec) (e : IE) (ℓ : Loc) (σ : Sto) : evItK r (.r1 a) e ℓ σ = (oP (r.e a ℓ σ) fun x σ => oI x fun n => if small n && decide (n ≤ 1000000) then some (.vals (rangeL 0 n.toNat), σ) else none) := rfl
theorem evItK_q2 (r : Rec) (e : IE) (ℓ : Loc) (σ : Sto) : evItK r (.r2 a b) e ℓ σ = (oP (r.e a ℓ σ) fun x σ => oP (r.e b ℓ σ) fun y σ => oI x fun n => oI y fun m => if small n && small m && decide (m - n ≤ 1000000) then some (.vals (rangeL n (m - n).toNat), σ) else none) := rfl
theorem evItK_q3 (r : Rec) (e : IE) (ℓ : Loc) (σ : Sto) : evItK r (.val) e ℓ σ = (oP (r.e e ℓ σ) fun x σ => itVal x σ) := rfl
noncomputable def evIt (r : Rec) (e : IE) (ℓ : Loc) (σ : Sto) : Option (Itr × Sto) := evItK r (itK e) e ℓ σ

noncomputable def evIfs (r : Rec) : List IE → Loc → Sto → Option (Bool × Sto)
  | [], _, σ => some (true, σ)
  | c :: l, ℓ, σ => oP (r.t c ℓ σ) fun b σ => if b then evIfs r l ℓ σ else some (false, σ)
theorem evIfs_q1 (r : Rec) : evIfs r ([]) (u1') (σ) = (some (true, σ)) := rfl
theorem evIfs_q2 (r : Rec) : evIfs r (c :: l) (ℓ) (σ) = (oP (r.t c ℓ σ) fun b σ => if b then evIfs r l ℓ σ else some (false, σ)) := rfl

/-- the turns of a comprehension's loop, each one's inner part handed in; the list that has grown is `acc` -/
noncomputable def compLoop (inner : Loc → Sto → List AV → Option (Loc × Sto × List AV)) (tg : Tg) (it : Itr) : Nat → Nat → Loc → Sto → List AV → Option (Loc × Sto × List AV)
  | 0, _, _, _, _ => none
  | g + 1, k, ℓ, σ, acc => oO (itNext it k σ) fun o => match o with
    | none => some (ℓ, σ, acc)
    | some v => oO (bindTg tg v ℓ) fun ℓ => oP (inner ℓ σ acc) fun ℓ x => compLoop inner tg it g (k + 1) ℓ x.1 x.2
theorem compLoop_q2 (inner : Loc → Sto → List AV → Option (Loc × Sto × List AV)) (tg : Tg) (it : Itr) : compLoop inner tg it (g + 1) (k) (ℓ) (σ) (acc) = (oO (itNext it k σ) fun o => match o with
      | none => some (ℓ, σ, acc)
      | some v => oO (bindTg tg v ℓ) fun ℓ => oP (inner ℓ σ acc) fun ℓ x => compLoop inner tg it g (k + 1) ℓ x.1 x.2) := rfl

noncomputable def innerElt (r : Rec) (ifs : List IE) (elt : IE) (ℓ : Loc) (σ : Sto) (acc : List AV) : Option (Loc × Sto × List AV) :=
  oP (evIfs r ifs ℓ σ) fun b σ => match b with
  | true => oP (r.e elt ℓ σ) fun v σ => if Nat.ble acc.length lim then some (ℓ, σ, acc ++ [v]) else none
  | false => some (ℓ, σ, acc)

noncomputable def impLoc (imp : List (Option Nat)) (ℓ : Loc) : Loc := imp.map fun
  | some i => (ℓ[i]?).join
  | none => none

noncomputable def endComp (σ : Sto) (acc : List AV) : Option (AV × Sto) := if bels σ.length acc then some (.ref σ.length, σ ++ [.list acc]) else none

noncomputable def closeV (n : Nat) (v : AV) (σ : Sto) : Option (AV × Sto) := if bel n v then some (v, σ.take n) else none
/-- behind a call: what it made is let go, but the list or value that it hands back -/
noncomputable def close (n : Nat) (v : AV) (σ : Sto) : Option (AV × Sto) :=
  match v with
  | .ref i => if Nat.blt i n then some (.ref i, σ.take n) else oO (listOf? σ i) fun l => if bels n l then some (.ref n, σ.take n ++ [.list l]) else none
  | .self _ => none
  | v => closeV n v σ
theorem close_q1 (n : Nat) (σ : Sto) : close n (.ref i) σ = (if Nat.blt i n then some (.ref i, σ.take n) else oO (listOf? σ i) fun l => if bels n l then some (.ref n, σ.take n ++ [.list l]) else none) := rfl
theorem close_v0 (n : Nat) (σ : Sto) : close n (.int a) σ = closeV n (.int a) σ := rfl
theorem close_v1 (n : Nat) (σ : Sto) : close n (.str a) σ = closeV n (.str a) σ := rfl
theorem close_v2 (n : Nat) (σ : Sto) : close n (.bool a) σ = closeV n (.bool a) σ := rfl

noncomputable def bindArgsL (fd : FDef) (args : List AV) : Option Loc := setSlots fd.params args (List.replicate fd.slots none)

noncomputable def flowV : Fl → Option AV
  | .next => some .none
  | .ret v => some v
  | .brk => none
theorem flowV_q2  : flowV (.ret v) = (some v) := rfl
noncomputable def isNext : Fl → Bool
  | .next => true
  | _ => false
noncomputable def callFn (r : Rec) (fd : FDef) (args : List AV) (σ : Sto) : Option (AV × Sto) :=
  oO (bindArgsL fd args) fun ℓ => oP (r.b fd.body ℓ σ) fun fl x => oO (flowV fl) fun v => close σ.length v x.2

noncomputable def nsOf? (σ : Sto) (i : Nat) : Option (List (Str × AV)) := match σ[i]? with | some o => (match o with | .list _ => none | .ns l => some l) | none => none
noncomputable def newObj (r : Rec) (init : FDef) (raw : AV) (σ : Sto) : Option (AV × Sto) :=
  oO (bindArgsL init [.self σ.length, raw]) fun ℓ => oP (r.b init.body ℓ (σ ++ [.ns []])) fun fl x => if isNext fl then oO (nsOf? x.2 σ.length) fun fs => oO (freeze fs) fun w => some (.inst w, x.2.take σ.length) else none

noncomputable def attrV (f : FK) (x : AV) (σ : Sto) : Option (AV × Sto) := match x with
  | .inst w => some (wsField w f, σ)
  | .self i => oO (nsOf? σ i) fun fs => oO (fs.lookup (fkName f)) fun v => some (v, σ)
  | _ => none
theorem attrV_q1 (f : FK) (σ : Sto) : attrV f (.inst w) σ = (some (wsField w f, σ)) := rfl
theorem attrV_q2 (f : FK) (σ : Sto) : attrV f (.self i) σ = (oO (nsOf? σ i) fun fs => oO (fs.lookup (fkName f)) fun v => some (v, σ)) := rfl
/-- the value of a test's first part tells whether the second is asked -/
noncomputable def orV (stop : Bool) (x : AV) (σ : Sto) (f : Option (AV × Sto)) : Option (AV × Sto) := oO (truthV x) fun b => if b == stop then some (x, σ) else f
noncomputable def stepE (ft : List FDef) (init : FDef) (r : Rec) : IE → Loc → Sto → Option (AV × Sto)
  | .lit v, _, σ => some (v, σ)
  | .var i, ℓ, σ => oO (ℓ[i]?).join fun v => some (v, σ)
  | .bin op a b, ℓ, σ => oP (r.e a ℓ σ) fun x σ => oP (r.e b ℓ σ) fun y σ => binop op x y σ
  | .neg a, ℓ, σ => oP (r.e a ℓ σ) fun x σ => oI x fun i => some (.int (-i), σ)
  | .notE _, _, _ => none
  | .andE a b, ℓ, σ => oP (r.e a ℓ σ) fun x σ => orV false x σ (r.e b ℓ σ)
  | .orE a b, ℓ, σ => oP (r.e a ℓ σ) fun x σ => orV true x σ (r.e b ℓ σ)
  | .ife t a b, ℓ, σ => oP (r.t t ℓ σ) fun c σ => if c then r.e a ℓ σ else r.e b ℓ σ
  | .cmp op a b, ℓ, σ => oP (r.e a ℓ σ) fun x σ => oP (r.e b ℓ σ) fun y σ => oO (cmpop op x y σ) fun c => some (.bool c, σ)
  | .tup l, ℓ, σ => oP (evEs r l ℓ σ) fun vs σ => some (.tup vs, σ)
  | .list l, ℓ, σ => oP (evEs r l ℓ σ) fun vs σ => endComp σ vs
  | .idx a i, ℓ, σ => oP (r.e a ℓ σ) fun x σ => oP (r.e i ℓ σ) fun y σ => oO (idxop x y σ) fun v => some (v, σ)
  | .slice a lo hi, ℓ, σ => oP (r.e a ℓ σ) fun x σ => oP (evO r lo ℓ σ) fun l σ => oP (evO r hi ℓ σ) fun h σ => sliceop x l h σ
  | .comp imp elt tg it ifs, ℓ, σ => oP (evIt r it ℓ σ) fun i σ => oP (compLoop (innerElt r ifs elt) tg i gas 0 (impLoc imp ℓ) σ []) fun _ x => endComp x.1 x.2
  | .comp2 imp elt x it y it2 ifs, ℓ, σ => oP (evIt r it ℓ σ) fun i σ => oP (compLoop (fun ℓ σ acc => oP (evIt r it2 ℓ σ) fun i2 σ => compLoop (innerElt r ifs elt) (.one y) i2 gas 0 ℓ σ acc) (.one x) i gas 0 (impLoc imp ℓ) σ []) fun _ x => endComp x.1 x.2
  | .rng1 _, _, _ => none
  | .rng2 _ _, _, _ => none
  | .call k args, ℓ, σ => oP (evEs r args ℓ σ) fun vs σ => r.f k vs σ
  | .cls a, ℓ, σ => oP (r.e a ℓ σ) fun v σ => newObj r init v σ
  | .bi b args, ℓ, σ => oP (evEs r args ℓ σ) fun vs σ => bifn b vs σ
  | .meth m o args, ℓ, σ => oP (r.e o ℓ σ) fun x σ => if hasMeth x σ then oP (evEs r args ℓ σ) fun vs σ => method m x vs σ else none
  | .umeth k o args, ℓ, σ => oP (r.e o ℓ σ) fun x σ => oP (evEs r args ℓ σ) fun vs σ => oW x fun w => r.f k (.inst w :: vs) σ
  | .attr f o, ℓ, σ => oP (r.e o ℓ σ) fun x σ => attrV f x σ
  | .wsS, _, σ => some (.str [32], σ)
  | .wsT, _, σ => some (.str [9], σ)
  | .dget k d, ℓ, σ => oP (r.e k ℓ σ) fun x σ => oP (r.e d ℓ σ) fun y σ => oI x fun a => oS y fun t => some (.str ((flagName a).getD t), σ)
theorem stepE_q1 (ft : List FDef) (init : FDef) (r : Rec) : stepE ft init r (.lit v) (u1') (σ) = (some (v, σ)) := rfl
theorem stepE_q2 (ft : List FDef) (init : FDef) (r : Rec) : stepE ft init r (.var i) (ℓ) (σ) = (oO (ℓ[i]?).join fun v => some (v, σ)) := rfl
theorem stepE_q3 (ft : List FDef) (init : FDef) (r : Rec) : stepE ft init r (.bin op a b) (ℓ) (σ) = (oP (r.e a ℓ σ) fun x σ => oP (r.e b ℓ σ) fun y σ => binop op x y σ) := rfl
theorem stepE_q4 (ft : List FDef) (init : FDef) (r : Rec) : stepE ft init r (.neg a) (ℓ) (σ) = (oP (r.e a ℓ σ) fun x σ => oI x fun i => some (.int (-i), σ)) := rfl
theorem stepE_q6 (ft : List FDef) (init : FDef) (r : Rec) : stepE ft init r (.orE a b) (ℓ) (σ) = (oP (r.e a ℓ σ) fun x σ => orV true x σ (r.e b ℓ σ)) := rfl
theorem stepE_q8 (ft : List FDef) (init : FDef) (r : Rec) : stepE ft init r (.cmp op a b) (ℓ) (σ) = (oP (r.e a ℓ σ) fun x σ => oP (r.e b ℓ σ) fun y σ => oO (cmpop op x y σ) fun c => some (.bool c, σ)) := rfl
theorem stepE_q9 (ft : List FDef) (init : FDef) (r : Rec) : stepE ft init r (.tup l) (ℓ) (σ) = (oP (evEs r l ℓ σ) fun vs σ => some (.tup vs, σ)) := rfl
theorem stepE_q10 (ft : List FDef) (init : FDef) (r : Rec) : stepE ft init r (.list l) (ℓ) (σ) = (oP (evEs r l ℓ σ) fun vs σ => endComp σ vs) := rfl
theorem stepE_q11 (ft : List FDef) (init : FDef) (r : Rec) : stepE ft init r (.idx a i) (ℓ) (σ) = (oP (r.e a ℓ σ) fun x σ => oP (r.e i ℓ σ) fun y σ => oO (idxop x y σ) fun v => some (v, σ)) := rfl
theorem stepE_q12 (ft : List FDef) (init : FDef) (r : Rec) {lo hi : Option IE} : stepE ft init r (.slice a lo hi) (ℓ) (σ) = (oP (r.e a ℓ σ) fun x σ => oP (evO r lo ℓ σ) fun l σ => oP (evO r hi ℓ σ) fun h σ => sliceop x l h σ) := rfl
theorem stepE_q13 (ft : List FDef) (init : FDef) (r : Rec) : stepE ft init r (.comp imp elt tg it ifs) (ℓ) (σ) = (oP (evIt r it ℓ σ) fun i σ => oP (compLoop (innerElt r ifs elt) tg i gas 0 (impLoc imp ℓ) σ []) fun _ x => endComp x.1 x.2) := rfl
theorem stepE_q15 (ft : List FDef) (init : FDef) (r : Rec) : stepE ft init r (.call k args) (ℓ) (σ) = (oP (evEs r args ℓ σ) fun vs σ => r.f k vs σ) := rfl
theorem stepE_q16 (ft : List FDef) (init : FDef) (r : Rec) : stepE ft init r (.cls a) (ℓ) (σ) = (oP (r.e a ℓ σ) fun v σ => newObj r init v σ) := rfl
theorem stepE_q17 (ft : List FDef) (init : FDef) (r : Rec) : stepE ft init r (.bi b args) (ℓ) (σ) = (oP (evEs r args ℓ σ) fun vs σ => bifn b vs σ) := rfl
theorem stepE_q18 (ft : List FDef) (init : FDef) (r : Rec) : stepE ft init r (.meth m o args) (ℓ) (σ) = (oP (r.e o ℓ σ) fun x σ => if hasMeth x σ then oP (evEs r args ℓ σ) fun vs σ => method m x vs σ else none) := rfl
theorem stepE_q19 (ft : List FDef) (init : FDef) (r : Rec) : stepE ft init r (.umeth k o args) (ℓ) (σ) = (oP (r.e o ℓ σ) fun x σ => oP (evEs r args ℓ σ) fun vs σ => oW x fun w => r.f k (.inst w :: vs) σ) := rfl
theorem stepE_q20 (ft : List FDef) (init : FDef) (r : Rec) : stepE ft init r (.attr f o) (ℓ) (σ) = (oP (r.e o ℓ σ) fun x σ => attrV f x σ) := rfl
theorem stepE_q21 (ft : List FDef) (init : FDef) (r : Rec) : stepE ft init r (.wsS) (u1') (σ) = (some (.str [32], σ)) := rfl
theorem stepE_q22 (ft : List FDef) (init : FDef) (r : Rec) : stepE ft init r (.wsT) (u1') (σ) = (some (.str [9], σ)) := rfl
theorem stepE_q23 (ft : List FDef) (init : FDef) (r : Rec) : stepE ft init r (.dget k d) (ℓ) (σ) = (oP (r.e k ℓ σ) fun x σ => oP (r.e d ℓ σ) fun y σ => oI x fun a => oS y fun t => some (.str ((flagName a).getD t), σ)) := rfl

/-- how a test is taken: by its parts or as a value -/
inductive TK where
  | notE (a : IE)
  | andE (a b : IE)
  | orE (a b : IE)
  | ife
  | val
noncomputable def TK.ctorIdx (x : TK) : Nat := TK.casesOn x (fun _ => 0) (fun _ _ => 1) (fun _ _ => 2) 3 4
noncomputable def tK : IE → TK
  | .notE a => .notE a
  | .andE a b => .andE a b
  | .orE a b => .orE a b
  | .ife _ _ _ => .ife
  | _ => .val
theorem tK_q1  : tK (.notE a) = (.notE a) := rfl
theorem tK_q2  : tK (.andE a b) = (.andE a b) := rfl
theorem tK_q3  : tK (.orE a b) = (.orE a b) := rfl
theorem tK_v1 : tK (.var i) = .val := rfl
theorem tK_v2 : tK (.bin o a b) = .val := rfl
theorem tK_v3 : tK (.cmp o a b) = .val := rfl
theorem tK_v9 : tK (.umeth k a l) = .val := rfl
theorem tK_v10 : tK (.attr f a) = .val := rfl
noncomputable def stepT (r : Rec) (e : IE) (ℓ : Loc) (σ : Sto) : Option (Bool × Sto) := match tK e with
  | .notE a => oP (r.t a ℓ σ) fun b σ => some (!b, σ)
  | .andE a b => oP (r.t a ℓ σ) fun c σ => if c then r.t b ℓ σ else some (false, σ)
  | .orE a b => oP (r.t a ℓ σ) fun c σ => if c then some (true, σ) else r.t b ℓ σ
  | .ife => none
  | .val => oP (r.e e ℓ σ) fun v σ => oO (truthV v) fun b => some (b, σ)

/-- the turns of a for loop -/
noncomputable def forLoop (r : Rec) (tg : Tg) (it : Itr) (body els : List IS) : Nat → Nat → Loc → Sto → Option (Fl × Loc × Sto)
  | 0, _, _, _ => none
  | g + 1, k, ℓ, σ => oO (itNext it k σ) fun o => match o with
    | none => r.b els ℓ σ
    | some v => oO (bindTg tg v ℓ) fun ℓ => oP (r.b body ℓ σ) fun fl x => match fl with
      | .next => forLoop r tg it body els g (k + 1) x.1 x.2
      | .brk => some (.next, x)
      | .ret v => some (.ret v, x)
theorem forLoop_q2 (r : Rec) (tg : Tg) (it : Itr) (body els : List IS) : forLoop r tg it body els (g + 1) (k) (ℓ) (σ) = (oO (itNext it k σ) fun o => match o with
      | none => r.b els ℓ σ
      | some v => oO (bindTg tg v ℓ) fun ℓ => oP (r.b body ℓ σ) fun fl x => match fl with
        | .next => forLoop r tg it body els g (k + 1) x.1 x.2
        | .brk => some (.next, x)
        | .ret v => some (.ret v, x)) := rfl

noncomputable def whileLoop (r : Rec) (t : IE) (body : List IS) : Nat → Loc → Sto → Option (Fl × Loc × Sto)
  | 0, _, _ => none
  | g + 1, ℓ, σ => oP (r.t t ℓ σ) fun c σ => if c then (oP (r.b body ℓ σ) fun fl x => match fl with
      | .next => whileLoop r t body g x.1 x.2
      | .brk => some (.next, x)
      | .ret v => some (.ret v, x)) else some (.next, ℓ, σ)
theorem whileLoop_q1 (r : Rec) (t : IE) (body : List IS) : whileLoop r t body (0) (u1') (u2') = (none) := rfl
theorem whileLoop_q2 (r : Rec) (t : IE) (body : List IS) : whileLoop r t body (g + 1) (ℓ) (σ) = (oP (r.t t ℓ σ) fun c σ => if c then (oP (r.b body ℓ σ) fun fl x => match fl with
        | .next => whileLoop r t body g x.1 x.2
        | .brk => some (.next, x)
        | .ret v => some (.ret v, x)) else some (.next, ℓ, σ)) := rfl

noncomputable def setAll (v : AV) : List Nat → Loc → Option Loc
  | [], ℓ => some ℓ
  | i :: is, ℓ => if Nat.blt i ℓ.length then setAll v is (ℓ.set i (some v)) else none
theorem setAll_q1 (v : AV) : setAll v ([]) (ℓ) = (some ℓ) := rfl
theorem setAll_q2 (v : AV) : setAll v (i :: is) (ℓ) = (if Nat.blt i ℓ.length then setAll v is (ℓ.set i (some v)) else none) := rfl

noncomputable def stepS (r : Rec) : IS → Loc → Sto → Option (Fl × Loc × Sto)
  | .assign x e, ℓ, σ => oP (r.e e ℓ σ) fun v σ => if Nat.blt x ℓ.length then some (.next, ℓ.set x (some v), σ) else none
  | .assignT xs e, ℓ, σ => oP (r.e e ℓ σ) fun x σ => oT x fun vs => oO (setSlots xs vs ℓ) fun ℓ => some (.next, ℓ, σ)
  | .swap x y a b, ℓ, σ => oP (r.e a ℓ σ) fun v σ => oP (r.e b ℓ σ) fun u σ => if Nat.blt x ℓ.length && Nat.blt y ℓ.length then some (.next, (ℓ.set y (some u)).set x (some v), σ) else none
  | .chain xs e, ℓ, σ => oP (r.e e ℓ σ) fun v σ => oO (setAll v xs ℓ) fun ℓ => some (.next, ℓ, σ)
  | .assignF f o e, ℓ, σ => oP (r.e e ℓ σ) fun v σ => oP (r.e o ℓ σ) fun x σ => oSelf x fun i => oO (nsOf? σ i) fun fs =>
      if (fs.lookup (fkName f)).isNone && bel i v && Nat.ble fs.length 100 then some (.next, ℓ, σ.set i (.ns (fs ++ [(fkName f, v)]))) else none
  | .assignI o i e, ℓ, σ => oP (r.e e ℓ σ) fun v σ => oP (r.e o ℓ σ) fun x σ => oP (r.e i ℓ σ) fun y σ => oR x fun j => oI y fun k => oO (listOf? σ j) fun l =>
      if decide (0 ≤ k) && decide (k < l.length) && bel j v && Nat.ble l.length lim then some (.next, ℓ, setAt σ j (l.set k.toNat v)) else none
  | .aug x op e, ℓ, σ => oO (ℓ[x]?).join fun old => oP (r.e e ℓ σ) fun v σ => oO (augop op old v) fun u => some (.next, ℓ.set x (some u), σ)
  | .expr e, ℓ, σ => oP (r.e e ℓ σ) fun x σ => oN x (some (.next, ℓ, σ))
  | .forS tg it body els, ℓ, σ => oP (evIt r it ℓ σ) fun i σ => forLoop r tg i body els gas 0 ℓ σ
  | .forE tg e body els, ℓ, σ => oP (r.e e ℓ σ) fun x σ => oS x fun s => if s.all (Nat.blt · 128) then forLoop r tg (.vals (escGo 0 false s)) body els gas 0 ℓ σ else none
  | .forG tg e body els, ℓ, σ => oP (r.e e ℓ σ) fun x σ' => oR x fun i => if i + 1 == σ'.length && Nat.ble σ.length i then oO (listOf? σ' i) fun l => oO (asInts l) fun ns => if headZero ns then none else forLoop r tg (.grp ns) body els gas 0 ℓ (σ'.take i) else none
  | .whileS t body, ℓ, σ => whileLoop r t body gas ℓ σ
  | .ifS t a b, ℓ, σ => oP (r.t t ℓ σ) fun c σ => r.b (if c then a else b) ℓ σ
  | .ret e, ℓ, σ => oP (r.e e ℓ σ) fun v σ => some (.ret v, ℓ, σ)
  | .brk, ℓ, σ => some (.brk, ℓ, σ)
  | .pass, ℓ, σ => some (.next, ℓ, σ)
theorem stepS_q1 (r : Rec) : stepS r (.assign x e) (ℓ) (σ) = (oP (r.e e ℓ σ) fun v σ => if Nat.blt x ℓ.length then some (.next, ℓ.set x (some v), σ) else none) := rfl
theorem stepS_q2 (r : Rec) : stepS r (.assignT xs e) (ℓ) (σ) = (oP (r.e e ℓ σ) fun x σ => oT x fun vs => oO (setSlots xs vs ℓ) fun ℓ => some (.next, ℓ, σ)) := rfl
theorem stepS_q3 (r : Rec) : stepS r (.swap x y a b) (ℓ) (σ) = (oP (r.e a ℓ σ) fun v σ => oP (r.e b ℓ σ) fun u σ => if Nat.blt x ℓ.length && Nat.blt y ℓ.length then some (.next, (ℓ.set y (some u)).set x (some v), σ) else none) := rfl
theorem stepS_q4 (r : Rec) : stepS r (.chain xs e) (ℓ) (σ) = (oP (r.e e ℓ σ) fun v σ => oO (setAll v xs ℓ) fun ℓ => some (.next, ℓ, σ)) := rfl
theorem stepS_q5 (r : Rec) : stepS r (.assignF f o e) (ℓ) (σ) = (oP (r.e e ℓ σ) fun v σ => oP (r.e o ℓ σ) fun x σ => oSelf x fun i => oO (nsOf? σ i) fun fs =>
        if (fs.lookup (fkName f)).isNone && bel i v && Nat.ble fs.length 100 then some (.next, ℓ, σ.set i (.ns (fs ++ [(fkName f, v)]))) else none) := rfl
theorem stepS_q6 (r : Rec) : stepS r (.assignI o i e) (ℓ) (σ) = (oP (r.e e ℓ σ) fun v σ => oP (r.e o ℓ σ) fun x σ => oP (r.e i ℓ σ) fun y σ => oR x fun j => oI y fun k => oO (listOf? σ j) fun l =>
        if decide (0 ≤ k) && decide (k < l.length) && bel j v && Nat.ble l.length lim then some (.next, ℓ, setAt σ j (l.set k.toNat v)) else none) := rfl
theorem stepS_q7 (r : Rec) : stepS r (.aug x op e) (ℓ) (σ) = (oO (ℓ[x]?).join fun old => oP (r.e e ℓ σ) fun v σ => oO (augop op old v) fun u => some (.next, ℓ.set x (some u), σ)) := rfl
theorem stepS_q8 (r : Rec) : stepS r (.expr e) (ℓ) (σ) = (oP (r.e e ℓ σ) fun x σ => oN x (some (.next, ℓ, σ))) := rfl
theorem stepS_q9 (r : Rec) : stepS r (.forS tg it body els) (ℓ) (σ) = (oP (evIt r it ℓ σ) fun i σ => forLoop r tg i body els gas 0 ℓ σ) := rfl
theorem stepS_q10 (r : Rec) : stepS r (.forE tg e body els) (ℓ) (σ) = (oP (r.e e ℓ σ) fun x σ => oS x fun s => if s.all (Nat.blt · 128) then forLoop r tg (.vals (escGo 0 false s)) body els gas 0 ℓ σ else none) := rfl
theorem stepS_q11 (r : Rec) : stepS r (.forG tg e body els) (ℓ) (σ) = (oP (r.e e ℓ σ) fun x σ' => oR x fun i => if i + 1 == σ'.length && Nat.ble σ.length i then oO (listOf? σ' i) fun l => oO (asInts l) fun ns => if headZero ns then none else forLoop r tg (.grp ns) body els gas 0 ℓ (σ'.take i) else none) := rfl
theorem stepS_q12 (r : Rec) : stepS r (.whileS t body) (ℓ) (σ) = (whileLoop r t body gas ℓ σ) := rfl
theorem stepS_q13 (r : Rec) : stepS r (.ifS t a b) (ℓ) (σ) = (oP (r.t t ℓ σ) fun c σ => r.b (if c then a else b) ℓ σ) := rfl
theorem stepS_q14 (r : Rec) : stepS r (.ret e) (ℓ) (σ) = (oP (r.e e ℓ σ) fun v σ => some (.ret v, ℓ, σ)) := rfl
theorem stepS_q15 (r : Rec) : stepS r (.brk) (ℓ) (σ) = (some (.brk, ℓ, σ)) := rfl

noncomputable def stepB (r : Rec) : List IS → Loc → Sto → Option (Fl × Loc × Sto)
  | [], ℓ, σ => some (.next, ℓ, σ)
  | s :: l, ℓ, σ => oP (stepS r s ℓ σ) fun fl x => match fl with
    | .next => stepB r l x.1 x.2
    | .brk => some (.brk, x)
    | .ret v => some (.ret v, x)
theorem stepB_q1 (r : Rec) : stepB r ([]) (ℓ) (σ) = (some (.next, ℓ, σ)) := rfl
theorem stepB_q2 (r : Rec) : stepB r (s :: l) (ℓ) (σ) = (oP (stepS r s ℓ σ) fun fl x => match fl with
      | .next => stepB r l x.1 x.2
      | .brk => some (.brk, x)
      | .ret v => some (.ret v, x)) := rfl

noncomputable def ev (ft : List FDef) (init : FDef) : Nat → Rec
  | 0 => ⟨fun _ _ _ => none, fun _ _ _ => none, fun _ _ _ => none, fun _ _ _ => none⟩
  | n + 1 => ⟨stepE ft init (ev ft init n), stepT (ev ft init n), stepB (ev ft init n), fun k args σ => oO ft[k]? fun fd => callFn (ev ft init n) fd args σ⟩

end Mine
end
section
namespace Mine
open PySem PySem.W PyProof.Rows

structure AOk (n : Nat) (A : Around) : Prop where
  handled : A.handled = none
  depth : A.depth + 2 * n + 2 < 1000
  units : A.units + 12 * n + 100 < 9900

theorem AOk.room {n : Nat} {A : Around} (a : AOk n A) : A.depth < recursionLimit := by have := a.depth; show A.depth < 1000; omega
theorem AOk.mono {n k : Nat} {A : Around} (a : AOk n A) (h : k ≤ n) : AOk k A := ⟨a.handled, by have := a.depth; omega, by have := a.units; omega⟩
theorem AOk.deeper {n : Nat} {A : Around} (a : AOk (n + 1) A) (env : Env) : AOk n (A.deeper env) :=
  ⟨a.handled, by have := a.depth; show A.depth + 1 + 2 * n + 2 < 1000; omega, by have := a.units; show A.units + 3 + 12 * n + 100 < 9900; omega⟩
theorem AOk.in1 {n : Nat} {A : Around} (a : AOk (n + 1) A) : AOk n A.in1 :=
  ⟨a.handled, by have := a.depth; show A.depth + 2 * n + 2 < 1000; omega, by have := a.units; show A.units + 1 + 12 * n + 100 < 9900; omega⟩

/-- what holds behind an expression -/
noncomputable def EPost (P : Par) (ρ : List Addr) (σ' : Sto) (s : Shared) (v : AV) (x : Value) (s' : Shared) : Prop :=
  ∃ ρ', MvE ρ s ρ' s' ∧ Inv P ρ' σ' s'.heap ∧ RV P ρ' s'.heap v x

section
variable {P : Par} {ρ : List Addr} {σ : Sto} {h h' : Heap} {s : Shared}

theorem Kp.of {W : List Addr} (k : ∀ a o, h.get? a = some o → h'.get? a = some o) : Kp W h h' := fun a o e _ => k a o e
theorem Kp.push {W : List Addr} (o : Obj) : Kp W h (h.push o) := fun _ _ e _ => Heap.get?_push_of_some _ e

set_option tactic.hygienic true
theorem Rep.kp {W : List Addr} {new : List Addr} (k : Kp W h h') (hW : ∀ a ∈ W, Soft h ρ a) (hn : NewIn h new) {i : Nat} {a : Addr} (ha : a ∉ W) {o : AO} (r : Rep P ρ h i a o) : Rep P (ρ ++ new) h' i a o := by
  cases o with
  | list l =>
    obtain ⟨vs, p, q, b⟩ := r
    exact ⟨vs, p.at fun o e => k a o e ha, q.kp k hW hn, b⟩
  | ns fs =>
    obtain ⟨m, p, q, b⟩ := r
    refine ⟨m, p.at' fun o e => k a o e ha, fun x => ?_, b.1, b.2.at' fun o e => k a o e ha⟩
    have := q x
    split
    · rename_i v e
      rw [e] at this
      obtain ⟨y, hy, r⟩ := this
      exact ⟨y, hy, r.kp k hW hn⟩
    · rename_i e
      rw [e] at this; exact this

set_option tactic.hygienic false
theorem Inv.kp (I : Inv P ρ σ h) (k : Kp [] h h') : Inv P ρ σ h' := by
  refine ⟨fun a o e => k a o (I.keep a o e) (by simp), I.nodup, I.fresh, I.len, fun i a o e1 e2 => ?_⟩
  have := (I.rep i a o e1 e2).kp k (by simp) (new := []) (by intro a ha; cases ha) (by simp)
  rwa [List.append_nil] at this

theorem Inv.add (I : Inv P ρ σ h) (k : Kp [] h h') {a : Addr} (hn : h.get? a = none) {o : AO} (r : Rep P (ρ ++ [a]) h' σ.length a o) : Inv P (ρ ++ [a]) (σ ++ [o]) h' := by
  have hnot : a ∉ ρ := fun hm => by
    obtain ⟨o, e⟩ := (I.softs a hm).live
    rw [hn] at e; cases e
  have hnew : NewIn h [a] := fun x hx => by rw [List.mem_singleton.mp hx]; exact hn
  refine ⟨fun a o e => k a o (I.keep a o e) (by simp), ?_, ?_, by simp [I.len], fun i b o' e1 e2 => ?_⟩
  · rw [List.nodup_append]
    exact ⟨I.nodup, by simp, fun x hx y hy e => hnot (by rw [List.mem_singleton.mp hy] at e; exact e ▸ hx)⟩
  · intro b hb
    rcases List.mem_append.mp hb with hb | hb
    · exact I.fresh b hb
    · rw [List.mem_singleton.mp hb]
      cases e : P.h₀.get? a with
      | none => rfl
      | some o => rw [I.keep a o e] at hn; cases hn
  · by_cases hi : i < ρ.length
    · rw [List.getElem?_append_left hi] at e1
      rw [List.getElem?_append_left (by rw [← I.len]; exact hi)] at e2
      exact (I.rep i b o' e1 e2).kp k (by simp) hnew (by simp)
    · have hil : i = ρ.length := by
        have := (List.getElem?_eq_some_iff.mp e1).1
        rw [List.length_append, List.length_singleton] at this
        omega
      subst hil
      rw [List.getElem?_append_right (Nat.le_refl _), Nat.sub_self] at e1
      rw [List.getElem?_append_right (by rw [I.len]; exact Nat.le_refl _), I.len, Nat.sub_self] at e2
      simp at e1 e2
      subst e1 e2
      rw [I.len]; exact r

theorem Inv.addList (I : Inv P ρ σ h) (k : Kp [] h h') {a : Addr} {l : List AV} {vs : Array Value} (hn : h.get? a = none) (hp : h'.PlainList a vs) (r : RVs P ρ h l vs.toList) (b : bels σ.length l = true) :
    Inv P (ρ ++ [a]) (σ ++ [.list l]) h' :=
  I.add k hn ⟨vs, hp, r.kp k (by simp) fun x hx => by rw [List.mem_singleton.mp hx]; exact hn, b⟩

/-- one of the store's objects stored to -/
theorem Inv.set (I : Inv P ρ σ h) {i : Nat} {a : Addr} (ha : ρ[i]? = some a) (k : Kp [a] h h') {o : AO} (r : Rep P ρ h' i a o) : Inv P ρ (σ.set i o) h' := by
  have hmem : a ∈ ρ := List.mem_of_getElem? ha
  have hW : ∀ x ∈ [a], Soft h ρ x := fun x hx => by rw [List.mem_singleton.mp hx]; exact I.softs a hmem
  have hia := List.getElem?_eq_some_iff.mp ha
  refine ⟨fun b o e => k b o (I.keep b o e) fun hm => ?_, I.nodup, I.fresh, by simp [I.len], fun j b o' e1 e2 => ?_⟩
  · rw [List.mem_singleton.mp hm, I.fresh a hmem] at e; cases e
  · by_cases hj : i = j
    · subst hj
      rw [ha] at e1; cases e1
      rw [List.getElem?_set_self (by rw [← I.len]; exact hia.1)] at e2
      cases e2; exact r
    · rw [List.getElem?_set_ne hj] at e2
      have hne : b ≠ a := fun e => by
        subst e
        exact hj ((List.getElem?_inj hia.1 I.nodup).mp (ha.trans e1.symm))
      have := (I.rep j b o' e1 e2).kp k hW (new := []) (by intro a ha; cases ha) (by simpa using hne)
      rwa [List.append_nil] at this

theorem Inv.setList (I : Inv P ρ σ h) {i : Nat} {a : Addr} (ha : ρ[i]? = some a) (k : Kp [a] h h') {l : List AV} {vs : Array Value} (hp : h'.PlainList a vs) (r : RVs P ρ h l vs.toList) (b : bels i l = true) : Inv P ρ (setAt σ i l) h' := by
  have hW : ∀ x ∈ [a], Soft h ρ x := fun x hx => by rw [List.mem_singleton.mp hx]; exact I.softs a (List.mem_of_getElem? ha)
  refine I.set ha k ⟨vs, hp, ?_, b⟩
  have := r.kp k hW (new := []) (by intro a ha; cases ha)
  rwa [List.append_nil] at this

theorem listOf_at {i : Nat} {l : List AV} (e : listOf? σ i = some l) : σ[i]? = some (.list l) := by
  unfold listOf? at e
  cases h : σ[i]? with
  | none => rw [h] at e; cases e
  | some o =>
    rw [h] at e
    cases o with
    | list l => cases e; rfl
    | ns l => cases e

theorem Inv.list (I : Inv P ρ σ h) {i : Nat} {l : List AV} (e : listOf? σ i = some l) : ∃ a vs, ρ[i]? = some a ∧ h.PlainList a vs ∧ RVs P ρ h l vs.toList ∧ bels i l = true := by
  obtain ⟨a, ha, vs, p, q, b⟩ := I.at (listOf_at e)
  exact ⟨a, vs, ha, p, q, b⟩
theorem Inv.listRef (I : Inv P ρ σ h) {i : Nat} {l : List AV} {x : Value} (e : listOf? σ i = some l) (r : RV P ρ h (.ref i) x) : ∃ a vs, x = .ref a ∧ ρ[i]? = some a ∧ h.PlainList a vs ∧ RVs P ρ h l vs.toList ∧ bels i l = true := by
  obtain ⟨a, vs, ha, p⟩ := I.list e
  obtain ⟨a', rfl, ha'⟩ := r
  rw [ha] at ha'; cases ha'
  exact ⟨a, vs, rfl, ha, p⟩

@[elab_as_elim] theorem int_elim {a : Int} {x : Value} {motive : Value → Prop} (r : RV P ρ h (.int a) x) (k : ∀ t, motive (.int a t)) : motive x := by
  obtain ⟨t, rfl⟩ := r; exact k t
@[elab_as_elim] theorem str_elim {a : List Nat} {x : Value} {motive : Value → Prop} (r : RV P ρ h (.str a) x) (k : ∀ t, motive (.str ⟨a.toArray⟩ t)) : motive x := by
  obtain ⟨t, rfl⟩ := r; exact k t
@[elab_as_elim] theorem tup_elim {l : List AV} {x : Value} {motive : Value → Prop} (r : RV P ρ h (.tup l) x) (k : ∀ a vs, h.IsTuple a vs → RVs P ρ h l vs.toList → vs.size = l.length → motive (.ref a)) : motive x := by
  obtain ⟨a, vs, rfl, t, q⟩ := r; exact k a vs t q (by rw [← Array.length_toList]; exact q.length)
@[elab_as_elim] theorem frz_elim {l : List Int} {x : Value} {motive : Value → Prop} (I : Inv P ρ σ h) (r : RV P ρ h (.frz l) x) (k : ∀ a vs, h.IsList a vs → IntsAre vs.toList l → vs.size = l.length → motive (.ref a)) : motive x := by
  obtain ⟨a, vs, rfl, ⟨o, ho, hc, hd⟩, q⟩ := r; exact k a vs ⟨o, I.keep a o ho, hc, hd⟩ q (by rw [← Array.length_toList]; exact IntsAre.length q)
@[elab_as_elim] theorem list_elim {i : Nat} {l : List AV} {x : Value} {motive : Value → Prop} (I : Inv P ρ σ h) (e : listOf? σ i = some l) (r : RV P ρ h (.ref i) x)
    (k : ∀ a vs, ρ[i]? = some a → h.PlainList a vs → RVs P ρ h l vs.toList → bels i l = true → vs.size = l.length → motive (.ref a)) : motive x := by
  obtain ⟨a, vs, rfl, ha, p, q, b⟩ := I.listRef e r; exact k a vs ha p q b (by rw [← Array.length_toList]; exact q.length)
@[elab_as_elim] theorem rv1_elim {a : AV} {xs : List Value} {motive : List Value → Prop} (r : RVs P ρ h [a] xs) (k : ∀ x, RV P ρ h a x → motive [x]) : motive xs := by
  obtain ⟨x, _, rfl, rx, rfl⟩ := r; exact k x rx
@[elab_as_elim] theorem rv2_elim {a b : AV} {xs : List Value} {motive : List Value → Prop} (r : RVs P ρ h [a, b] xs) (k : ∀ x y, RV P ρ h a x → RV P ρ h b y → motive [x, y]) : motive xs := by
  obtain ⟨x, _, rfl, rx, y, _, rfl, ry, rfl⟩ := r; exact k x y rx ry
theorem ble_lim {n : Nat} (h : Nat.ble n lim = true) : n ≤ 1048576 := by simpa [lim] using h
theorem listOf_le {i : Nat} {l : List AV} (e : listOf? σ i = some l) : i ≤ σ.length := Nat.le_of_lt (List.getElem?_eq_some_iff.mp (listOf_at e)).1

theorem EPost.here {v : AV} {x : Value} (I : Inv P ρ σ s.heap) (r : RV P ρ s.heap v x) (t : Nat) : EPost P ρ σ s v x { s with toks := t } :=
  ⟨ρ, .of_step .tok, I, r⟩
theorem EPost.same {v : AV} {x : Value} (I : Inv P ρ σ s.heap) (r : RV P ρ s.heap v x) : EPost P ρ σ s v x s := ⟨ρ, .refl .., I, r⟩

/-- a step that made objects without storing to any -/
theorem EPost.kept {v : AV} {x : Value} {h' : Heap} {t : Nat} (I : Inv P ρ σ s.heap) (k : Kp [] s.heap h') (r : RV P ρ h' v x) : EPost P ρ σ s v x { s with heap := h', toks := t } :=
  ⟨ρ, .of_step (.of_keep fun a o e _ => k a o e (by simp)), I.kp k, r⟩

theorem EPost.newList {l : List AV} {h' : Heap} {t : Nat} {a : Addr} {vs : Array Value} (I : Inv P ρ σ s.heap) (k : Kp [] s.heap h') (hn : s.heap.get? a = none) (hp : h'.PlainList a vs) (r : RVs P ρ s.heap l vs.toList)
    (b : bels σ.length l = true) : EPost P ρ (σ ++ [.list l]) s (.ref σ.length) (.ref a) { s with heap := h', toks := t } := by
  refine ⟨ρ ++ [a], ⟨⟨[a], rfl, fun x hx => by rw [List.mem_singleton.mp hx]; exact hn⟩, .of_keep fun a o e _ => k a o e (by simp)⟩, I.addList k hn hp r b, a, rfl, ?_⟩
  rw [← I.len, List.getElem?_append_right (Nat.le_refl _), Nat.sub_self]; rfl

theorem EPost.pushList {l : List AV} {t : Nat} {vs : Array Value} (I : Inv P ρ σ s.heap) (r : RVs P ρ s.heap l vs.toList) (b : bels σ.length l = true) :
    EPost P ρ (σ ++ [.list l]) s (.ref σ.length) (.ref s.heap.objs.size) { s with heap := s.heap.push { cls := .type "list", data := .seq vs }, toks := t } :=
  .newList I (.push _) (get_size_none _) ⟨0, Heap.get?_push_size _ rfl⟩ r b

theorem EPost.setList {i : Nat} {a : Addr} {l : List AV} {vs : Array Value} {h' : Heap} {t : Nat} (I : Inv P ρ σ s.heap) (ha : ρ[i]? = some a) (k : Kp [a] s.heap h') (hp : h'.PlainList a vs) (r : RVs P ρ s.heap l vs.toList) (b : bels i l = true)
    {v : AV} {x : Value} (rv : RV P ρ s.heap v x) : EPost P ρ (setAt σ i l) s v x { s with heap := h', toks := t } := by
  have hW : ∀ x ∈ [a], Soft s.heap ρ x := fun x hx => by rw [List.mem_singleton.mp hx]; exact I.softs a (List.mem_of_getElem? ha)
  refine ⟨ρ, .of_step (.of_keep fun b o e hb => k b o e fun hm => hb ?_), I.setList ha k hp r b, ?_⟩
  · rw [List.mem_singleton.mp hm]; exact List.mem_of_getElem? ha
  · have := rv.kp k hW (new := []) (by intro a ha; cases ha)
    rwa [List.append_nil] at this
end

section
variable {P : Par} {ρ ρ' : List Addr} {σ σ' : Sto} {s s' : Shared} {A : Around} {E : Value → Shared → Prop} {v : AV} {t : Sem Value}

/-- what holds behind a second step, seen from ahead of the first -/
theorem EPost.then (m : MvE ρ s ρ' s') (I : Inv P ρ' σ s'.heap) {v : AV} {x : Value} {s'' : Shared} (p : EPost P ρ' σ' s' v x s'') : EPost P ρ σ' s v x s'' := by
  obtain ⟨ρ'', m', I', r⟩ := p
  exact ⟨ρ'', m.trans I m', I', r⟩
theorem wp_then (m : MvE ρ s ρ' s') (I : Inv P ρ' σ s'.heap) (h : wpAny P.M A t (EPost P ρ' σ' s' v) E s') : wpAny P.M A t (EPost P ρ σ' s v) E s' :=
  wpAny_mono h (fun _ _ p => p.then m I) fun _ _ e => e
end

end Mine
end
section
namespace Mine
open PySem PySem.W PyProof.Rows

noncomputable def opOf : BinK → Operator
  | .add => .Add | .sub => .Sub | .mul => .Mult | .fdiv => .FloorDiv | .mod => .Mod | .pow => .Pow | .shl => .LShift | .band => .BitAnd
noncomputable def augOf : AugK → Operator
  | .add => .Add | .sub => .Sub | .xor => .BitXor
noncomputable def cmpOf : CmpK → CmpOp
  | .eq => .Eq | .ne => .NotEq | .lt => .Lt | .le => .LtE | .gt => .Gt | .ge => .GtE | .is => .Is | .isNot => .IsNot | .inn => .In | .notIn => .NotIn

theorem small_iff {a : Int} (h : small a = true) : a.natAbs < 2 ^ 62 := by simpa [small, Nat.blt_eq] using h
theorem small_bits {a : Int} (h : small a = true) : Builtin.Int.intBits a ≤ 64 := by
  have := small_iff h
  exact X.bits_is (k := a) rfl ▸ X.bits_le (by omega) (by omega)

theorem shift_ok {a b : Int} (c : (small a && decide (0 ≤ b) && decide (b ≤ 1000)) = true) : 0 ≤ b ∧ b ≤ 1000000 ∧ a.natAbs < 2 ^ 64 := by
  simp only [Bool.and_eq_true, decide_eq_true_eq] at c
  have := small_iff c.1.1
  exact ⟨c.1.2, by omega, by omega⟩
theorem ne_of_beq_false {b : Int} (c : (b == 0) = false) : b ≠ 0 := by simpa using c

section
variable {P : Par} {ρ : List Addr} {σ σ' : Sto} {s : Shared} {A : Around} {E : Value → Shared → Prop} {v x y : AV} {xv yv : Value} {n : Nat}

theorem int_here {a : Int} {t t' : Nat} (I : Inv P ρ σ s.heap) : EPost P ρ σ s (.int a) (.int a t) { s with toks := t' } := .here I (by exact ⟨_, rfl⟩) _
theorem bool_here {a : Bool} (I : Inv P ρ σ s.heap) : EPost P ρ σ s (.bool a) (.bool a) s := .same I rfl
theorem str_here {a : List Nat} {t t' : Nat} (I : Inv P ρ σ s.heap) : EPost P ρ σ s (.str a) (.str ⟨a.toArray⟩ t) { s with toks := t' } := .here I (by exact ⟨_, rfl⟩) _

theorem str_app (a b : List Nat) : (⟨a.toArray⟩ : Str) ++ ⟨b.toArray⟩ = ⟨(a ++ b).toArray⟩ := by
  show Str.append _ _ = _
  unfold Str.append
  simp

theorem rep_fold {α : Type} : ∀ (k : Nat) (l acc : List α), (List.replicate k l.toArray).foldl (· ++ ·) acc.toArray = (acc ++ (List.replicate k l).flatten).toArray
  | 0, l, acc => by simp
  | k + 1, l, acc => by
    rw [List.replicate_succ, List.foldl_cons, List.append_toArray, rep_fold k l (acc ++ l), List.replicate_succ, List.flatten_cons, List.append_assoc]

theorem RVs.rep {h : Heap} {l : List AV} {vs : List Value} (r : RVs P ρ h l vs) : ∀ k, RVs P ρ h (List.replicate k l).flatten (List.replicate k vs).flatten
  | 0 => rfl
  | k + 1 => by
    rw [List.replicate_succ, List.replicate_succ, List.flatten_cons, List.flatten_cons]
    exact r.app (RVs.rep r k)
theorem bels_rep {m : Nat} {l : List AV} (b : bels m l = true) : ∀ k, bels m (List.replicate k l).flatten = true
  | 0 => rfl
  | k + 1 => by rw [List.replicate_succ, List.flatten_cons, bels_app, b, bels_rep b k]; rfl

set_option tactic.hygienic true
theorem mul_text (a : List Nat) (n : Int) : Txt.mul ⟨a.toArray⟩ n = ⟨(List.replicate n.toNat a).flatten.toArray⟩ := by
  unfold Txt.mul
  by_cases h1 : n < 1
  · rw [if_pos h1]
    have : n.toNat = 0 := by omega
    rw [this]; rfl
  · rw [if_neg h1]
    split
    · rename_i hc
      rw [Bool.or_eq_true, beq_iff_eq, beq_iff_eq] at hc
      rcases hc with h | h
      · subst h; simp
      · have : a = [] := by simpa [Str.length] using h
        subst this
        simp
    · rw [show (⟨a.toArray⟩ : Str).cps = a.toArray from rfl]
      have := rep_fold n.toNat a []
      simp only [List.nil_append] at this
      rw [← this]

set_option tactic.hygienic false
theorem add_ok (e : bAdd x y σ = some (v, σ')) (I : Inv P ρ σ s.heap) (rx : RV P ρ s.heap x xv) (ry : RV P ρ s.heap y yv) :
    wpAny P.M A (binaryOp .Add xv yv) (EPost P ρ σ' s v) E s := by
  revert rx ry
  cases x with
  | int a =>
    refine oI_elim e fun b e rx ry => ?_
    refine ret_elim e (int_elim rx fun t => int_elim ry fun u => ?_)
    exact add_int (int_here I)
  | str a =>
    refine oS_elim e fun b e rx ry => ?_
    refine iN_elim e fun c e => ret_elim e (str_elim rx fun t => str_elim ry fun u => ?_)
    refine add_str (fun t' tk => ?_) ?_
    · rw [str_app]; exact str_here I
    · have hl := ble_lim c
      show a.toArray.size + b.toArray.size ≤ 16777216
      rw [List.size_toArray, List.size_toArray]; exact Nat.le_trans hl (by decide)
  | ref i =>
    refine oR_elim e fun j e rx ry => ?_
    refine oO_elim e fun l e1 e => oO_elim e fun l' e2 e => iN_elim e fun c e => ret_elim e ?_
    refine list_elim I e1 rx fun a vs ha p r b h1 => list_elim I e2 ry fun a' vs' ha' p' r' b' h2 => ?_
    obtain ⟨n1, p⟩ := p
    obtain ⟨n2, p'⟩ := p'
    refine PySem.P.add_list p p' (EPost.pushList I (by rw [Array.toList_append]; exact r.app r') ?_) ?_
    · rw [bels_app, bels_mono (listOf_le e1) b, bels_mono (listOf_le e2) b']; rfl
    · show vs.size + vs'.size ≤ 16777216
      rw [h1, h2]; exact Nat.le_trans (ble_lim c) (by decide)
  | _ => exact noS e

theorem mul_list_ok {i : Nat} {k : Int} {l : List AV} {u : Tok} (e1 : listOf? σ i = some l) (c : (decide (-1000 ≤ k) && decide (k ≤ 1000) && Nat.ble l.length 1000) = true) (I : Inv P ρ σ s.heap) (rx : RV P ρ s.heap (.ref i) xv) :
    wpAny P.M A (binaryOp .Mult xv (.int k u)) (EPost P ρ (σ ++ [.list (List.replicate k.toNat l).flatten]) s (.ref σ.length)) E s := by
  simp only [Bool.and_eq_true, decide_eq_true_eq, Nat.ble_eq] at c
  refine list_elim I e1 rx fun a vs ha p r b h1 => ?_
  obtain ⟨n1, p⟩ := p
  have hsz : vs.size * k.toNat ≤ 2 ^ 24 := Nat.le_trans (Nat.mul_le_mul (h1 ▸ c.2) (Int.toNat_le.mpr c.1.2)) (by decide)
  refine wpAny_binaryOp_repeat_ref (T := "list") (U := "int") (by decide) ⟨_, p, rfl⟩ (fun s' => typeIs_int s' k u) noFill_list_mul F.fills_int_mul F.slot_int_rmul repeat_list F.slot_int_index.lookup
    (call_meets F.slot_int_rmul (typeIs_int s k u) F.entry_int_rmul (F.args_int_rmul_2 _ _) (int___rmul___int_list k u a vs n1)
      ⟨p, rfl, ⟨_, p, rfl⟩, call_meets F.slot_list_mul ⟨_, p, rfl⟩ F.entry_list_mul (F.args_list_mul_2 _ _)
        (AutoListH.list___mul___list_int_3 a vs n1 k u (by simp [Builtin.List.listFitsIndex]; omega) (by omega) (by simp [Builtin.List.listTooLong, sizeLine]; omega))
        ⟨p, ?_⟩⟩)
  rw [listMul_foldl_if]
  exact EPost.pushList I (r.rep _) (bels_rep (bels_mono (listOf_le e1) b) _)

theorem mul_ok (e : bMul x y σ = some (v, σ')) (I : Inv P ρ σ s.heap) (rx : RV P ρ s.heap x xv) (ry : RV P ρ s.heap y yv) :
    wpAny P.M A (binaryOp .Mult xv yv) (EPost P ρ σ' s v) E s := by
  revert rx ry
  cases x with
  | int a =>
    refine oI_elim e fun b e rx ry => iN_elim e fun c e => ret_elim e (int_elim rx fun t => int_elim ry fun u => ?_)
    exact mul_int (int_here I) (.of_left (small_bits (Bool.and_eq_true_iff.mp c).1))
  | str a =>
    refine oI_elim e fun k e rx ry => iN_elim e fun c e => ret_elim e (str_elim rx fun t => int_elim ry fun u => ?_)
    simp only [Bool.and_eq_true, decide_eq_true_eq, Nat.ble_eq] at c
    refine SB.mul (mulOk_of 1000 1000 (by show a.toArray.size ≤ 1000; rw [List.size_toArray]; exact c.2) (by simpa using c.1.2) (by omega) (by decide) (by decide)) fun t' tk => ?_
    rw [mul_text]
    exact str_here I
  | ref i =>
    refine oI_elim e fun k e rx ry => oO_elim e fun l e1 e => iN_elim e fun c e => ret_elim e (int_elim ry fun u => ?_)
    exact mul_list_ok e1 c I rx
  | _ => exact noS e

theorem binop_ok {op : BinK} (e : binop op x y σ = some (v, σ')) (I : Inv P ρ σ s.heap) (rx : RV P ρ s.heap x xv) (ry : RV P ρ s.heap y yv) :
    wpAny P.M A (binaryOp (opOf op) xv yv) (EPost P ρ σ' s v) E s := by
  cases op with
  | add => exact add_ok e I rx ry
  | mul => exact mul_ok e I rx ry
  | sub =>
    revert rx ry
    refine oI_elim e fun a e => oI_elim e fun b e rx ry => ?_
    refine ret_elim e (int_elim rx fun t => int_elim ry fun u => ?_)
    exact sub_int' (int_here I)
  | fdiv =>
    revert rx ry
    refine oI_elim e fun a e => oI_elim e fun b e rx ry => ?_
    refine iM_elim e fun c e => iN_elim e fun c' e => ret_elim e (int_elim rx fun t => int_elim ry fun u => ?_)
    exact floordiv_int (ne_of_beq_false c) (int_here I) (.inl (PyProof.noPylong_small (Nat.le_of_ble_eq_true c')))
  | mod =>
    revert rx ry
    refine oI_elim e fun a e => oI_elim e fun b e rx ry => ?_
    refine iM_elim e fun c e => ret_elim e (int_elim rx fun t => int_elim ry fun u => ?_)
    exact mod_int' (ne_of_beq_false c) (int_here I)
  | pow =>
    revert rx ry
    refine oI_elim e fun a e => oI_elim e fun b e rx ry => ?_
    refine iN_elim e fun c e => ret_elim e (int_elim rx fun t => int_elim ry fun u => ?_)
    obtain ⟨c1, c2, c3⟩ := shift_ok c
    exact pow_int_small c1 c2 c3 (int_here I)
  | shl =>
    revert rx ry
    refine oI_elim e fun a e => oI_elim e fun b e rx ry => ?_
    refine iN_elim e fun c e => ret_elim e (int_elim rx fun t => int_elim ry fun u => ?_)
    obtain ⟨c1, c2, c3⟩ := shift_ok c
    exact lshift_int_small c1 c2 c3 (int_here I)
  | band =>
    revert rx ry
    refine oI_elim e fun a e => oI_elim e fun b e rx ry => ?_
    refine ret_elim e (int_elim rx fun t => int_elim ry fun u => ?_)
    exact and_int (int_here I)

end

end Mine
end
section
namespace Mine
open PySem PySem.W PyProof.Rows

section
variable {P : Par} {ρ : List Addr} {σ σ' : Sto} {h : Heap} {s : Shared} {A : Around} {E : Value → Shared → Prop} {v x y : AV} {xv yv : Value} {n : Nat}

theorem mapO_py {n : Nat} {f : AV → Option PyData} (hf : ∀ x d v, f x = some d → RV P ρ h x v → ∃ as, Reads h v d as ∧ d.canLay0 = true ∧ d.depth ≤ n) :
    ∀ {l : List AV} {ds : List PyData} {vs : List Value}, mapO f l = some ds → RVs P ρ h l vs → ∃ as, ReadsAll h vs ds as ∧ PyData.canLayAll0 ds = true ∧ PyData.depthAll ds ≤ n
  | [], ds, vs, e, r => by cases e; cases r; exact ⟨[], .nil, rfl, Nat.zero_le _⟩
  | x :: l, ds, vs, e, r => by
    obtain ⟨v, vs', rfl, r1, r2⟩ := r
    refine oO_elim e fun d e1 e => oO_elim e fun ds' e2 e => ret1_elim e ?_
    obtain ⟨as, a1, a2, a3⟩ := hf _ _ _ e1 r1
    obtain ⟨bs, b1, b2, b3⟩ := mapO_py hf e2 r2
    exact ⟨as ++ bs, .cons a1 b1, by simp only [PyData.canLayAll0, a2, b2, Bool.and_self], Nat.max_le.mpr ⟨a3, b3⟩⟩

theorem toPy_reads : ∀ (n : Nat) (x : AV) (d : PyData) (v : Value), toPy n x = some d → RV P ρ h x v → ∃ as, Reads h v d as ∧ d.canLay0 = true ∧ d.depth ≤ n := by
  intro n
  induction n with
  | zero =>
    intro x d v e r
    cases x with
    | int i => cases e; obtain ⟨t, rfl⟩ := r; exact ⟨[], .int _ _, rfl, Nat.zero_le _⟩
    | _ => cases e
  | succ n ih =>
    intro x d v e r
    cases x with
    | int i => cases e; obtain ⟨t, rfl⟩ := r; exact ⟨[], .int _ _, rfl, Nat.zero_le _⟩
    | tup l =>
      refine oO_elim e fun ds e1 e => ret1_elim e ?_
      obtain ⟨a, vs, rfl, ⟨o, ho, hc, k, hd⟩, r⟩ := r
      obtain ⟨as, a1, a2, a3⟩ := mapO_py ih e1 r
      exact ⟨as, .tuple ho hc hd a1, a2, Nat.succ_le_succ a3⟩
    | _ => cases e

theorem shaped_of {d : PyData} (h1 : d.canLay0 = true) (h2 : d.depth ≤ 64) : SeqAt.shaped d = true := by
  unfold SeqAt.shaped
  rw [h1, decide_eq_true h2]; rfl

theorem listReads {l : List AV} {ds : List PyData} {a : Addr} {vs : Array Value} (e : mapO (toPy 3) l = some ds) (p : h.PlainList a vs) (r : RVs P ρ h l vs.toList) :
    ∃ as, Reads h (.ref a) (.list ds) as ∧ SeqAt.shaped (.list ds) = true := by
  obtain ⟨n, p⟩ := p
  obtain ⟨as, a1, a2, a3⟩ := mapO_py (toPy_reads 3) e r
  exact ⟨_, .list p rfl rfl a1, shaped_of (by simp only [PyData.canLay0]; exact a2) (by simp only [PyData.depth]; omega)⟩
theorem tupReads {l : List AV} {ds : List PyData} {a : Addr} {vs : Array Value} (e : mapO (toPy 3) l = some ds) (p : h.IsTuple a vs) (r : RVs P ρ h l vs.toList) :
    ∃ as, Reads h (.ref a) (.tuple ds) as ∧ SeqAt.shaped (.tuple ds) = true := by
  obtain ⟨o, p, hc, k, hd⟩ := p
  obtain ⟨as, a1, a2, a3⟩ := mapO_py (toPy_reads 3) e r
  exact ⟨_, .tuple p hc hd a1, shaped_of (by simp only [PyData.canLay0]; exact a2) (by simp only [PyData.depth]; omega)⟩

theorem asInts_are : ∀ {l : List AV} {ns : List Int} {vs : List Value}, asInts l = some ns → RVs P ρ h l vs → IntsAre vs ns
  | [], ns, vs, e, r => by cases e; cases r; exact .nil
  | x :: l, ns, vs, e, r => by
    obtain ⟨v, vs', rfl, r1, r2⟩ := r
    refine oI_elim (motive := fun x => RV P ρ h x v → _) e (fun i e r1 => oO_elim e fun ns' e1 e => ret1_elim e ?_) r1
    obtain ⟨t, rfl⟩ := r1
    exact .cons _ _ (asInts_are e1 r2)

theorem asStrs_are : ∀ {l : List AV} {ns : List (List Nat)} {vs : List Value}, asStrs l = some ns → RVs P ρ h l vs → StrsAre vs (ns.map fun s => ⟨s.toArray⟩)
  | [], ns, vs, e, r => by cases e; cases r; exact .nil
  | x :: l, ns, vs, e, r => by
    obtain ⟨v, vs', rfl, r1, r2⟩ := r
    refine oS_elim (motive := fun x => RV P ρ h x v → _) e (fun i e r1 => oO_elim e fun ns' e1 e => ret1_elim e ?_) r1
    obtain ⟨t, rfl⟩ := r1
    exact .cons _ _ (asStrs_are e1 r2)

theorem any_strs (a : List Nat) (ss : List (List Nat)) : (ss.map fun s => (⟨s.toArray⟩ : Str)).any (· == ⟨a.toArray⟩) = ss.any (· == a) := by
  rw [List.any_map]
  congr 1
  funext s
  show ((⟨s.toArray⟩ : Str) == ⟨a.toArray⟩) = (s == a)
  rw [Bool.eq_iff_iff, beq_iff_eq, beq_iff_eq]
  constructor
  · intro e; injection e with e; simpa using e
  · rintro rfl; rfl

theorem isNone_of {v : AV} {x : Value} (r : RV P ρ h v x) : (x == Value.none) = isNoneV v := by
  cases v with
  | none => cases r; rfl
  | bool b => cases r; cases b <;> rfl
  | int i => obtain ⟨t, rfl⟩ := r; rfl
  | str i => obtain ⟨t, rfl⟩ := r; rfl
  | tup l => obtain ⟨a, vs, rfl, _⟩ := r; rfl
  | ref i => obtain ⟨a, rfl, _⟩ := r; rfl
  | frz l => obtain ⟨a, vs, rfl, _⟩ := r; rfl
  | inst w => obtain ⟨a, D, od, rfl, _⟩ := r; rfl
  | self i => obtain ⟨a, D, rfl, _⟩ := r; rfl

theorem eqL_inv {l l' : List AV} {c : Bool} {G : Prop} (e : eqL l l' = some c) (k : ∀ a b, mapO (toPy 3) l = some a → mapO (toPy 3) l' = some b → c = PyData.eqvAll a b → G) : G :=
  oO_elim e fun a e1 e => oO_elim e fun b e2 e => k a b e1 e2 (Option.some.inj e).symm

theorem ceq_ok {c : Bool} (e : cEq x y σ = some c) (I : Inv P ρ σ s.heap) (hu : A.units + 64 < cLine) (rx : RV P ρ s.heap x xv) (ry : RV P ρ s.heap y yv) :
    wpAny P.M A (compareOp .Eq xv yv) (EPost P ρ σ s (.bool c)) E s := by
  revert rx ry
  cases x with
  | int a =>
    refine oI_elim e fun b e rx ry => ret1_elim e (int_elim rx fun t => int_elim ry fun u => ?_)
    exact eq_int (bool_here I)
  | str a =>
    refine oS_elim e fun b e rx ry => ret1_elim e (str_elim rx fun t => str_elim ry fun u => ?_)
    exact PySem.P.eq_str (bool_here I)
  | ref i =>
    refine oR_elim e fun j e rx ry => oO_elim e fun l e1 e => oO_elim e fun l' e2 e => ?_
    refine list_elim I e1 rx fun a vs ha p r _ _ => list_elim I e2 ry fun a' vs' ha' p' r' _ _ => eqL_inv e fun a b e3 e4 e => ?_
    obtain ⟨as, q1, q2⟩ := listReads e3 p r
    obtain ⟨bs, q3, q4⟩ := listReads e4 p' r'
    exact eq_dataH q1 q3 q2 q4 hu (by simp only [PyData.eqv]; rw [e]; exact bool_here I)
  | tup a =>
    refine oT_elim e fun b e rx ry => ?_
    refine tup_elim rx fun a vs p r _ => tup_elim ry fun a' vs' p' r' _ => eqL_inv e fun a b e3 e4 e => ?_
    obtain ⟨as, q1, q2⟩ := tupReads e3 p r
    obtain ⟨bs, q3, q4⟩ := tupReads e4 p' r'
    exact eq_dataH q1 q3 q2 q4 hu (by simp only [PyData.eqv]; rw [e]; exact bool_here I)
  | _ => exact noS e

theorem cne_ok {c : Bool} (e : cNe x y σ = some c) (I : Inv P ρ σ s.heap) (hu : A.units + 64 < cLine) (rx : RV P ρ s.heap x xv) (ry : RV P ρ s.heap y yv) :
    wpAny P.M A (compareOp .NotEq xv yv) (EPost P ρ σ s (.bool c)) E s := by
  revert rx ry
  cases x with
  | int a =>
    refine oI_elim e fun b e rx ry => ret1_elim e (int_elim rx fun t => int_elim ry fun u => ?_)
    exact ne_int (bool_here I)
  | str a =>
    refine oS_elim e fun b e rx ry => ret1_elim e (str_elim rx fun t => str_elim ry fun u => ?_)
    exact PySem.P.ne_str (bool_here I)
  | ref i =>
    refine oR_elim e fun j e rx ry => oO_elim e fun l e1 e => oO_elim e fun l' e2 e => oO_elim e fun q e5 e => ret1_elim e ?_
    refine list_elim I e1 rx fun a vs ha p r _ _ => list_elim I e2 ry fun a' vs' ha' p' r' _ _ => eqL_inv e5 fun a b e3 e4 e => ?_
    obtain ⟨as, q1, q2⟩ := listReads e3 p r
    obtain ⟨bs, q3, q4⟩ := listReads e4 p' r'
    exact ne_dataH q1 q3 q2 q4 hu (by simp only [PyData.eqv]; rw [e]; exact bool_here I)
  | _ => exact noS e

theorem cin_ok {c : Bool} (e : cIn x y σ = some c) (I : Inv P ρ σ s.heap) (rx : RV P ρ s.heap x xv) (ry : RV P ρ s.heap y yv) :
    wpAny P.M A (compareOp .In xv yv) (EPost P ρ σ s (.bool c)) E s := by
  revert rx ry
  refine oI_elim e fun a e => ?_
  cases y with
  | ref i =>
    intro rx ry
    refine oO_elim e fun l e1 e => oO_elim e fun ns e2 e => ret1_elim e (int_elim rx fun t => list_elim I e1 ry fun a vs ha p r _ _ => ?_)
    exact in_list_ints (Array.toArray_toList ▸ p.isList) (asInts_are e2 r) (bool_here I)
  | tup l =>
    intro rx ry
    refine oO_elim e fun ns e2 e => ret1_elim e (int_elim rx fun t => tup_elim ry fun a vs p r _ => ?_)
    exact in_tuple_ints p (asInts_are e2 r) (bool_here I)
  | _ => exact noS e

theorem sign_in (c' : Nat) (s' : List Nat) : (!(Builtin.Str.occurrences ⟨s'.toArray⟩ ⟨[c'].toArray⟩ 0 (⟨s'.toArray⟩ : Str).length 1).isEmpty) = s'.any (· == c') := by
  rw [show (⟨[c'].toArray⟩ : Str) = ⟨#[c']⟩ from rfl, StrLaws.found_one]
  rw [Bool.eq_iff_iff, decide_eq_true_eq, List.any_eq_true]
  constructor
  · intro hm; exact ⟨c', by simpa using hm, by simp⟩
  · rintro ⟨z, hz, he⟩; rw [beq_iff_eq] at he; subst he; simpa using hz

theorem cnots_ok {a : List Nat} {c : Bool} (e : cNotS a y σ = some c) (I : Inv P ρ σ s.heap) (rx : RV P ρ s.heap (.str a) xv) (ry : RV P ρ s.heap y yv) :
    wpAny P.M A (compareOp .NotIn xv yv) (EPost P ρ σ s (.bool c)) E s := by
  revert ry
  cases y with
  | str s' =>
    rcases a with _ | ⟨c', _ | ⟨c2, a⟩⟩
    · exact noS e
    · intro ry
      refine ret1_elim e (str_elim rx fun t => str_elim ry fun u => PySem.P.notIn_str ?_)
      rw [sign_in]
      exact bool_here I
    · exact noS e
  | ref i =>
    intro ry
    refine oO_elim e fun l e1 e => oO_elim e fun ns e2 e => ret1_elim e (str_elim rx fun t => list_elim I e1 ry fun a vs ha p r _ _ => ?_)
    exact notin_list_strs (Array.toArray_toList ▸ p.isList) (asStrs_are e2 r) (by rw [any_strs]; exact bool_here I)
  | _ => exact noS e

theorem cnotin_ok {c : Bool} (e : cNotIn x y σ = some c) (I : Inv P ρ σ s.heap) (rx : RV P ρ s.heap x xv) (ry : RV P ρ s.heap y yv) :
    wpAny P.M A (compareOp .NotIn xv yv) (EPost P ρ σ s (.bool c)) E s := by
  revert rx ry
  cases x with
  | str a => exact fun rx ry => cnots_ok e I rx ry
  | int a =>
    refine oR_elim e fun i e rx ry => oO_elim e fun l e1 e => oO_elim e fun ns e2 e => ret1_elim e (int_elim rx fun t => list_elim I e1 ry fun a vs ha p r _ _ => ?_)
    exact notin_list_ints (Array.toArray_toList ▸ p.isList) (asInts_are e2 r) (bool_here I)
  | _ => exact noS e

theorem cis_ok {c : Bool} (e : cIs x y = some c) (I : Inv P ρ σ s.heap) (rx : RV P ρ s.heap x xv) (ry : RV P ρ s.heap y yv) :
    wpAny P.M A (compareOp .Is xv yv) (EPost P ρ σ s (.bool c)) E s := by
  revert rx ry
  cases y with
  | none =>
    intro rx ry
    cases e; cases ry
    exact is_none_gen (by rw [isNone_of rx]; exact bool_here I)
  | bool b =>
    refine oB_elim e fun a e rx ry => ?_
    cases e; cases rx; cases ry
    exact is_bool (bool_here I)
  | _ => exact noS e

theorem cmpop_ok {op : CmpK} {c : Bool} (e : cmpop op x y σ = some c) (I : Inv P ρ σ s.heap) (hA : AOk n A) (rx : RV P ρ s.heap x xv) (ry : RV P ρ s.heap y yv) :
    wpAny P.M A (compareOp (cmpOf op) xv yv) (EPost P ρ σ s (.bool c)) E s := by
  have hu : A.units + 64 < cLine := Nat.lt_of_le_of_lt (Nat.le_trans (Nat.add_le_add (Nat.le_add_right _ _) (by decide)) (Nat.le_refl (A.units + 12 * n + 100))) hA.units
  cases op with
  | eq => exact ceq_ok e I hu rx ry
  | ne => exact cne_ok e I hu rx ry
  | lt =>
    revert rx ry
    refine oI_elim e fun a e => oI_elim e fun b e rx ry => ret1_elim e (int_elim rx fun t => int_elim ry fun u => ?_)
    exact lt_int (bool_here I)
  | le =>
    revert rx ry
    refine oI_elim e fun a e => oI_elim e fun b e rx ry => ret1_elim e (int_elim rx fun t => int_elim ry fun u => ?_)
    exact le_int (bool_here I)
  | gt =>
    revert rx ry
    refine oI_elim e fun a e => oI_elim e fun b e rx ry => ret1_elim e (int_elim rx fun t => int_elim ry fun u => ?_)
    exact gt_int (bool_here I)
  | ge =>
    revert rx ry
    refine oI_elim e fun a e => oI_elim e fun b e rx ry => ret1_elim e (int_elim rx fun t => int_elim ry fun u => ?_)
    exact ge_int (bool_here I)
  | is => exact cis_ok e I rx ry
  | isNot =>
    revert rx ry
    refine oB_elim e fun a e => oB_elim e fun b e rx ry => ?_
    cases e; cases rx; cases ry
    exact isnot_bool (bool_here I)
  | inn => exact cin_ok e I rx ry
  | notIn => exact cnotin_ok e I rx ry

theorem truth_ok {b : Bool} (e : truthV x = some b) (rx : RV P ρ h x xv) {Q : Bool → Shared → Prop} (q : Q b s) : wpAny P.M A (truthy xv) Q E s := by
  cases x with
  | bool c => cases e; cases rx; exact wpAny_truthy_bool q
  | int i => cases e; obtain ⟨t, rfl⟩ := rx; exact truthy_int q
  | _ => cases e

theorem aug_ok {op : AugK} (e : augop op x y = some v) (I : Inv P ρ σ s.heap) (rx : RV P ρ s.heap x xv) (ry : RV P ρ s.heap y yv) :
    wpAny P.M A (inplaceOp (augOf op) xv yv) (EPost P ρ σ s v) E s := by
  revert rx ry
  refine oI_elim e fun a e => oI_elim e fun b e rx ry => ?_
  refine int_elim rx fun t => int_elim ry fun u => ?_
  cases op with
  | add => exact ret1_elim e (iadd_int (int_here I))
  | sub => exact ret1_elim e (isub_int (int_here I))
  | xor => exact ret1_elim e (ixor_int (int_here I))

end

end Mine
end
section
namespace Mine
open PySem PySem.W PyProof.Rows

section
variable {P : Par} {ρ : List Addr} {σ σ' : Sto} {h : Heap} {s : Shared} {A : Around} {E : Value → Shared → Prop} {v x y : AV} {xv yv : Value} {n : Nat}

noncomputable def isSlice (e : Expr) : Bool := @Expr.casesOn (fun _ => Bool) e (fun _ _ _ => false) (fun _ _ _ => false) (fun _ _ _ _ => false) (fun _ _ _ => false) (fun _ _ _ _ => false) (fun _ _ _ _ => false) (fun _ _ _ => false) (fun _ _ _ => false) (fun _ _ _ _ => false) (fun _ _ _ _ => false) (fun _ _ _ _ _ => false) (fun _ _ _ _ => false) (fun _ _ => false) (fun _ _ => false) (fun _ _ => false) (fun _ _ _ _ => false) (fun _ _ _ _ => false) (fun _ _ _ _ => false) (fun _ _ => false) (fun _ _ _ => false) (fun _ _ _ => false) (fun _ _ _ => false) (fun _ _ => false) (fun _ _ => false) (fun _ _ => false) (fun _ _ _ => false) (fun _ _ _ _ => true)

theorem subscripted_idx {sl : Expr} (hs : isSlice sl = false) (o i : Value) : subscripted sl false o i = operate [o, i] (getItem o i) := by
  cases sl <;> first | rfl | cases hs

theorem normIdx_is {k : Int} {m p : Nat} (e : normIdx k m = some p) : seqIndex? k m = some p ∧ p < m ∧ m ≤ 1048576 ∧ -(m : Int) ≤ k ∧ k < m ∧ (0 ≤ k → p = k.toNat) ∧ (k < 0 → p = (k + m).toNat) := by
  refine iM_elim e fun hm e => ?_
  have hm : m ≤ 1048576 := ble_lim (by simpa using hm)
  by_cases h0 : 0 ≤ k
  · have e : (if decide (k < m) = true then some k.toNat else none) = some p := by rw [decide_eq_true h0, if_pos rfl] at e; exact e
    refine iN_elim e fun h1 e => ret1_elim e ?_
    replace h1 := of_decide_eq_true h1
    exact ⟨seqIndex_of h0 h1, by omega, hm, by omega, h1, fun _ => rfl, fun h => by omega⟩
  · have e : (if decide (0 ≤ k + m) = true then some (k + m).toNat else none) = some p := by rw [decide_eq_false h0, if_neg (by decide)] at e; exact e
    refine iN_elim e fun h1 e => ret1_elim e ?_
    replace h1 := of_decide_eq_true h1
    exact ⟨seqIndex_neg (by omega) (by omega), by omega, hm, by omega, by omega, fun h => by omega, fun _ => rfl⟩

theorem listItem {a : Addr} {vs : Array Value} {k : Int} {t : Tok} {p : Nat} {x : Value} {Q : Value → Shared → Prop} (hl : s.heap.IsList a vs) (e : normIdx k vs.size = some p) (hx : vs[p]? = some x) (q : Q x s) :
    wpAny P.M A (getItem (.ref a) (.int k t)) Q E s := by
  obtain ⟨e1, e2, e3, e4, e5, e6, e7⟩ := normIdx_is e
  by_cases h0 : 0 ≤ k
  · have := e6 h0; subst this
    exact wpAny_getItem_list hl h0 (by omega) hx q
  · have := e7 (by omega); subst this
    exact wpAny_getItem_list_neg hl (by omega) e4 (by omega) hx q

theorem idx_ok {value sl : Expr} (e : idxop x y σ = some v) (hs : isSlice sl = false) (I : Inv P ρ σ s.heap) (rx : RV P ρ s.heap x xv) (ry : RV P ρ s.heap y yv) :
    wpAny P.M A (subscriptTail value sl xv yv) (EPost P ρ σ s v) E s := by
  revert rx ry
  cases x with
  | ref j =>
    refine oI_elim e fun k e rx ry => oO_elim e fun l e1 e => oO_elim e fun p e2 e => ?_
    refine int_elim ry fun u => list_elim I e1 rx fun a vs ha pl r _ hlen => ?_
    obtain ⟨w, hw, rw'⟩ := r.get e
    rw [← hlen] at e2
    exact tail_any pl.isList.typeIs slot_list_getitem.lookup (listItem pl.isList e2 (Array.getElem?_toList ▸ hw) (.same I rw')) (subscripted_idx hs _ _)
  | str s' =>
    refine oI_elim e fun k e rx ry => oO_elim e fun p e2 e => oO_elim e fun c e3 e => ret1_elim e ?_
    refine int_elim ry fun u => str_elim rx fun t => ?_
    obtain ⟨e1, _, e4, e5, e6, _⟩ := normIdx_is e2
    refine tail_any (typeIs_str s _ t) F.slot_str_getitem.lookup (PySem.P.getItem_str (c := c) ?_ ?_ (str_here I)) (subscripted_idx hs _ _)
    · have a1 : ¬ k < -(2 ^ 63 : Int) := by omega
      have a2 : ¬ k ≥ (2 ^ 63 : Int) := by omega
      rw [decide_eq_false a1, decide_eq_false a2]; rfl
    · show (seqIndex? k s'.toArray.size).bind _ = _
      rw [List.size_toArray, e1]
      exact (List.getElem?_toArray).trans e3
  | frz l =>
    refine oI_elim e fun k e rx ry => oO_elim e fun p e2 e => oO_elim e fun c e3 e => ret1_elim e ?_
    refine int_elim ry fun u => frz_elim I rx fun a vs hl hi hlen => ?_
    rw [← hlen] at e2
    have hp : p < vs.size := (normIdx_is e2).2.1
    obtain ⟨n, t, e5, e6⟩ := hi.at p vs[p] (by simp [hp])
    rw [e3] at e6; cases e6
    refine tail_any hl.typeIs slot_list_getitem.lookup (listItem (x := .int c t) hl e2 ?_ (.same I ⟨_, rfl⟩)) (subscripted_idx hs _ _)
    rw [← e5]; exact Array.getElem?_eq_getElem hp
  | tup l =>
    refine oI_elim e fun k e rx ry => oO_elim e fun p e2 e => ?_
    refine int_elim ry fun u => tup_elim rx fun a vs ht r hlen => ?_
    obtain ⟨w, hw, rw'⟩ := r.get e
    rw [← hlen] at e2
    obtain ⟨e1, _, e4, e5, e6, _⟩ := normIdx_is e2
    exact tail_any (T := "tuple") (let ⟨o, ho, hc, _⟩ := ht; ⟨o, ho, hc⟩) slot_tuple_getitem.lookup (getItem_tuple ht (by omega) (by omega) e1 (Array.getElem?_toList ▸ hw) (.same I rw')) (subscripted_idx hs _ _)
  | _ => exact noS e

/-! ### slices -/

noncomputable def ORV (P : Par) (ρ : List Addr) (h : Heap) : Option AV → Value → Prop
  | none, v => v = .none
  | some x, v => RV P ρ h x v

theorem cut_is {α : Type} (l : List α) (lo hi : Option Nat) :
    (l.drop (lo.elim 0 fun a => min a l.length)).take ((hi.elim l.length fun b => min b l.length) - (lo.elim 0 fun a => min a l.length)) = cut l lo hi := by
  have key : ∀ a b : Nat, (l.drop (min a l.length)).take (min b l.length - min a l.length) = (l.take b).drop a := by
    intro a b
    rw [List.drop_take]
    rcases Nat.le_total a l.length with ha | ha
    · rw [Nat.min_eq_left ha]
      rcases Nat.le_total b l.length with hb | hb
      · rw [Nat.min_eq_left hb]
      · rw [Nat.min_eq_right hb, List.take_of_length_le (by simp), List.take_of_length_le (by simp; omega)]
    · rw [Nat.min_eq_right ha, List.drop_of_length_le (Nat.le_refl _), List.drop_of_length_le ha]; simp
  cases lo with
  | none =>
    cases hi with
    | none => simp [cut]
    | some b => have := key 0 b; simpa [cut] using this
  | some a =>
    cases hi with
    | none =>
      have := key a l.length
      rw [Nat.min_self, List.take_length] at this
      simpa [cut] using this
    | some b => simpa [cut] using key a b

theorem andB0 {a b : Bool} (h : (a && b) = true) : a = true := (Bool.and_eq_true_iff.mp h).1
theorem bound_part {lo : Option AV} {b : Option Nat} {v : Value} (e : bound? lo = some b) (r : ORV P ρ h lo v) : IsPart v (b.map fun (x : Nat) => (x : Int)) := by
  cases lo with
  | none => cases e; cases r; exact .none
  | some x =>
    refine oI_elim (motive := fun x => ORV P ρ h (some x) v → _) e (fun k e r => iN_elim e fun c e => ret1_elim e ?_) r
    obtain ⟨t, rfl⟩ := r
    have e := Int.toNat_of_nonneg (of_decide_eq_true (andB0 c))
    show IsPart (.int k t) (some ((k.toNat : Nat) : Int))
    rw [e]; exact .int k t

theorem part_value {v : Value} {k : Option Int} (p : IsPart v k) : ∃ l, v = partValue l ∧ l.map (·.1) = k := by
  cases p with
  | none => exact ⟨none, rfl, rfl⟩
  | int i t => exact ⟨some (i, t), rfl, rfl⟩

theorem clip_nat (n : Nat) (o : Option Nat) (d : Nat) : (o.map fun (x : Nat) => (x : Int)).elim d (clipAt n) = o.elim d fun a => min a n := by
  cases o with
  | none => rfl
  | some a => exact clipAt_nat n a

theorem strIdx (lo hi : Option Nat) (n : Nat) : Builtin.Str.strSliceIndices (lo.map fun (x : Nat) => (x : Int)) (hi.map fun (x : Nat) => (x : Int)) 1 n =
    (List.range ((hi.elim n fun b => min b n) - (lo.elim 0 fun a => min a n))).map ((lo.elim 0 fun a => min a n) + ·) := by
  unfold Builtin.Str.strSliceIndices
  have e : ∀ (o : Option Nat) (d : Nat), (match o.map fun (x : Nat) => (x : Int) with
      | none => (d : Int)
      | some i => if (1 : Int) > 0 then max 0 (min (if i < 0 then i + (n : Int) else i) (n : Int)) else max (-1) (min (if i < 0 then i + (n : Int) else i) ((n : Int) - 1))) = ((o.elim d fun a => min a n : Nat) : Int) := by
    intro o d
    cases o with
    | none => rfl
    | some a =>
      simp only [Option.map_some, Option.elim]
      rw [if_pos (by decide), if_neg (by omega)]
      omega
  have e1 := e lo 0
  have e2 := e hi n
  rw [← sliceRange_one]
  simp only [show ((1 : Int) > 0) = True from by simp, if_true] at e1 e2 ⊢
  rw [← e1, ← e2]
  rfl

theorem RVs.cuts {l : List AV} {vs : List Value} (r : RVs P ρ h l vs) (lo hi : Option Nat) : RVs P ρ h (cut l lo hi) (cut vs lo hi) := by
  unfold cut
  cases hi with
  | none => exact r.drops _
  | some b => exact (r.takes b).drops _
theorem bels_take {m : Nat} : ∀ {l : List AV} (k : Nat), bels m l = true → bels m (l.take k) = true
  | _, 0, _ => by simp [belsN]
  | [], k + 1, _ => rfl
  | x :: l, k + 1, b => by
    simp only [belsC, Bool.and_eq_true, List.take_succ_cons] at b ⊢
    exact ⟨b.1, bels_take k b.2⟩
theorem bels_drop {m : Nat} : ∀ {l : List AV} (k : Nat), bels m l = true → bels m (l.drop k) = true
  | _, 0, b => b
  | [], k + 1, _ => rfl
  | x :: l, k + 1, b => by
    simp only [belsC, Bool.and_eq_true] at b
    exact bels_drop k b.2
theorem bels_cut {m : Nat} {l : List AV} (b : bels m l = true) (lo hi : Option Nat) : bels m (cut l lo hi) = true := by
  unfold cut
  cases hi with
  | none => exact bels_drop _ b
  | some k => exact bels_drop _ (bels_take _ b)
theorem ints_cut {vs : List Value} {ns : List Int} (r : IntsAre vs ns) (lo hi : Option Nat) : IntsAre (cut vs lo hi) (cut ns lo hi) := by
  unfold cut
  cases hi with
  | none => exact r.drop _
  | some k => exact (r.take k).drop _

theorem str_cut {s' : List Nat} {a b : Option Nat} {l' u' : Option (Int × Tok)} (hl' : l'.map (·.1) = a.map fun (x : Nat) => (x : Int)) (hu' : u'.map (·.1) = b.map fun (x : Nat) => (x : Int)) :
    (slicePicked ⟨s'.toArray⟩ l' u' none).length = (b.elim s'.length fun b => min b s'.length) - (a.elim 0 fun a => min a s'.length) ∧
      (slicePicked ⟨s'.toArray⟩ l' u' none).filterMap ((⟨s'.toArray⟩ : Str).cps[·]?) = cut s' a b := by
  have pick : slicePicked ⟨s'.toArray⟩ l' u' none = (List.range ((b.elim s'.length fun b => min b s'.length) - (a.elim 0 fun a => min a s'.length))).map ((a.elim 0 fun a => min a s'.length) + ·) := by
    unfold slicePicked
    rw [hl', hu']
    show Builtin.Str.strSliceIndices _ _ 1 s'.toArray.size = _
    rw [List.size_toArray, strIdx]
  refine ⟨by rw [pick, List.length_map, List.length_range], ?_⟩
  rw [pick]
  show List.filterMap (s'.toArray[·]?) _ = _
  rw [pick_run, ← cut_is]
theorem cut_len {α : Type} (l : List α) (a b : Option Nat) : (cut l a b).length ≤ l.length := by
  unfold cut
  cases b <;> simp <;> omega
theorem cut_full {s' : List Nat} {a b : Option Nat} (h : (b.elim s'.length fun b => min b s'.length) - (a.elim 0 fun a => min a s'.length) = s'.length) : cut s' a b = s' := by
  rw [← cut_is]
  by_cases hz : s'.length = 0
  · have : s' = [] := List.eq_nil_of_length_eq_zero hz
    subst this; simp
  · have hb : (b.elim s'.length fun b => min b s'.length) ≤ s'.length := by cases b <;> simp <;> omega
    have e0 : (a.elim 0 fun a => min a s'.length) = 0 := by omega
    rw [h, e0]; simp

set_option tactic.hygienic true
theorem slice_str {value : Expr} {lower upper : Option Expr} {p : Pos} {s' : List Nat} {a b : Option Nat} {vl vu : Value} (c : Nat.ble s'.length lim = true) (pl : IsPart vl (a.map fun (x : Nat) => (x : Int))) (pu : IsPart vu (b.map fun (x : Nat) => (x : Int))) (I : Inv P ρ σ s.heap) (rx : RV P ρ s.heap (.str s') xv) :
    wpAny P.M A (subscriptTail value (.Slice lower upper none p) xv (.ref s.heap.objs.size)) (EPost P ρ σ s (.str (cut s' a b))) E { s with heap := s.heap.push { cls := .type "slice", data := .fields #[vl, vu, .none] } } := by
  obtain ⟨l', rfl, hl'⟩ := part_value pl
  obtain ⟨u', rfl, hu'⟩ := part_value pu
  refine str_elim rx fun t => tail_any (ops := [.ref s.heap.objs.size, .str ⟨s'.toArray⟩ t]) (typeIs_str _ _ t) F.slot_str_getitem.lookup (wpAny_getItem_str_slice (l := l') (u := u') (st := none) ⟨_, Heap.get?_push_size _ rfl, rfl, rfl⟩ rfl ?_) rfl
  obtain ⟨h1, got⟩ := str_cut (s' := s') hl' hu'
  unfold sliceMade
  split
  · rename_i hc
    have full : cut s' a b = s' := cut_full (by
      simp only [Option.map_none, Option.getD_none, Bool.and_eq_true, beq_iff_eq] at hc
      rw [← h1, hc.2]; exact List.size_toArray)
    rw [full]
    exact EPost.kept (t := s.toks) I (.push _) ⟨_, rfl⟩
  · rw [got]
    refine ⟨?_, EPost.kept I (.push _) ⟨_, rfl⟩⟩
    show (cut s' a b).toArray.size ≤ 16777216
    rw [List.size_toArray]; exact Nat.le_trans (cut_len s' a b) (Nat.le_trans (ble_lim c) (by decide))

set_option tactic.hygienic false
theorem slice_list {value : Expr} {lower upper : Option Expr} {p : Pos} {l : List AV} {ad : Addr} {vs : Array Value} {a b : Option Nat} {vl vu : Value} (hlen : l.length ≤ 1048576) (h1 : vs.size = l.length) (pl : IsPart vl (a.map fun (x : Nat) => (x : Int))) (pu : IsPart vu (b.map fun (x : Nat) => (x : Int)))
    (I : Inv P ρ σ s.heap) (hl : s.heap.IsList ad vs) (r : RVs P ρ s.heap l vs.toList) (bb : bels σ.length l = true) :
    wpAny P.M A (subscriptTail value (.Slice lower upper none p) (.ref ad) (.ref s.heap.objs.size)) (EPost P ρ (σ ++ [.list (cut l a b)]) s (.ref σ.length)) E { s with heap := s.heap.push { cls := .type "slice", data := .fields #[vl, vu, .none] } } := by
  have hl := hl.push { cls := .type "slice", data := .fields #[vl, vu, .none] }
  refine tail_any (ops := [.ref s.heap.objs.size, .ref ad]) hl.typeIs slot_list_getitem.lookup (wpAny_getItem_list_slice hl (Heap.IsSliceOf.new ..) pl pu .none (by simp) ?_ (by rw [sizeLine_eq]; omega)) rfl
  rw [slicePick_plain, clip_nat, clip_nat]
  have e4 : (vs.toList.drop (a.elim 0 fun a => min a vs.size)).take ((b.elim vs.size fun b => min b vs.size) - (a.elim 0 fun a => min a vs.size)) = cut vs.toList a b := by
    rw [← cut_is, Array.length_toList]
  rw [e4]
  exact EPost.newList I (fun x o ex _ => Heap.get?_push_of_some _ (Heap.get?_push_of_some _ ex)) (get_ge_none (by rw [Heap.size_push]; omega)) ⟨0, Heap.get?_push_size _ rfl⟩ (r.cuts a b) (bels_cut bb a b)

theorem cut_map (l : List Int) (a b : Option Nat) : cut (l.map AV.int) a b = (cut l a b).map AV.int := by
  unfold cut
  cases b with
  | none => exact List.map_drop.symm
  | some b => show List.drop _ (List.take _ _) = _; rw [← List.map_take]; exact List.map_drop.symm

theorem slice_ok {value : Expr} {lower upper : Option Expr} {p : Pos} {lo hi : Option AV} {vl vu : Value} (e : sliceop x lo hi σ = some (v, σ')) (I : Inv P ρ σ s.heap) (rx : RV P ρ s.heap x xv) (rl : ORV P ρ s.heap lo vl) (ru : ORV P ρ s.heap hi vu) :
    wpAny P.M A (subscriptTail value (.Slice lower upper none p) xv (.ref s.heap.objs.size)) (EPost P ρ σ' s v) E { s with heap := s.heap.push { cls := .type "slice", data := .fields #[vl, vu, .none] } } := by
  refine oO_elim e fun a e1 e => oO_elim e fun b e2 e => ?_
  have pl := bound_part e1 rl
  have pu := bound_part e2 ru
  revert rx
  cases x with
  | str s' => exact fun rx => iN_elim e fun c e => ret_elim e (slice_str c pl pu I rx)
  | ref i =>
    refine fun rx => oO_elim e fun l e3 e => iN_elim e fun c e => ret_elim e (list_elim I e3 rx fun ad vs ha p r b' h1 => ?_)
    exact slice_list (ble_lim c) h1 pl pu I p.isList r (bels_mono (listOf_le e3) b')
  | frz l =>
    refine fun rx => iN_elim e fun c e => ret_elim e (frz_elim I rx fun ad vs hl hi h1 => ?_)
    rw [← cut_map]
    exact slice_list (by rw [List.length_map]; exact ble_lim c) (by rw [List.length_map]; exact h1) pl pu I hl (RVs.of_ints hi) (bels_ints _ _)
  | _ => exact noS e
end

end Mine
end
section
namespace Mine
open PySem PySem.W PyProof.Rows

noncomputable def biVal : BK → Value
  | .len => .builtin "len"
  | .sum => .builtin "sum"
  | .max => .builtin "max"
  | .sorted => .builtin "sorted"
  | .hex => .builtin "hex"
  | .tuple => .type "tuple"
  | .list => .type "list"

theorem sumI_sum : ∀ l : List Int, sumI l = l.sum
  | [] => rfl
  | a :: l => by simp [sumI_q2, sumI_sum l]

theorem maxL_spec : ∀ (l : List Int) (a : Int), (maxL a l = a ∨ maxL a l ∈ l) ∧ a ≤ maxL a l ∧ ∀ x ∈ l, x ≤ maxL a l
  | [], a => ⟨.inl rfl, Int.le_refl _, fun x hx => nomatch hx⟩
  | b :: l, a => by
    (first | rewrite [maxL_q2] | rewrite [maxL_q1])
    by_cases h : a < b
    · rw [decide_eq_true h, if_pos rfl]
      obtain ⟨h1, h2, h3⟩ := maxL_spec l b
      refine ⟨.inr ?_, by omega, fun x hx => ?_⟩
      · rcases h1 with h1 | h1
        · rw [h1]; exact List.mem_cons_self
        · exact List.mem_cons_of_mem _ h1
      · rcases List.mem_cons.mp hx with rfl | hx
        · exact h2
        · exact h3 x hx
    · rw [decide_eq_false h, if_neg (by decide)]
      obtain ⟨h1, h2, h3⟩ := maxL_spec l a
      refine ⟨?_, h2, fun x hx => ?_⟩
      · rcases h1 with h1 | h1
        · exact .inl h1
        · exact .inr (List.mem_cons_of_mem _ h1)
      · rcases List.mem_cons.mp hx with rfl | hx
        · omega
        · exact h3 x hx
theorem maxL_unique {a : Int} {l : List Int} {M : Int} (hm : M ∈ a :: l) (hle : ∀ x ∈ a :: l, x ≤ M) : M = maxL a l := by
  obtain ⟨h1, h2, h3⟩ := maxL_spec l a
  have u1 : M ≤ maxL a l := by
    rcases List.mem_cons.mp hm with rfl | hm
    · exact h2
    · exact h3 M hm
  have u2 : maxL a l ≤ M := by
    rcases h1 with h1 | h1
    · rw [h1]; exact hle a List.mem_cons_self
    · exact hle _ (List.mem_cons_of_mem _ h1)
  omega

theorem ins_perm (x : Int) : ∀ l : List Int, (ins x l).Perm (x :: l)
  | [] => .refl _
  | y :: l => by
    (first | rewrite [ins_q2] | rewrite [ins_q1])
    by_cases h : x ≤ y
    · rw [decide_eq_true h, if_pos rfl]
    · rw [decide_eq_false h, if_neg (by decide)]
      exact ((ins_perm x l).cons y).trans (.swap ..)
theorem isort_perm : ∀ l : List Int, (isort l).Perm l
  | [] => .refl _
  | x :: l => (ins_perm x (isort l)).trans ((isort_perm l).cons x)
theorem ins_sorted (x : Int) : ∀ l : List Int, l.Pairwise (· ≤ ·) → (ins x l).Pairwise (· ≤ ·)
  | [], _ => by simp [ins_q1]
  | y :: l, h => by
    obtain ⟨h1, h2⟩ := List.pairwise_cons.mp h
    (first | rewrite [ins_q2] | rewrite [ins_q1])
    by_cases hxy : x ≤ y
    · rw [decide_eq_true hxy, if_pos rfl]
      exact List.pairwise_cons.mpr ⟨fun z hz => by
        rcases List.mem_cons.mp hz with rfl | hz
        · exact hxy
        · exact Int.le_trans hxy (h1 z hz), h⟩
    · rw [decide_eq_false hxy, if_neg (by decide)]
      refine List.pairwise_cons.mpr ⟨fun z hz => ?_, ins_sorted x l h2⟩
      rcases List.mem_cons.mp ((ins_perm x l).mem_iff.mp hz) with rfl | hz
      · omega
      · exact h1 z hz
theorem isort_sorted : ∀ l : List Int, (isort l).Pairwise (· ≤ ·)
  | [] => .nil
  | x :: l => ins_sorted x _ (isort_sorted l)
theorem sorted_unique : ∀ {l l' : List Int}, l.Perm l' → l.Pairwise (· ≤ ·) → l'.Pairwise (· ≤ ·) → l = l'
  | [], l', p, _, _ => (List.nil_perm.mp p).symm
  | x :: l, l', p, h, h' => by
    cases l' with
    | nil => exact absurd (List.perm_nil.mp p) (by simp)
    | cons y l' =>
      obtain ⟨a1, a2⟩ := List.pairwise_cons.mp h
      obtain ⟨b1, b2⟩ := List.pairwise_cons.mp h'
      have e : x = y := by
        have m1 : x ∈ y :: l' := p.mem_iff.mp List.mem_cons_self
        have m2 : y ∈ x :: l := p.mem_iff.mpr List.mem_cons_self
        rcases List.mem_cons.mp m1 with e | m1
        · exact e
        · rcases List.mem_cons.mp m2 with e | m2
          · exact e.symm
          · have := b1 _ m1; have := a1 _ m2; omega
      subst e
      rw [sorted_unique (List.Perm.cons_inv p) a2 b2]

theorem hex_is {a : Int} (h0 : 0 ≤ a) : baseText "0x" 16 a = ⟨(hexText a.toNat).toArray⟩ := by
  unfold baseText
  rw [if_neg (by omega)]
  have e : a.natAbs = a.toNat := by omega
  rw [e]
  have e1 : Str.ofString "" = ⟨([] : List Nat).toArray⟩ := by decide +kernel
  have e2 : Str.ofString "0x" = ⟨[48, 120].toArray⟩ := by decide +kernel
  rw [e1, e2, Str.ofString_eq_toList, str_app, str_app]
  simp [hexText]

section
variable {P : Par} {ρ : List Addr} {σ σ' : Sto} {h : Heap} {s : Shared} {A : Around} {E : Value → Shared → Prop} {v x y : AV} {xv yv : Value} {n : Nat}

theorem signs_rvs : ∀ (l : List Nat) (vs : List Value), vs.length = l.length → (∀ (j : Nat) v, vs[j]? = some v → ∃ c u, l[j]? = some c ∧ v = .str ⟨#[c]⟩ u) → RVs P ρ h (l.map fun c => AV.str [c]) vs
  | [], vs, e, _ => List.eq_nil_of_length_eq_zero e
  | c :: l, [], e, _ => by simp at e
  | c :: l, v :: vs, e, f => by
    obtain ⟨c', u, h1, h2⟩ := f 0 v rfl
    simp at h1
    subst h1
    exact ⟨v, vs, rfl, ⟨u, h2⟩, signs_rvs l vs (by simpa using e) fun j w hw => f (j + 1) w (by simpa using hw)⟩

theorem len_ok {args : List Value} (e : bLen x σ = some (v, σ')) (I : Inv P ρ σ s.heap) (rx : RV P ρ s.heap x xv) : wpAny P.M A (call (.builtin "len") [xv]) (EPost P ρ σ' s v) E s := by
  revert rx
  cases x with
  | str s' =>
    refine fun rx => iN_elim e fun c e => ret_elim e (str_elim rx fun t => ?_)
    have e1 : ((⟨s'.toArray⟩ : Str).length : Int) = s'.length := congrArg Int.ofNat List.size_toArray
    refine len_str (by rw [e1]; have := ble_lim c; omega) ?_
    rw [e1]; exact int_here I
  | tup l =>
    refine fun rx => iN_elim e fun c e => ret_elim e (tup_elim rx fun a vs ht r e1 => ?_)
    refine len_tuple ht (by have := ble_lim c; omega) ?_
    rw [e1]; exact int_here I
  | frz l =>
    refine fun rx => iN_elim e fun c e => ret_elim e (frz_elim I rx fun a vs ht r e1 => ?_)
    refine len_list ht (by have := ble_lim c; omega) ?_
    rw [e1]; exact int_here I
  | ref i =>
    refine fun rx => oO_elim e fun l e2 e => iN_elim e fun c e => ret_elim e (list_elim I e2 rx fun a vs ha p r b e1 => ?_)
    refine len_list p.isList (by have := ble_lim c; omega) ?_
    rw [e1]; exact int_here I
  | _ => exact noS e

theorem items_of {vs : Array Value} {ns : List Int} (hi : IntsAre vs.toList ns) : ∃ xs, vs = intItems xs ∧ ns = xs.toList.map (·.1) := by
  obtain ⟨xs, ex⟩ := (IntsAre.allInts (l := vs.toList) hi).items
  have ex : vs = intItems xs := ex
  subst ex
  exact ⟨xs, rfl, by rw [← hi.numsOf, nums_intItems]⟩

theorem max_ok {a : Addr} {vs : Array Value} {m : Int} {ns : List Int} (hh : A.handled = none) (p : s.heap.PlainList a vs) (hi : IntsAre vs.toList (m :: ns)) (I : Inv P ρ σ s.heap) :
    wpAny P.M A (call (.builtin "max") [.ref a]) (EPost P ρ σ s (.int (maxL m ns))) E s := by
  obtain ⟨xs, rfl, hns⟩ := items_of hi
  have hsz : 0 < xs.size := by
    have : (m :: ns).length = xs.size := by rw [hns]; simp
    rw [← this]; exact Nat.succ_pos _
  refine max_intList hh p.isList hsz fun v h' tk hv hk => ?_
  obtain ⟨t, rfl⟩ := intItems_at hv
  obtain ⟨h1, h2⟩ := argBest_gt (numAt xs) (xs.size - 1)
  have e4 : numAt xs (argBest (fun i j => decide (numAt xs i > numAt xs j)) (xs.size - 1)) = maxL m ns := by
    refine maxL_unique ?_ fun z hz => ?_
    · rw [hns, numAt_eq]; exact getD_mem (by rw [List.length_map, Array.length_toList]; omega)
    · rw [hns] at hz
      obtain ⟨j, hj, rfl⟩ := mem_getD hz
      rw [List.length_map, Array.length_toList] at hj
      rw [← numAt_eq]; exact h2 j (by omega)
  rw [e4]
  exact EPost.kept I (.of hk) ⟨_, rfl⟩

theorem sum_ok {a : Addr} {vs : Array Value} {ns : List Int} (hh : A.handled = none) (p : s.heap.PlainList a vs) (hi : IntsAre vs.toList ns) (I : Inv P ρ σ s.heap) :
    wpAny P.M A (call (.builtin "sum") [.ref a]) (EPost P ρ σ s (.int (sumI ns))) E s := by
  obtain ⟨xs, rfl, hns⟩ := items_of hi
  refine sum_intListG hh p.isList fun h' tk t' hk => ?_
  have e4 : preSum (numAt xs) xs.size = sumI ns := by
    rw [preSum_eq, List.take_of_length_le (by simp), sumI_sum, hns]
  rw [e4]
  exact EPost.kept I (.of hk) ⟨_, rfl⟩

theorem bels_signs (m : Nat) : ∀ l : List Nat, bels m (l.map fun c => AV.str [c]) = true
  | [] => rfl
  | _ :: l => bels_signs m l

theorem bi_ok {b : BK} {args : List AV} {vals : List Value} (e : bifn b args σ = some (v, σ')) (I : Inv P ρ σ s.heap) (hA : AOk n A) (r : RVs P ρ s.heap args vals) :
    wpAny P.M A (call (biVal b) vals) (EPost P ρ σ' s v) E s := by
  have hh := hA.handled
  revert r
  cases b with
  | len => exact oOne_elim e fun x e r => rv1_elim r fun w r1 => len_ok (args := []) e I r1
  | sum =>
    refine oOne_elim e fun x e => oR_elim e fun i e r => rv1_elim r fun w r1 => oO_elim e fun l e2 e => oO_elim e fun ns e3 e => ret_elim e ?_
    exact list_elim I e2 r1 fun a vs ha p r _ _ => sum_ok hh p (asInts_are e3 r) I
  | max =>
    replace e : bMax args σ = some (v, σ') := e
    rcases args with _ | ⟨x, _ | ⟨y, _ | ⟨z, args⟩⟩⟩
    · exact noS e
    · refine oR_elim (x := x) e fun i e r => rv1_elim r fun w r1 => oO_elim e fun l e2 e => oO_elim e fun ns e3 e => ?_
      cases ns with
      | nil => exact noS e
      | cons m ns => exact ret_elim e (list_elim I e2 r1 fun a vs ha p r _ _ => max_ok hh p (asInts_are e3 r) I)
    · refine oI_elim (x := x) e fun a e => oI_elim (x := y) e fun b e r => ret_elim e (rv2_elim r fun w w' r1 r2 => int_elim r1 fun t => int_elim r2 fun u => ?_)
      refine max_two_ints hh fun h' tk hk => EPost.kept I (.of hk) ?_
      by_cases hab : a < b
      · rw [if_pos hab, decide_eq_true hab, if_pos rfl]; exact ⟨_, rfl⟩
      · rw [if_neg hab, decide_eq_false hab, if_neg (by decide)]; exact ⟨_, rfl⟩
    · exact noS e
  | sorted =>
    refine oOne_elim e fun x e => oR_elim e fun i e r => rv1_elim r fun w r1 => oO_elim e fun l e2 e => oO_elim e fun ns e3 e => iN_elim e fun c e => ret_elim e ?_
    refine list_elim I e2 r1 fun a vs ha p r _ _ => ?_
    have hi := asInts_are e3 r
    have h64 : vs.toList.length < 64 := by
      rw [IntsAre.length hi]; exact Nat.le_of_ble_eq_true c
    refine sorted_ints (vs := vs.toList) (Array.toArray_toList ▸ p.isList) hi h64 fun out ns' a1 a2 a3 => ?_
    have e4 : ns' = isort ns := sorted_unique (a2.trans (isort_perm ns).symm) a3 (isort_sorted ns)
    subst e4
    obtain ⟨k, hk⟩ := sortedAll_at s.heap vs.toList out
    exact EPost.newList (t := s.toks) I (.of fun _ _ => sortedAll_old) (get_ge_none (Nat.le_succ _)) ⟨k, hk⟩ (RVs.of_ints a1) (bels_ints _ _)
  | hex =>
    refine oOne_elim e fun x e => oI_elim e fun a e r => rv1_elim r fun w r1 => iN_elim e fun c e => ret_elim e (int_elim r1 fun t => ?_)
    simp only [Bool.and_eq_true, decide_eq_true_eq] at c
    have hle := (baseText_length "0x" 16 a).2
    refine PySem.P.hex_of_int ?_ ?_
    · rw [hex_is c.1]; exact str_here I
    · rw [sizeLine_eq]; have : (Str.ofString "0x").length = 2 := by decide +kernel
      omega
  | tuple =>
    refine oOne_elim e fun x e => oR_elim e fun i e r => rv1_elim r fun w r1 => oO_elim e fun l e2 e => iN_elim e fun c e => ret_elim e ?_
    refine list_elim I e2 r1 fun a vs ha p r _ e1 => ?_
    refine call_tuple_list p.isList (fun h' hk => ?_) (by rw [sizeLine_eq]; have := ble_lim c; omega)
    have k : Kp [] s.heap (h'.push { cls := .type "tuple", data := .seq vs }) := fun b o e _ => Heap.get?_push_of_some _ (hk b o e)
    refine EPost.kept (t := s.toks) I k ⟨_, vs, rfl, ⟨_, Heap.get?_push_size _ rfl, rfl, _, rfl⟩, ?_⟩
    have := r.kp k (by simp) (new := []) (by intro a ha; cases ha)
    rwa [List.append_nil] at this
  | list =>
    refine oOne_elim e fun x e => oS_elim e fun s' e r => rv1_elim r fun w r1 => iN_elim e fun c e => ret_elim e (str_elim r1 fun t => ?_)
    refine call_list_str hh _ t (fun h' tk acc' c' hk hS' hacc => ?_) (by rw [sizeLine_eq]; have := ble_lim c; simp; omega)
    refine EPost.newList I (.of hk) (get_size_none _) ⟨c', hS'⟩ (signs_rvs s' acc'.toList ?_ fun j v hv => ?_) (bels_signs _ _)
    · rw [Array.length_toList, hacc.1]; exact List.size_toArray
    · obtain ⟨c, u, h1, h2⟩ := hacc.2 j v (Array.getElem?_toList ▸ hv)
      exact ⟨c, u, List.getElem?_toArray ▸ h1, h2⟩

end

end Mine
end
section
namespace Mine
open PySem PySem.W PyProof.Rows

/-! ## the check that an IR stands for a text -/

/-- the defs by number: name, and whether it is a method of the class -/
structure Tab where
  fn : List (Str × Bool)

noncomputable def cNone : Const → Bool
  | .none => true
  | _ => false
noncomputable def cBool (b : Bool) : Const → Bool
  | .bool a => a == b
  | _ => false
noncomputable def cInt (b : Int) : Const → Bool
  | .int a => a == b
  | _ => false
noncomputable def cStr (b : List Nat) : Const → Bool
  | .str a => a.cps.toList == b
  | _ => false
noncomputable def litIs (c : Const) (v : AV) : Bool := match v with
  | .none => cNone c
  | .bool b => cBool b c
  | .int b => cInt b c
  | .str b => cStr b c
  | _ => false

noncomputable def sDebug : Str := Str.ofString "__debug__"
noncomputable def gname (ns : Names) (x : Str) : Bool := !(x == sDebug) && decide (ns.lookup x = some .globalImplicit)
noncomputable def vname (ns : Names) (x : Str) (i : Nat) : Bool := !(x == sDebug) && decide (slot ns x = some i) && (decide (ns.lookup x = some .local) || decide (ns.lookup x = some .cell))
noncomputable def lname (ns : Names) (x : Str) (i : Nat) : Bool := decide (slot ns x = some i) && decide (ns.lookup x = some .local)
noncomputable def sname (ns : Names) (x : Str) (i : Nat) : Bool := decide (slot ns x = some i) && (decide (ns.lookup x = some .local) || decide (ns.lookup x = some .cell))

noncomputable def isCallE (e : Expr) : Bool := @Expr.casesOn (fun _ => Bool) e (fun _ _ _ => false) (fun _ _ _ => false) (fun _ _ _ _ => false) (fun _ _ _ => false) (fun _ _ _ _ => false) (fun _ _ _ _ => false) (fun _ _ _ => false) (fun _ _ _ => false) (fun _ _ _ _ => false) (fun _ _ _ _ => false) (fun _ _ _ _ _ => false) (fun _ _ _ _ => false) (fun _ _ => false) (fun _ _ => false) (fun _ _ => false) (fun _ _ _ _ => false) (fun _ _ _ _ => true) (fun _ _ _ _ => false) (fun _ _ => false) (fun _ _ _ => false) (fun _ _ _ => false) (fun _ _ _ => false) (fun _ _ => false) (fun _ _ => false) (fun _ _ => false) (fun _ _ _ => false) (fun _ _ _ _ => false)

noncomputable def biName : BK → Str
  | .len => Str.ofString "len" | .sum => Str.ofString "sum" | .max => Str.ofString "max" | .sorted => Str.ofString "sorted" | .hex => Str.ofString "hex" | .tuple => Str.ofString "tuple" | .list => Str.ofString "list"
noncomputable def mkName : MK → Str
  | .append => Str.ofString "append" | .extend => Str.ofString "extend" | .index => Str.ofString "index" | .count => Str.ofString "count" | .join => Str.ofString "join" | .split => Str.ofString "split"
noncomputable def sRange : Str := Str.ofString "range"
noncomputable def sWs : Str := Str.ofString "Whitespace"
noncomputable def sS : Str := Str.ofString "S"
noncomputable def sT : Str := Str.ofString "T"
noncomputable def sFlags : Str := Str.ofString "COMPILER_FLAG_NAMES"
noncomputable def sGet : Str := Str.ofString "get"
noncomputable def sEsc : Str := Str.ofString "_iter_escaped_chars"
noncomputable def sGrp : Str := Str.ofString "_grouping_intervals"

noncomputable def optE (f : Expr → IE → Bool) : Option Expr → Option IE → Bool
  | none, none => true
  | some e, some i => f e i
  | _, _ => false

noncomputable def impOf (ns : Names) (cn : Names) : List (Option Nat) := cn.map fun p => if p.2 = .free then slot ns p.1 else none
noncomputable def cnames (ns : Names) (cn : Names) : Names := cn.map fun p => if p.2 = .free ∧ ns.lookup p.1 = some .cell then (p.1, .cell) else p
noncomputable def compOk (ns : Names) (sc : Scope) (imp : List (Option Nat)) : Bool :=
  decide (sc.kind = .function) && decide ((sc.names.map (·.1)).Nodup) && decide (imp = impOf ns sc.names) && decide ((cnames ns sc.names).lookup sSimple = none) &&
    sc.names.all (fun p => decide (p.2 = .local) || (decide (p.2 = .free) && (decide (ns.lookup p.1 = some .cell) && (slot ns p.1).isSome)) || decide (p.2 = .globalImplicit))

/-! ### trees taken apart, one part at a time -/
section
variable {α : Type}
noncomputable def one (l : List α) (f : α → Bool) : Bool := match l with
  | [a] => f a
  | _ => false
noncomputable def two (l : List α) (f : α → α → Bool) : Bool := match l with
  | [a, b] => f a b
  | _ => false
@[elab_as_elim] theorem one_elim {l : List α} {f : α → Bool} {motive : List α → Prop} (h : one l f = true) (k : ∀ a, f a = true → motive [a]) : motive l := by
  rcases l with _ | ⟨a, _ | ⟨b, l⟩⟩
  · cases h
  · exact k a h
  · cases h
@[elab_as_elim] theorem two_elim {l : List α} {f : α → α → Bool} {motive : List α → Prop} (h : two l f = true) (k : ∀ a b, f a b = true → motive [a, b]) : motive l := by
  rcases l with _ | ⟨a, _ | ⟨b, _ | ⟨c, l⟩⟩⟩
  · cases h
  · cases h
  · exact k a b h
  · cases h
noncomputable def uncons (l : List α) (f : α → List α → Bool) : Bool := match l with
  | a :: l => f a l
  | [] => false
@[elab_as_elim] theorem uncons_elim {l : List α} {f : α → List α → Bool} {motive : List α → Prop} (h : uncons l f = true) (k : ∀ a l, f a l = true → motive (a :: l)) : motive l := by
  cases l with
  | nil => cases h
  | cons a l => exact k a l h
noncomputable def isNil : List α → Bool
  | [] => true
  | _ => false
@[elab_as_elim] theorem isNil_elim {l : List α} {motive : List α → Prop} (h : isNil l = true) (k : motive []) : motive l := by
  cases l with
  | nil => exact k
  | cons a l => cases h
theorem andB {a b : Bool} (h : (a && b) = true) : a = true ∧ b = true := Bool.and_eq_true_iff.mp h
theorem uncons_ex {l : List α} {f : α → List α → Bool} (h : uncons l f = true) : ∃ a l', l = a :: l' ∧ f a l' = true := uncons_elim (motive := fun l => ∃ a l', l = a :: l' ∧ f a l' = true) h fun a l h => ⟨a, l, rfl, h⟩
theorem one_ex {l : List α} {f : α → Bool} (h : one l f = true) : ∃ a, l = [a] ∧ f a = true := one_elim (motive := fun l => ∃ a, l = [a] ∧ f a = true) h fun a h => ⟨a, rfl, h⟩
variable {β : Type}
noncomputable def allP (f : α → β → Bool) : List α → List β → Bool
  | as, [] => isNil as
  | as, b :: bs => uncons as fun a as => f a b && allP f as bs
variable {f : α → β → Bool} {as : List α} {bs : List β} {a a' : α} {b b' : β}
theorem allP_c (h : allP f (a :: as) (b :: bs) = true) : f a b = true ∧ allP f as bs = true := andB h
theorem allP_cons (h : allP f as (b :: bs) = true) : ∃ a as', as = a :: as' ∧ f a b = true ∧ allP f as' bs = true := by
  cases as with
  | nil => cases h
  | cons a as => exact ⟨a, as, rfl, allP_c h⟩
theorem allP_nil (h : allP f as [] = true) : as = [] := by
  cases as with
  | nil => rfl
  | cons a as => cases h
theorem allP1 (h : f a b = true) : allP f [a] [b] = true := by show (f a b && true) = true; rw [h]; rfl
theorem allP2 (h : f a b = true) (h' : f a' b' = true) : allP f [a, a'] [b, b'] = true := by show (f a b && (f a' b' && true)) = true; rw [h, h']; rfl
theorem allP_len : ∀ {as : List α} {bs : List β}, allP f as bs = true → as.length = bs.length
  | [], [], _ => rfl
  | [], _ :: _, h => by cases h
  | _ :: _, [], h => by cases h
  | _ :: _, _ :: _, h => congrArg (· + 1) (allP_len (allP_c h).2)
theorem allP_at : ∀ {as : List α} {bs : List β}, allP f as bs = true → ∀ (k : Nat) (a : α) (b : β), as[k]? = some a → bs[k]? = some b → f a b = true
  | [], _, _, _, _, _, h, _ => by cases h
  | _ :: _, [], h, _, _, _, _, _ => by cases h
  | _ :: _, _ :: _, h, 0, _, _, h1, h2 => by cases h1; cases h2; exact (allP_c h).1
  | _ :: _, _ :: _, h, k + 1, a, b, h1, h2 => allP_at (allP_c h).2 k a b h1 h2
end
theorem noB {G : Prop} (h : false = true) : G := Bool.noConfusion h
noncomputable def xConst (e : Expr) (f : Const → Bool) : Bool := @Expr.casesOn (fun _ => Bool) e (fun _ _ _ => false) (fun _ _ _ => false) (fun _ _ _ _ => false) (fun _ _ _ => false) (fun _ _ _ _ => false) (fun _ _ _ _ => false) (fun _ _ _ => false) (fun _ _ _ => false) (fun _ _ _ _ => false) (fun _ _ _ _ => false) (fun _ _ _ _ _ => false) (fun _ _ _ _ => false) (fun _ _ => false) (fun _ _ => false) (fun _ _ => false) (fun _ _ _ _ => false) (fun _ _ _ _ => false) (fun _ _ _ _ => false) (fun _ _ => false) (fun c _ _ => f c) (fun _ _ _ => false) (fun _ _ _ => false) (fun _ _ => false) (fun _ _ => false) (fun _ _ => false) (fun _ _ _ => false) (fun _ _ _ _ => false)
@[elab_as_elim] theorem xConst_elim {e : Expr} {f : Const → Bool} {motive : Expr → Prop} (h : xConst e f = true) (k : ∀ c k' p, f c = true → motive (.Constant c k' p)) : motive e :=
  @Expr.casesOn (fun e => xConst e f = true → motive e) e (fun _ _ _ => noB) (fun _ _ _ => noB) (fun _ _ _ _ => noB) (fun _ _ _ => noB) (fun _ _ _ _ => noB) (fun _ _ _ _ => noB) (fun _ _ _ => noB) (fun _ _ _ => noB) (fun _ _ _ _ => noB) (fun _ _ _ _ => noB) (fun _ _ _ _ _ => noB) (fun _ _ _ _ => noB) (fun _ _ => noB) (fun _ _ => noB) (fun _ _ => noB) (fun _ _ _ _ => noB) (fun _ _ _ _ => noB) (fun _ _ _ _ => noB) (fun _ _ => noB) k (fun _ _ _ => noB) (fun _ _ _ => noB) (fun _ _ => noB) (fun _ _ => noB) (fun _ _ => noB) (fun _ _ _ => noB) (fun _ _ _ _ => noB) h
noncomputable def xName (e : Expr) (f : Str → Bool) : Bool := @Expr.casesOn (fun _ => Bool) e (fun _ _ _ => false) (fun _ _ _ => false) (fun _ _ _ _ => false) (fun _ _ _ => false) (fun _ _ _ _ => false) (fun _ _ _ _ => false) (fun _ _ _ => false) (fun _ _ _ => false) (fun _ _ _ _ => false) (fun _ _ _ _ => false) (fun _ _ _ _ _ => false) (fun _ _ _ _ => false) (fun _ _ => false) (fun _ _ => false) (fun _ _ => false) (fun _ _ _ _ => false) (fun _ _ _ _ => false) (fun _ _ _ _ => false) (fun _ _ => false) (fun _ _ _ => false) (fun _ _ _ => false) (fun _ _ _ => false) (fun _ _ => false) (fun x _ => f x) (fun _ _ => false) (fun _ _ _ => false) (fun _ _ _ _ => false)
@[elab_as_elim] theorem xName_elim {e : Expr} {f : Str → Bool} {motive : Expr → Prop} (h : xName e f = true) (k : ∀ x p, f x = true → motive (.Name x p)) : motive e :=
  @Expr.casesOn (fun e => xName e f = true → motive e) e (fun _ _ _ => noB) (fun _ _ _ => noB) (fun _ _ _ _ => noB) (fun _ _ _ => noB) (fun _ _ _ _ => noB) (fun _ _ _ _ => noB) (fun _ _ _ => noB) (fun _ _ _ => noB) (fun _ _ _ _ => noB) (fun _ _ _ _ => noB) (fun _ _ _ _ _ => noB) (fun _ _ _ _ => noB) (fun _ _ => noB) (fun _ _ => noB) (fun _ _ => noB) (fun _ _ _ _ => noB) (fun _ _ _ _ => noB) (fun _ _ _ _ => noB) (fun _ _ => noB) (fun _ _ _ => noB) (fun _ _ _ => noB) (fun _ _ _ => noB) (fun _ _ => noB) k (fun _ _ => noB) (fun _ _ _ => noB) (fun _ _ _ _ => noB) h
noncomputable def xName2 (e : Expr) (f : Str → Pos → Bool) : Bool := @Expr.casesOn (fun _ => Bool) e (fun _ _ _ => false) (fun _ _ _ => false) (fun _ _ _ _ => false) (fun _ _ _ => false) (fun _ _ _ _ => false) (fun _ _ _ _ => false) (fun _ _ _ => false) (fun _ _ _ => false) (fun _ _ _ _ => false) (fun _ _ _ _ => false) (fun _ _ _ _ _ => false) (fun _ _ _ _ => false) (fun _ _ => false) (fun _ _ => false) (fun _ _ => false) (fun _ _ _ _ => false) (fun _ _ _ _ => false) (fun _ _ _ _ => false) (fun _ _ => false) (fun _ _ _ => false) (fun _ _ _ => false) (fun _ _ _ => false) (fun _ _ => false) (fun x p => f x p) (fun _ _ => false) (fun _ _ _ => false) (fun _ _ _ _ => false)
@[elab_as_elim] theorem xName2_elim {e : Expr} {f : Str → Pos → Bool} {motive : Expr → Prop} (h : xName2 e f = true) (k : ∀ x p, f x p = true → motive (.Name x p)) : motive e :=
  @Expr.casesOn (fun e => xName2 e f = true → motive e) e (fun _ _ _ => noB) (fun _ _ _ => noB) (fun _ _ _ _ => noB) (fun _ _ _ => noB) (fun _ _ _ _ => noB) (fun _ _ _ _ => noB) (fun _ _ _ => noB) (fun _ _ _ => noB) (fun _ _ _ _ => noB) (fun _ _ _ _ => noB) (fun _ _ _ _ _ => noB) (fun _ _ _ _ => noB) (fun _ _ => noB) (fun _ _ => noB) (fun _ _ => noB) (fun _ _ _ _ => noB) (fun _ _ _ _ => noB) (fun _ _ _ _ => noB) (fun _ _ => noB) (fun _ _ _ => noB) (fun _ _ _ => noB) (fun _ _ _ => noB) (fun _ _ => noB) k (fun _ _ => noB) (fun _ _ _ => noB) (fun _ _ _ _ => noB) h
noncomputable def xBin (e : Expr) (f : Expr → Operator → Expr → Bool) : Bool := @Expr.casesOn (fun _ => Bool) e (fun _ _ _ => false) (fun _ _ _ => false) (fun l o r _ => f l o r) (fun _ _ _ => false) (fun _ _ _ _ => false) (fun _ _ _ _ => false) (fun _ _ _ => false) (fun _ _ _ => false) (fun _ _ _ _ => false) (fun _ _ _ _ => false) (fun _ _ _ _ _ => false) (fun _ _ _ _ => false) (fun _ _ => false) (fun _ _ => false) (fun _ _ => false) (fun _ _ _ _ => false) (fun _ _ _ _ => false) (fun _ _ _ _ => false) (fun _ _ => false) (fun _ _ _ => false) (fun _ _ _ => false) (fun _ _ _ => false) (fun _ _ => false) (fun _ _ => false) (fun _ _ => false) (fun _ _ _ => false) (fun _ _ _ _ => false)
@[elab_as_elim] theorem xBin_elim {e : Expr} {f : Expr → Operator → Expr → Bool} {motive : Expr → Prop} (h : xBin e f = true) (k : ∀ l o r p, f l o r = true → motive (.BinOp l o r p)) : motive e :=
  @Expr.casesOn (fun e => xBin e f = true → motive e) e (fun _ _ _ => noB) (fun _ _ _ => noB) k (fun _ _ _ => noB) (fun _ _ _ _ => noB) (fun _ _ _ _ => noB) (fun _ _ _ => noB) (fun _ _ _ => noB) (fun _ _ _ _ => noB) (fun _ _ _ _ => noB) (fun _ _ _ _ _ => noB) (fun _ _ _ _ => noB) (fun _ _ => noB) (fun _ _ => noB) (fun _ _ => noB) (fun _ _ _ _ => noB) (fun _ _ _ _ => noB) (fun _ _ _ _ => noB) (fun _ _ => noB) (fun _ _ _ => noB) (fun _ _ _ => noB) (fun _ _ _ => noB) (fun _ _ => noB) (fun _ _ => noB) (fun _ _ => noB) (fun _ _ _ => noB) (fun _ _ _ _ => noB) h
noncomputable def xUn (e : Expr) (f : UnaryOp → Expr → Bool) : Bool := @Expr.casesOn (fun _ => Bool) e (fun _ _ _ => false) (fun _ _ _ => false) (fun _ _ _ _ => false) (fun o x _ => f o x) (fun _ _ _ _ => false) (fun _ _ _ _ => false) (fun _ _ _ => false) (fun _ _ _ => false) (fun _ _ _ _ => false) (fun _ _ _ _ => false) (fun _ _ _ _ _ => false) (fun _ _ _ _ => false) (fun _ _ => false) (fun _ _ => false) (fun _ _ => false) (fun _ _ _ _ => false) (fun _ _ _ _ => false) (fun _ _ _ _ => false) (fun _ _ => false) (fun _ _ _ => false) (fun _ _ _ => false) (fun _ _ _ => false) (fun _ _ => false) (fun _ _ => false) (fun _ _ => false) (fun _ _ _ => false) (fun _ _ _ _ => false)
@[elab_as_elim] theorem xUn_elim {e : Expr} {f : UnaryOp → Expr → Bool} {motive : Expr → Prop} (h : xUn e f = true) (k : ∀ o x p, f o x = true → motive (.UnaryOp o x p)) : motive e :=
  @Expr.casesOn (fun e => xUn e f = true → motive e) e (fun _ _ _ => noB) (fun _ _ _ => noB) (fun _ _ _ _ => noB) k (fun _ _ _ _ => noB) (fun _ _ _ _ => noB) (fun _ _ _ => noB) (fun _ _ _ => noB) (fun _ _ _ _ => noB) (fun _ _ _ _ => noB) (fun _ _ _ _ _ => noB) (fun _ _ _ _ => noB) (fun _ _ => noB) (fun _ _ => noB) (fun _ _ => noB) (fun _ _ _ _ => noB) (fun _ _ _ _ => noB) (fun _ _ _ _ => noB) (fun _ _ => noB) (fun _ _ _ => noB) (fun _ _ _ => noB) (fun _ _ _ => noB) (fun _ _ => noB) (fun _ _ => noB) (fun _ _ => noB) (fun _ _ _ => noB) (fun _ _ _ _ => noB) h
noncomputable def xBool (e : Expr) (f : BoolOp → List Expr → Bool) : Bool := @Expr.casesOn (fun _ => Bool) e (fun o vs _ => f o vs) (fun _ _ _ => false) (fun _ _ _ _ => false) (fun _ _ _ => false) (fun _ _ _ _ => false) (fun _ _ _ _ => false) (fun _ _ _ => false) (fun _ _ _ => false) (fun _ _ _ _ => false) (fun _ _ _ _ => false) (fun _ _ _ _ _ => false) (fun _ _ _ _ => false) (fun _ _ => false) (fun _ _ => false) (fun _ _ => false) (fun _ _ _ _ => false) (fun _ _ _ _ => false) (fun _ _ _ _ => false) (fun _ _ => false) (fun _ _ _ => false) (fun _ _ _ => false) (fun _ _ _ => false) (fun _ _ => false) (fun _ _ => false) (fun _ _ => false) (fun _ _ _ => false) (fun _ _ _ _ => false)
@[elab_as_elim] theorem xBool_elim {e : Expr} {f : BoolOp → List Expr → Bool} {motive : Expr → Prop} (h : xBool e f = true) (k : ∀ o vs p, f o vs = true → motive (.BoolOp o vs p)) : motive e :=
  @Expr.casesOn (fun e => xBool e f = true → motive e) e k (fun _ _ _ => noB) (fun _ _ _ _ => noB) (fun _ _ _ => noB) (fun _ _ _ _ => noB) (fun _ _ _ _ => noB) (fun _ _ _ => noB) (fun _ _ _ => noB) (fun _ _ _ _ => noB) (fun _ _ _ _ => noB) (fun _ _ _ _ _ => noB) (fun _ _ _ _ => noB) (fun _ _ => noB) (fun _ _ => noB) (fun _ _ => noB) (fun _ _ _ _ => noB) (fun _ _ _ _ => noB) (fun _ _ _ _ => noB) (fun _ _ => noB) (fun _ _ _ => noB) (fun _ _ _ => noB) (fun _ _ _ => noB) (fun _ _ => noB) (fun _ _ => noB) (fun _ _ => noB) (fun _ _ _ => noB) (fun _ _ _ _ => noB) h
noncomputable def xIf (e : Expr) (f : Expr → Expr → Expr → Bool) : Bool := @Expr.casesOn (fun _ => Bool) e (fun _ _ _ => false) (fun _ _ _ => false) (fun _ _ _ _ => false) (fun _ _ _ => false) (fun _ _ _ _ => false) (fun t x y _ => f t x y) (fun _ _ _ => false) (fun _ _ _ => false) (fun _ _ _ _ => false) (fun _ _ _ _ => false) (fun _ _ _ _ _ => false) (fun _ _ _ _ => false) (fun _ _ => false) (fun _ _ => false) (fun _ _ => false) (fun _ _ _ _ => false) (fun _ _ _ _ => false) (fun _ _ _ _ => false) (fun _ _ => false) (fun _ _ _ => false) (fun _ _ _ => false) (fun _ _ _ => false) (fun _ _ => false) (fun _ _ => false) (fun _ _ => false) (fun _ _ _ => false) (fun _ _ _ _ => false)
@[elab_as_elim] theorem xIf_elim {e : Expr} {f : Expr → Expr → Expr → Bool} {motive : Expr → Prop} (h : xIf e f = true) (k : ∀ t x y p, f t x y = true → motive (.IfExp t x y p)) : motive e :=
  @Expr.casesOn (fun e => xIf e f = true → motive e) e (fun _ _ _ => noB) (fun _ _ _ => noB) (fun _ _ _ _ => noB) (fun _ _ _ => noB) (fun _ _ _ _ => noB) k (fun _ _ _ => noB) (fun _ _ _ => noB) (fun _ _ _ _ => noB) (fun _ _ _ _ => noB) (fun _ _ _ _ _ => noB) (fun _ _ _ _ => noB) (fun _ _ => noB) (fun _ _ => noB) (fun _ _ => noB) (fun _ _ _ _ => noB) (fun _ _ _ _ => noB) (fun _ _ _ _ => noB) (fun _ _ => noB) (fun _ _ _ => noB) (fun _ _ _ => noB) (fun _ _ _ => noB) (fun _ _ => noB) (fun _ _ => noB) (fun _ _ => noB) (fun _ _ _ => noB) (fun _ _ _ _ => noB) h
noncomputable def xCmp (e : Expr) (f : Expr → List CmpOp → List Expr → Bool) : Bool := @Expr.casesOn (fun _ => Bool) e (fun _ _ _ => false) (fun _ _ _ => false) (fun _ _ _ _ => false) (fun _ _ _ => false) (fun _ _ _ _ => false) (fun _ _ _ _ => false) (fun _ _ _ => false) (fun _ _ _ => false) (fun _ _ _ _ => false) (fun _ _ _ _ => false) (fun _ _ _ _ _ => false) (fun _ _ _ _ => false) (fun _ _ => false) (fun _ _ => false) (fun _ _ => false) (fun l os rs _ => f l os rs) (fun _ _ _ _ => false) (fun _ _ _ _ => false) (fun _ _ => false) (fun _ _ _ => false) (fun _ _ _ => false) (fun _ _ _ => false) (fun _ _ => false) (fun _ _ => false) (fun _ _ => false) (fun _ _ _ => false) (fun _ _ _ _ => false)
@[elab_as_elim] theorem xCmp_elim {e : Expr} {f : Expr → List CmpOp → List Expr → Bool} {motive : Expr → Prop} (h : xCmp e f = true) (k : ∀ l os rs p, f l os rs = true → motive (.Compare l os rs p)) : motive e :=
  @Expr.casesOn (fun e => xCmp e f = true → motive e) e (fun _ _ _ => noB) (fun _ _ _ => noB) (fun _ _ _ _ => noB) (fun _ _ _ => noB) (fun _ _ _ _ => noB) (fun _ _ _ _ => noB) (fun _ _ _ => noB) (fun _ _ _ => noB) (fun _ _ _ _ => noB) (fun _ _ _ _ => noB) (fun _ _ _ _ _ => noB) (fun _ _ _ _ => noB) (fun _ _ => noB) (fun _ _ => noB) (fun _ _ => noB) k (fun _ _ _ _ => noB) (fun _ _ _ _ => noB) (fun _ _ => noB) (fun _ _ _ => noB) (fun _ _ _ => noB) (fun _ _ _ => noB) (fun _ _ => noB) (fun _ _ => noB) (fun _ _ => noB) (fun _ _ _ => noB) (fun _ _ _ _ => noB) h
noncomputable def xTup (e : Expr) (f : List Expr → Bool) : Bool := @Expr.casesOn (fun _ => Bool) e (fun _ _ _ => false) (fun _ _ _ => false) (fun _ _ _ _ => false) (fun _ _ _ => false) (fun _ _ _ _ => false) (fun _ _ _ _ => false) (fun _ _ _ => false) (fun _ _ _ => false) (fun _ _ _ _ => false) (fun _ _ _ _ => false) (fun _ _ _ _ _ => false) (fun _ _ _ _ => false) (fun _ _ => false) (fun _ _ => false) (fun _ _ => false) (fun _ _ _ _ => false) (fun _ _ _ _ => false) (fun _ _ _ _ => false) (fun _ _ => false) (fun _ _ _ => false) (fun _ _ _ => false) (fun _ _ _ => false) (fun _ _ => false) (fun _ _ => false) (fun _ _ => false) (fun es _ _ => f es) (fun _ _ _ _ => false)
@[elab_as_elim] theorem xTup_elim {e : Expr} {f : List Expr → Bool} {motive : Expr → Prop} (h : xTup e f = true) (k : ∀ es k' p, f es = true → motive (.Tuple es k' p)) : motive e :=
  @Expr.casesOn (fun e => xTup e f = true → motive e) e (fun _ _ _ => noB) (fun _ _ _ => noB) (fun _ _ _ _ => noB) (fun _ _ _ => noB) (fun _ _ _ _ => noB) (fun _ _ _ _ => noB) (fun _ _ _ => noB) (fun _ _ _ => noB) (fun _ _ _ _ => noB) (fun _ _ _ _ => noB) (fun _ _ _ _ _ => noB) (fun _ _ _ _ => noB) (fun _ _ => noB) (fun _ _ => noB) (fun _ _ => noB) (fun _ _ _ _ => noB) (fun _ _ _ _ => noB) (fun _ _ _ _ => noB) (fun _ _ => noB) (fun _ _ _ => noB) (fun _ _ _ => noB) (fun _ _ _ => noB) (fun _ _ => noB) (fun _ _ => noB) (fun _ _ => noB) k (fun _ _ _ _ => noB) h
noncomputable def isTupleE (e : Expr) : Bool := xTup e fun _ => true
noncomputable def xList (e : Expr) (f : List Expr → Bool) : Bool := @Expr.casesOn (fun _ => Bool) e (fun _ _ _ => false) (fun _ _ _ => false) (fun _ _ _ _ => false) (fun _ _ _ => false) (fun _ _ _ _ => false) (fun _ _ _ _ => false) (fun _ _ _ => false) (fun _ _ _ => false) (fun _ _ _ _ => false) (fun _ _ _ _ => false) (fun _ _ _ _ _ => false) (fun _ _ _ _ => false) (fun _ _ => false) (fun _ _ => false) (fun _ _ => false) (fun _ _ _ _ => false) (fun _ _ _ _ => false) (fun _ _ _ _ => false) (fun _ _ => false) (fun _ _ _ => false) (fun _ _ _ => false) (fun _ _ _ => false) (fun _ _ => false) (fun _ _ => false) (fun es _ => f es) (fun _ _ _ => false) (fun _ _ _ _ => false)
@[elab_as_elim] theorem xList_elim {e : Expr} {f : List Expr → Bool} {motive : Expr → Prop} (h : xList e f = true) (k : ∀ es p, f es = true → motive (.List es p)) : motive e :=
  @Expr.casesOn (fun e => xList e f = true → motive e) e (fun _ _ _ => noB) (fun _ _ _ => noB) (fun _ _ _ _ => noB) (fun _ _ _ => noB) (fun _ _ _ _ => noB) (fun _ _ _ _ => noB) (fun _ _ _ => noB) (fun _ _ _ => noB) (fun _ _ _ _ => noB) (fun _ _ _ _ => noB) (fun _ _ _ _ _ => noB) (fun _ _ _ _ => noB) (fun _ _ => noB) (fun _ _ => noB) (fun _ _ => noB) (fun _ _ _ _ => noB) (fun _ _ _ _ => noB) (fun _ _ _ _ => noB) (fun _ _ => noB) (fun _ _ _ => noB) (fun _ _ _ => noB) (fun _ _ _ => noB) (fun _ _ => noB) (fun _ _ => noB) k (fun _ _ _ => noB) (fun _ _ _ _ => noB) h
noncomputable def xSub (e : Expr) (f : Expr → Expr → Bool) : Bool := @Expr.casesOn (fun _ => Bool) e (fun _ _ _ => false) (fun _ _ _ => false) (fun _ _ _ _ => false) (fun _ _ _ => false) (fun _ _ _ _ => false) (fun _ _ _ _ => false) (fun _ _ _ => false) (fun _ _ _ => false) (fun _ _ _ _ => false) (fun _ _ _ _ => false) (fun _ _ _ _ _ => false) (fun _ _ _ _ => false) (fun _ _ => false) (fun _ _ => false) (fun _ _ => false) (fun _ _ _ _ => false) (fun _ _ _ _ => false) (fun _ _ _ _ => false) (fun _ _ => false) (fun _ _ _ => false) (fun _ _ _ => false) (fun v sl _ => f v sl) (fun _ _ => false) (fun _ _ => false) (fun _ _ => false) (fun _ _ _ => false) (fun _ _ _ _ => false)
@[elab_as_elim] theorem xSub_elim {e : Expr} {f : Expr → Expr → Bool} {motive : Expr → Prop} (h : xSub e f = true) (k : ∀ v sl p, f v sl = true → motive (.Subscript v sl p)) : motive e :=
  @Expr.casesOn (fun e => xSub e f = true → motive e) e (fun _ _ _ => noB) (fun _ _ _ => noB) (fun _ _ _ _ => noB) (fun _ _ _ => noB) (fun _ _ _ _ => noB) (fun _ _ _ _ => noB) (fun _ _ _ => noB) (fun _ _ _ => noB) (fun _ _ _ _ => noB) (fun _ _ _ _ => noB) (fun _ _ _ _ _ => noB) (fun _ _ _ _ => noB) (fun _ _ => noB) (fun _ _ => noB) (fun _ _ => noB) (fun _ _ _ _ => noB) (fun _ _ _ _ => noB) (fun _ _ _ _ => noB) (fun _ _ => noB) (fun _ _ _ => noB) (fun _ _ _ => noB) k (fun _ _ => noB) (fun _ _ => noB) (fun _ _ => noB) (fun _ _ _ => noB) (fun _ _ _ _ => noB) h
noncomputable def xSlice (e : Expr) (f : Option Expr → Option Expr → Option Expr → Bool) : Bool := @Expr.casesOn (fun _ => Bool) e (fun _ _ _ => false) (fun _ _ _ => false) (fun _ _ _ _ => false) (fun _ _ _ => false) (fun _ _ _ _ => false) (fun _ _ _ _ => false) (fun _ _ _ => false) (fun _ _ _ => false) (fun _ _ _ _ => false) (fun _ _ _ _ => false) (fun _ _ _ _ _ => false) (fun _ _ _ _ => false) (fun _ _ => false) (fun _ _ => false) (fun _ _ => false) (fun _ _ _ _ => false) (fun _ _ _ _ => false) (fun _ _ _ _ => false) (fun _ _ => false) (fun _ _ _ => false) (fun _ _ _ => false) (fun _ _ _ => false) (fun _ _ => false) (fun _ _ => false) (fun _ _ => false) (fun _ _ _ => false) (fun l u st _ => f l u st)
@[elab_as_elim] theorem xSlice_elim {e : Expr} {f : Option Expr → Option Expr → Option Expr → Bool} {motive : Expr → Prop} (h : xSlice e f = true) (k : ∀ l u st p, f l u st = true → motive (.Slice l u st p)) : motive e :=
  @Expr.casesOn (fun e => xSlice e f = true → motive e) e (fun _ _ _ => noB) (fun _ _ _ => noB) (fun _ _ _ _ => noB) (fun _ _ _ => noB) (fun _ _ _ _ => noB) (fun _ _ _ _ => noB) (fun _ _ _ => noB) (fun _ _ _ => noB) (fun _ _ _ _ => noB) (fun _ _ _ _ => noB) (fun _ _ _ _ _ => noB) (fun _ _ _ _ => noB) (fun _ _ => noB) (fun _ _ => noB) (fun _ _ => noB) (fun _ _ _ _ => noB) (fun _ _ _ _ => noB) (fun _ _ _ _ => noB) (fun _ _ => noB) (fun _ _ _ => noB) (fun _ _ _ => noB) (fun _ _ _ => noB) (fun _ _ => noB) (fun _ _ => noB) (fun _ _ => noB) (fun _ _ _ => noB) k h
noncomputable def xComp (e : Expr) (f : Expr → List Comprehension → Scope → Bool) : Bool := @Expr.casesOn (fun _ => Bool) e (fun _ _ _ => false) (fun _ _ _ => false) (fun _ _ _ _ => false) (fun _ _ _ => false) (fun _ _ _ _ => false) (fun _ _ _ _ => false) (fun _ _ _ => false) (fun _ _ _ => false) (fun el gs sc _ => f el gs sc) (fun _ _ _ _ => false) (fun _ _ _ _ _ => false) (fun _ _ _ _ => false) (fun _ _ => false) (fun _ _ => false) (fun _ _ => false) (fun _ _ _ _ => false) (fun _ _ _ _ => false) (fun _ _ _ _ => false) (fun _ _ => false) (fun _ _ _ => false) (fun _ _ _ => false) (fun _ _ _ => false) (fun _ _ => false) (fun _ _ => false) (fun _ _ => false) (fun _ _ _ => false) (fun _ _ _ _ => false)
@[elab_as_elim] theorem xComp_elim {e : Expr} {f : Expr → List Comprehension → Scope → Bool} {motive : Expr → Prop} (h : xComp e f = true) (k : ∀ el gs sc p, f el gs sc = true → motive (.ListComp el gs sc p)) : motive e :=
  @Expr.casesOn (fun e => xComp e f = true → motive e) e (fun _ _ _ => noB) (fun _ _ _ => noB) (fun _ _ _ _ => noB) (fun _ _ _ => noB) (fun _ _ _ _ => noB) (fun _ _ _ _ => noB) (fun _ _ _ => noB) (fun _ _ _ => noB) k (fun _ _ _ _ => noB) (fun _ _ _ _ _ => noB) (fun _ _ _ _ => noB) (fun _ _ => noB) (fun _ _ => noB) (fun _ _ => noB) (fun _ _ _ _ => noB) (fun _ _ _ _ => noB) (fun _ _ _ _ => noB) (fun _ _ => noB) (fun _ _ _ => noB) (fun _ _ _ => noB) (fun _ _ _ => noB) (fun _ _ => noB) (fun _ _ => noB) (fun _ _ => noB) (fun _ _ _ => noB) (fun _ _ _ _ => noB) h
noncomputable def xCall (e : Expr) (f : Expr → List Expr → List Keyword → Pos → Bool) : Bool := @Expr.casesOn (fun _ => Bool) e (fun _ _ _ => false) (fun _ _ _ => false) (fun _ _ _ _ => false) (fun _ _ _ => false) (fun _ _ _ _ => false) (fun _ _ _ _ => false) (fun _ _ _ => false) (fun _ _ _ => false) (fun _ _ _ _ => false) (fun _ _ _ _ => false) (fun _ _ _ _ _ => false) (fun _ _ _ _ => false) (fun _ _ => false) (fun _ _ => false) (fun _ _ => false) (fun _ _ _ _ => false) (fun fn es kw p => f fn es kw p) (fun _ _ _ _ => false) (fun _ _ => false) (fun _ _ _ => false) (fun _ _ _ => false) (fun _ _ _ => false) (fun _ _ => false) (fun _ _ => false) (fun _ _ => false) (fun _ _ _ => false) (fun _ _ _ _ => false)
@[elab_as_elim] theorem xCall_elim {e : Expr} {f : Expr → List Expr → List Keyword → Pos → Bool} {motive : Expr → Prop} (h : xCall e f = true) (k : ∀ fn es kw p, f fn es kw p = true → motive (.Call fn es kw p)) : motive e :=
  @Expr.casesOn (fun e => xCall e f = true → motive e) e (fun _ _ _ => noB) (fun _ _ _ => noB) (fun _ _ _ _ => noB) (fun _ _ _ => noB) (fun _ _ _ _ => noB) (fun _ _ _ _ => noB) (fun _ _ _ => noB) (fun _ _ _ => noB) (fun _ _ _ _ => noB) (fun _ _ _ _ => noB) (fun _ _ _ _ _ => noB) (fun _ _ _ _ => noB) (fun _ _ => noB) (fun _ _ => noB) (fun _ _ => noB) (fun _ _ _ _ => noB) k (fun _ _ _ _ => noB) (fun _ _ => noB) (fun _ _ _ => noB) (fun _ _ _ => noB) (fun _ _ _ => noB) (fun _ _ => noB) (fun _ _ => noB) (fun _ _ => noB) (fun _ _ _ => noB) (fun _ _ _ _ => noB) h
noncomputable def xAttr (e : Expr) (f : Expr → Str → Pos → Bool) : Bool := @Expr.casesOn (fun _ => Bool) e (fun _ _ _ => false) (fun _ _ _ => false) (fun _ _ _ _ => false) (fun _ _ _ => false) (fun _ _ _ _ => false) (fun _ _ _ _ => false) (fun _ _ _ => false) (fun _ _ _ => false) (fun _ _ _ _ => false) (fun _ _ _ _ => false) (fun _ _ _ _ _ => false) (fun _ _ _ _ => false) (fun _ _ => false) (fun _ _ => false) (fun _ _ => false) (fun _ _ _ _ => false) (fun _ _ _ _ => false) (fun _ _ _ _ => false) (fun _ _ => false) (fun _ _ _ => false) (fun v a p => f v a p) (fun _ _ _ => false) (fun _ _ => false) (fun _ _ => false) (fun _ _ => false) (fun _ _ _ => false) (fun _ _ _ _ => false)
@[elab_as_elim] theorem xAttr_elim {e : Expr} {f : Expr → Str → Pos → Bool} {motive : Expr → Prop} (h : xAttr e f = true) (k : ∀ v a p, f v a p = true → motive (.Attribute v a p)) : motive e :=
  @Expr.casesOn (fun e => xAttr e f = true → motive e) e (fun _ _ _ => noB) (fun _ _ _ => noB) (fun _ _ _ _ => noB) (fun _ _ _ => noB) (fun _ _ _ _ => noB) (fun _ _ _ _ => noB) (fun _ _ _ => noB) (fun _ _ _ => noB) (fun _ _ _ _ => noB) (fun _ _ _ _ => noB) (fun _ _ _ _ _ => noB) (fun _ _ _ _ => noB) (fun _ _ => noB) (fun _ _ => noB) (fun _ _ => noB) (fun _ _ _ _ => noB) (fun _ _ _ _ => noB) (fun _ _ _ _ => noB) (fun _ _ => noB) (fun _ _ _ => noB) k (fun _ _ _ => noB) (fun _ _ => noB) (fun _ _ => noB) (fun _ _ => noB) (fun _ _ _ => noB) (fun _ _ _ _ => noB) h
noncomputable def xYield (e : Expr) (f : Option Expr → Bool) : Bool := @Expr.casesOn (fun _ => Bool) e (fun _ _ _ => false) (fun _ _ _ => false) (fun _ _ _ _ => false) (fun _ _ _ => false) (fun _ _ _ _ => false) (fun _ _ _ _ => false) (fun _ _ _ => false) (fun _ _ _ => false) (fun _ _ _ _ => false) (fun _ _ _ _ => false) (fun _ _ _ _ _ => false) (fun _ _ _ _ => false) (fun _ _ => false) (fun v _ => f v) (fun _ _ => false) (fun _ _ _ _ => false) (fun _ _ _ _ => false) (fun _ _ _ _ => false) (fun _ _ => false) (fun _ _ _ => false) (fun _ _ _ => false) (fun _ _ _ => false) (fun _ _ => false) (fun _ _ => false) (fun _ _ => false) (fun _ _ _ => false) (fun _ _ _ _ => false)
@[elab_as_elim] theorem xYield_elim {e : Expr} {f : Option Expr → Bool} {motive : Expr → Prop} (h : xYield e f = true) (k : ∀ v p, f v = true → motive (.Yield v p)) : motive e :=
  @Expr.casesOn (fun e => xYield e f = true → motive e) e (fun _ _ _ => noB) (fun _ _ _ => noB) (fun _ _ _ _ => noB) (fun _ _ _ => noB) (fun _ _ _ _ => noB) (fun _ _ _ _ => noB) (fun _ _ _ => noB) (fun _ _ _ => noB) (fun _ _ _ _ => noB) (fun _ _ _ _ => noB) (fun _ _ _ _ _ => noB) (fun _ _ _ _ => noB) (fun _ _ => noB) k (fun _ _ => noB) (fun _ _ _ _ => noB) (fun _ _ _ _ => noB) (fun _ _ _ _ => noB) (fun _ _ => noB) (fun _ _ _ => noB) (fun _ _ _ => noB) (fun _ _ _ => noB) (fun _ _ => noB) (fun _ _ => noB) (fun _ _ => noB) (fun _ _ _ => noB) (fun _ _ _ _ => noB) h
noncomputable def yAssign (e : Stmt) (f : List Expr → Expr → Bool) : Bool := @Stmt.casesOn (fun _ => Bool) e (fun _ _ _ _ _ _ _ _ _ _ => false) (fun _ _ _ _ _ _ _ _ _ _ => false) (fun _ _ _ _ _ _ _ _ _ _ _ => false) (fun _ _ => false) (fun _ _ => false) (fun ts v _ => f ts v) (fun _ _ _ _ _ _ _ => false) (fun _ _ _ _ => false) (fun _ _ _ _ _ => false) (fun _ _ _ _ _ => false) (fun _ _ _ _ _ => false) (fun _ _ _ _ => false) (fun _ _ _ _ => false) (fun _ _ _ => false) (fun _ _ _ => false) (fun _ _ _ => false) (fun _ _ _ => false) (fun _ _ _ _ _ => false) (fun _ _ _ _ _ => false) (fun _ _ _ => false) (fun _ _ => false) (fun _ _ _ _ => false) (fun _ _ => false) (fun _ _ => false) (fun _ _ => false) (fun _ => false) (fun _ => false) (fun _ => false)
@[elab_as_elim] theorem yAssign_elim {e : Stmt} {f : List Expr → Expr → Bool} {motive : Stmt → Prop} (h : yAssign e f = true) (k : ∀ ts v p, f ts v = true → motive (.Assign ts v p)) : motive e :=
  @Stmt.casesOn (fun e => yAssign e f = true → motive e) e (fun _ _ _ _ _ _ _ _ _ _ => noB) (fun _ _ _ _ _ _ _ _ _ _ => noB) (fun _ _ _ _ _ _ _ _ _ _ _ => noB) (fun _ _ => noB) (fun _ _ => noB) k (fun _ _ _ _ _ _ _ => noB) (fun _ _ _ _ => noB) (fun _ _ _ _ _ => noB) (fun _ _ _ _ _ => noB) (fun _ _ _ _ _ => noB) (fun _ _ _ _ => noB) (fun _ _ _ _ => noB) (fun _ _ _ => noB) (fun _ _ _ => noB) (fun _ _ _ => noB) (fun _ _ _ => noB) (fun _ _ _ _ _ => noB) (fun _ _ _ _ _ => noB) (fun _ _ _ => noB) (fun _ _ => noB) (fun _ _ _ _ => noB) (fun _ _ => noB) (fun _ _ => noB) (fun _ _ => noB) (fun _ => noB) (fun _ => noB) (fun _ => noB) h
noncomputable def yAug (e : Stmt) (f : Expr → Operator → Expr → Bool) : Bool := @Stmt.casesOn (fun _ => Bool) e (fun _ _ _ _ _ _ _ _ _ _ => false) (fun _ _ _ _ _ _ _ _ _ _ => false) (fun _ _ _ _ _ _ _ _ _ _ _ => false) (fun _ _ => false) (fun _ _ => false) (fun _ _ _ => false) (fun _ _ _ _ _ _ _ => false) (fun t o v _ => f t o v) (fun _ _ _ _ _ => false) (fun _ _ _ _ _ => false) (fun _ _ _ _ _ => false) (fun _ _ _ _ => false) (fun _ _ _ _ => false) (fun _ _ _ => false) (fun _ _ _ => false) (fun _ _ _ => false) (fun _ _ _ => false) (fun _ _ _ _ _ => false) (fun _ _ _ _ _ => false) (fun _ _ _ => false) (fun _ _ => false) (fun _ _ _ _ => false) (fun _ _ => false) (fun _ _ => false) (fun _ _ => false) (fun _ => false) (fun _ => false) (fun _ => false)
@[elab_as_elim] theorem yAug_elim {e : Stmt} {f : Expr → Operator → Expr → Bool} {motive : Stmt → Prop} (h : yAug e f = true) (k : ∀ t o v p, f t o v = true → motive (.AugAssign t o v p)) : motive e :=
  @Stmt.casesOn (fun e => yAug e f = true → motive e) e (fun _ _ _ _ _ _ _ _ _ _ => noB) (fun _ _ _ _ _ _ _ _ _ _ => noB) (fun _ _ _ _ _ _ _ _ _ _ _ => noB) (fun _ _ => noB) (fun _ _ => noB) (fun _ _ _ => noB) (fun _ _ _ _ _ _ _ => noB) k (fun _ _ _ _ _ => noB) (fun _ _ _ _ _ => noB) (fun _ _ _ _ _ => noB) (fun _ _ _ _ => noB) (fun _ _ _ _ => noB) (fun _ _ _ => noB) (fun _ _ _ => noB) (fun _ _ _ => noB) (fun _ _ _ => noB) (fun _ _ _ _ _ => noB) (fun _ _ _ _ _ => noB) (fun _ _ _ => noB) (fun _ _ => noB) (fun _ _ _ _ => noB) (fun _ _ => noB) (fun _ _ => noB) (fun _ _ => noB) (fun _ => noB) (fun _ => noB) (fun _ => noB) h
noncomputable def yExpr (e : Stmt) (f : Expr → Bool) : Bool := @Stmt.casesOn (fun _ => Bool) e (fun _ _ _ _ _ _ _ _ _ _ => false) (fun _ _ _ _ _ _ _ _ _ _ => false) (fun _ _ _ _ _ _ _ _ _ _ _ => false) (fun _ _ => false) (fun _ _ => false) (fun _ _ _ => false) (fun _ _ _ _ _ _ _ => false) (fun _ _ _ _ => false) (fun _ _ _ _ _ => false) (fun _ _ _ _ _ => false) (fun _ _ _ _ _ => false) (fun _ _ _ _ => false) (fun _ _ _ _ => false) (fun _ _ _ => false) (fun _ _ _ => false) (fun _ _ _ => false) (fun _ _ _ => false) (fun _ _ _ _ _ => false) (fun _ _ _ _ _ => false) (fun _ _ _ => false) (fun _ _ => false) (fun _ _ _ _ => false) (fun _ _ => false) (fun _ _ => false) (fun v _ => f v) (fun _ => false) (fun _ => false) (fun _ => false)
@[elab_as_elim] theorem yExpr_elim {e : Stmt} {f : Expr → Bool} {motive : Stmt → Prop} (h : yExpr e f = true) (k : ∀ v p, f v = true → motive (.Expr v p)) : motive e :=
  @Stmt.casesOn (fun e => yExpr e f = true → motive e) e (fun _ _ _ _ _ _ _ _ _ _ => noB) (fun _ _ _ _ _ _ _ _ _ _ => noB) (fun _ _ _ _ _ _ _ _ _ _ _ => noB) (fun _ _ => noB) (fun _ _ => noB) (fun _ _ _ => noB) (fun _ _ _ _ _ _ _ => noB) (fun _ _ _ _ => noB) (fun _ _ _ _ _ => noB) (fun _ _ _ _ _ => noB) (fun _ _ _ _ _ => noB) (fun _ _ _ _ => noB) (fun _ _ _ _ => noB) (fun _ _ _ => noB) (fun _ _ _ => noB) (fun _ _ _ => noB) (fun _ _ _ => noB) (fun _ _ _ _ _ => noB) (fun _ _ _ _ _ => noB) (fun _ _ _ => noB) (fun _ _ => noB) (fun _ _ _ _ => noB) (fun _ _ => noB) (fun _ _ => noB) k (fun _ => noB) (fun _ => noB) (fun _ => noB) h
noncomputable def yFor (e : Stmt) (f : Expr → Expr → List Stmt → List Stmt → Bool) : Bool := @Stmt.casesOn (fun _ => Bool) e (fun _ _ _ _ _ _ _ _ _ _ => false) (fun _ _ _ _ _ _ _ _ _ _ => false) (fun _ _ _ _ _ _ _ _ _ _ _ => false) (fun _ _ => false) (fun _ _ => false) (fun _ _ _ => false) (fun _ _ _ _ _ _ _ => false) (fun _ _ _ _ => false) (fun _ _ _ _ _ => false) (fun t i b els _ => f t i b els) (fun _ _ _ _ _ => false) (fun _ _ _ _ => false) (fun _ _ _ _ => false) (fun _ _ _ => false) (fun _ _ _ => false) (fun _ _ _ => false) (fun _ _ _ => false) (fun _ _ _ _ _ => false) (fun _ _ _ _ _ => false) (fun _ _ _ => false) (fun _ _ => false) (fun _ _ _ _ => false) (fun _ _ => false) (fun _ _ => false) (fun _ _ => false) (fun _ => false) (fun _ => false) (fun _ => false)
@[elab_as_elim] theorem yFor_elim {e : Stmt} {f : Expr → Expr → List Stmt → List Stmt → Bool} {motive : Stmt → Prop} (h : yFor e f = true) (k : ∀ t i b els p, f t i b els = true → motive (.For t i b els p)) : motive e :=
  @Stmt.casesOn (fun e => yFor e f = true → motive e) e (fun _ _ _ _ _ _ _ _ _ _ => noB) (fun _ _ _ _ _ _ _ _ _ _ => noB) (fun _ _ _ _ _ _ _ _ _ _ _ => noB) (fun _ _ => noB) (fun _ _ => noB) (fun _ _ _ => noB) (fun _ _ _ _ _ _ _ => noB) (fun _ _ _ _ => noB) (fun _ _ _ _ _ => noB) k (fun _ _ _ _ _ => noB) (fun _ _ _ _ => noB) (fun _ _ _ _ => noB) (fun _ _ _ => noB) (fun _ _ _ => noB) (fun _ _ _ => noB) (fun _ _ _ => noB) (fun _ _ _ _ _ => noB) (fun _ _ _ _ _ => noB) (fun _ _ _ => noB) (fun _ _ => noB) (fun _ _ _ _ => noB) (fun _ _ => noB) (fun _ _ => noB) (fun _ _ => noB) (fun _ => noB) (fun _ => noB) (fun _ => noB) h
noncomputable def yWhile (e : Stmt) (f : Expr → List Stmt → List Stmt → Bool) : Bool := @Stmt.casesOn (fun _ => Bool) e (fun _ _ _ _ _ _ _ _ _ _ => false) (fun _ _ _ _ _ _ _ _ _ _ => false) (fun _ _ _ _ _ _ _ _ _ _ _ => false) (fun _ _ => false) (fun _ _ => false) (fun _ _ _ => false) (fun _ _ _ _ _ _ _ => false) (fun _ _ _ _ => false) (fun _ _ _ _ _ => false) (fun _ _ _ _ _ => false) (fun _ _ _ _ _ => false) (fun t b els _ => f t b els) (fun _ _ _ _ => false) (fun _ _ _ => false) (fun _ _ _ => false) (fun _ _ _ => false) (fun _ _ _ => false) (fun _ _ _ _ _ => false) (fun _ _ _ _ _ => false) (fun _ _ _ => false) (fun _ _ => false) (fun _ _ _ _ => false) (fun _ _ => false) (fun _ _ => false) (fun _ _ => false) (fun _ => false) (fun _ => false) (fun _ => false)
@[elab_as_elim] theorem yWhile_elim {e : Stmt} {f : Expr → List Stmt → List Stmt → Bool} {motive : Stmt → Prop} (h : yWhile e f = true) (k : ∀ t b els p, f t b els = true → motive (.While t b els p)) : motive e :=
  @Stmt.casesOn (fun e => yWhile e f = true → motive e) e (fun _ _ _ _ _ _ _ _ _ _ => noB) (fun _ _ _ _ _ _ _ _ _ _ => noB) (fun _ _ _ _ _ _ _ _ _ _ _ => noB) (fun _ _ => noB) (fun _ _ => noB) (fun _ _ _ => noB) (fun _ _ _ _ _ _ _ => noB) (fun _ _ _ _ => noB) (fun _ _ _ _ _ => noB) (fun _ _ _ _ _ => noB) (fun _ _ _ _ _ => noB) k (fun _ _ _ _ => noB) (fun _ _ _ => noB) (fun _ _ _ => noB) (fun _ _ _ => noB) (fun _ _ _ => noB) (fun _ _ _ _ _ => noB) (fun _ _ _ _ _ => noB) (fun _ _ _ => noB) (fun _ _ => noB) (fun _ _ _ _ => noB) (fun _ _ => noB) (fun _ _ => noB) (fun _ _ => noB) (fun _ => noB) (fun _ => noB) (fun _ => noB) h
noncomputable def yIf (e : Stmt) (f : Expr → List Stmt → List Stmt → Bool) : Bool := @Stmt.casesOn (fun _ => Bool) e (fun _ _ _ _ _ _ _ _ _ _ => false) (fun _ _ _ _ _ _ _ _ _ _ => false) (fun _ _ _ _ _ _ _ _ _ _ _ => false) (fun _ _ => false) (fun _ _ => false) (fun _ _ _ => false) (fun _ _ _ _ _ _ _ => false) (fun _ _ _ _ => false) (fun _ _ _ _ _ => false) (fun _ _ _ _ _ => false) (fun _ _ _ _ _ => false) (fun _ _ _ _ => false) (fun t a b _ => f t a b) (fun _ _ _ => false) (fun _ _ _ => false) (fun _ _ _ => false) (fun _ _ _ => false) (fun _ _ _ _ _ => false) (fun _ _ _ _ _ => false) (fun _ _ _ => false) (fun _ _ => false) (fun _ _ _ _ => false) (fun _ _ => false) (fun _ _ => false) (fun _ _ => false) (fun _ => false) (fun _ => false) (fun _ => false)
@[elab_as_elim] theorem yIf_elim {e : Stmt} {f : Expr → List Stmt → List Stmt → Bool} {motive : Stmt → Prop} (h : yIf e f = true) (k : ∀ t a b p, f t a b = true → motive (.If t a b p)) : motive e :=
  @Stmt.casesOn (fun e => yIf e f = true → motive e) e (fun _ _ _ _ _ _ _ _ _ _ => noB) (fun _ _ _ _ _ _ _ _ _ _ => noB) (fun _ _ _ _ _ _ _ _ _ _ _ => noB) (fun _ _ => noB) (fun _ _ => noB) (fun _ _ _ => noB) (fun _ _ _ _ _ _ _ => noB) (fun _ _ _ _ => noB) (fun _ _ _ _ _ => noB) (fun _ _ _ _ _ => noB) (fun _ _ _ _ _ => noB) (fun _ _ _ _ => noB) k (fun _ _ _ => noB) (fun _ _ _ => noB) (fun _ _ _ => noB) (fun _ _ _ => noB) (fun _ _ _ _ _ => noB) (fun _ _ _ _ _ => noB) (fun _ _ _ => noB) (fun _ _ => noB) (fun _ _ _ _ => noB) (fun _ _ => noB) (fun _ _ => noB) (fun _ _ => noB) (fun _ => noB) (fun _ => noB) (fun _ => noB) h
noncomputable def yRet (e : Stmt) (f : Option Expr → Bool) : Bool := @Stmt.casesOn (fun _ => Bool) e (fun _ _ _ _ _ _ _ _ _ _ => false) (fun _ _ _ _ _ _ _ _ _ _ => false) (fun _ _ _ _ _ _ _ _ _ _ _ => false) (fun v _ => f v) (fun _ _ => false) (fun _ _ _ => false) (fun _ _ _ _ _ _ _ => false) (fun _ _ _ _ => false) (fun _ _ _ _ _ => false) (fun _ _ _ _ _ => false) (fun _ _ _ _ _ => false) (fun _ _ _ _ => false) (fun _ _ _ _ => false) (fun _ _ _ => false) (fun _ _ _ => false) (fun _ _ _ => false) (fun _ _ _ => false) (fun _ _ _ _ _ => false) (fun _ _ _ _ _ => false) (fun _ _ _ => false) (fun _ _ => false) (fun _ _ _ _ => false) (fun _ _ => false) (fun _ _ => false) (fun _ _ => false) (fun _ => false) (fun _ => false) (fun _ => false)
@[elab_as_elim] theorem yRet_elim {e : Stmt} {f : Option Expr → Bool} {motive : Stmt → Prop} (h : yRet e f = true) (k : ∀ v p, f v = true → motive (.Return v p)) : motive e :=
  @Stmt.casesOn (fun e => yRet e f = true → motive e) e (fun _ _ _ _ _ _ _ _ _ _ => noB) (fun _ _ _ _ _ _ _ _ _ _ => noB) (fun _ _ _ _ _ _ _ _ _ _ _ => noB) k (fun _ _ => noB) (fun _ _ _ => noB) (fun _ _ _ _ _ _ _ => noB) (fun _ _ _ _ => noB) (fun _ _ _ _ _ => noB) (fun _ _ _ _ _ => noB) (fun _ _ _ _ _ => noB) (fun _ _ _ _ => noB) (fun _ _ _ _ => noB) (fun _ _ _ => noB) (fun _ _ _ => noB) (fun _ _ _ => noB) (fun _ _ _ => noB) (fun _ _ _ _ _ => noB) (fun _ _ _ _ _ => noB) (fun _ _ _ => noB) (fun _ _ => noB) (fun _ _ _ _ => noB) (fun _ _ => noB) (fun _ _ => noB) (fun _ _ => noB) (fun _ => noB) (fun _ => noB) (fun _ => noB) h
noncomputable def yBrk (e : Stmt) : Bool := @Stmt.casesOn (fun _ => Bool) e (fun _ _ _ _ _ _ _ _ _ _ => false) (fun _ _ _ _ _ _ _ _ _ _ => false) (fun _ _ _ _ _ _ _ _ _ _ _ => false) (fun _ _ => false) (fun _ _ => false) (fun _ _ _ => false) (fun _ _ _ _ _ _ _ => false) (fun _ _ _ _ => false) (fun _ _ _ _ _ => false) (fun _ _ _ _ _ => false) (fun _ _ _ _ _ => false) (fun _ _ _ _ => false) (fun _ _ _ _ => false) (fun _ _ _ => false) (fun _ _ _ => false) (fun _ _ _ => false) (fun _ _ _ => false) (fun _ _ _ _ _ => false) (fun _ _ _ _ _ => false) (fun _ _ _ => false) (fun _ _ => false) (fun _ _ _ _ => false) (fun _ _ => false) (fun _ _ => false) (fun _ _ => false) (fun _ => false) (fun _ => true) (fun _ => false)
@[elab_as_elim] theorem yBrk_elim {e : Stmt} {motive : Stmt → Prop} (h : yBrk e = true) (k : ∀ p, motive (.Break p)) : motive e :=
  @Stmt.casesOn (fun e => yBrk e = true → motive e) e (fun _ _ _ _ _ _ _ _ _ _ => noB) (fun _ _ _ _ _ _ _ _ _ _ => noB) (fun _ _ _ _ _ _ _ _ _ _ _ => noB) (fun _ _ => noB) (fun _ _ => noB) (fun _ _ _ => noB) (fun _ _ _ _ _ _ _ => noB) (fun _ _ _ _ => noB) (fun _ _ _ _ _ => noB) (fun _ _ _ _ _ => noB) (fun _ _ _ _ _ => noB) (fun _ _ _ _ => noB) (fun _ _ _ _ => noB) (fun _ _ _ => noB) (fun _ _ _ => noB) (fun _ _ _ => noB) (fun _ _ _ => noB) (fun _ _ _ _ _ => noB) (fun _ _ _ _ _ => noB) (fun _ _ _ => noB) (fun _ _ => noB) (fun _ _ _ _ => noB) (fun _ _ => noB) (fun _ _ => noB) (fun _ _ => noB) (fun _ => noB) (fun p _ => k p) (fun _ => noB) h
noncomputable def yPass (e : Stmt) : Bool := @Stmt.casesOn (fun _ => Bool) e (fun _ _ _ _ _ _ _ _ _ _ => false) (fun _ _ _ _ _ _ _ _ _ _ => false) (fun _ _ _ _ _ _ _ _ _ _ _ => false) (fun _ _ => false) (fun _ _ => false) (fun _ _ _ => false) (fun _ _ _ _ _ _ _ => false) (fun _ _ _ _ => false) (fun _ _ _ _ _ => false) (fun _ _ _ _ _ => false) (fun _ _ _ _ _ => false) (fun _ _ _ _ => false) (fun _ _ _ _ => false) (fun _ _ _ => false) (fun _ _ _ => false) (fun _ _ _ => false) (fun _ _ _ => false) (fun _ _ _ _ _ => false) (fun _ _ _ _ _ => false) (fun _ _ _ => false) (fun _ _ => false) (fun _ _ _ _ => false) (fun _ _ => false) (fun _ _ => false) (fun _ _ => false) (fun _ => true) (fun _ => false) (fun _ => false)
@[elab_as_elim] theorem yPass_elim {e : Stmt} {motive : Stmt → Prop} (h : yPass e = true) (k : ∀ p, motive (.Pass p)) : motive e :=
  @Stmt.casesOn (fun e => yPass e = true → motive e) e (fun _ _ _ _ _ _ _ _ _ _ => noB) (fun _ _ _ _ _ _ _ _ _ _ => noB) (fun _ _ _ _ _ _ _ _ _ _ _ => noB) (fun _ _ => noB) (fun _ _ => noB) (fun _ _ _ => noB) (fun _ _ _ _ _ _ _ => noB) (fun _ _ _ _ => noB) (fun _ _ _ _ _ => noB) (fun _ _ _ _ _ => noB) (fun _ _ _ _ _ => noB) (fun _ _ _ _ => noB) (fun _ _ _ _ => noB) (fun _ _ _ => noB) (fun _ _ _ => noB) (fun _ _ _ => noB) (fun _ _ _ => noB) (fun _ _ _ _ _ => noB) (fun _ _ _ _ _ => noB) (fun _ _ _ => noB) (fun _ _ => noB) (fun _ _ _ _ => noB) (fun _ _ => noB) (fun _ _ => noB) (fun _ _ => noB) (fun p _ => k p) (fun _ => noB) (fun _ => noB) h
noncomputable def xSome {α : Type} (o : Option α) (f : α → Bool) : Bool := match o with
  | some a => f a
  | none => false
theorem xSome_ex {α : Type} {o : Option α} {f : α → Bool} (h : xSome o f = true) : ∃ a, o = some a ∧ f a = true := by
  cases o with
  | none => exact noB h
  | some a => exact ⟨a, rfl, h⟩
@[elab_as_elim] theorem xSome_elim {α : Type} {o : Option α} {f : α → Bool} {motive : Option α → Prop} (h : xSome o f = true) (k : ∀ a, f a = true → motive (some a)) : motive o := by
  cases o with
  | none => exact noB h
  | some a => exact k a h

noncomputable def isItK (f : Expr → IE → Bool) (ns : Names) (k : ItK) (i : IE) (e : Expr) : Bool := match k with
  | .r1 a => xCall e fun fn es kw _ => isNil kw && xName fn fun x => one es fun e => x == sRange && gname ns x && f e a
  | .r2 a b => xCall e fun fn es kw _ => isNil kw && xName fn fun x => two es fun e1 e2 => x == sRange && gname ns x && f e1 a && f e2 b
  | .val => f e i
noncomputable def isIt (f : Expr → IE → Bool) (ns : Names) (i : IE) (e : Expr) : Bool := isItK f ns (itK i) i e

/-- a target whose names are all told by `ok` -/
noncomputable def namesAre (ok : Str → Nat → Bool) : List Nat → List Expr → Bool
  | [], es => isNil es
  | i :: is, es => uncons es fun e es => (xName e fun x => ok x i) && namesAre ok is es
noncomputable def tgIs (ok : Str → Nat → Bool) (t : Tg) (e : Expr) : Bool := match t with
  | .one i => xName e fun x => ok x i
  | .many is => xTup e fun es => namesAre ok is es

noncomputable def isE1 (T : Tab) (f : Names → Expr → IE → Bool) (ns : Names) : IE → Expr → Bool
  | .lit v, e => xConst e fun c => litIs c v
  | .var i, e => xName e fun x => vname ns x i
  | .bin op a b, e => xBin e fun l o r => decide (o = opOf op) && f ns l a && f ns r b
  | .neg a, e => xUn e fun o x => decide (o = .USub) && f ns x a
  | .notE a, e => xUn e fun o x => decide (o = .Not) && f ns x a
  | .andE a b, e => xBool e fun o vs => decide (o = .And) && two vs fun x y => f ns x a && f ns y b
  | .orE a b, e => xBool e fun o vs => decide (o = .Or) && two vs fun x y => f ns x a && f ns y b
  | .ife t a b, e => xIf e fun t' x y => f ns t' t && f ns x a && f ns y b
  | .cmp op a b, e => xCmp e fun l os rs => one os fun o => one rs fun r => decide (o = cmpOf op) && !behindInMarks o r && f ns l a && f ns r b
  | .tup l, e => xTup e fun es => decide (es.length < 20) && allP (f ns) es l
  | .list l, e => xList e fun es => decide (es.length < 20) && allP (f ns) es l
  | .slice a lo hi, e => xSub e fun v sl => xSlice sl fun l u st => decide (st.isNone = true) && f ns v a && optE (f ns) l lo && optE (f ns) u hi
  | .idx a i, e => xSub e fun v sl => !isSlice sl && f ns v a && f ns sl i
  | .comp imp elt tg it ifs, e => xComp e fun el gs sc => one gs fun g => decide (g.is_async = 0) && compOk ns sc imp && isIt (f ns) ns it g.iter && tgIs (lname (cnames ns sc.names)) tg g.target &&
      f (cnames ns sc.names) el elt && allP (f (cnames ns sc.names)) g.ifs ifs
  | .comp2 imp elt x it y it2 ifs, e => xComp e fun el gs sc => two gs fun g g2 => isNil g.ifs && (decide (g.is_async = 0) && decide (g2.is_async = 0) && compOk ns sc imp && isIt (f ns) ns it g.iter && tgIs (lname (cnames ns sc.names)) (.one x) g.target &&
      isIt (f (cnames ns sc.names)) (cnames ns sc.names) it2 g2.iter && tgIs (lname (cnames ns sc.names)) (.one y) g2.target && f (cnames ns sc.names) el elt && allP (f (cnames ns sc.names)) g2.ifs ifs)
  | .rng1 _, _ => false
  | .rng2 _ _, _ => false
  | .call k args, e => xCall e fun fn es kw _ => isNil kw && xName fn fun x => decide (T.fn[k]? = some (x, false)) && gname ns x && allP (f ns) es args
  | .cls a, e => xCall e fun fn es kw _ => isNil kw && xName fn fun x => one es fun e => x == sWs && gname ns x && f ns e a
  | .bi b args, e => xCall e fun fn es kw _ => isNil kw && xName fn fun x => x == biName b && gname ns x && allP (f ns) es args
  | .dget k d, e => xCall e fun fn es kw p => isNil kw && xAttr fn fun v m ap => xName v fun x => two es fun e1 e2 => x == sFlags && gname ns x && m == sGet && (ap.endLine == p.line) && f ns e1 k && f ns e2 d
  | .meth m o as, e => one as fun a => xCall e fun fn es kw p => isNil kw && xAttr fn fun v n ap => one es fun e => n == mkName m && !isCallE v && (ap.endLine == p.line) && f ns v o && f ns e a
  | .umeth k o args, e => xCall e fun fn es kw p => isNil kw && xAttr fn fun v n ap => decide (T.fn[k]? = some (n, true)) && !isCallE v && (ap.endLine == p.line) && decide (es.length < 20) && f ns v o && allP (f ns) es args
  | .wsS, e => xAttr e fun v a _ => xName v fun x => x == sWs && gname ns x && a == sS
  | .wsT, e => xAttr e fun v a _ => xName v fun x => x == sWs && gname ns x && a == sT
  | .attr fk o, e => xAttr e fun v a _ => a == fkName fk && !isCallE v && f ns v o

noncomputable def isStarE (e : Expr) : Bool := @Expr.casesOn (fun _ => Bool) e (fun _ _ _ => false) (fun _ _ _ => false) (fun _ _ _ _ => false) (fun _ _ _ => false) (fun _ _ _ _ => false) (fun _ _ _ _ => false) (fun _ _ _ => false) (fun _ _ _ => true) (fun _ _ _ _ => false) (fun _ _ _ _ => true) (fun _ _ _ _ _ => true) (fun _ _ _ _ => false) (fun _ _ => false) (fun _ _ => false) (fun _ _ => false) (fun _ _ _ _ => false) (fun _ _ _ _ => false) (fun _ _ _ _ => false) (fun _ _ => false) (fun _ _ _ => false) (fun _ _ _ => false) (fun _ _ _ => false) (fun _ _ => true) (fun _ _ => false) (fun _ _ => false) (fun _ _ _ => false) (fun _ _ _ _ => false)
noncomputable def isE (T : Tab) : Nat → Names → Expr → IE → Bool
  | 0, _, _, _ => false
  | k + 1, ns, e, i => !isStarE e && isE1 T (isE T k) ns i e
theorem isE_q2 (T : Tab) : isE T (k + 1) (ns) (e) (i) = (!isStarE e && isE1 T (isE T k) ns i e) := rfl

noncomputable def isS1 (T : Tab) (k : Nat) (f : Names → Stmt → IS → Bool) (ns : Names) : IS → Stmt → Bool
  | .assign x e, s => yAssign s fun ts v => one ts fun t => xName t fun n => sname ns n x && isE T k ns v e
  | .assignT xs e, s => yAssign s fun ts v => one ts fun t => isTupleE t && (tgIs (sname ns) (.many xs) t && !isTupleE v && isE T k ns v e)
  | .swap x y a b, s => yAssign s fun ts v => one ts fun t => xTup t fun es => two es fun t1 t2 => xName2 t1 fun n1 p1 => xName2 t2 fun n2 p2 => xTup v fun vs => two vs fun v1 v2 =>
      lname ns n1 x && lname ns n2 y && !(n1 == n2) && (p2.line == p1.line) && !constantsAlone 8 v1 && !foldedForSure 8 v1 && isE T k ns v1 a && isE T k ns v2 b
  | .chain xs e, s => yAssign s fun es v => decide (2 ≤ es.length) && namesAre (sname ns) xs es && isE T k ns v e && xConst v (fun _ => true)
  | .assignF fk o e, s => yAssign s fun ts val => one ts fun t => xAttr t fun v a _ => a == fkName fk && isE T k ns v o && isE T k ns val e
  | .assignI o i e, s => yAssign s fun ts val => one ts fun t => xSub t fun v sl => !isSlice sl && isE T k ns v o && isE T k ns sl i && isE T k ns val e
  | .aug x op e, s => yAug s fun t o v => xName t fun n => sname ns n x && decide (o = augOf op) && isE T k ns v e
  | .expr e, s => yExpr s fun v => isCallE v && isE T k ns v e
  | .forE tg e b els, s => yFor s fun t i b' els' => xCall i fun fn es kw _ => isNil kw && xName fn fun x => one es fun a => x == sEsc && gname ns x && tgIs (sname ns) tg t && isE T k ns a e && allP (f ns) b' b && allP (f ns) els' els
  | .forG tg e b els, s => yFor s fun t i b' els' => xCall i fun fn es kw _ => isNil kw && xName fn fun x => one es fun a => x == sGrp && gname ns x && tgIs (sname ns) tg t && isE T k ns a e && allP (f ns) b' b && allP (f ns) els' els
  | .forS tg it b els, s => yFor s fun t i b' els' => tgIs (sname ns) tg t && isIt (isE T k ns) ns it i && allP (f ns) b' b && allP (f ns) els' els
  | .whileS t b, s => yWhile s fun t' b' els => isNil els && (isE T k ns t' t && allP (f ns) b' b)
  | .ifS t a b, s => yIf s fun t' a' b' => isE T k ns t' t && allP (f ns) a' a && allP (f ns) b' b
  | .ret e, s => yRet s fun o => xSome o fun v => isE T k ns v e
  | .brk, s => yBrk s
  | .pass, s => yPass s
noncomputable def isS (T : Tab) : Nat → Names → Stmt → IS → Bool
  | 0, _, _, _ => false
  | k + 1, ns, s, i => isS1 T k (isS T k) ns i s

end Mine
end
section
namespace Mine.L02
open Mine
/-! the IR of the defs of the row 02, printed by rowir.py -/
noncomputable def ir_longest_run_of_spaces : FDef := ⟨[0], 5, [.assignT [1, 2] (.attr .norm (.var 0)), .ret (.bi .max [(.bin .sub (.bi .len [(.var 1)]) (.lit (.int 1))), (.var 2)])]⟩
noncomputable def ir_indent_level : FDef := ⟨[0, 1], 8, [.assignT [2, 3] (.attr .norm (.var 0)), .assign 4 (.lit (.int 0)), .forS (.one 5) (.rng2 (.var 1) (.bi .len [(.var 2)])) [.assign 4 (.bin .add (.var 4) (.bin .mul (.bin .fdiv (.var 5) (.var 1)) (.idx (.var 2) (.var 5))))] [], .ret (.bin .add (.var 3) (.bin .mul (.var 1) (.bin .add (.var 4) (.attr .nt (.var 0)))))]⟩
noncomputable def ir_equal : FDef := ⟨[0, 1], 2, [.ret (.cmp .eq (.attr .norm (.var 0)) (.attr .norm (.var 1)))]⟩
noncomputable def ir_less : FDef := ⟨[0, 1], 6, [.ifS (.cmp .ge (.attr .n (.var 0)) (.attr .n (.var 1))) [.ret (.lit (.bool false))] [], .ifS (.andE (.attr .simple (.var 0)) (.attr .simple (.var 1))) [.ret (.cmp .le (.attr .nt (.var 0)) (.attr .nt (.var 1)))] [], .assign 2 (.bin .add (.bi .max [(.umeth 0 (.var 0) []), (.umeth 0 (.var 1) [])]) (.lit (.int 1))), .forS (.one 3) (.rng2 (.lit (.int 2)) (.bin .add (.var 2) (.lit (.int 1)))) [.ifS (.cmp .ge (.umeth 1 (.var 0) [(.var 3)]) (.umeth 1 (.var 1) [(.var 3)])) [.ret (.lit (.bool false))] []] [], .ret (.lit (.bool true))]⟩
noncomputable def ir_pretty_flags : FDef := ⟨[0], 7, [.assign 1 (.list []), .forS (.one 2) (.rng1 (.lit (.int 32))) [.assign 3 (.bin .shl (.lit (.int 1)) (.var 2)), .ifS (.bin .band (.var 0) (.var 3)) [.expr (.meth .append (.var 1) [(.dget (.var 3) (.bi .hex [(.var 3)]))]), .aug 0 .xor (.var 3), .ifS (.notE (.var 0)) [.brk] []] []] [.expr (.meth .append (.var 1) [(.bi .hex [(.var 0)])])], .ret (.meth .join (.lit (.str [44, 32])) [(.var 1)])]⟩
noncomputable def ir_strip_quoted_realnames : FDef := ⟨[0], 8, [.ifS (.cmp .notIn (.lit (.str [34])) (.var 0)) [.ret (.var 0)] [], .assign 1 (.lit (.int 0)), .assign 2 (.lit .none), .assign 3 (.list []), .forE (.many [4, 5]) (.var 0) [.ifS (.cmp .eq (.var 5) (.lit (.str [34]))) [.ifS (.cmp .is (.var 2) (.lit .none)) [.assign 2 (.var 4)] [.ifS (.cmp .ne (.var 1) (.var 2)) [.expr (.meth .append (.var 3) [(.slice (.var 0) (some (.var 1)) (some (.var 2)))])] [], .assign 1 (.bin .add (.var 4) (.lit (.int 1))), .assign 2 (.lit .none)]] []] [], .ifS (.cmp .lt (.var 1) (.bi .len [(.var 0)])) [.expr (.meth .append (.var 3) [(.slice (.var 0) (some (.var 1)) none)])] [], .ret (.meth .join (.lit (.str [])) [(.var 3)])]⟩
noncomputable def ir_check_parenthesis : FDef := ⟨[0], 6, [.assign 0 (.call 5 [(.var 0)]), .assign 1 (.lit (.int 0)), .forE (.many [2, 3]) (.var 0) [.ifS (.cmp .eq (.var 3) (.lit (.str [40]))) [.aug 1 .add (.lit (.int 1))] [.ifS (.cmp .eq (.var 3) (.lit (.str [41]))) [.aug 1 .sub (.lit (.int 1)), .ifS (.cmp .lt (.var 1) (.lit (.int 0))) [.ret (.lit (.bool false))] []] []]] [], .ret (.cmp .eq (.var 1) (.lit (.int 0)))]⟩
noncomputable def ir_law_depths : FDef := ⟨[0], 3, [.assign 1 (.list [(.lit (.int 0))]), .forS (.one 2) (.var 0) [.expr (.meth .append (.var 1) [(.bin .mod (.var 2) (.bin .add (.idx (.var 1) (.neg (.lit (.int 1)))) (.lit (.int 2))))])] [], .ret (.var 1)]⟩
noncomputable def ir_law_lead : FDef := ⟨[0, 1, 2], 4, [.ret (.meth .join (.lit (.str [])) [(.comp [none, none, some 0, some 1] (.idx (.var 2) (.bin .mod (.bin .add (.var 3) (.var 1)) (.lit (.int 2)))) (.one 1) (.rng1 (.var 2)) [])])]⟩
noncomputable def ir_law_row : FDef := ⟨[0, 1], 7, [.assign 3 (.comp [none, none, none, some 1] (.cls (.bin .mul (.idx (.var 3) (.lit (.int 0))) (.var 1))) (.one 1) (.rng1 (.lit (.int 8))) []), .assign 4 (.list []), .forS (.one 2) (.rng1 (.lit (.int 8))) [.forS (.one 5) (.var 0) [.ifS (.umeth 2 (.var 5) [(.idx (.var 3) (.var 2))]) [.expr (.meth .append (.var 4) [(.lit (.str [40]))])] [.ifS (.andE (.cmp .gt (.var 2) (.lit (.int 0))) (.umeth 2 (.var 5) [(.idx (.var 3) (.bin .sub (.var 2) (.lit (.int 1))))])) [.expr (.meth .append (.var 4) [(.lit (.str [41]))])] []]] []] [], .ret (.meth .join (.lit (.str [])) [(.var 4)])]⟩
noncomputable def ir_law_read : FDef := ⟨[0], 11, [.assign 1 (.list [(.lit (.str [79, 80, 84, 73, 77, 73, 90, 69, 68])), (.lit (.str [78, 69, 87, 76, 79, 67, 65, 76, 83])), (.lit (.str [86, 65, 82, 65, 82, 71, 83])), (.lit (.str [86, 65, 82, 75, 69, 89, 87, 79, 82, 68, 83])), (.lit (.str [78, 69, 83, 84, 69, 68])), (.lit (.str [71, 69, 78, 69, 82, 65, 84, 79, 82])), (.lit (.str [78, 79, 70, 82, 69, 69])), (.lit (.str [67, 79, 82, 79, 85, 84, 73, 78, 69])), (.lit (.str [73, 84, 69, 82, 65, 66, 76, 69, 95, 67, 79, 82, 79, 85, 84, 73, 78, 69])), (.lit (.str [65, 83, 89, 78, 67, 95, 71, 69, 78, 69, 82, 65, 84, 79, 82])), (.lit (.str [48, 120, 52, 48, 48])), (.lit (.str [48, 120, 56, 48, 48])), (.lit (.str [48, 120, 49, 48, 48, 48])), (.lit (.str [48, 120, 50, 48, 48, 48]))]), .assign 2 (.list []), .assign 3 (.neg (.lit (.int 1))), .forS (.one 4) (.meth .split (.var 0) [(.lit (.str [44, 32]))]) [.ifS (.orE (.cmp .notIn (.var 4) (.var 1)) (.cmp .le (.meth .index (.var 1) [(.var 4)]) (.var 3))) [.ret (.list [])] [], .assign 3 (.meth .index (.var 1) [(.var 4)]), .expr (.meth .append (.var 2) [(.var 3)])] [], .assign 5 (.lit (.int 0)), .whileS (.cmp .inn (.var 5) (.var 2)) [.aug 5 .add (.lit (.int 1))], .assign 6 (.bin .mul (.list [(.lit (.int 0))]) (.var 5)), .forS (.one 7) (.rng2 (.lit (.int 1)) (.lit (.int 8))) [.assign 8 (.list []), .forS (.one 9) (.var 6) [.expr (.meth .append (.var 8) [(.var 9)]), .ifS (.cmp .eq (.var 9) (.bin .sub (.var 7) (.lit (.int 1)))) [.aug 5 .add (.lit (.int 1)), .whileS (.cmp .inn (.var 5) (.var 2)) [.expr (.meth .append (.var 8) [(.var 7)]), .aug 5 .add (.lit (.int 1))]] []] [], .assign 6 (.var 8)] [], .ret (.var 6)]⟩
noncomputable def ir_law : FDef := ⟨[0], 33, [.assign 1 (.slice (.var 0) none (some (.lit (.int 6)))), .assign 2 (.bin .add (.var 1) (.slice (.list [(.lit (.int 1)), (.lit (.int 2)), (.lit (.int 1)), (.lit (.int 0)), (.lit (.int 1)), (.lit (.int 2))]) (some (.bi .len [(.var 1)])) none)), .assign 3 (.bi .sum [(.comp [none, none] (.bin .mod (.var 1) (.lit (.int 1000000))) (.one 1) (.var 1) [])]), .assign 4 (.idx (.list [(.list [(.lit (.str [9, 32, 9])), (.lit (.str [32, 9, 9]))]), (.list [(.lit (.str [32])), (.lit (.str [32]))]), (.list [(.lit (.str [32, 32, 9, 9])), (.lit (.str [9, 32, 32, 9]))]), (.list [(.lit (.str [9])), (.lit (.str [9]))])]) (.bin .mod (.var 3) (.lit (.int 4)))), .assign 5 (.idx (.list [(.lit (.str [])), (.lit (.str [92, 41])), (.lit (.str [34, 41, 34])), (.lit (.str [92, 92]))]) (.bin .mod (.bin .fdiv (.var 3) (.lit (.int 4))) (.lit (.int 4)))), .assign 6 (.call 7 [(.var 2)]), .assign 7 (.bin .add (.list [(.lit (.int 0))]) (.comp [none, none] (.bin .fdiv (.var 1) (.lit (.int 7))) (.one 1) (.var 2) [])), .assign 9 (.comp [none, none, none, some 6, some 4, some 7] (.call 8 [(.var 4), (.idx (.var 5) (.var 1)), (.idx (.var 3) (.var 1))]) (.one 1) (.rng1 (.lit (.int 7))) []), .assign 10 (.comp [none, none, none] (.cls (.bin .add (.var 1) (.lit (.str [120, 9, 32])))) (.one 1) (.var 9) []), .assign 11 (.comp [none, none, none, some 4] (.cls (.bin .add (.bin .add (.idx (.var 3) (.lit (.int 1))) (.var 1)) (.lit (.str [120, 9, 32])))) (.one 1) (.var 9) []), .assign 12 (.comp [none, none, none, some 3] (.cls (.bin .add (.bin .add (.var 1) (.idx (.list [(.lit (.str [9, 9, 32])), (.lit (.str [9])), (.lit (.str [9, 9, 32, 32])), (.lit (.str [32]))]) (.bin .mod (.var 3) (.lit (.int 4))))) (.lit (.str [120, 9, 32])))) (.one 1) (.var 9) []), .assign 13 (.comp [none, none, none, none] (.cls (.bin .add (.bin .mul (.lit (.str [32])) (.bin .add (.bi .len [(.var 1)]) (.lit (.int 1)))) (.lit (.str [120, 9, 32])))) (.one 1) (.var 9) []), .assign 14 (.lit (.int 0)), .forS (.one 15) (.rng1 (.lit (.int 7))) [.ifS (.cmp .isNot (.umeth 3 (.idx (.var 10) (.var 15)) [(.idx (.var 13) (.var 15))]) (.orE (.cmp .eq (.idx (.var 6) (.var 15)) (.lit (.int 0))) (.cmp .eq (.bin .mod (.var 3) (.lit (.int 4))) (.lit (.int 1))))) [.ret (.lit (.bool false))] [], .forS (.one 8) (.rng1 (.lit (.int 7))) [.ifS (.cmp .isNot (.umeth 3 (.idx (.var 10) (.var 15)) [(.idx (.var 10) (.var 8))]) (.cmp .lt (.idx (.var 6) (.var 15)) (.idx (.var 6) (.var 8)))) [.ret (.lit (.bool false))] [], .ifS (.cmp .isNot (.umeth 2 (.idx (.var 10) (.var 15)) [(.idx (.var 10) (.var 8))]) (.cmp .eq (.idx (.var 6) (.var 15)) (.idx (.var 6) (.var 8)))) [.ret (.lit (.bool false))] [], .ifS (.cmp .isNot (.umeth 2 (.idx (.var 10) (.var 15)) [(.idx (.var 11) (.var 8))]) (.cmp .eq (.idx (.var 6) (.var 15)) (.bin .add (.idx (.var 6) (.var 8)) (.lit (.int 1))))) [.ret (.lit (.bool false))] [], .ifS (.cmp .isNot (.umeth 2 (.idx (.var 10) (.var 15)) [(.idx (.var 12) (.var 8))]) (.lit (.bool false))) [.ret (.lit (.bool false))] [], .ifS (.andE (.cmp .lt (.var 15) (.var 8)) (.cmp .inn (.bin .sub (.idx (.var 6) (.var 15)) (.idx (.var 6) (.var 8))) (.tup [(.lit (.int 0)), (.lit (.int 1))]))) [.aug 14 .add (.lit (.int 1))] []] []] [], .assign 16 (.call 9 [(.var 10), (.var 4)]), .ifS (.cmp .isNot (.call 6 [(.meth .join (.var 5) [(.bi .list [(.var 16)])])]) (.lit (.bool true))) [.ret (.lit (.bool false))] [], .ifS (.cmp .isNot (.call 6 [(.meth .join (.var 5) [(.bi .list [(.bin .add (.slice (.var 16) (some (.lit (.int 1))) none) (.slice (.var 16) none (some (.lit (.int 1)))))])])]) (.lit (.bool false))) [.ret (.lit (.bool false))] [], .ifS (.cmp .isNot (.call 6 [(.meth .join (.var 5) [(.bi .list [(.slice (.var 16) none (some (.lit (.int 13))))])])]) (.lit (.bool false))) [.ret (.lit (.bool false))] [], .ifS (.cmp .ne (.bi .sum [(.comp [none, none, some 16] (.bin .sub (.meth .count (.slice (.var 2) none (some (.var 1))) [(.lit (.str [40]))]) (.meth .count (.slice (.var 2) none (some (.var 1))) [(.lit (.str [41]))])) (.one 1) (.rng1 (.lit (.int 14))) [(.cmp .eq (.idx (.var 2) (.var 1)) (.lit (.str [40])))])]) (.var 14)) [.ret (.lit (.bool false))] [], .assign 17 (.comp [none, none, some 16] (.var 1) (.one 1) (.rng1 (.lit (.int 14))) [(.cmp .eq (.idx (.var 2) (.var 1)) (.lit (.str [41])))]), .assign 18 (.comp [none, none, some 6] (.meth .count (.var 2) [(.var 1)]) (.one 1) (.rng1 (.bin .add (.bi .max [(.var 6)]) (.lit (.int 1)))) []), .assign 19 (.list []), .forG (.one 20) (.bin .add (.var 18) (.list [(.lit (.int 127)), (.lit (.int 3))])) [.assign 21 (.bi .sum [(.var 19)]), .ifS (.orE (.cmp .eq (.var 21) (.lit (.int 7))) (.cmp .ne (.meth .count (.slice (.var 16) none (some (.idx (.var 17) (.var 21)))) [(.lit (.str [40]))]) (.bin .add (.var 21) (.var 20)))) [.ret (.lit (.bool false))] [], .expr (.meth .append (.var 19) [(.var 20)])] [], .ifS (.cmp .ne (.var 19) (.var 18)) [.ret (.lit (.bool false))] [], .ret (.cmp .eq (.call 10 [(.call 4 [(.bi .sum [(.comp [none, none, some 16] (.bin .pow (.lit (.int 2)) (.var 1)) (.one 1) (.rng1 (.lit (.int 14))) [(.cmp .eq (.idx (.var 2) (.var 1)) (.lit (.str [40])))])])])]) (.var 6))]⟩
noncomputable def ir_init : FDef := ⟨[0, 1], 12, [.assignF .raw (.var 0) (.var 1), .swap 2 3 (.wsS) (.wsT), .assign 4 (.list []), .chain [5, 6, 7] (.lit (.int 0)), .forS (.one 8) (.attr .raw (.var 0)) [.ifS (.cmp .eq (.var 8) (.var 2)) [.assign 6 (.bin .add (.var 6) (.lit (.int 1))), .assign 5 (.bin .add (.var 5) (.lit (.int 1)))] [.ifS (.cmp .eq (.var 8) (.var 3)) [.assign 6 (.bin .add (.var 6) (.lit (.int 1))), .assign 7 (.bin .add (.var 7) (.lit (.int 1))), .ifS (.cmp .ge (.var 5) (.bi .len [(.var 4)])) [.assign 4 (.bin .add (.var 4) (.bin .mul (.list [(.lit (.int 0))]) (.bin .add (.bin .sub (.var 5) (.bi .len [(.var 4)])) (.lit (.int 1)))))] [], .assignI (.var 4) (.var 5) (.bin .add (.idx (.var 4) (.var 5)) (.lit (.int 1))), .assign 5 (.lit (.int 0))] [.brk]]] [], .assignF .n (.var 0) (.var 6), .assignF .nt (.var 0) (.var 7), .assignF .norm (.var 0) (.tup [(.bi .tuple [(.var 4)]), (.var 5)]), .assignF .simple (.var 0) (.cmp .le (.bi .len [(.var 4)]) (.lit (.int 1)))]⟩
noncomputable def ftab : List FDef := [ir_longest_run_of_spaces, ir_indent_level, ir_equal, ir_less, ir_pretty_flags, ir_strip_quoted_realnames, ir_check_parenthesis, ir_law_depths, ir_law_lead, ir_law_row, ir_law_read, ir_law]
-- 0 longest_run_of_spaces
-- 1 indent_level
-- 2 equal
-- 3 less
-- 4 pretty_flags
-- 5 _strip_quoted_realnames
-- 6 _check_parenthesis
-- 7 _law_depths
-- 8 _law_lead
-- 9 _law_row
-- 10 _law_read
-- 11 law
end Mine.L02
end
namespace Mine
open PySem PySem.W PyProof.Rows
noncomputable def T : Tab := ⟨["longest_run_of_spaces", "indent_level", "equal", "less", "pretty_flags", "_strip_quoted_realnames", "_check_parenthesis", "_law_depths", "_law_lead", "_law_row", "_law_read", "law"].map fun n => (Str.ofString n, ["longest_run_of_spaces", "indent_level", "not_equal_witness", "equal", "less"].contains n)⟩
noncomputable def ft : List FDef := L02.ftab
noncomputable def init : FDef := L02.ir_init
end Mine
section
namespace Mine
open PySem PySem.W PyProof.Rows

/-! ## what the heap at the law's start holds -/

structure FnAt (P : Par) (T : Tab) (a : Addr) (fd : FDef) : Prop where
  ex : ∃ (o : Obj) (F : FuncData) (body : List Stmt) (pn : List Str) (k : Nat), P.h₀.get? a = some o ∧ o.data = .func F ∧ F.body = .stmts body ∧ F.scope.isCoroutine = false ∧ F.scope.isGenerator = false ∧ F.scope.kind = .function ∧
    F.globals = mainGlobals ∧ F.builtins = builtinsNs ∧ F.closure = [] ∧ P.h₀.CodeRec F.code F.qualname ∧ (∀ vals : List Value, vals.length = pn.length → bindArgs F ⟨vals, []⟩ = pure (pn.zip vals)) ∧
    allP (isS T k F.scope.names) body fd.body = true ∧ F.scope.names.length = fd.slots ∧ pn.map (slot F.scope.names) = fd.params.map some ∧
    (∀ x ∈ pn, F.scope.names.lookup x = some .local ∨ F.scope.names.lookup x = some .cell) ∧ F.scope.names.lookup sSimple = none ∧ (F.scope.names.map (·.1)).Nodup

noncomputable def flagTab : List (PyData × PyData) := flagNames.map fun p => (.int p.1, .str (Str.ofString p.2))

structure GF (P : Par) (T : Tab) (ft : List FDef) (init : FDef) : Prop where
  ns : ∃ mg mb, P.h₀.Ns mainGlobals mg ∧ P.h₀.Ns builtinsNs mb ∧ (∀ b, mg (biName b) = none ∧ mb (biName b) = some (biVal b)) ∧ mg sRange = none ∧ mb sRange = some (.type "range") ∧
    mg sWs = some (.ref P.C) ∧ mg sFlags = some (.ref P.flags) ∧ mg sEsc = some (.ref P.esc) ∧ mg sGrp = some (.ref P.grp) ∧
    ∀ (k : Nat) (x : Str) (a : Addr), T.fn[k]? = some (x, false) → P.fns[k]? = some a → mg x = some (.ref a)
  nolimit : P.h₀.NoLimit
  X : P.K.In P.h₀
  len : P.fns.length = ft.length
  tlen : T.fn.length = ft.length
  nodbg : ∀ b, (biName b == sDebug) = false
  fn : ∀ (k : Nat) (a : Addr) (fd : FDef), P.fns[k]? = some a → ft[k]? = some fd → FnAt P T a fd
  ini : FnAt P T P.ini init
  -- the class
  make : makesIn P.K P.C = true
  kept : keepIn P.K (.ref P.C) = true
  iniF : findIn P.K (.ref P.C) "__init__" = some (some (.ref P.ini)) ∧ typeIn P.K (.ref P.ini) = some (.type "function")
  ga : findIn P.K (.ref P.C) "__getattribute__" = some (some (.builtin "object.__getattribute__"))
  noGa : findIn P.K (.ref P.C) "__getattr__" = some none
  sa : findIn P.K (.ref P.C) "__setattr__" = some (some (.builtin "object.__setattr__"))
  plain : plainOver P.K P.C = true
  taker : ∀ f, takerIn P.K P.C (fkName f) = some none
  noCls : ∀ f, findIn P.K (.ref P.C) (fkName f) = some none
  hasD : (clsIn P.K P.C).any (·.hasDict) = true
  meth : ∀ (k : Nat) (x : Str) (a : Addr), T.fn[k]? = some (x, true) → P.fns[k]? = some a → findIn P.K (.ref P.C) x = some (some (.ref a)) ∧ typeIn P.K (.ref a) = some (.type "function") ∧
    [sRaw, sN, sNt, sNorm, sSimple].contains x = false
  wsS : ∃ t, findCls P.K (.ref P.C) (.type "type") sS = some (.val (.str ⟨#[32]⟩ t))
  wsT : ∃ t, findCls P.K (.ref P.C) (.type "type") sT = some (.val (.str ⟨#[9]⟩ t))
  tab : IntTab P.prog P.w P.h₀ P.flags flagTab
  reads : readsIn P.K P.C (.type "type") = true

/-! ## the soundness of each part of the evaluator -/

noncomputable def TPost (P : Par) (ρ : List Addr) (σ' : Sto) (s : Shared) (b : Bool) (x : Bool) (s' : Shared) : Prop :=
  x = b ∧ ∃ ρ', MvE ρ s ρ' s' ∧ Inv P ρ' σ' s'.heap
noncomputable def EsPost (P : Par) (ρ : List Addr) (σ' : Sto) (s : Shared) (vs : List AV) (xs : List Value) (s' : Shared) : Prop :=
  ∃ ρ', MvE ρ s ρ' s' ∧ Inv P ρ' σ' s'.heap ∧ RVs P ρ' s'.heap vs xs
noncomputable def FlR (P : Par) (ρ : List Addr) (h : Heap) : Fl → Flow → Prop
  | .next, f => f = .next
  | .brk, f => f = .brk
  | .ret v, f => ∃ x, f = .ret x ∧ RV P ρ h v x
noncomputable def SPost (P : Par) (ns : Names) (env : Env) (ρ : List Addr) (σ' : Sto) (s : Shared) (fl : Fl) (ℓ' : Loc) (f : Flow) (s' : Shared) : Prop :=
  ∃ ρ', MvS env ρ s ρ' s' ∧ Inv P ρ' σ' s'.heap ∧ FrameR P ρ' ns ℓ' env s'.heap ∧ FlR P ρ' s'.heap fl f

noncomputable def SoundE (P : Par) (T : Tab) (n : Nat) (f : IE → Loc → Sto → Option (AV × Sto)) : Prop :=
  ∀ {ie : IE} {ℓ : Loc} {σ : Sto} {v : AV} {σ' : Sto}, f ie ℓ σ = some (v, σ') → ∀ {k : Nat} {ns : Names} {e : Expr}, isE T k ns e ie = true → ∀ {env : Env} {ρ : List Addr} {A : Around} {s : Shared} {E : Value → Shared → Prop},
    FrameR P ρ ns ℓ env s.heap → Inv P ρ σ s.heap → AOk n A → wpAny P.M A (eval e env) (EPost P ρ σ' s v) E s
noncomputable def SoundT (P : Par) (T : Tab) (n : Nat) (f : IE → Loc → Sto → Option (Bool × Sto)) : Prop :=
  ∀ {ie : IE} {ℓ : Loc} {σ : Sto} {b : Bool} {σ' : Sto}, f ie ℓ σ = some (b, σ') → ∀ {k : Nat} {ns : Names} {e : Expr}, isE T k ns e ie = true → ∀ {env : Env} {ρ : List Addr} {A : Around} {s : Shared} {E : Value → Shared → Prop},
    FrameR P ρ ns ℓ env s.heap → Inv P ρ σ s.heap → AOk n A → wpAny P.M A (isTrue e env (eval e env)) (TPost P ρ σ' s b) E s
noncomputable def SoundB (P : Par) (T : Tab) (n : Nat) (f : List IS → Loc → Sto → Option (Fl × Loc × Sto)) : Prop :=
  ∀ {body : List IS} {ℓ : Loc} {σ : Sto} {fl : Fl} {ℓ' : Loc} {σ' : Sto}, f body ℓ σ = some (fl, ℓ', σ') → ∀ {k : Nat} {ns : Names} {stmts : List Stmt}, allP (isS T k ns) stmts body = true →
    ∀ {env : Env} {ρ : List Addr} {A : Around} {s : Shared} {E : Value → Shared → Prop}, FrameR P ρ ns ℓ env s.heap → Inv P ρ σ s.heap → AOk n A → wpAny P.M A (execs stmts env) (SPost P ns env ρ σ' s fl ℓ') E s
noncomputable def SoundF (P : Par) (n : Nat) (f : Nat → List AV → Sto → Option (AV × Sto)) : Prop :=
  ∀ {k : Nat} {args : List AV} {σ : Sto} {v : AV} {σ' : Sto}, f k args σ = some (v, σ') → ∀ {a : Addr}, P.fns[k]? = some a → ∀ {vals : List Value} {ρ : List Addr} {A : Around} {s : Shared} {E : Value → Shared → Prop},
    Inv P ρ σ s.heap → RVs P ρ s.heap args vals → AOk n A → wpAny P.M A (call (.ref a) vals) (EPost P ρ σ' s v) E s

structure Sound (P : Par) (T : Tab) (n : Nat) (r : Rec) : Prop where
  e : SoundE P T n r.e
  t : SoundT P T n r.t
  b : SoundB P T n r.b
  f : SoundF P n r.f

section
variable {P : Par} {ρ ρ' : List Addr} {σ σ' : Sto} {s s' : Shared} {A : Around} {E : Value → Shared → Prop} {ns : Names} {ℓ : Loc} {env : Env} {n k : Nat} {r : Rec}

theorem Heap.Ns.kept {h h' : Heap} {a m} (x : h.Ns a m) (k : ∀ b o, h.get? b = some o → h'.get? b = some o) : h'.Ns a m := x.keeps k

/-- the frame and the store move together behind an expression -/
theorem FrameR.after (F : FrameR P ρ ns ℓ env s.heap) (I : Inv P ρ σ s.heap) (m : MvE ρ s ρ' s') : FrameR P ρ' ns ℓ env s'.heap := F.mvE I m

theorem gname_is {x : Str} (h : gname ns x = true) : (x == ("__debug__" : Str)) = false ∧ ns.lookup x = some .globalImplicit := by
  simp only [gname, Bool.and_eq_true, Bool.not_eq_true', decide_eq_true_eq] at h
  exact ⟨h.1, h.2⟩

theorem global_ok {x : Str} {pos : Pos} {v : Value} {mg : Str → Option Value} {Q : Value → Shared → Prop} (hn : gname ns x = true) (F : FrameR P ρ ns ℓ env s.heap) (I : Inv P ρ σ s.heap) (hg : P.h₀.Ns mainGlobals mg) (hv : mg x = some v) (q : Q v s) :
    wpAny P.M A (eval (.Name x pos) env) Q E s := by
  obtain ⟨h1, h2⟩ := gname_is hn
  refine Calls.Name_function_global F.kind (by show env.scope.names.lookup x = _; rw [F.nmEq]; exact h2) (Calls.loadGlobal_global (mg := mg) ?_ hv q) h1
  rw [F.globals]
  exact hg.keeps I.keep
theorem builtin_ok {x : Str} {pos : Pos} {v : Value} {mg mb : Str → Option Value} {Q : Value → Shared → Prop} (hn : gname ns x = true) (F : FrameR P ρ ns ℓ env s.heap) (I : Inv P ρ σ s.heap) (hg : P.h₀.Ns mainGlobals mg) (hno : mg x = none)
    (hb : P.h₀.Ns builtinsNs mb) (hv : mb x = some v) (q : Q v s) : wpAny P.M A (eval (.Name x pos) env) Q E s := by
  obtain ⟨h1, h2⟩ := gname_is hn
  refine Calls.Name_function_global F.kind (by show env.scope.names.lookup x = _; rw [F.nmEq]; exact h2) (Calls.loadGlobal_builtin (mg := mg) (mb := mb) ?_ hno ?_ hv q) h1
  · rw [F.globals]; exact hg.keeps I.keep
  · rw [F.builtins]; exact hb.keeps I.keep

theorem load_ok {x : Str} {i : Nat} {v : AV} {Q : Value → Shared → Prop} (hs : slot ns x = some i) (hk : ns.lookup x = some .local ∨ ns.lookup x = some .cell) (F : FrameR P ρ ns ℓ env s.heap) (hv : ℓ[i]? = some (some v))
    (q : ∀ y, RV P ρ s.heap v y → Q y s) : wpAny P.M A (loadName env x) Q E s := by
  rcases hk with hk | hk
  · obtain ⟨m, hn, _, f⟩ := F.ns
    obtain ⟨y, hy, ry⟩ := f i x v hs hk hv
    exact wpAny_loadName_local F.kind (by show env.scope.names.lookup x = _; rw [F.nmEq]; exact hk) hn hy (q y ry)
  · obtain ⟨c, ov, hc, hi, f⟩ := F.cell i x hs hk
    obtain ⟨y, rfl, ry⟩ := f v hv
    exact wpAny_loadName_cell F.kind (by show env.scope.names.lookup x = _; rw [F.nmEq]; exact hk) hc hi (q y ry)

theorem name_ok {x : Str} {pos : Pos} {i : Nat} {v : AV} (hn : vname ns x i = true) (F : FrameR P ρ ns ℓ env s.heap) (I : Inv P ρ σ s.heap) (hv : ℓ[i]? = some (some v)) :
    wpAny P.M A (eval (.Name x pos) env) (EPost P ρ σ s v) E s := by
  simp only [vname, Bool.and_eq_true, Bool.not_eq_true', decide_eq_true_eq, Bool.or_eq_true] at hn
  exact wpAny_Name (load_ok hn.1.2 hn.2 F hv fun y ry => .same I ry) hn.1.1

theorem slot_inj {x y : Str} {i : Nat} (h1 : slot ns x = some i) (h2 : slot ns y = some i) : x = y := by
  unfold slot at h1 h2
  obtain ⟨a1, a2, _⟩ := List.findIdx?_eq_some_iff_getElem.mp h1
  obtain ⟨b1, b2, _⟩ := List.findIdx?_eq_some_iff_getElem.mp h2
  rw [beq_iff_eq] at a2 b2
  exact a2.symm.trans b2

/-- a frame's name stored to -/
theorem store_at {x : Str} {i : Nat} {v : AV} {y : Value} {Q : Unit → Shared → Prop} (hs : sname ns x i = true) (F : FrameR P ρ ns ℓ env s.heap) (I : Inv P ρ σ s.heap) (hi : i < ℓ.length) (r : RV P ρ s.heap v y)
    (q : ∀ s' a, a ∈ fa env → (ns.lookup x = some .local → a = env.locals) → Step [a] s s' → Inv P ρ σ s'.heap → FrameR P ρ ns (ℓ.set i (some v)) env s'.heap → s'.heap.objs.size = s.heap.objs.size → s'.gens = s.gens → Q () s') : wpAny P.M A (storeName env x y) Q E s := by
  simp only [sname, Bool.and_eq_true, decide_eq_true_eq, Bool.or_eq_true] at hs
  obtain ⟨hs, hk⟩ := hs
  have hxs : x ≠ sSimple := fun e => by
    subst e
    rw [F.nosimple] at hk
    rcases hk with hk | hk <;> cases hk
  have upd : ∀ (a : Addr) (h' : Heap) (t : Nat), a ∈ fa env → Heap.SameBut a s.heap h' → (∀ b o, s.heap.get? b = some o → ∃ o', h'.get? b = some o') →
      Step [a] s { s with heap := h', toks := t } ∧ Inv P ρ σ h' ∧ Kp [a] s.heap h' := by
    intro a h' t ha hsb hlive
    have k1 : Kp [a] s.heap h' := fun b o e hb => (hsb.2 b (by simpa using hb)).trans e
    refine ⟨.of_keep k1, ?_, k1⟩
    have hout := F.out a ha
    have hW : ∀ b ∈ [a], Soft s.heap ρ b := fun b hb => by rw [List.mem_singleton.mp hb]; exact F.softs a ha
    refine ⟨fun b o e => k1 b o (I.keep b o e) fun hm => ?_, I.nodup, I.fresh, I.len, fun j b o e1 e2 => ?_⟩
    · rw [List.mem_singleton.mp hm, hout.2] at e; cases e
    · have := (I.rep j b o e1 e2).kp k1 hW (new := []) (by intro a ha; cases ha) (by
        intro hm; rw [List.mem_singleton.mp hm] at e1; exact hout.1 (List.mem_of_getElem? e1))
      rwa [List.append_nil] at this
  have rest : ∀ {a : Addr} {h' : Heap}, a ∈ fa env → Kp [a] s.heap h' → ∀ {u : AV} {z : Value}, RV P ρ s.heap u z → RV P ρ h' u z := by
    intro a h' ha k1 u z ru
    have := ru.kp k1 (fun b hb => by rw [List.mem_singleton.mp hb]; exact F.softs a ha) (new := []) (by intro a ha; cases ha)
    rwa [List.append_nil] at this
  rcases hk with hk | hk
  · obtain ⟨m, hn, hz, f⟩ := F.ns
    have hL : env.locals ∈ fa env := List.mem_cons_self
    refine wpAny_storeName_local (by show env.scope.names.lookup x = _; rw [F.nmEq]; exact hk) hn (fun h' hn' hsb => ?_) (by rw [F.kind]; rfl)
    have hlive : ∀ b o, s.heap.get? b = some o → ∃ o', h'.get? b = some o' := fun b o e => by
      by_cases hb : b = env.locals
      · subst hb; obtain ⟨o', _, _, e', _⟩ := hn'; exact ⟨o', e'⟩
      · exact ⟨o, (hsb.2 b hb).trans e⟩
    obtain ⟨u1, u2, u3⟩ := upd env.locals h' (s.toks + 1) hL hsb hlive
    refine q _ _ hL (fun _ => rfl) u1 u2 ⟨F.kind, F.nmEq, F.globals, F.builtins, ⟨_, hn', ?_, fun j z w e1 e2 e3 => ?_⟩, fun j z e1 e2 => ?_, F.out, fun c hc => ?_, F.apart, F.nosimple⟩ hsb.1 rfl
    · show (if sSimple = x then some y else m sSimple) = none
      rw [if_neg (Ne.symm hxs), hz]
    · show ∃ y', (if z = x then some y else m z) = some y' ∧ _
      by_cases hzx : z = x
      · subst hzx
        rw [e1] at hs; cases hs
        rw [List.getElem?_set_self hi] at e3
        cases e3
        rw [if_pos rfl]
        exact ⟨y, rfl, rest hL u3 r⟩
      · rw [if_neg hzx]
        have hj : i ≠ j := fun e => hzx (slot_inj e1 (e ▸ hs))
        rw [List.getElem?_set_ne hj] at e3
        obtain ⟨y', h1, h2⟩ := f j z w e1 e2 e3
        exact ⟨y', h1, rest hL u3 h2⟩
    · obtain ⟨c, ov, hc, hi', f'⟩ := F.cell j z e1 e2
      have hcL : c ≠ env.locals := fun e => by
        obtain ⟨o, es, ep, ho, hd, _⟩ := hn
        obtain ⟨o', ho', hd'⟩ := hi'
        subst e
        rw [ho] at ho'; cases ho'
        rw [hd] at hd'; cases hd'
      refine ⟨c, ov, hc, hi'.sameBut hsb hcL, fun w e3 => ?_⟩
      have hzx : z ≠ x := fun e => by subst e; rw [hk] at e2; cases e2
      have hj : i ≠ j := fun e => hzx (slot_inj e1 (e ▸ hs))
      rw [List.getElem?_set_ne hj] at e3
      obtain ⟨y', h1, h2⟩ := f' w e3
      exact ⟨y', h1, rest hL u3 h2⟩
    · obtain ⟨v', hv'⟩ := F.soft c hc
      refine ⟨v', hv'.sameBut hsb fun e => ?_⟩
      obtain ⟨o, es, ep, ho, hd, _⟩ := hn
      obtain ⟨o', ho', hd'⟩ := hv'
      subst e
      rw [ho] at ho'; cases ho'
      rw [hd] at hd'; cases hd'
  · obtain ⟨c, ov, hc, hi', f'⟩ := F.cell i x hs hk
    have hmem : (x, c) ∈ env.cells := mem_of_lookup hc
    have hL : c ∈ fa env := List.mem_cons_of_mem _ (List.mem_map.mpr ⟨(x, c), hmem, rfl⟩)
    refine wpAny_storeName_cell F.kind (by show env.scope.names.lookup x = _; rw [F.nmEq]; exact hk) hc hi' fun h' hc' hsb => ?_
    have hlive : ∀ b o, s.heap.get? b = some o → ∃ o', h'.get? b = some o' := fun b o e => by
      by_cases hb : b = c
      · subst hb; obtain ⟨o', e', _⟩ := hc'; exact ⟨o', e'⟩
      · exact ⟨o, (hsb.2 b hb).trans e⟩
    obtain ⟨u1, u2, u3⟩ := upd c h' s.toks hL hsb hlive
    obtain ⟨m, hn, hz, f⟩ := F.ns
    have hLc : env.locals ≠ c := fun e => by
      obtain ⟨o, es, ep, ho, hd, _⟩ := hn
      obtain ⟨o', ho', hd'⟩ := hi'
      subst e
      rw [ho] at ho'; cases ho'
      rw [hd] at hd'; cases hd'
    refine q _ _ hL (fun e => by rw [hk] at e; cases e) u1 u2 ⟨F.kind, F.nmEq, F.globals, F.builtins, ⟨m, hn.sameBut hsb hLc, hz, fun j z w e1 e2 e3 => ?_⟩, fun j z e1 e2 => ?_, F.out, fun c' hc'' => ?_, F.apart, F.nosimple⟩ hsb.1 rfl
    · have hzx : z ≠ x := fun e => by subst e; rw [hk] at e2; cases e2
      have hj : i ≠ j := fun e => hzx (slot_inj e1 (e ▸ hs))
      rw [List.getElem?_set_ne hj] at e3
      obtain ⟨y', h1, h2⟩ := f j z w e1 e2 e3
      exact ⟨y', h1, rest hL u3 h2⟩
    · by_cases hzx : z = x
      · subst hzx
        rw [hs] at e1; cases e1
        refine ⟨c, some y, hc, hc', fun w e3 => ?_⟩
        rw [List.getElem?_set_self hi] at e3
        cases e3
        exact ⟨y, rfl, rest hL u3 r⟩
      · obtain ⟨c2, ov2, hc2, hi2, f2⟩ := F.cell j z e1 e2
        have hne : c2 ≠ c := fun e => hzx (name_of_addr F.apart (mem_of_lookup hc2) (e ▸ hmem))
        refine ⟨c2, ov2, hc2, hi2.sameBut hsb hne, fun w e3 => ?_⟩
        have hj : i ≠ j := fun e => hzx (slot_inj e1 (e ▸ hs))
        rw [List.getElem?_set_ne hj] at e3
        obtain ⟨y', h1, h2⟩ := f2 w e3
        exact ⟨y', h1, rest hL u3 h2⟩
    · obtain ⟨v', hv'⟩ := F.soft c' hc''
      by_cases hcc : c' = c
      · subst hcc; exact ⟨_, hc'⟩
      · exact ⟨v', hv'.sameBut hsb hcc⟩

theorem store_ok {x : Str} {i : Nat} {v : AV} {y : Value} {Q : Unit → Shared → Prop} (hs : sname ns x i = true) (F : FrameR P ρ ns ℓ env s.heap) (I : Inv P ρ σ s.heap) (hi : i < ℓ.length) (r : RV P ρ s.heap v y)
    (q : ∀ s', MvS env ρ s ρ s' → Inv P ρ σ s'.heap → FrameR P ρ ns (ℓ.set i (some v)) env s'.heap → Q () s') : wpAny P.M A (storeName env x y) Q E s :=
  store_at hs F I hi r fun s' a ha _ st I' F' _ _ => q s' (.of_step (st.mono fun b hb => by rw [List.mem_singleton.mp hb]; exact .inl (List.mem_append_left _ ha))) I' F'
end

end Mine
end
section
namespace Mine
open PySem PySem.W PyProof.Rows

section
variable {P : Par} {ρ ρ' : List Addr} {σ σ' : Sto} {s s' : Shared} {A : Around} {E : Value → Shared → Prop} {ns : Names} {ℓ : Loc} {env : Env} {n k : Nat} {r : Rec} {v : AV}

/-- one expression, then what follows -/
theorem e1 (S : Sound P T n r) {ie : IE} {e : Expr} (h : r.e ie ℓ σ = some (v, σ')) (hi : isE T k ns e ie = true) (F : FrameR P ρ ns ℓ env s.heap) (I : Inv P ρ σ s.heap) (hA : AOk n A) {Q : Value → Shared → Prop}
    (q : ∀ ρ' s' x, MvE ρ s ρ' s' → Inv P ρ' σ' s'.heap → FrameR P ρ' ns ℓ env s'.heap → RV P ρ' s'.heap v x → Q x s') : wpAny P.M A (eval e env) Q E s :=
  wpAny_mono (S.e h hi F I hA) (fun x s' ⟨ρ', m, I', r'⟩ => q ρ' s' x m I' (F.mvE I m) r') fun _ _ x => x
theorem t1 (S : Sound P T n r) {ie : IE} {e : Expr} {b : Bool} (h : r.t ie ℓ σ = some (b, σ')) (hi : isE T k ns e ie = true) (F : FrameR P ρ ns ℓ env s.heap) (I : Inv P ρ σ s.heap) (hA : AOk n A) {Q : Bool → Shared → Prop}
    (q : ∀ ρ' s', MvE ρ s ρ' s' → Inv P ρ' σ' s'.heap → FrameR P ρ' ns ℓ env s'.heap → Q b s') : wpAny P.M A (isTrue e env (eval e env)) Q E s :=
  wpAny_mono (S.t h hi F I hA) (fun _ s' ⟨hx, ρ', m, I'⟩ => hx ▸ q ρ' s' m I' (F.mvE I m)) fun _ _ x => x

theorem isE_notStar {e : Expr} {ie : IE} (h : isE T k ns e ie = true) : ∀ rest : List Expr, starEach (e :: rest) env = (false, eval e env) :: starEach rest env := by
  cases k with
  | zero => cases h
  | succ k =>
    intro rest
    simp only [isE_q2, Bool.and_eq_true, Bool.not_eq_true'] at h
    cases e <;> first | rfl | cases h.1

/-- a row of expressions: of a display, or of a call's arguments -/
theorem esL (S : Sound P T n r) (hA : AOk n A) {pos : Pos} : ∀ {l : List IE} {es : List Expr} {σ : Sto} {vs : List AV} {σ' : Sto} {ρ : List Addr} {s : Shared}, evEs r l ℓ σ = some (vs, σ') → allP (isE T k ns) es l = true →
    FrameR P ρ ns ℓ env s.heap → Inv P ρ σ s.heap → wpAny P.M A (spliced (backTo pos (starEach es env))) (EsPost P ρ σ' s vs) E s
  | [], es, σ, vs, σ', ρ, s, h, hi, F, I => by
    rw [allP_nil hi]
    cases h
    exact wpAny_items_nil ⟨ρ, .refl .., I, rfl⟩
  | i :: l, es, σ, vs, σ', ρ, s, h, hi, F, I => by
    obtain ⟨e, es, rfl, h1, h2⟩ := allP_cons hi
    refine oP_elim h fun v σ1 ea h => oP_elim h fun vs' σ2 eb h => ret_elim h ?_
    refine wpAny_items_cons (e1 S ea h1 F I hA fun ρ1 s1 x m1 I1 F1 r1 => ?_) (isE_notStar h1 es)
    refine wpAny_mono (esL S hA eb h2 F1 I1) (fun xs s2 ⟨ρ2, m2, I2, r2⟩ => ?_) fun _ _ x => x
    exact ⟨ρ2, m1.trans I1 m2, I2, x, xs, rfl, r1.mvE I1 m2, r2⟩

/-- a bound of a slice -/
theorem partL (S : Sound P T n r) (hA : AOk n A) {oe : Option Expr} {oi : Option IE} {vo : Option AV} (h : evO r oi ℓ σ = some (vo, σ')) (hi : optE (isE T k ns) oe oi = true) (F : FrameR P ρ ns ℓ env s.heap) (I : Inv P ρ σ s.heap) {Q : Value → Shared → Prop}
    (q : ∀ ρ' s' x, MvE ρ s ρ' s' → Inv P ρ' σ' s'.heap → FrameR P ρ' ns ℓ env s'.heap → ORV P ρ' s'.heap vo x → Q x s') : wpAny P.M A (evalPart oe env) Q E s := by
  cases oi with
  | none =>
    cases oe with
    | none => cases h; exact wpAny_pure (q ρ s .none (.refl ..) I F rfl)
    | some e => cases hi
  | some i =>
    cases oe with
    | none => cases hi
    | some e =>
      revert q
      exact oP_elim h fun v σ1 ea h => ret_elim h fun q => e1 S ea hi F I hA fun ρ1 s1 x m1 I1 F1 r1 => q ρ1 s1 x m1 I1 F1 r1

theorem ORV.mvE {vo : Option AV} {x : Value} (r : ORV P ρ s.heap vo x) (I : Inv P ρ σ s.heap) (m : MvE ρ s ρ' s') : ORV P ρ' s'.heap vo x := by
  cases vo with
  | none => exact r
  | some v => exact RV.mvE r I m

/-! ### the single expressions -/

theorem litNone {c : Const} (h : litIs c .none = true) : c = .none := by
  cases c <;> first | rfl | exact noB h
theorem litBool {c : Const} {b : Bool} (h : litIs c (.bool b) = true) : c = .bool b := by
  cases c <;> first | exact noB h | exact congrArg _ (eq_of_beq h)
theorem litInt {c : Const} {b : Int} (h : litIs c (.int b) = true) : c = .int b := by
  cases c <;> first | exact noB h | exact congrArg _ (eq_of_beq h)
@[elab_as_elim] theorem litStr {c : Const} {b : List Nat} {motive : Const → List Nat → Prop} (h : litIs c (.str b) = true) (k : ∀ a : Str, motive (.str a) a.cps.toList) : motive c b := by
  cases c <;> first | exact noB h | exact eq_of_beq h ▸ k _
theorem c_lit {c : Const} {w : AV} {kk : Nat} {pos : Pos} (h : litIs c w = true) (I : Inv P ρ σ s.heap) : wpAny P.M A (eval (.Constant c kk pos) env) (EPost P ρ σ s w) E s := by
  revert h
  cases w with
  | none => exact fun h => (litNone h).symm ▸ Constant_none (.same I rfl)
  | bool b => exact fun h => (litBool h).symm ▸ Constant_bool (.same I rfl)
  | int i => exact fun h => (litInt h).symm ▸ wpAny_Constant_int (int_here I)
  | str l => exact fun h => litStr h fun a => Calls.Constant_str (.here I (by exact ⟨_, rfl⟩) _)
  | _ => exact noB

theorem c_bin (S : Sound P T n r) {op : BinK} {a b : IE} {l rr : Expr} {pos : Pos} (e : stepE ft init r (.bin op a b) ℓ σ = some (v, σ')) (h1 : isE T k ns l a = true) (h2 : isE T k ns rr b = true)
    (F : FrameR P ρ ns ℓ env s.heap) (I : Inv P ρ σ s.heap) (hA : AOk n A) : wpAny P.M A (eval (.BinOp l (opOf op) rr pos) env) (EPost P ρ σ' s v) E s := by
  refine oP_elim e fun x σ1 ea e => oP_elim e fun y σ2 eb e => ?_
  refine wpAny_BinOp (e1 S ea h1 F I hA fun ρ1 s1 xv m1 I1 F1 r1 => e1 S eb h2 F1 I1 hA fun ρ2 s2 yv m2 I2 F2 r2 => ?_)
  exact wp_then (m1.trans I1 m2) I2 (binop_ok e I2 (r1.mvE I1 m2) r2)

theorem c_neg (S : Sound P T n r) {a : IE} {x : Expr} {pos : Pos} (e : stepE ft init r (.neg a) ℓ σ = some (v, σ')) (h1 : isE T k ns x a = true)
    (F : FrameR P ρ ns ℓ env s.heap) (I : Inv P ρ σ s.heap) (hA : AOk n A) : wpAny P.M A (eval (.UnaryOp .USub x pos) env) (EPost P ρ σ' s v) E s := by
  refine oP_elim e fun x σ1 ea e => ?_
  refine UnaryOp_ (e1 S ea h1 F I hA fun ρ1 s1 xv m1 I1 F1 r1 => ?_)
  revert r1
  exact oI_elim e fun i e r1 => ret_elim e (int_elim r1 fun t => wp_then m1 I1 (neg_int (int_here I1)))

theorem c_and (S : Sound P T n r) {a b : IE} {x y : Expr} {pos : Pos} (e : stepE ft init r (.andE a b) ℓ σ = some (v, σ')) (h1 : isE T k ns x a = true) (h2 : isE T k ns y b = true)
    (F : FrameR P ρ ns ℓ env s.heap) (I : Inv P ρ σ s.heap) (hA : AOk n A) : wpAny P.M A (eval (.BoolOp .And [x, y] pos) env) (EPost P ρ σ' s v) E s := by
  refine oP_elim e fun xx σ1 ea e => oO_elim e fun b et e => ?_
  refine wpAny_And2 (e1 S ea h1 F I hA fun ρ1 s1 xv m1 I1 F1 r1 => truth_ok et r1 ?_)
  cases b with
  | true => exact wp_then m1 I1 (S.e e h2 F1 I1 hA)
  | false => exact ret_elim e ⟨ρ1, m1, I1, r1⟩

theorem c_or (S : Sound P T n r) {a b : IE} {x y : Expr} {pos : Pos} (e : stepE ft init r (.orE a b) ℓ σ = some (v, σ')) (h1 : isE T k ns x a = true) (h2 : isE T k ns y b = true)
    (F : FrameR P ρ ns ℓ env s.heap) (I : Inv P ρ σ s.heap) (hA : AOk n A) : wpAny P.M A (eval (.BoolOp .Or [x, y] pos) env) (EPost P ρ σ' s v) E s := by
  refine oP_elim e fun xx σ1 ea e => oO_elim e fun b et e => ?_
  refine wpAny_Or2 (e1 S ea h1 F I hA fun ρ1 s1 xv m1 I1 F1 r1 => truth_ok et r1 ?_)
  cases b with
  | false => exact wp_then m1 I1 (S.e e h2 F1 I1 hA)
  | true => exact ret_elim e ⟨ρ1, m1, I1, r1⟩

theorem c_ife (S : Sound P T n r) {t a b : IE} {t' x y : Expr} {pos : Pos} (e : stepE ft init r (.ife t a b) ℓ σ = some (v, σ')) (h0 : isE T k ns t' t = true) (h1 : isE T k ns x a = true) (h2 : isE T k ns y b = true)
    (F : FrameR P ρ ns ℓ env s.heap) (I : Inv P ρ σ s.heap) (hA : AOk n A) : wpAny P.M A (eval (.IfExp t' x y pos) env) (EPost P ρ σ' s v) E s := by
  refine oP_elim e fun c σ1 ea e => IfExp_ (t1 S ea h0 F I hA fun ρ1 s1 m1 I1 F1 => ?_)
  cases c with
  | true => exact wp_then m1 I1 (S.e e h1 F1 I1 hA)
  | false => exact wp_then m1 I1 (S.e e h2 F1 I1 hA)

theorem c_cmp (S : Sound P T n r) {op : CmpK} {a b : IE} {l rr : Expr} {pos : Pos} (e : stepE ft init r (.cmp op a b) ℓ σ = some (v, σ')) (hm : behindInMarks (cmpOf op) rr = false) (h1 : isE T k ns l a = true) (h2 : isE T k ns rr b = true)
    (F : FrameR P ρ ns ℓ env s.heap) (I : Inv P ρ σ s.heap) (hA : AOk n A) : wpAny P.M A (eval (.Compare l [cmpOf op] [rr] pos) env) (EPost P ρ σ' s v) E s := by
  refine oP_elim e fun x σ1 ea e => oP_elim e fun y σ2 eb e => oO_elim e fun c ec e => ret_elim e ?_
  refine wpAny_Compare1 (e1 S ea h1 F I hA fun ρ1 s1 xv m1 I1 F1 r1 => e1 S eb h2 F1 I1 hA fun ρ2 s2 yv m2 I2 F2 r2 => ?_) hm
  exact wp_then (m1.trans I1 m2) I2 (cmpop_ok ec I2 hA (r1.mvE I1 m2) r2)

theorem evEs_len : ∀ {l : List IE} {σ : Sto} {vs : List AV} {σ' : Sto}, evEs r l ℓ σ = some (vs, σ') → vs.length = l.length
  | [], _, _, _, h => by cases h; rfl
  | i :: l, _, _, _, h => by
    exact oP_elim h fun v σ1 ea h => oP_elim h fun vs' σ2 eb h => ret_elim h (congrArg Nat.succ (evEs_len eb))

theorem RVs.push {l : List AV} {vs : List Value} {h : Heap} (r : RVs P ρ h l vs) (o : Obj) : RVs P ρ (h.push o) l vs := by
  have := r.kp (W := []) (Kp.push o) (by simp) (new := []) (by intro a ha; cases ha)
  rwa [List.append_nil] at this
theorem newTup_ok {l : List AV} {vs : List Value} {t : Nat} (I : Inv P ρ σ s.heap) (r : RVs P ρ s.heap l vs) : EPost P ρ σ s (.tup l) (.ref s.heap.objs.size) { s with heap := s.heap.push { cls := .type "tuple", data := .seq vs.toArray }, toks := t } :=
  .kept I (.push _) ⟨_, vs.toArray, rfl, ⟨_, Heap.get?_push_size _ rfl, rfl, 0, rfl⟩, r.push _⟩

theorem few_len {h : Heap} {l : List IE} {es : List Expr} {vs : List AV} {xs : List Value} (r1 : RVs P ρ h vs xs) (ea : evEs r l ℓ σ = some (vs, σ')) (h1 : allP (isE T k ns) es l = true) (hl : es.length < 20) : xs.length ≤ 2 ^ 24 := by
  rw [r1.length, evEs_len ea, ← allP_len h1]
  exact Nat.le_trans (Nat.le_of_lt hl) (by decide)
theorem c_tup (S : Sound P T n r) {l : List IE} {es : List Expr} {kk : Nat} {pos : Pos} (e : stepE ft init r (.tup l) ℓ σ = some (v, σ')) (h1 : allP (isE T k ns) es l = true) (hl : es.length < 20)
    (F : FrameR P ρ ns ℓ env s.heap) (I : Inv P ρ σ s.heap) (hA : AOk n A) : wpAny P.M A (eval (.Tuple es kk pos) env) (EPost P ρ σ' s v) E s := by
  refine oP_elim e fun vs σ1 ea e => ret_elim e ?_
  refine wpAny_Tuple (wpAny_mono (esL S hA ea h1 F I) (fun xs s1 ⟨ρ1, m1, I1, r1⟩ => ?_) fun _ _ x => x)
  exact ⟨few_len r1 ea h1 hl, (newTup_ok I1 r1).then m1 I1⟩

theorem c_list (S : Sound P T n r) {l : List IE} {es : List Expr} {pos : Pos} (e : stepE ft init r (.list l) ℓ σ = some (v, σ')) (h1 : allP (isE T k ns) es l = true) (hl : es.length < 20)
    (F : FrameR P ρ ns ℓ env s.heap) (I : Inv P ρ σ s.heap) (hA : AOk n A) : wpAny P.M A (eval (.List es pos) env) (EPost P ρ σ' s v) E s := by
  refine oP_elim e fun vs σ1 ea e => iN_elim e fun hb e => ret_elim e ?_
  refine wpAny_List (wpAny_mono (esL S hA ea h1 F I) (fun xs s1 ⟨ρ1, m1, I1, r1⟩ => ?_) fun _ _ x => x)
  exact ⟨few_len r1 ea h1 hl, EPost.then m1 I1 (EPost.pushList (vs := xs.toArray) I1 r1 hb)⟩

theorem c_idx (S : Sound P T n r) {a i : IE} {vl sl : Expr} {pos : Pos} (e : stepE ft init r (.idx a i) ℓ σ = some (v, σ')) (hs : isSlice sl = false) (h1 : isE T k ns vl a = true) (h2 : isE T k ns sl i = true)
    (F : FrameR P ρ ns ℓ env s.heap) (I : Inv P ρ σ s.heap) (hA : AOk n A) : wpAny P.M A (eval (.Subscript vl sl pos) env) (EPost P ρ σ' s v) E s := by
  refine oP_elim e fun x σ1 ea e => oP_elim e fun y σ2 eb e => oO_elim e fun c ec e => ret_elim e ?_
  refine Subscript_ (e1 S ea h1 F I hA fun ρ1 s1 xv m1 I1 F1 r1 => e1 S eb h2 F1 I1 hA fun ρ2 s2 yv m2 I2 F2 r2 => ?_)
  exact wp_then (m1.trans I1 m2) I2 (idx_ok ec hs I2 (r1.mvE I1 m2) r2)

theorem c_slice (S : Sound P T n r) {a : IE} {lo hi : Option IE} {vl : Expr} {l u : Option Expr} {p pos : Pos} (e : stepE ft init r (.slice a lo hi) ℓ σ = some (v, σ')) (h1 : isE T k ns vl a = true) (h2 : optE (isE T k ns) l lo = true) (h3 : optE (isE T k ns) u hi = true)
    (F : FrameR P ρ ns ℓ env s.heap) (I : Inv P ρ σ s.heap) (hA : AOk n A) : wpAny P.M A (eval (.Subscript vl (.Slice l u none p) pos) env) (EPost P ρ σ' s v) E s := by
  refine oP_elim e fun x σ1 ea e => oP_elim e fun lv σ2 eb e => oP_elim e fun hv σ3 ec e => ?_
  refine Subscript_ (e1 S ea h1 F I hA fun ρ1 s1 xv m1 I1 F1 r1 => ?_)
  refine wpAny_Slice (partL S hA eb h2 F1 I1 fun ρ2 s2 lx m2 I2 F2 r2 => partL S hA ec h3 F2 I2 fun ρ3 s3 ux m3 I3 F3 r3 => wpAny_pure ?_)
  exact wpAny_mono (slice_ok e I3 (r1.mvE I1 (m2.trans I2 m3)) (r2.mvE I2 m3) r3) (fun _ _ p => p.then (m1.trans I1 (m2.trans I2 m3)) I3) fun _ _ x => x

/-! ### calls -/

theorem star_plain {pos : Pos} : ∀ {es : List Expr} {is : List IE}, allP (isE T k ns) es is = true → (backTo pos (starEach es env)).any (·.1) = false ∧ (backTo pos (starEach es env)).all (fun x => !x.1) = true
  | [], _, _ => ⟨rfl, rfl⟩
  | e :: es, [], h => by cases h
  | e :: es, i :: is, h => by
    replace h := allP_c h
    rw [isE_notStar h.1]
    obtain ⟨a, b⟩ := star_plain (pos := pos) h.2
    refine ⟨?_, ?_⟩
    · show (false || (backTo pos (starEach es env)).any (·.1)) = false
      rw [a]; rfl
    · show (true && (backTo pos (starEach es env)).all (fun x => !x.1)) = true
      rw [b]; rfl

theorem evalArgs_all {M : Model} {f : Value} {Q : Args → Shared → Prop} : ∀ {trees : List (Bool × Sem Value)}, trees.any (·.1) = false → wpAny M A (spliced trees) (fun vs s' => Q ⟨vs, []⟩ s') E s → wpAny M A (evalArgs f true trees []) Q E s
  | [], _, h => by
    unfold evalArgs
    show wpAny M A (spliced [] >>= _) Q E s
    exact wpAny_bind (wpAny_mono h (fun vs s' h' => wpAny_bind (wpAny_pure (wpAny_holding (wpAny_bind (wpAny_pure (wpAny_bind (wpAny_pure (wpAny_pure h')))))))) fun _ _ x => x)
  | (true, x) :: rest, e, h => by cases e
  | (false, x) :: rest, e, h => Calls.evalArgs_plain h

/-- the arguments, for what is called -/
theorem argsL (S : Sound P T n r) {l : List IE} {es : List Expr} {vs : List AV} {pos : Pos} {f : Value} (h : evEs r l ℓ σ = some (vs, σ')) (hi : allP (isE T k ns) es l = true)
    (F : FrameR P ρ ns ℓ env s.heap) (I : Inv P ρ σ s.heap) (hA : AOk n A) {Q : Args → Shared → Prop}
    (q : ∀ ρ' s' xs, MvE ρ s ρ' s' → Inv P ρ' σ' s'.heap → FrameR P ρ' ns ℓ env s'.heap → RVs P ρ' s'.heap vs xs → Q ⟨xs, []⟩ s') : wpAny P.M A (evalArgs f true (backTo pos (starEach es env)) []) Q E s :=
  evalArgs_all (star_plain hi).1 (wpAny_mono (esL S hA h hi F I) (fun xs s' ⟨ρ', m, I', r'⟩ => q ρ' s' xs m I' (F.mvE I m) r') fun _ _ x => x)

theorem c_bi (G : GF P T ft init) (S : Sound P T n r) {b : BK} {args : List IE} {x : Str} {es : List Expr} {p pos : Pos} (e : stepE ft init r (.bi b args) ℓ σ = some (v, σ')) (hx : x = biName b) (hg : gname ns x = true) (h1 : allP (isE T k ns) es args = true)
    (F : FrameR P ρ ns ℓ env s.heap) (I : Inv P ρ σ s.heap) (hA : AOk n A) : wpAny P.M A (eval (.Call (.Name x p) es [] pos) env) (EPost P ρ σ' s v) E s := by
  refine oP_elim e fun vs σ1 ea e => ?_
  obtain ⟨mg, mb, n1, n2, n3, _⟩ := G.ns
  subst hx
  refine Call_Name rfl (builtin_ok hg F I n1 (n3 b).1 n2 (n3 b).2 ?_)
  have key : ∀ f, wpAny P.M A (evalArgs f true (backTo pos (starEach es env)) []) (fun a s₁ => wpAny P.M A (call (biVal b) ([] ++ a.pos) a.kw) (EPost P ρ σ' s v) E s₁) E s := fun f =>
    argsL S ea h1 F I hA fun ρ1 s1 xs m1 I1 F1 r1 => wp_then m1 I1 (bi_ok e I1 hA r1)
  cases b <;> first | exact Calls.callWith_builtin (star_plain h1).1 (key _) | exact PyProof.Rows.callWith_type (star_plain h1).1 (key _)

theorem c_call (G : GF P T ft init) (S : Sound P T n r) (hf : ∀ {k args σ o}, r.f k args σ = some o → k < ft.length) {kk : Nat} {args : List IE} {x : Str} {es : List Expr} {p pos : Pos} (e : stepE ft init r (.call kk args) ℓ σ = some (v, σ')) (hx : T.fn[kk]? = some (x, false)) (hg : gname ns x = true) (h1 : allP (isE T k ns) es args = true)
    (F : FrameR P ρ ns ℓ env s.heap) (I : Inv P ρ σ s.heap) (hA : AOk n A) : wpAny P.M A (eval (.Call (.Name x p) es [] pos) env) (EPost P ρ σ' s v) E s := by
  refine oP_elim e fun vs σ1 ea e => ?_
  obtain ⟨mg, mb, n1, n2, n3, _, _, _, _, _, _, n4⟩ := G.ns
  have hk := hf e
  have hk' : kk < P.fns.length := by rw [G.len]; exact hk
  have ha : P.fns[kk]? = some P.fns[kk] := List.getElem?_eq_getElem hk'
  have hfd : ft[kk]? = some ft[kk] := List.getElem?_eq_getElem hk
  obtain ⟨⟨o, fd, _, _, _, ho, hd, _⟩⟩ := G.fn kk _ _ ha hfd
  refine Call_Name rfl (global_ok hg F I n1 (n4 kk x _ hx ha) ?_)
  refine Calls.callWith_function (o := o) (fd := fd) (argsL S ea h1 F I hA fun ρ1 s1 xs m1 I1 F1 r1 => ⟨⟨I1.keep _ _ ho, hd⟩, ?_⟩)
  exact wp_then m1 I1 (S.f e ha I1 r1 hA)

end

end Mine
end
section
namespace Mine
open PySem PySem.W PyProof.Rows PySem.StrLaws PySem.Builtin PySem.Builtin.Str

theorem mk_len (s : List Nat) : (⟨s.toArray⟩ : Str).length = s.length := by simp [Str.length]

theorem at_prefix {s m : List Nat} {k : Nat} (hk : k ≤ s.length) : At ⟨s.toArray⟩ ⟨m.toArray⟩ s.length k ↔ m.isPrefixOf (s.drop k) = true := by
  unfold At
  rw [subAt_eq, List.isPrefixOf_iff_prefix, List.prefix_iff_eq_take, mk_len]
  constructor
  · rintro ⟨h1, h2⟩
    exact (eq_of_beq h2).symm
  · intro h
    refine ⟨?_, beq_iff_eq.mpr h.symm⟩
    have := congrArg List.length h
    rw [List.length_take, List.length_drop] at this
    omega

theorem parts_split (s m : List Nat) (hm : 1 ≤ m.length) : ∀ (fuel i a f : Nat) (acc cuts : List Nat), ChainG ⟨s.toArray⟩ ⟨m.toArray⟩ s.length a cuts f → (∀ k, f ≤ k → ¬ At ⟨s.toArray⟩ ⟨m.toArray⟩ s.length k) → a ≤ i → i ≤ s.length →
    (∀ k, a ≤ k → k < i → ¬ At ⟨s.toArray⟩ ⟨m.toArray⟩ s.length k) → acc.reverse = (s.drop a).take (i - a) → s.length < i + fuel →
    (partsFrom ⟨s.toArray⟩ m.length a cuts).map (·.cps.toList) = splitS m fuel acc (s.drop i)
  | 0, i, a, f, acc, cuts, _, _, _, hi, _, _, hf => by omega
  | fuel + 1, i, a, f, acc, cuts, hG, hn, hai, hi, hno, hacc, hf => by
    have last : ∀ j, a ≤ j → j ≤ s.length → s.drop j = [] → (s.drop a).take (j - a) = s.drop a := by
      intro j h1 h2 h3
      have : j = s.length := by have := congrArg List.length h3; simp at this; omega
      subst this
      exact List.take_of_length_le (by simp)
    have wl : (⟨m.toArray⟩ : Str).length = m.length := mk_len m
    cases hr : s.drop i with
    | nil =>
      have hil : i = s.length := by have := congrArg List.length hr; simp at this; omega
      cases cuts with
      | cons c r =>
        obtain ⟨h1, h2, h3, h4⟩ := hG
        have := h2.1
        rw [wl] at this
        exact absurd h2 (hno c h1 (by omega))
      | nil =>
        (first | rewrite [splitS_q3] | rewrite [splitS_q2] | rewrite [splitS_q1])
        rw [hacc, last i hai hi hr]
        show [(strSub ⟨s.toArray⟩ a (⟨s.toArray⟩ : Str).length).cps.toList] = _
        rw [strSub_toList, mk_len]
        congr 1
        exact List.take_of_length_le (by simp)
    | cons x r =>
      have hlt : i < s.length := by have := congrArg List.length hr; simp at this; omega
      (first | rewrite [splitS_q3] | rewrite [splitS_q2] | rewrite [splitS_q1])
      by_cases hp : m.isPrefixOf (x :: r) = true
      · rw [if_pos hp]
        rw [← hr] at hp ⊢
        have hA := (at_prefix hi).mpr hp
        cases cuts with
        | nil =>
          have e : f = a := hG
          exact absurd hA (hn i (by omega))
        | cons c r' =>
          obtain ⟨h1, h2, h3, h4⟩ := hG
          have hc : c = i := by
            rcases Nat.lt_trichotomy c i with h | h | h
            · exact absurd h2 (hno c h1 h)
            · exact h
            · exact absurd hA (h3 i hai h)
          subst hc
          have hcm : c + m.length ≤ s.length := by have := hA.1; rw [wl] at this; exact this
          rw [wl] at h4
          rw [List.drop_drop]
          have ih := parts_split s m hm fuel (c + m.length) (c + m.length) f [] r' h4 hn (Nat.le_refl _) hcm (fun k h1 h2 => by omega) (by simp) (by omega)
          show (strSub ⟨s.toArray⟩ a c).cps.toList :: (partsFrom ⟨s.toArray⟩ m.length (c + m.length) r').map (·.cps.toList) = _
          rw [ih, strSub_toList, ← hacc]
      · rw [if_neg hp]
        have hnot : ¬ At ⟨s.toArray⟩ ⟨m.toArray⟩ s.length i := fun h => hp (hr ▸ (at_prefix hi).mp h)
        have hd : r = s.drop (i + 1) := by rw [← List.drop_drop, hr]; rfl
        rw [hd]
        refine parts_split s m hm fuel (i + 1) a f (x :: acc) cuts hG hn (by omega) hlt (fun k h1 h2 => ?_) ?_ (by omega)
        · by_cases hk : k < i
          · exact hno k h1 hk
          · have : k = i := by omega
            subst this; exact hnot
        · have e : i + 1 - a = (i - a) + 1 := by omega
          rw [List.reverse_cons, hacc, e]
          have hx : (s.drop a)[i - a]? = some x := by
            rw [List.getElem?_drop, show a + (i - a) = i by omega, ← List.head?_drop, hr]; rfl
          exact (List.take_succ_eq_append_getElem? hx).symm
where
  List.take_succ_eq_append_getElem? {α : Type} {l : List α} {n : Nat} {x : α} (h : l[n]? = some x) : l.take (n + 1) = l.take n ++ [x] := by
    rw [List.take_add_one, h]; rfl

set_option tactic.hygienic true
theorem split_is (s m : List Nat) (hm : 1 ≤ m.length) (h8 : m.all (Nat.blt · 256) = true) : (Txt.split ⟨s.toArray⟩ ⟨m.toArray⟩).map (·.cps.toList) = splitS m (s.length + 1) [] s := by
  obtain ⟨f, hG, hn⟩ := occ_tight ⟨s.toArray⟩ ⟨m.toArray⟩ (by rw [mk_len]; exact hm)
  rw [mk_len] at hG hn
  have key := parts_split s m hm (s.length + 1) 0 0 f [] _ hG hn (Nat.le_refl _) (Nat.zero_le _) (fun k _ h => by omega) (by simp) (by omega)
  rw [List.drop_zero] at key
  rw [← key]
  have whole : (strSub (⟨s.toArray⟩ : Str) 0 s.length).cps.toList = s := by rw [strSub_toList]; simp
  have nil : (occurrences ⟨s.toArray⟩ ⟨m.toArray⟩ 0 s.length (s.length + 1)) = [] → (partsFrom ⟨s.toArray⟩ m.length 0 (occurrences ⟨s.toArray⟩ ⟨m.toArray⟩ 0 s.length (s.length + 1))).map (·.cps.toList) = [s] := by
    intro h
    rw [h]
    show [(strSub (⟨s.toArray⟩ : Str) 0 (⟨s.toArray⟩ : Str).length).cps.toList] = _
    rw [mk_len, whole]
  have nk : ¬ Str.strKind ⟨s.toArray⟩ < Str.strKind ⟨m.toArray⟩ := by
    have e : Str.strKind ⟨m.toArray⟩ = 1 := by
      unfold Str.strKind
      rw [if_pos]
      rw [← Array.all_toList]
      simp only [List.all_eq_true, Nat.blt_eq] at h8
      simp only [List.all_eq_true, decide_eq_true_eq]
      exact h8
    rw [e]
    unfold Str.strKind
    split
    · omega
    · split <;> omega
  unfold Txt.split
  rw [mk_len, mk_len]
  split
  · rename_i hc
    rw [Bool.or_eq_true, decide_eq_true_eq, decide_eq_true_eq] at hc
    rcases hc with hc | hc
    · refine Eq.trans (by rfl) (nil ?_).symm
      cases hcut : occurrences (⟨s.toArray⟩ : Str) ⟨m.toArray⟩ 0 s.length (s.length + 1) with
      | nil => rfl
      | cons c r =>
        rw [hcut] at hG
        have := hG.2.1.1
        rw [mk_len] at this
        omega
    · exact absurd hc nk
  · split
    · rename_i he
      exact (nil (List.isEmpty_iff.mp he)).symm
    · rw [partsBetween_eq]

set_option tactic.hygienic false
theorem at_one (s : List Nat) (c k : Nat) : At ⟨s.toArray⟩ ⟨#[c]⟩ s.length k ↔ s[k]? = some c := by
  have := subAt_one ⟨s.toArray⟩ c k
  rw [mk_len] at this
  exact this
theorem cuts_end {s : List Nat} {c i a f : Nat} {cuts : List Nat} (hG : ChainG ⟨s.toArray⟩ ⟨#[c]⟩ s.length a cuts f) (hno : ∀ k, a ≤ k → k < i → ¬ At ⟨s.toArray⟩ ⟨#[c]⟩ s.length k) (hl : s.length ≤ i) : cuts.length = countS c (s.drop i) := by
  rw [List.drop_eq_nil_of_le hl]
  cases cuts with
  | nil => rfl
  | cons d r => exact absurd hG.2.1 (hno d hG.1 (Nat.lt_of_lt_of_le (List.getElem?_eq_some_iff.mp ((at_one s c d).mp hG.2.1)).1 hl))
theorem cuts_head {s : List Nat} {c i a f : Nat} {cuts : List Nat} (hG : ChainG ⟨s.toArray⟩ ⟨#[c]⟩ s.length a cuts f) (hn : ∀ k, f ≤ k → ¬ At ⟨s.toArray⟩ ⟨#[c]⟩ s.length k) (hai : a ≤ i)
    (hno : ∀ k, a ≤ k → k < i → ¬ At ⟨s.toArray⟩ ⟨#[c]⟩ s.length k) (hA : At ⟨s.toArray⟩ ⟨#[c]⟩ s.length i) : ∃ r, cuts = i :: r ∧ ChainG ⟨s.toArray⟩ ⟨#[c]⟩ s.length (i + 1) r f := by
  cases cuts with
  | nil => have e : f = a := hG; exact absurd hA (hn i (e ▸ hai))
  | cons d r =>
    have hc : d = i := by
      rcases Nat.lt_trichotomy d i with h | h | h
      · exact absurd hG.2.1 (hno d hG.1 h)
      · exact h
      · exact absurd hA (hG.2.2.1 i hai h)
    subst hc
    exact ⟨r, rfl, hG.2.2.2⟩
theorem cuts_count (s : List Nat) (c : Nat) : ∀ (fuel i a f : Nat) (cuts : List Nat), ChainG ⟨s.toArray⟩ ⟨#[c]⟩ s.length a cuts f → (∀ k, f ≤ k → ¬ At ⟨s.toArray⟩ ⟨#[c]⟩ s.length k) → a ≤ i →
    (∀ k, a ≤ k → k < i → ¬ At ⟨s.toArray⟩ ⟨#[c]⟩ s.length k) → s.length ≤ i + fuel → cuts.length = countS c (s.drop i)
  | 0, i, a, f, cuts, hG, hn, hai, hno, hf => cuts_end hG hno hf
  | fuel + 1, i, a, f, cuts, hG, hn, hai, hno, hf => by
    rcases Nat.lt_or_ge i s.length with hlt | hge
    · have hf' : s.length ≤ i + 1 + fuel := by rw [Nat.add_assoc, Nat.add_comm 1]; exact hf
      rw [List.drop_eq_getElem_cons hlt]
      (first | rewrite [countS_q2] | rewrite [countS_q1])
      cases hxc : (s[i] == c) with
      | true =>
        have hA := (at_one s c i).mpr ((List.getElem?_eq_getElem hlt).trans (congrArg some (eq_of_beq hxc)))
        obtain ⟨r, rfl, h4⟩ := cuts_head hG hn hai hno hA
        rw [List.length_cons, cuts_count s c fuel (i + 1) (i + 1) f r h4 hn (Nat.le_refl _) (fun k h1 h2 => absurd h2 (Nat.not_lt.mpr h1)) hf']
        exact Nat.add_comm _ _
      | false =>
        rw [if_neg Bool.false_ne_true, Nat.zero_add]
        refine cuts_count s c fuel (i + 1) a f cuts hG hn (Nat.le_succ_of_le hai) (fun k h1 h2 hA => ?_) hf'
        rcases Nat.lt_or_eq_of_le (Nat.le_of_lt_succ h2) with hk | rfl
        · exact hno k h1 hk hA
        · rw [at_one, List.getElem?_eq_getElem hlt] at hA
          cases hA
          rw [beq_self_eq_true] at hxc
          cases hxc
    · exact cuts_end hG hno hge

theorem count_is (s : List Nat) (c : Nat) : Txt.count ⟨s.toArray⟩ ⟨#[c]⟩ = (countS c s : Nat) := by
  obtain ⟨f, hG, hn⟩ := occ_tight ⟨s.toArray⟩ ⟨#[c]⟩ (Nat.le_refl _)
  rw [mk_len] at hG hn
  have key := cuts_count s c s.length 0 0 f _ hG hn (Nat.le_refl _) (fun k _ h => by omega) (by omega)
  rw [List.drop_zero] at key
  unfold Txt.count
  rw [mk_len, key]

theorem join_is (sep : List Nat) : ∀ ss : List (List Nat), Txt.join ⟨sep.toArray⟩ (ss.map fun s => (⟨s.toArray⟩ : Str)) = ⟨(joinS sep ss).toArray⟩ := by
  intro ss
  show glued _ _ = _
  rw [StrLaws.glued_eq_join]
  induction ss with
  | nil => rfl
  | cons x r ih =>
    cases r with
    | nil => rfl
    | cons y r =>
      show (⟨x.toArray⟩ : Str) ++ ⟨sep.toArray⟩ ++ Str.join _ _ = _
      rw [ih, str_app, str_app, List.append_assoc]
      rfl

theorem sumLen_is : ∀ ss : List (List Nat), ((ss.map fun s => (⟨s.toArray⟩ : Str)).map (·.length)).sum = sumLen ss
  | [] => rfl
  | x :: l => by
    rw [List.map_cons, List.map_cons, List.sum_cons, sumLen_is l, mk_len]; rfl

theorem countI_is (a : Int) : ∀ l : List Int, countI a l = l.count a
  | [] => rfl
  | x :: l => by
    rw [countI_q2, countI_is a l, List.count_cons]
    omega

section
variable {P : Par} {ρ ρ' : List Addr} {σ σ' : Sto} {s s' : Shared} {A : Around} {E : Value → Shared → Prop} {ns : Names} {ℓ : Loc} {env : Env} {n k : Nat} {r : Rec} {v : AV}

theorem strVals_rvs {h : Heap} : ∀ (l : List (Str × Tok)), RVs P ρ h (((l.map (·.1)).map (·.cps.toList)).map .str) (strValues l)
  | [] => rfl
  | (x, t) :: l => ⟨.str x t, strValues l, rfl, ⟨t, rfl⟩, strVals_rvs l⟩

theorem bels_strs (m : Nat) : ∀ l : List (List Nat), bels m (l.map .str) = true
  | [] => rfl
  | _ :: l => by simp only [List.map_cons, belsC, belS, bels_strs m l, Bool.and_self]

theorem split_ok {x m : List Nat} {t u : Tok} (I : Inv P ρ σ s.heap) (hm : 1 ≤ m.length) (h8 : m.all (Nat.blt · 256) = true) (hx : x.length ≤ lim) :
    wpAny P.M A (call (.builtin "str.split") [.str ⟨x.toArray⟩ t, .str ⟨m.toArray⟩ u]) (EPost P ρ (σ ++ [.list ((splitS m (x.length + 1) [] x).map .str)]) s (.ref σ.length)) E s := by
  have sp := split_is x m hm h8
  have fin : ∀ (l : List (Str × Tok)) (tk : Nat), l.map (·.1) = Txt.split ⟨x.toArray⟩ ⟨m.toArray⟩ →
      EPost P ρ (σ ++ [.list ((splitS m (x.length + 1) [] x).map .str)]) s (.ref σ.length) (.ref s.heap.objs.size) { s with heap := s.heap.push { cls := .type "list", data := .seq (strValues l).toArray }, toks := tk } := by
    intro l tk e
    have := strVals_rvs (P := P) (ρ := ρ) (h := s.heap) l
    rw [e, sp] at this
    exact .pushList I (by simpa using this) (bels_strs _ _)
  have hy : ((⟨m.toArray⟩ : Str).length == 0) = false := by rw [mk_len]; simp; intro e; subst e; simp at hm
  have hxl : (⟨x.toArray⟩ : Str).length ≤ sizeLine := by rw [mk_len]; unfold lim at hx; show _ ≤ 2 ^ 24; omega
  cases h1 : (decide ((⟨x.toArray⟩ : Str).length < (⟨m.toArray⟩ : Str).length) || decide (Str.strKind ⟨x.toArray⟩ < Str.strKind ⟨m.toArray⟩))
  · cases hf : (occurrences (⟨x.toArray⟩ : Str) ⟨m.toArray⟩ 0 (⟨x.toArray⟩ : Str).length ((⟨x.toArray⟩ : Str).length + 1)).isEmpty
    · have hpl : (partsBetween (⟨x.toArray⟩ : Str) (occurrences ⟨x.toArray⟩ ⟨m.toArray⟩ 0 (⟨x.toArray⟩ : Str).length ((⟨x.toArray⟩ : Str).length + 1)) (⟨m.toArray⟩ : Str).length).length ≤ sizeLine := by
        rw [partsBetween_eq]
        have h2 := occ_length_le (⟨x.toArray⟩ : Str) ⟨m.toArray⟩ 0 (⟨x.toArray⟩ : Str).length ((⟨x.toArray⟩ : Str).length + 1)
        have h3 : ∀ (x : Str) (w a : Nat) (cuts : List Nat), (partsFrom x w a cuts).length = cuts.length + 1 := by
          intro x w a cuts
          induction cuts generalizing a with
          | nil => rfl
          | cons c r ih => show (partsFrom x w _ r).length + 1 = _; rw [ih]; rfl
        rw [h3]
        have : (⟨x.toArray⟩ : Str).length ≤ lim := by rw [mk_len]; exact hx
        unfold lim at this; show _ ≤ 2 ^ 24; omega
      refine call_meets F.slot_str_split (typeIs_str _ _ _) F.entry_str_split (F.args_str_split_2 _ _) (meets_str_split_sep _ _ t u h1 hy hf hxl hpl) ?_
      show wants _ E _ { s with toks := _, heap := s.heap.push { cls := .type "list", data := .seq (strsFrom s.toks (partsBetween (⟨x.toArray⟩ : Str) (occurrences ⟨x.toArray⟩ ⟨m.toArray⟩ 0 (⟨x.toArray⟩ : Str).length ((⟨x.toArray⟩ : Str).length + 1)) (⟨m.toArray⟩ : Str).length)).toArray } }
      rw [strsFrom_eq]
      exact fin (numbered s.toks _) _ ((numbered_texts _ _).trans ((if_neg (ne_true_of_eq_false h1)).trans (if_neg (ne_true_of_eq_false hf))).symm)
    · exact call_meets F.slot_str_split (typeIs_str _ _ _) F.entry_str_split (F.args_str_split_2 _ _) (meets_str_split_not_found _ _ t u h1 hy hf)
        (fin [(⟨x.toArray⟩, t)] s.toks ((if_neg (ne_true_of_eq_false h1)).trans (if_pos hf)).symm)
  · exact call_meets F.slot_str_split (typeIs_str _ _ _) F.entry_str_split (F.args_str_split_2 _ _) (meets_str_split_cannot_occur _ _ t u h1)
      (fin [(⟨x.toArray⟩, t)] s.toks (if_pos h1).symm)

theorem str_eqv (x t : List Nat) : ((⟨x.toArray⟩ : Str) == ⟨t.toArray⟩) = (x == t) := by
  rw [Bool.eq_iff_iff, beq_iff_eq, beq_iff_eq]
  constructor
  · intro e; injection e with e; simpa using e
  · rintro rfl; rfl

set_option tactic.hygienic true
theorem index_at {t : List Nat} : ∀ (ss : List (List Nat)) (vs : List Value) (k : Nat), StrsAre vs (ss.map fun s => (⟨s.toArray⟩ : Str)) → indexS t ss = some k →
    ∃ h : k < vs.length, isStrOf ⟨t.toArray⟩ vs[k] = true ∧ ∀ m (hm : m < vs.length), m < k → isStrOf ⟨t.toArray⟩ vs[m] = false
  | [], _, _, _, h => by cases h
  | x :: ss, [], k, r, h => nomatch r
  | x :: ss, v :: vs, k, r, h => by
    rw [List.map_cons] at r
    generalize hy : (⟨x.toArray⟩ : Str) = y at r
    cases r with
    | cons y u r =>
      subst hy
      (first | rewrite [indexS_q2] at h | rewrite [indexS_q1] at h)
      split at h
      · rename_i hx
        cases h
        refine ⟨Nat.succ_pos _, ?_, fun m _ h => absurd h (Nat.not_lt_zero _)⟩
        show ((⟨x.toArray⟩ : Str) == ⟨t.toArray⟩) = true
        rw [str_eqv]; exact hx
      · rename_i hx
        split at h
        · rename_i k' hk
          cases h
          obtain ⟨h1, h2, h3⟩ := index_at ss vs k' r hk
          refine ⟨Nat.succ_lt_succ h1, h2, fun m hm hlt => ?_⟩
          cases m with
          | zero =>
            show ((⟨x.toArray⟩ : Str) == ⟨t.toArray⟩) = false
            rw [str_eqv]; simpa using hx
          | succ m => exact h3 m (by simpa using hm) (by omega)
        · cases h

set_option tactic.hygienic false
theorem eq_isStr (k : List Nat) (t : Tok) : ∀ {vs : List Value} {ys : List Str}, StrsAre vs ys → ∀ y, y ∈ vs → MeetsSeq.EqGives y (.str ⟨k.toArray⟩ t) (isStrOf ⟨k.toArray⟩ y)
  | _, _, .nil, y, h => nomatch h
  | _, _, .cons x u r, y, h => by
    rcases List.mem_cons.mp h with rfl | h
    · exact eqGives_str _ _ _ _
    · exact eq_isStr k t r y h

theorem PlainList.update_app {h : Heap} {a : Addr} {vs : Array Value} {m : Nat} (f : Array Value → Array Value) (ho : h.get? a = some { cls := .type "list", data := .seq vs m }) :
    (h.update a (Obj.mapSeq f)).PlainList a (f vs) := by
  refine ⟨if (f vs).size == vs.size then m else m + 1, (Heap.get?_update_self _ ho (by simp [Obj.mapSeq, Obj.isFreed])).trans ?_⟩
  simp only [Obj.mapSeq]

theorem kp_update {h : Heap} {a : Addr} {f : Obj → Obj} : Kp [a] h (h.update a f) := fun b o e hb => ((Heap.SameBut.update ..).2 b (by simpa using hb)).trans e

noncomputable def methId : MK → AV → String
  | .append, _ => "list.append" | .extend, _ => "list.extend" | .index, _ => "list.index"
  | .count, .str _ => "str.count" | .count, _ => "list.count" | .join, _ => "str.join" | .split, _ => "str.split"

theorem app_ok {i : Nat} {l : List AV} {w : AV} {ov xv : Value} (hl : listOf? σ i = some l) (hb : (bel i w && Nat.ble l.length lim) = true) (I : Inv P ρ σ s.heap) (ro : RV P ρ s.heap (.ref i) ov) (rx : RV P ρ s.heap w xv) :
    wpAny P.M A (call (.builtin "list.append") [ov, xv]) (EPost P ρ (setAt σ i (l ++ [w])) s .none) E s := by
  obtain ⟨hb1, hb2⟩ := andB hb
  refine list_elim I hl ro fun a vs ha p q b hlen => ?_
  refine wpAny_list_append_plain p (fun h' hp hs => ?_) (by rw [hlen]; exact Nat.le_trans (ble_lim hb2) (by decide))
  refine EPost.setList I ha (fun b' o eo hb' => (hs.2 b' fun e => hb' (List.mem_singleton.mpr e)).trans eo) hp ?_ ?_ (by rfl)
  · rw [Array.toList_push]; exact q.app ⟨xv, [], rfl, rx, rfl⟩
  · rw [bels_app, b]; simp only [belsN, belsC, hb1, Bool.and_self]

theorem ext_ok {i j : Nat} {l l' : List AV} {ov xv : Value} (hl : listOf? σ i = some l) (hl' : listOf? σ j = some l') (hb : (i != j && bels i l' && Nat.ble (l.length + l'.length) lim) = true) (I : Inv P ρ σ s.heap) (ro : RV P ρ s.heap (.ref i) ov) (rx : RV P ρ s.heap (.ref j) xv) :
    wpAny P.M A (call (.builtin "list.extend") [ov, xv]) (EPost P ρ (setAt σ i (l ++ l')) s .none) E s := by
  obtain ⟨hb1, hb2⟩ := andB hb
  refine list_elim I hl ro fun a vs ha p q b h1 => list_elim I hl' rx fun a' vs' ha' p' q' b' h2 => ?_
  obtain ⟨m1, p⟩ := p
  obtain ⟨m2, p'⟩ := p'
  have hfit : vs.size + vs'.size ≤ 1048576 := by rw [h1, h2]; exact ble_lim hb2
  have h1 : ¬(!vs.isEmpty && Builtin.List.listTooLong (vs.size + vs'.size)) = true := fun h => by
    have : vs.size + vs'.size > 2 ^ 24 := of_decide_eq_true (andB h).2
    omega
  refine call_meets PySem.F.slot_list_extend ⟨_, p, rfl⟩ PySem.F.entry_list_extend (PySem.F.args_list_extend_2 _ _) (PySem.AutoSeq1.list_extend_list_list_0 a vs m1 a' vs' m2 h1 (by show _ ≤ 2 ^ 24; omega) (by show _ ≤ 2 ^ 24 + 1; omega)) ⟨p, p', ?_⟩
  refine EPost.setList I ha kp_update (PlainList.update_app _ p) ?_ ?_ (by rfl)
  · rw [Array.toList_append]; exact q.app q'
  · rw [bels_app, b, (andB hb1).2]; rfl

theorem index_ok {i k : Nat} {l : List AV} {t : List Nat} {ss : List (List Nat)} {u : Tok} {ov : Value} (hl : listOf? σ i = some l) (hss : asStrs l = some ss) (hk : indexS t ss = some k) (hb : Nat.ble l.length lim = true) (I : Inv P ρ σ s.heap) (ro : RV P ρ s.heap (.ref i) ov) :
    wpAny P.M A (call (.builtin "list.index") [ov, .str ⟨t.toArray⟩ u]) (EPost P ρ σ s (.int k)) E s := by
  refine list_elim I hl ro fun a vs ha p q b hlen => ?_
  obtain ⟨m1, p⟩ := p
  have hi := asStrs_are hss q
  obtain ⟨h1, h2, h3⟩ := index_at ss vs.toList k hi hk
  rw [Array.length_toList] at h1
  have := ble_lim hb
  refine call_meets PySem.F.slot_list_index ⟨_, p, rfl⟩ PySem.F.entry_list_index (PySem.F.args_list_index_2 _ _)
    (MeetsSeq.list_index a vs m1 _ (isStrOf ⟨t.toArray⟩) (fun y hy => eq_isStr t u hi y (by simpa using hy)) k h1 (by omega) (by rw [← Array.getElem_toList]; exact h2) (fun m hm hlt => by rw [← Array.getElem_toList]; exact h3 m (by simpa using hm) hlt)) ⟨p, int_here I⟩

theorem join_ok {i : Nat} {l : List AV} {sep : List Nat} {ss : List (List Nat)} {ov xv : Value} (hl : listOf? σ i = some l) (hss : asStrs l = some ss) (hb : Nat.ble (sumLen ss + sep.length * ss.length) lim = true) (I : Inv P ρ σ s.heap) (ro : RV P ρ s.heap (.str sep) ov) (rx : RV P ρ s.heap (.ref i) xv) :
    wpAny P.M A (call (.builtin "str.join") [ov, xv]) (EPost P ρ σ s (.str (joinS sep ss))) E s := by
  refine str_elim ro fun t => list_elim I hl rx fun a vs ha p q b _ => ?_
  refine join_list p.isList (asStrs_are hss q) ?_ fun t' k => ?_
  · rw [sumLen_is, List.length_map, mk_len, Nat.mul_comm]
    exact Nat.le_trans (ble_lim hb) (by decide)
  · rw [join_is]; exact str_here I

theorem meth_ok {m : MK} {o : AV} {ov : Value} {args : List AV} {vals : List Value} (e : method m o args σ = some (v, σ')) (I : Inv P ρ σ s.heap) (ro : RV P ρ s.heap o ov) (r : RVs P ρ s.heap args vals) :
    wpAny P.M A (call (.builtin (methId m o)) (ov :: vals)) (EPost P ρ σ' s v) E s := by
  revert ro r
  cases m with
  | append =>
    refine oR_elim e fun i e => oOne_elim e fun x e ro r => rv1_elim r fun w r1 => oO_elim e fun l hl e => iN_elim e fun hb e => ret_elim e ?_
    exact app_ok hl hb I ro r1
  | extend =>
    refine oR_elim e fun i e => oOne_elim e fun w e => oR_elim e fun j e ro r => rv1_elim r fun w r1 => oO_elim e fun l hl e => oO_elim e fun l' hl' e => iN_elim e fun hb e => ret_elim e ?_
    exact ext_ok hl hl' hb I ro r1
  | index =>
    refine oR_elim e fun i e => oOne_elim e fun w e => oS_elim e fun t e ro r => rv1_elim r fun w r1 => oO_elim e fun l hl e => oO_elim e fun ss hss e => oO_elim e fun k hk e => iN_elim e fun hb e => ret_elim e ?_
    exact str_elim r1 fun u => index_ok hl hss hk hb I ro
  | count =>
    refine oOne_elim e fun w e => ?_
    replace e : mCount o w σ = some (v, σ') := e
    cases o with
    | ref i =>
      refine oI_elim e fun a e ro r => rv1_elim r fun w r1 => oO_elim e fun l hl e => oO_elim e fun nn hnn e => ret_elim e ?_
      refine int_elim r1 fun u => list_elim I hl ro fun ad vs ha p q b _ => ?_
      refine count_list_ints (Array.toArray_toList ▸ p.isList) (asInts_are hnn q) ?_
      rw [← countI_is]
      exact int_here I
    | str s' =>
      refine oS_elim e fun t e => ?_
      rcases t with _ | ⟨c, _ | ⟨c2, t⟩⟩
      · exact noS e
      · intro ro r
        refine ret_elim e (rv1_elim r fun w r1 => str_elim r1 fun u => str_elim ro fun t => SC.count ?_)
        rw [show (⟨[c].toArray⟩ : Str) = ⟨#[c]⟩ from rfl, count_is]
        exact int_here I
      · exact noS e
    | _ => exact noS e
  | join =>
    refine oS_elim e fun sep e => oOne_elim e fun w e => oR_elim e fun i e ro r => rv1_elim r fun w r1 => oO_elim e fun l hl e => oO_elim e fun ss hss e => iN_elim e fun hb e => ret_elim e ?_
    exact join_ok hl hss hb I ro r1
  | split =>
    refine oS_elim e fun s' e => oOne_elim e fun w e => oS_elim e fun t e ro r => rv1_elim r fun w r1 => iM_elim e fun hb e => iN_elim e fun hx e => ret_elim e ?_
    refine str_elim r1 fun u => str_elim ro fun t' => ?_
    obtain ⟨hb1, hb2⟩ := Bool.or_eq_false_iff.mp hb
    refine split_ok I ?_ (by simpa using hb2) (Nat.le_of_ble_eq_true hx)
    cases t with
    | nil => cases hb1
    | cons _ _ => exact Nat.succ_le_succ (Nat.zero_le _)

end

end Mine
end
section
namespace Mine
open PySem PySem.W PyProof.Rows

section
variable {P : Par} {ρ ρ' : List Addr} {σ σ' : Sto} {s s' : Shared} {A : Around} {E : Value → Shared → Prop} {ns : Names} {ℓ : Loc} {env : Env} {n k : Nat} {r : Rec} {v : AV}

theorem attrBase_plain {o : Expr} {name : Str} {w : Sem Value} (h : isCallE o = false) : attributeBase o name env w = w := by
  cases o <;> first | rfl | cases h

theorem methCall {M : Model} {o : Expr} {name : Str} {apos pos : Pos} {es : List Expr} {is : List IE} {Q : Value → Shared → Prop} (hc : isCallE o = false) (hl : (apos.endLine == pos.line) = true) (hn : es.length < 20) (hi : allP (isE T k ns) es is = true)
    (h : wpAny M A (eval o env) (fun ov s₁ => ∀ pl, wpAny M A (getMethod ov name pl) (fun p s₂ => wpAny M A (callWith pos p.1 p.2 (backTo pos (starEach es env)) []) Q E s₂) E s₁) E s) :
    wpAny M A (eval (.Call (.Attribute o name apos) es [] pos) env) Q E s := by
  rw [arm_eval_Call, attrBase_plain hc]
  refine wpAny_bind (wpAny_mono h (fun ov s₁ h₁ => ?_) fun _ _ e => e)
  refine wpAny_bind (wpAny_standAt ?_)
  have hform : methodCallForm (es.length + ([] : List Keyword).length) (backTo pos (starEach es env)) (backToKw pos (keywordEach [] env)) = true := by
    unfold methodCallForm
    rw [(star_plain hi).2]
    show (true && true && decide (es.length + 0 + 0 < 30)) = true
    simp only [Bool.true_and, decide_eq_true_eq]
    omega
  have hpos : methodCallPos true o env apos pos = pure pos := by unfold methodCallPos; simp [hl]
  unfold methodCall
  rw [hform]
  refine wpAny_bind (wpAny_holding (wpAny_mono (h₁ _) (fun p s₂ h₂ => ?_) fun _ _ e => e))
  exact wpAny_bind (wpAny_of_eq hpos h₂)

theorem strT {x : Value} {w : List Nat} (r : RV P ρ s.heap (.str w) x) : s.TypeIs x "str" ∧ ∀ b, x = .ref b → ∃ o, s.heap.get? b = some o ∧ o.dict = none :=
  str_elim r fun _ => ⟨typeIs_str _ _ _, fun _ e => nomatch e⟩
theorem listT {x : Value} {i : Nat} (I : Inv P ρ σ s.heap) (r : RV P ρ s.heap (.ref i) x) (hm : hasMeth (.ref i) σ = true) : s.TypeIs x "list" ∧ ∀ b, x = .ref b → ∃ o, s.heap.get? b = some o ∧ o.dict = none := by
  obtain ⟨l, hl⟩ := Option.isSome_iff_exists.mp hm
  refine list_elim I hl r fun a vs _ p _ _ _ => ?_
  obtain ⟨q, p⟩ := p
  exact ⟨⟨_, p, rfl⟩, fun b e => by cases e; exact ⟨_, p, rfl⟩⟩

theorem getMeth_ok {m : MK} {x : AV} {xv : Value} {vs : List AV} {σ2 : Sto} {pl : Sem Bool} {Q : Value × List Value → Shared → Prop} (e : method m x vs σ2 = some (v, σ')) (hm : hasMeth x σ = true) (I : Inv P ρ σ s.heap) (rx : RV P ρ s.heap x xv)
    (q : Q (.builtin (methId m x), [xv]) s) : wpAny P.M A (getMethod xv (mkName m) pl) Q E s := by
  revert hm rx q
  cases m with
  | append =>
    refine oR_elim e fun i _ hm rx q => ?_
    exact getMethod_builtin (listT I rx hm).1 PySem.F.plainAttrs_list PySem.F.slot_list_append PySem.F.type_list_append (listT I rx hm).2 q
  | extend =>
    refine oR_elim e fun i _ hm rx q => ?_
    exact getMethod_builtin (listT I rx hm).1 PySem.F.plainAttrs_list PySem.F.slot_list_extend PySem.F.type_list_extend (listT I rx hm).2 q
  | index =>
    refine oR_elim e fun i _ hm rx q => ?_
    exact getMethod_builtin (listT I rx hm).1 PySem.F.plainAttrs_list PySem.F.slot_list_index PySem.F.type_list_index (listT I rx hm).2 q
  | count =>
    obtain ⟨w, e'⟩ : ∃ w, mCount x w σ2 = some (v, σ') := oOne_elim (motive := fun _ => ∃ w, mCount x w σ2 = some (v, σ')) e fun w e => ⟨w, e⟩
    cases x with
    | ref i =>
      intro hm rx q
      exact getMethod_builtin (listT I rx hm).1 PySem.F.plainAttrs_list PySem.F.slot_list_count PySem.F.type_list_count (listT I rx hm).2 q
    | str s' =>
      intro hm rx q
      exact getMethod_builtin (strT rx).1 PySem.F.plainAttrs_str PySem.F.slot_str_count PySem.F.type_str_count (strT rx).2 q
    | _ => exact noS e'
  | join =>
    refine oS_elim e fun s' _ hm rx q => ?_
    exact getMethod_builtin (strT rx).1 PySem.F.plainAttrs_str PySem.F.slot_str_join PySem.F.type_str_join (strT rx).2 q
  | split =>
    refine oS_elim e fun s' _ hm rx q => ?_
    exact getMethod_builtin (strT rx).1 PySem.F.plainAttrs_str PySem.F.slot_str_split PySem.F.type_str_split (strT rx).2 q

theorem c_meth (S : Sound P T n r) {m : MK} {o a : IE} {vl e1' : Expr} {nm : Str} {apos pos : Pos} (e : stepE ft init r (.meth m o [a]) ℓ σ = some (v, σ')) (hx : nm = mkName m) (hc : isCallE vl = false) (hl : (apos.endLine == pos.line) = true)
    (h1 : isE T k ns vl o = true) (h2 : isE T k ns e1' a = true) (F : FrameR P ρ ns ℓ env s.heap) (I : Inv P ρ σ s.heap) (hA : AOk n A) : wpAny P.M A (eval (.Call (.Attribute vl nm apos) [e1'] [] pos) env) (EPost P ρ σ' s v) E s := by
  refine oP_elim e fun x σ1 ea e => iN_elim e fun hm e => oP_elim e fun vs σ2 eb e => ?_
  subst hx
  have hi : allP (isE T k ns) [e1'] [a] = true := allP1 h2
  refine methCall hc hl (by decide : 1 < 20) hi (e1 S ea h1 F I hA fun ρ1 s1 xv m1 I1 F1 r1 pl => ?_)
  refine getMeth_ok e hm I1 r1 ?_
  refine Calls.callWith_builtin (star_plain hi).1 (argsL S eb hi F1 I1 hA fun ρ2 s2 xs m2 I2 F2 r2 => ?_)
  exact wp_then (m1.trans I1 m2) I2 (meth_ok e I2 (r1.mvE I1 m2) r2)

theorem lookIn_of_ns {h : Heap} {a : Addr} {m : Str → Option Value} {name : Str} {y : Value} (n : h.Ns a m) (e : m name = some y) : ∃ od, h.get? a = some od ∧ lookIn name od = some (some y) := by
  obtain ⟨o, es, ep, ho, hd, _, hm⟩ := n
  refine ⟨o, ho, ?_⟩
  rw [← hm name] at e
  unfold nsFind findBy at e
  rw [← Array.find?_toList] at e
  unfold lookIn
  rw [hd]
  dsimp only at e ⊢
  cases he : es.toList.find? (fun e => e.key.isStr name) with
  | none => rw [he] at e; cases e
  | some en => rw [he] at e; cases e; rfl

theorem G_X (G : GF P T ft init) (I : Inv P ρ σ s.heap) : P.K.In s.heap := fun a o e => I.keep _ _ (G.X a o e)

theorem findObj_own (G : GF P T ft init) {od : Obj} {f : FK} {y : Value} (h : lookIn (fkName f) od = some (some y)) : findObj P.K P.C (some od) (fkName f) = some (.value y) := by
  have h1 := G.noCls f
  have h2 := G.hasD
  unfold findObj
  cases hc : clsIn P.K P.C with
  | none => rw [hc] at h2; cases h2
  | some cd =>
    rw [hc] at h2
    rw [h1]
    simp only [Option.bind_some]
    unfold W.ownOf
    rw [if_pos (by simpa using h2)]
    dsimp only
    rw [h]
    rfl

/-- a field of an object -/
theorem getAttr_ok (G : GF P T ft init) {a D : Addr} {od : Obj} {f : FK} {y : Value} {Q : Value → Shared → Prop} (I : Inv P ρ σ s.heap) (i : InstAt s.heap a (instObj P.C D) P.C (some od)) (h : lookIn (fkName f) od = some (some y)) (hh : handedIn y = true)
    (q : Q y { s with toks := s.toks + 1 }) : wpAny P.M A (getAttr (.ref a) (fkName f) true) Q E s :=
  get_value (G_X G I) i G.ga (findObj_own G h) hh q

theorem RV.handed {h : Heap} {x : AV} {y : Value} (r : RV P ρ h x y) : handedIn y = true := by
  cases x with
  | none => cases r; rfl
  | bool _ => cases r; rfl
  | int _ => obtain ⟨t, rfl⟩ := r; rfl
  | str _ => obtain ⟨t, rfl⟩ := r; rfl
  | tup _ => obtain ⟨a, vs, rfl, _⟩ := r; rfl
  | ref _ => obtain ⟨a, rfl, _⟩ := r; rfl
  | frz _ => obtain ⟨a, vs, rfl, _⟩ := r; rfl
  | inst _ => obtain ⟨a, D, od, rfl, _⟩ := r; rfl
  | self _ => obtain ⟨a, D, rfl, _⟩ := r; rfl

theorem wsField_ok {h : Heap} {od : Obj} {w : WS} (ok : InstOk h od w) (f : FK) : ∃ y, lookIn (fkName f) od = some (some y) ∧ RV P ρ h (wsField w f) y := by
  obtain ⟨⟨t1, h1⟩, ⟨t2, h2⟩, ⟨t3, h3⟩, ⟨a, x, t, h4, h5, ⟨b, vs, rfl, h6, h7⟩⟩, h8⟩ := ok
  cases f with
  | raw => exact ⟨_, h1, t1, rfl⟩
  | n => exact ⟨_, h2, t2, rfl⟩
  | nt => exact ⟨_, h3, t3, rfl⟩
  | norm => exact ⟨_, h4, a, _, rfl, h5, _, _, rfl, ⟨b, vs, rfl, h6, RVs.of_ints h7⟩, _, _, rfl, ⟨t, rfl⟩, rfl⟩
  | simple => exact ⟨_, h8, rfl⟩

theorem nsOf_at {i : Nat} {fs : List (Str × AV)} (e : nsOf? σ i = some fs) : σ[i]? = some (.ns fs) := by
  unfold nsOf? at e
  cases h : σ[i]? with
  | none => rw [h] at e; cases e
  | some o =>
    rw [h] at e
    cases o with
    | list l => cases e
    | ns l => cases e; rfl
theorem c_attr (G : GF P T ft init) (S : Sound P T n r) {f : FK} {o : IE} {vl : Expr} {nm : Str} {pos : Pos} (e : stepE ft init r (.attr f o) ℓ σ = some (v, σ')) (hx : nm = fkName f) (hc : isCallE vl = false)
    (h1 : isE T k ns vl o = true) (F : FrameR P ρ ns ℓ env s.heap) (I : Inv P ρ σ s.heap) (hA : AOk n A) : wpAny P.M A (eval (.Attribute vl nm pos) env) (EPost P ρ σ' s v) E s := by
  have he : eval (.Attribute vl nm pos) env = (do
      let o ← eval vl env
      standAt pos.atName
      let r ← holding [o] (getAttr o nm true)
      letTemporaryGo vl o r
      pure r) := by rw [arm_eval_Attribute, attrBase_plain hc]
  subst hx
  refine oP_elim e fun x σ1 ea e => Attribute_any_ (e1 S ea h1 F I hA fun ρ1 s1 xv m1 I1 F1 r1 => ?_) he
  revert r1
  cases x with
  | inst w =>
    intro r1
    refine ret_elim (motive := fun v σ' => wpAny P.M A (getAttr xv (fkName f) true) (EPost P ρ σ' s v) E s1) e ?_
    obtain ⟨a, D, od, rfl, i, hD, ok⟩ := r1
    obtain ⟨y, hy, ry⟩ := wsField_ok (P := P) (ρ := ρ1) ok f
    exact getAttr_ok G I1 i hy ry.handed ((EPost.here I1 ry _).then m1 I1)
  | self i =>
    intro r1
    refine oO_elim e fun fs hs e => oO_elim e fun u hu e => ret_elim (motive := fun v σ' => wpAny P.M A (getAttr xv (fkName f) true) (EPost P ρ σ' s v) E s1) e ?_
    obtain ⟨a, D, rfl, hob, hD⟩ := r1
    obtain ⟨D', hD', m, hm, hf, _⟩ := I1.at (nsOf_at hs)
    rw [hD] at hD'; cases hD'
    have := hf (fkName f)
    rw [hu] at this
    obtain ⟨y, hy, ry⟩ := this
    obtain ⟨od, hod, hl⟩ := lookIn_of_ns hm hy
    exact getAttr_ok G I1 ⟨hob, rfl, rfl, hod⟩ hl ry.handed ((EPost.here I1 ry _).then m1 I1)
  | _ => exact noS e

theorem c_wsS (G : GF P T ft init) {x a : Str} {p pos : Pos} (hx : x = sWs) (hg : gname ns x = true) (ha : a = sS) (F : FrameR P ρ ns ℓ env s.heap) (I : Inv P ρ σ s.heap) :
    wpAny P.M A (eval (.Attribute (.Name x p) a pos) env) (EPost P ρ σ s (.str [32])) E s := by
  obtain ⟨mg, mb, n1, n2, n3, _, _, hw, _⟩ := G.ns
  subst hx ha
  obtain ⟨t, ht⟩ := G.wsS
  exact Attribute_any_ (global_ok hg F I n1 hw (cls_value (G_X G I) G.reads ht rfl (.here I (by exact ⟨t, rfl⟩) _))) rfl
theorem c_wsT (G : GF P T ft init) {x a : Str} {p pos : Pos} (hx : x = sWs) (hg : gname ns x = true) (ha : a = sT) (F : FrameR P ρ ns ℓ env s.heap) (I : Inv P ρ σ s.heap) :
    wpAny P.M A (eval (.Attribute (.Name x p) a pos) env) (EPost P ρ σ s (.str [9])) E s := by
  obtain ⟨mg, mb, n1, n2, n3, _, _, hw, _⟩ := G.ns
  subst hx ha
  obtain ⟨t, ht⟩ := G.wsT
  exact Attribute_any_ (global_ok hg F I n1 hw (cls_value (G_X G I) G.reads ht rfl (.here I (by exact ⟨t, rfl⟩) _))) rfl

theorem c_umeth (G : GF P T ft init) (S : Sound P T n r) (hf : ∀ {k args σ o}, r.f k args σ = some o → k < ft.length) {kk : Nat} {o : IE} {args : List IE} {vl : Expr} {nm : Str} {es : List Expr} {apos pos : Pos} (e : stepE ft init r (.umeth kk o args) ℓ σ = some (v, σ'))
    (hx : T.fn[kk]? = some (nm, true)) (hc : isCallE vl = false) (hl : (apos.endLine == pos.line) = true) (hn : es.length < 20) (h1 : isE T k ns vl o = true) (h2 : allP (isE T k ns) es args = true)
    (F : FrameR P ρ ns ℓ env s.heap) (I : Inv P ρ σ s.heap) (hA : AOk n A) : wpAny P.M A (eval (.Call (.Attribute vl nm apos) es [] pos) env) (EPost P ρ σ' s v) E s := by
  refine oP_elim e fun x σ1 ea e => oP_elim e fun vs σ2 eb e => ?_
  refine methCall hc hl hn h2 (e1 S ea h1 F I hA fun ρ1 s1 xv m1 I1 F1 r1 pl => ?_)
  revert r1
  refine oW_elim e fun w e r1 => ?_
  have hk := hf e
  have hk' : kk < P.fns.length := by rw [G.len]; exact hk
  have ha : P.fns[kk]? = some P.fns[kk] := List.getElem?_eq_getElem hk'
  have hfd : ft[kk]? = some ft[kk] := List.getElem?_eq_getElem hk
  obtain ⟨⟨ob, fd, _, _, _, ho, hd, _⟩⟩ := G.fn kk _ _ ha hfd
  obtain ⟨g1, g2, g3⟩ := G.meth kk nm _ hx ha
  have r1' := r1
  obtain ⟨a, D, od, rfl, i, hD, ok⟩ := r1
  have hsh : shadowIn (some od) nm = some false := by
    show (lookIn nm od).map (·.isSome) = some false
    rw [ok.only nm g3]; rfl
  refine method_fn (G_X G I1) i G.ga G.noGa g1 g2 hsh ?_
  refine Calls.callWith_function (o := ob) (fd := fd) (argsL S eb h2 F1 I1 hA fun ρ2 s2 xs m2 I2 F2 r2 => ⟨⟨I2.keep _ _ ho, hd⟩, ?_⟩)
  exact wp_then (m1.trans I1 m2) I2 (S.f e ha I2 ⟨.ref a, xs, rfl, r1'.mvE I1 m2, r2⟩ hA)

theorem lookup_map (a : Int) : ∀ L : List (Int × String), Spec.lookup (.int a) (L.map fun p => (PyData.int p.1, PyData.str (Str.ofString p.2))) = (L.lookup a).map fun s => .str (Str.ofString s)
  | [] => rfl
  | (b, t) :: L => by
    rw [List.map_cons, Spec.lookup, PyProof.V.same_int, List.lookup_cons, lookup_map a L]
    by_cases h : b = a
    · subst h; simp
    · rw [if_neg (by simpa using h)]
      have : (a == b) = false := by simp; exact fun e => h e.symm
      rw [this]
theorem flag_lookup (a : Int) : Spec.lookup (.int a) flagTab = (flagName a).map fun s => .str ⟨s.toArray⟩ := by
  unfold flagName flagTab
  rw [lookup_map]
  cases flagNames.lookup a with
  | none => rfl
  | some s => simp

theorem c_dget (G : GF P T ft init) (S : Sound P T n r) {kx d : IE} {x m : Str} {p ap pos : Pos} {e1' e2' : Expr} (e : stepE ft init r (.dget kx d) ℓ σ = some (v, σ')) (hx : x = sFlags) (hg : gname ns x = true) (hm : m = sGet) (hl : (ap.endLine == pos.line) = true)
    (h1 : isE T k ns e1' kx = true) (h2 : isE T k ns e2' d = true) (F : FrameR P ρ ns ℓ env s.heap) (I : Inv P ρ σ s.heap) (hA : AOk n A) :
    wpAny P.M A (eval (.Call (.Attribute (.Name x p) m ap) [e1', e2'] [] pos) env) (EPost P ρ σ' s v) E s := by
  obtain ⟨mg, mb, n1, n2, n3, _, _, hw, hfl, _⟩ := G.ns
  subst hx hm
  refine oP_elim e fun xx σ1 ea e => oP_elim e fun yy σ2 eb e => ?_
  have hi : allP (isE T k ns) [e1', e2'] [kx, d] = true := allP2 h1 h2
  refine methCall rfl hl (by decide : 2 < 20) hi (global_ok hg F I n1 hfl fun pl => ?_)
  refine getMethod_intTab_get (G.tab.keep I.keep) ?_
  have hev : evEs r [kx, d] ℓ σ = some ([xx, yy], σ2) := by simp only [evEs_q1, evEs_q2, ea, eb, oP]
  refine Calls.callWith_builtin (star_plain hi).1 (argsL S hev hi F I hA fun ρ1 s1 xs m1 I1 F1 r1 => rv2_elim r1 fun xa xd ra rd => ?_)
  revert ra rd
  refine oI_elim e fun a e => oS_elim e fun t e ra rd => ret_elim e (int_elim ra fun ta => str_elim rd fun td => ?_)
  refine call_get2_intTab (G.tab.keep I1.keep) (PyProof.V.Flat.str _ _) fun w hw => ?_
  rw [flag_lookup] at hw
  cases hz : flagName a with
  | some z =>
    rw [hz] at hw
    obtain ⟨tz, rfl⟩ := hw.str_inv
    exact (EPost.here I1 (by exact ⟨tz, rfl⟩) _).then m1 I1
  | none =>
    rw [hz] at hw
    obtain ⟨tz, rfl⟩ := hw.str_inv
    exact (EPost.here I1 (by exact ⟨tz, rfl⟩) _).then m1 I1

end

end Mine
end
section
namespace Mine
open PySem PySem.W PyProof.Rows

section
variable {P : Par} {ρ ρ' : List Addr} {h : Heap} {n : Nat}

/-- a value that reaches below `n` only, seen by fewer addresses -/
theorem bel_ref {i m : Nat} (b : bel m (.ref i) = true) : i < m := by simpa [bel, Nat.blt_eq] using b
mutual
theorem RV.sub (h1 : ∀ b ∈ ρ', b ∈ ρ) (h2 : ∀ i, i < n → ρ'[i]? = ρ[i]?) : ∀ {x : AV} {v : Value}, RV P ρ h x v → bel n x = true → RV P ρ' h x v
  | .none, _, e, _ => e
  | .bool _, _, e, _ => e
  | .int _, _, e, _ => e
  | .str _, _, e, _ => e
  | .tup l, _, ⟨a, vs, e, t, r⟩, b => ⟨a, vs, e, t, RVs.sub h1 h2 r b⟩
  | .ref i, _, ⟨a, e, r⟩, b => ⟨a, e, by rw [h2 i (bel_ref b)]; exact r⟩
  | .frz _, _, r, _ => r
  | .inst w, _, ⟨a, D, od, e, I, hD, ok⟩, _ => ⟨a, D, od, e, I, fun hm => hD (h1 D hm), ok⟩
  | .self i, _, ⟨a, D, e, t, r⟩, b => ⟨a, D, e, t, by rw [h2 i (by simpa [bel, Nat.blt_eq] using b)]; exact r⟩
theorem RVs.sub (h1 : ∀ b ∈ ρ', b ∈ ρ) (h2 : ∀ i, i < n → ρ'[i]? = ρ[i]?) : ∀ {l : List AV} {vs : List Value}, RVs P ρ h l vs → bels n l = true → RVs P ρ' h l vs
  | [], _, e, _ => e
  | _ :: _, _, ⟨v, vs', e, r, rs⟩, b => by
      simp only [belsC, Bool.and_eq_true] at b
      exact ⟨v, vs', e, RV.sub h1 h2 r b.1, RVs.sub h1 h2 rs b.2⟩
end

theorem Rep.sub {i : Nat} {a : Addr} {o : AO} (h1 : ∀ b ∈ ρ', b ∈ ρ) (h2 : ∀ j, j < i → ρ'[j]? = ρ[j]?) (r : Rep P ρ h i a o) : Rep P ρ' h i a o := by
  cases o with
  | list l => obtain ⟨vs, p, q, b⟩ := r; exact ⟨vs, p, q.sub h1 h2 b, b⟩
  | ns fs =>
    obtain ⟨m, p, q, b⟩ := r
    refine ⟨m, p, fun x => ?_, b⟩
    have := q x
    cases e : fs.lookup x with
    | some w =>
      rw [e] at this
      obtain ⟨y, hy, ry⟩ := this
      exact ⟨y, hy, ry.sub h1 h2 (b.1 _ (mem_of_lookup e))⟩
    | none => rw [e] at this; exact this

theorem take_sub {l : List Addr} : (∀ b ∈ l.take n, b ∈ l) ∧ ∀ i, i < n → (l.take n)[i]? = l[i]? :=
  ⟨fun _ hb => List.mem_of_mem_take hb, fun i hi => by rw [List.getElem?_take, if_pos hi]⟩
end

section
variable {P : Par} {ρ ρ' : List Addr} {σ σ' : Sto} {s s' : Shared} {A : Around} {E : Value → Shared → Prop} {ns : Names} {ℓ : Loc} {env : Env} {n k : Nat} {r : Rec} {v : AV}

/-! ### the closing of a call -/

theorem close_list {i : Nat} {l : List AV} {x : Value} {new : List Addr} (hge : σ.length ≤ i) (hlst : listOf? σ' i = some l) (hb : bels σ.length l = true) (hl : ρ.length = σ.length) (hnew : NewIn s.heap new) (st : Step ρ s s') (I : Inv P (ρ ++ new) σ' s'.heap) (rx : RV P (ρ ++ new) s'.heap (.ref i) x) :
    EPost P ρ (σ'.take σ.length ++ [.list l]) s (.ref σ.length) x s' := by
  have htake : (ρ ++ new).take σ.length = ρ := by rw [← hl]; simp
  have hlen : σ.length ≤ σ'.length := by rw [← hl, ← I.len]; simp
  refine list_elim I hlst rx fun a vs ha p q b _ => ?_
  have hai : a ∈ ρ ++ new := List.mem_of_getElem? ha
  have hna : a ∉ ρ := by
    intro hm
    obtain ⟨j, hj, hja⟩ := List.mem_iff_getElem.mp hm
    have hj' : (ρ ++ new)[j]? = some a := by rw [List.getElem?_append_left hj]; simp [hj, hja]
    have := (List.getElem?_inj (by rw [List.length_append]; omega) I.nodup).mp (hj'.trans ha.symm)
    omega
  have sub1 : ∀ b ∈ ρ ++ [a], b ∈ ρ ++ new := by
    intro b hb
    rcases List.mem_append.mp hb with hb | hb
    · exact List.mem_append_left _ hb
    · rw [List.mem_singleton.mp hb]; exact hai
  have sub2 : ∀ j, j < σ.length → (ρ ++ [a])[j]? = (ρ ++ new)[j]? := by
    intro j hj
    rw [List.getElem?_append_left (by omega), List.getElem?_append_left (by omega)]
  have hanew : a ∈ new := (List.mem_append.mp hai).resolve_left hna
  have J := I.take σ.length
  rw [htake] at J
  have hσl : (σ'.take σ.length).length = σ.length := by rw [List.length_take]; omega
  have last : (ρ ++ [a])[σ.length]? = some a := by rw [← hl, List.getElem?_append_right (Nat.le_refl _), Nat.sub_self]; rfl
  refine ⟨ρ ++ [a], ⟨⟨[a], rfl, fun y hy => by rw [List.mem_singleton.mp hy]; exact hnew a hanew⟩, st⟩, ⟨J.keep, ?_, fun b' hb' => I.fresh b' (sub1 b' hb'), by simp only [List.length_append, List.length_singleton, hσl, hl], fun j b' o e1 e2 => ?_⟩, a, rfl, last⟩
  · rw [List.nodup_append]
    exact ⟨J.nodup, List.pairwise_singleton _ _, fun x hx y hy e => hna (by rw [List.mem_singleton.mp hy] at e; exact e ▸ hx)⟩
  · rcases Nat.lt_or_ge j σ.length with hj | hj
    · rw [sub2 j hj] at e1
      rw [List.getElem?_append_left (by omega), List.getElem?_take, if_pos hj] at e2
      exact Rep.sub sub1 (fun i hi => sub2 i (Nat.lt_trans hi hj)) (I.rep j b' o e1 e2)
    · have hj2 : j = σ.length := by
        have := (List.getElem?_eq_some_iff.mp e2).1
        rw [List.length_append, List.length_singleton, hσl] at this
        omega
      subst hj2
      rw [last] at e1
      rw [List.getElem?_append_right (by omega), hσl, Nat.sub_self] at e2
      cases e1; cases e2
      exact ⟨vs, p, q.sub sub1 sub2 hb, hb⟩

theorem close_ok {v v' : AV} {σ'' : Sto} {x : Value} (e : close σ.length v σ' = some (v', σ'')) (hl : ρ.length = σ.length) (m : MvE ρ s ρ' s') (I : Inv P ρ' σ' s'.heap) (rx : RV P ρ' s'.heap v x) : EPost P ρ σ'' s v' x s' := by
  obtain ⟨new, rfl, hnew⟩ := m.new
  have plain : ∀ w, bel σ.length w = true → RV P (ρ ++ new) s'.heap w x → EPost P ρ (σ'.take σ.length) s w x s' := by
    intro w b rw'
    have htake : (ρ ++ new).take σ.length = ρ := by rw [← hl]; simp
    exact ⟨ρ, .of_step m.step, htake ▸ I.take σ.length, htake ▸ rw'.take (n := σ.length) b⟩
  have plainV : ∀ w, closeV σ.length w σ' = some (v', σ'') → RV P (ρ ++ new) s'.heap w x → EPost P ρ σ'' s v' x s' := fun w e rx => iN_elim e fun hb e => ret_elim e (plain _ hb rx)
  revert rx
  cases v with
  | ref i =>
    exact fun rx => iE_elim e (fun hi e => ret_elim e (plain _ hi rx)) fun hi e => oO_elim e fun l hlst e => iN_elim e fun hb e => ret_elim e (close_list (by
      have := Nat.ble_eq_true_of_le (n := i + 1) (m := σ.length)
      rcases Nat.lt_or_ge i σ.length with h | h
      · rw [show Nat.blt i σ.length = true from this h] at hi; cases hi
      · exact h) hlst hb hl hnew m.step I rx)
  | self i => exact noS e
  | _ => exact fun rx => plainV _ e rx

/-! ### the frame of a call -/

theorem cellsFrom_keys : ∀ (names : Names) (n : Nat) (acc : List (Str × Addr)), (names.map (·.1)).Nodup → (acc.map (·.1)).Nodup → (∀ x ∈ names, x.1 ∉ acc.map (·.1)) → ((cellsFrom n names acc).map (·.1)).Nodup
  | [], _, _, _, h, _ => h
  | (x, kd) :: r, n, acc, h1, h2, h3 => by
    rw [List.map_cons, List.nodup_cons] at h1
    unfold cellsFrom
    split
    · refine cellsFrom_keys r (n + 1) _ h1.2 ?_ fun y hy hm => ?_
      · rw [List.map_cons, List.nodup_cons]
        exact ⟨h3 _ List.mem_cons_self, h2⟩
      · rw [List.map_cons] at hm
        rcases List.mem_cons.mp hm with e | hm
        · exact h1.1 (e ▸ List.mem_map_of_mem hy)
        · exact h3 y (List.mem_cons_of_mem _ hy) hm
    · exact cellsFrom_keys r n acc h1.2 h2 fun y hy => h3 y (List.mem_cons_of_mem _ hy)

theorem cellsFrom_acc : ∀ (names : Names) (n : Nat) (acc : List (Str × Addr)) (x : Str), (x ∉ names.map (·.1)) → (cellsFrom n names acc).lookup x = acc.lookup x
  | [], _, _, _, _ => rfl
  | (y, kd) :: r, n, acc, x, h => by
    rw [List.map_cons, List.mem_cons, not_or] at h
    unfold cellsFrom
    split
    · rw [cellsFrom_acc r (n + 1) _ x h.2, List.lookup_cons]
      have : (x == y) = false := by simpa using h.1
      rw [this]
    · exact cellsFrom_acc r n acc x h.2

theorem cellsFrom_some : ∀ (names : Names) (n : Nat) (acc : List (Str × Addr)) (x : Str), (names.map (·.1)).Nodup → names.lookup x = some .cell → ((cellsFrom n names acc).lookup x).isSome = true
  | [], _, _, _, _, h => by cases h
  | (y, kd) :: r, n, acc, x, hn, h => by
    rw [List.map_cons, List.nodup_cons] at hn
    rw [List.lookup_cons] at h
    unfold cellsFrom
    by_cases hxy : x = y
    · subst hxy
      rw [beq_self_eq_true] at h
      cases h
      rw [if_pos (by decide), cellsFrom_acc r _ _ x hn.1, List.lookup_cons, beq_self_eq_true]; rfl
    · have : (x == y) = false := by simpa using hxy
      rw [this] at h
      split
      · exact cellsFrom_some r _ _ x hn.2 h
      · exact cellsFrom_some r _ _ x hn.2 h

theorem lookup_of_mem : ∀ {l : List (Str × Addr)} {x : Str} {c : Addr}, (l.map (·.1)).Nodup → (x, c) ∈ l → l.lookup x = some c
  | (y, d) :: r, x, c, hn, hm => by
    rw [List.map_cons, List.nodup_cons] at hn
    rw [List.lookup_cons]
    rcases List.mem_cons.mp hm with e | hm
    · cases e; rw [beq_self_eq_true]
    · have : (x == y) = false := by
        have : x ≠ y := fun e => hn.1 (e ▸ List.mem_map_of_mem (f := (·.1)) hm)
        simpa using this
      rw [this]
      exact lookup_of_mem hn.2 hm

/-- what the slots hold, in the frame's two kinds of places -/
structure LocR (P : Par) (ρ : List Addr) (h : Heap) (names : Names) (ℓ : Loc) (m cm : Str → Option Value) : Prop where
  loc : ∀ i x v, slot names x = some i → names.lookup x = some .local → ℓ[i]? = some (some v) → ∃ y, m x = some y ∧ RV P ρ h v y
  cel : ∀ i x v, slot names x = some i → names.lookup x = some .cell → ℓ[i]? = some (some v) → ∃ y, cm x = some y ∧ RV P ρ h v y

set_option tactic.hygienic true
theorem binds_ok {h : Heap} {names : Names} {kindOf : Str → Option NameKind} (hko : ∀ x, kindOf x = names.lookup x) : ∀ {pn : List Str} {params : List Nat} {args : List AV} {vals : List Value} {ℓ ℓ' : Loc} {m cm : Str → Option Value},
    setSlots params args ℓ = some ℓ' → pn.map (slot names) = params.map some → (∀ x ∈ pn, names.lookup x = some .local ∨ names.lookup x = some .cell) → RVs P ρ h args vals → LocR P ρ h names ℓ m cm →
    LocR P ρ h names ℓ' (bindL kindOf (pn.zip vals) m) (bindC kindOf (pn.zip vals) cm) ∧ (∀ z, z ∉ pn → bindL kindOf (pn.zip vals) m z = m z)
  | [], [], [], vals, ℓ, ℓ', m, cm, e, _, _, r, L => by cases e; cases r; exact ⟨L, fun _ _ => rfl⟩
  | [], [], _ :: _, _, _, _, _, _, e, _, _, _, _ => by cases e
  | [], _ :: _, _, _, _, _, _, _, _, e, _, _, _ => by cases e
  | _ :: _, [], _, _, _, _, _, _, _, e, _, _, _ => by cases e
  | _ :: _, _ :: _, [], _, _, _, _, _, e, _, _, _, _ => by cases e
  | x :: pn, i :: params, v :: args, vals, ℓ, ℓ', m, cm, e, hs, hk, r, L => by
    obtain ⟨y, vals, rfl, ry, rs⟩ := r
    rw [List.map_cons, List.map_cons] at hs
    injection hs with hs1 hs2
    (first | rewrite [setSlots_q2] at e | rewrite [setSlots_q1] at e)
    split at e
    · rename_i hi
      rw [Nat.blt_eq] at hi
      have hkx := hk x List.mem_cons_self
      have L' : LocR P ρ h names (ℓ.set i (some v)) (if kindOf x = some .local then fun z => if z = x then some y else m z else m) (if kindOf x = some .local then cm else fun z => if z = x then some y else cm z) := by
        refine ⟨fun j z w e1 e2 e3 => ?_, fun j z w e1 e2 e3 => ?_⟩
        · by_cases hzx : z = x
          · subst hzx
            rw [hs1] at e1; cases e1
            rw [List.getElem?_set_self hi] at e3
            cases e3
            rw [if_pos (by rw [hko]; exact e2), if_pos rfl]
            exact ⟨y, rfl, ry⟩
          · have hj : i ≠ j := fun e => hzx (slot_inj e1 (e ▸ hs1))
            rw [List.getElem?_set_ne hj] at e3
            obtain ⟨y', h1, h2⟩ := L.loc j z w e1 e2 e3
            refine ⟨y', ?_, h2⟩
            split
            · show (if z = x then _ else _) = _
              rw [if_neg hzx]; exact h1
            · exact h1
        · by_cases hzx : z = x
          · subst hzx
            rw [hs1] at e1; cases e1
            rw [List.getElem?_set_self hi] at e3
            cases e3
            rw [if_neg (by rw [hko, e2]; decide), if_pos rfl]
            exact ⟨y, rfl, ry⟩
          · have hj : i ≠ j := fun e => hzx (slot_inj e1 (e ▸ hs1))
            rw [List.getElem?_set_ne hj] at e3
            obtain ⟨y', h1, h2⟩ := L.cel j z w e1 e2 e3
            refine ⟨y', ?_, h2⟩
            split
            · exact h1
            · show (if z = x then _ else _) = _
              rw [if_neg hzx]; exact h1
      obtain ⟨a, b⟩ := binds_ok hko e hs2 (fun z hz => hk z (List.mem_cons_of_mem _ hz)) rs L'
      refine ⟨a, fun z hz => ?_⟩
      rw [List.mem_cons, not_or] at hz
      show bindL kindOf (pn.zip vals) _ z = _
      rw [b z hz.2]
      split
      · show (if z = x then _ else _) = _
        rw [if_neg hz.1]
      · rfl
    · cases e

set_option tactic.hygienic false
end

end Mine
end
section
namespace Mine
open PySem PySem.W PyProof.Rows

section
variable {P : Par} {ρ ρ' : List Addr} {σ σ' : Sto} {s s' : Shared} {A : Around} {E : Value → Shared → Prop} {ns : Names} {ℓ ℓ' : Loc} {env : Env} {n k : Nat} {r : Rec} {v : AV}

theorem setSlots_len : ∀ {is : List Nat} {vs : List AV} {ℓ ℓ' : Loc}, setSlots is vs ℓ = some ℓ' → is.length = vs.length ∧ ℓ'.length = ℓ.length
  | [], [], _, _, e => by cases e; exact ⟨rfl, rfl⟩
  | [], _ :: _, _, _, e => by cases e
  | _ :: _, [], _, _, e => by cases e
  | i :: is, v :: vs, ℓ, ℓ', e => by
    (first | rewrite [setSlots_q2] at e | rewrite [setSlots_q1] at e)
    split at e
    · obtain ⟨a, b⟩ := setSlots_len e
      exact ⟨by rw [List.length_cons, List.length_cons, a], by rw [b, List.length_set]⟩
    · cases e

theorem Inv.keeps (I : Inv P ρ σ s.heap) (k : ∀ b o, s.heap.get? b = some o → s'.heap.get? b = some o) : Inv P ρ σ s'.heap := I.kp fun b o e _ => k b o e
theorem RVs.keeps {l : List AV} {vs : List Value} (x : RVs P ρ s.heap l vs) (k : ∀ b o, s.heap.get? b = some o → s'.heap.get? b = some o) : RVs P ρ s'.heap l vs := by
  have := x.kp (W := []) (h' := s'.heap) (fun b o e _ => k b o e) (by simp) (new := []) (by intro a ha; cases ha)
  rwa [List.append_nil] at this

theorem slot_none_lookup {names : Names} {x : Str} (h : names.lookup x = none) : ∀ pn : List Str, (∀ z ∈ pn, names.lookup z = some .local ∨ names.lookup z = some .cell) → x ∉ pn := by
  intro pn hk hm
  rcases hk x hm with e | e <;> rw [h] at e <;> cases e

theorem body_ok (G : GF P T ft init) (S : Sound P T n r) (hA : AOk (n + 1) A) {a : Addr} {fd : FDef} (fn : FnAt P T a fd) {args : List AV} {vals : List Value} {fl : Fl} (hb : bindArgsL fd args = some ℓ) (e : r.b fd.body ℓ σ = some (fl, ℓ', σ'))
    (I : Inv P ρ σ s.heap) (rv : RVs P ρ s.heap args vals) {R : Result → Shared → Prop}
    (q : ∀ ρ' s' f, MvE ρ s ρ' s' → Inv P ρ' σ' s'.heap → FlR P ρ' s'.heap fl f → R (.ok (.ret (match f with | .ret v => v | _ => .none))) s') : codeAny P.M A (.call (.ref a) ⟨vals, []⟩) R s := by
  obtain ⟨o, F, body, pn, k, ho, hd, hbody, hco, hgen, hkind, hgl, hbi, hclo, hcr, hbind, hall, hnl, hpn, hpk, hss, hnd⟩ := fn.ex
  have hlen : vals.length = pn.length := by
    have h1 := (setSlots_len hb).1
    have h2 := congrArg List.length hpn
    rw [List.length_map, List.length_map] at h2
    rw [rv.length, ← h1, ← h2]
  refine codeAny_call_cells hA.room (I.keep _ _ ho) hd (G.nolimit.keeps I.keep) (hcr.keeps I.keep) hbody (hbind vals hlen) hclo ?_ (fun s₁ x => ?_) hco hgen hkind
  · intro y hy
    rcases hpk y.1 (List.of_mem_zip (a := y.1) (b := y.2) hy).1 with h | h
    · exact .inl h
    · exact .inr ⟨h, cellsFrom_some _ _ _ _ hnd h⟩
  · -- the frame stands
    have hkeep := x.toInCall.keep
    have I₁ : Inv P ρ σ s₁.heap := I.keeps hkeep
    have rv₁ : RVs P ρ s₁.heap args vals := rv.keeps hkeep
    have hko : ∀ z, (callEnvC F s.heap.objs.size a).kindOf z = F.scope.names.lookup z := fun _ => rfl
    have hrep : ∀ (i : Nat) (w : AV), (List.replicate fd.slots (none : Option AV))[i]? = some (some w) → False := by
      intro i w h
      rw [List.getElem?_replicate] at h
      split at h <;> cases h
    obtain ⟨L, hno⟩ := binds_ok (P := P) (ρ := ρ) (h := s₁.heap) (names := F.scope.names) hko hb hpn hpk rv₁ (m := fun _ => none) (cm := fun _ => none) ⟨fun i _ w _ _ h => (hrep i w h).elim, fun i _ w _ _ h => (hrep i w h).elim⟩
    have hkeys : ((callEnvC F s.heap.objs.size a).cells.map (·.1)).Nodup := cellsFrom_keys _ _ _ hnd List.nodup_nil (by simp)
    have hfresh : ∀ b ∈ fa (callEnvC F s.heap.objs.size a), s.heap.get? b = none := by
      intro b hb
      rcases List.mem_cons.mp hb with rfl | hb
      · exact get_size_none _
      · obtain ⟨⟨z, c⟩, hm, rfl⟩ := List.mem_map.mp hb
        exact get_ge_none (Nat.le_of_lt (x.above z c hm))
    have Fr : FrameR P ρ F.scope.names ℓ (callEnvC F s.heap.objs.size a) s₁.heap := by
      refine ⟨hkind, rfl, hgl, hbi, ⟨_, x.toInCall.ns, ?_, L.loc⟩, ?_, ?_, ?_, x.apart, hss⟩
      · exact hno sSimple (slot_none_lookup hss pn hpk)
      · intro i z e1 e2
        obtain ⟨c, hc⟩ := Option.isSome_iff_exists.mp (cellsFrom_some F.scope.names (s.heap.objs.size + 1) [] z hnd e2)
        exact ⟨c, _, hc, x.cell z c hc, fun w e3 => L.cel i z w e1 e2 e3⟩
      · intro b hb
        refine ⟨fun hm => ?_, ?_⟩
        · obtain ⟨o', e'⟩ := (I.softs b hm).live
          rw [hfresh b hb] at e'; cases e'
        · cases e' : P.h₀.get? b with
          | none => rfl
          | some o' => have := I.keep _ _ e'; rw [hfresh b hb] at this; cases this
      · intro c hc
        obtain ⟨⟨z, c'⟩, hm, rfl⟩ := List.mem_map.mp hc
        exact ⟨_, x.cell z c' (lookup_of_mem hkeys hm)⟩
    refine wpAny_mono (S.b e hall Fr I₁ (hA.deeper _)) (fun f s' ⟨ρ', m, I', F', hf⟩ => ?_) fun _ _ x => x
    obtain ⟨h₁, tk, hs₁⟩ := x.toInCall.same
    refine q ρ' s' f ⟨?_, ?_⟩ I' hf
    · obtain ⟨new, e1, e2⟩ := m.new
      refine ⟨new, e1, fun b hb => ?_⟩
      cases e' : s.heap.get? b with
      | none => rfl
      | some o' => have := hkeep _ _ e'; rw [e2 b hb] at this; cases this
    · have st : Step [] s s₁ := by rw [hs₁]; exact .of_keep fun b o e _ => by have := hkeep b o e; rwa [hs₁] at this
      refine (st.mono (by simp)).trans m.step fun b hb => ?_
      rcases List.mem_append.mp hb with hb | hb
      · exact .inr (hfresh b hb)
      · exact .inl hb

theorem callFn_ok (G : GF P T ft init) (S : Sound P T n r) (hA : AOk (n + 1) A) {a : Addr} {fd : FDef} (fn : FnAt P T a fd) {args : List AV} {vals : List Value} (e : callFn r fd args σ = some (v, σ'))
    (I : Inv P ρ σ s.heap) (rv : RVs P ρ s.heap args vals) : wpAny P.M A (call (.ref a) vals) (EPost P ρ σ' s v) E s := by
  refine oO_elim e fun ℓ hb e => oP_elim e fun fl p eb e => oO_elim e fun w ew e => ?_
  refine wpAny_call (body_ok G S hA fn hb (ℓ' := p.1) (σ' := p.2) eb I rv fun ρ' s' f m I' hf => close_ok e I.len m I' ?_)
  cases fl with
  | next => cases ew; cases hf; rfl
  | brk => exact noS ew
  | ret u => cases ew; obtain ⟨x, rfl, rx⟩ := hf; exact rx

end
end Mine
end
section
namespace Mine
open PySem PySem.W PyProof.Rows

section
variable {P : Par} {ρ ρ' : List Addr} {σ σ' : Sto} {s s' : Shared} {A : Around} {E : Value → Shared → Prop} {ns : Names} {ℓ ℓ' : Loc} {env : Env} {n k : Nat} {r : Rec} {v : AV}

theorem lookIn_no {h : Heap} {a : Addr} {m : Str → Option Value} {name : Str} {od : Obj} (n : h.Ns a m) (ho : h.get? a = some od) (e : m name = none) : lookIn name od = some none := by
  obtain ⟨o, es, ep, ho', hd, hs, hm⟩ := n
  rw [ho] at ho'; cases ho'
  rw [← hm name] at e
  unfold nsFind findBy at e
  rw [← Array.find?_toList] at e
  unfold lookIn
  rw [hd]
  dsimp only at e ⊢
  cases he : es.toList.find? (fun e => e.key.isStr name) with
  | some en => rw [he] at e; cases e
  | none =>
    dsimp only
    rw [if_neg]
    intro hany
    obtain ⟨x, hx, hr⟩ := List.any_eq_true.mp hany
    obtain ⟨nn, t, hk⟩ := hs x (by simpa using hx)
    unfold DictEntry.refKey at hr
    rw [hk] at hr
    cases hr

theorem lookup_names {fs : List (Str × AV)} {L : List Str} (h : fs.all (fun p => L.contains p.1) = true) {x : Str} (hx : L.contains x = false) : fs.lookup x = none := by
  cases e : fs.lookup x with
  | none => rfl
  | some w =>
    have := List.all_eq_true.mp h _ (mem_of_lookup e)
    dsimp only at this
    rw [hx] at this; cases this

@[elab_as_elim] theorem normF_inv {β : Type} {v : AV} {f : List AV → Int → Option β} {r : β} {motive : AV → Prop} (h : normF v f = some r) (k : ∀ c b, f c b = some r → motive (.tup [.tup c, .int b])) : motive v := by
  refine oT_elim (motive := motive) h fun l h => ?_
  rcases l with _ | ⟨x, _ | ⟨y, _ | ⟨z, l⟩⟩⟩
  · exact noS h
  · exact noS h
  · exact oT_elim (motive := fun x => motive (.tup [x, y])) h fun c h => oI_elim (motive := fun y => motive (.tup [.tup c, y])) h fun b h => k c b h
  · exact noS h

theorem freeze_ok {fs : List (Str × AV)} {w : WS} {h : Heap} {D : Addr} {m : Str → Option Value} {od : Obj} (e : freeze fs = some w) (hn : h.Ns D m) (ho : h.get? D = some od) (hf : Fields P ρ h m fs) : InstOk h od w := by
  have look : ∀ {x : Str} {u : AV}, fs.lookup x = some u → ∃ y, lookIn x od = some (some y) ∧ RV P ρ h u y := by
    intro x u hu
    have := hf x
    rw [hu] at this
    obtain ⟨y, hy, ry⟩ := this
    obtain ⟨od', ho', hl⟩ := lookIn_of_ns hn hy
    rw [ho] at ho'; cases ho'
    exact ⟨y, hl, ry⟩
  refine oO_elim e fun v1 h1 e => ?_
  obtain ⟨y1, l1, r1⟩ := look h1
  revert r1
  refine oS_elim e fun raw e r1 => oO_elim e fun v2 h2 e => ?_
  obtain ⟨y2, l2, r2⟩ := look h2
  revert r2
  refine oI_elim e fun nn e r2 => oO_elim e fun v3 h3 e => ?_
  obtain ⟨y3, l3, r3⟩ := look h3
  revert r3
  refine oI_elim e fun nt e r3 => oO_elim e fun v4 h4 e => ?_
  obtain ⟨y4, l4, r4⟩ := look h4
  revert r4
  refine normF_inv e fun c b e r4 => oO_elim e fun v5 h5 e => ?_
  obtain ⟨y5, l5, r5⟩ := look h5
  revert r5
  refine oB_elim e fun sm e r5 => oO_elim e fun cnt hc e => iN_elim e fun hall e => ret1_elim e ?_
  obtain ⟨t1, rfl⟩ := r1
  obtain ⟨t2, rfl⟩ := r2
  obtain ⟨t3, rfl⟩ := r3
  cases r5
  refine ⟨⟨t1, l1⟩, ⟨t2, l2⟩, ⟨t3, l3⟩, ?_, l5, fun x hx => ?_⟩
  · obtain ⟨a, vs, rfl, ht, r4⟩ := r4
    obtain ⟨z, _, hvs, ⟨a', vs', rfl, ht', r'⟩, z2, _, rfl, ⟨t, rfl⟩, rfl⟩ := r4
    have hvs' : vs = #[Value.ref a', .int b t] := by rw [← Array.toList_inj, hvs]
    subst hvs'
    exact ⟨a, .ref a', t, l4, ht, a', vs', rfl, ht', asInts_are hc r'⟩
  · have := hf x
    rw [lookup_names hall hx] at this
    exact lookIn_no hn ho this

theorem under_ok (hA : AOk (n + 2) A) (args : Args) : AOk (n + 1) (A.under (.builtin "type.__call__" args)) := by
  have hf : (Code.builtin "type.__call__" args).frames = 0 := rfl
  have hc : (Code.builtin "type.__call__" args).isCaller = false := rfl
  have h1 : (Code.builtin "type.__call__" args).weight ≤ 1 := by
    unfold Code.weight
    have hg : (Code.builtin "type.__call__" args).isGuard = false := by
      show guardIds.contains "type.__call__" = false
      decide
    rw [hf, hg, hc]
    cases (Code.builtin "type.__call__" args).isCreation <;> decide
  have h2 : (Code.builtin "type.__call__" args).cUnits ≤ 4 := by
    show 1 + 3 * (Code.builtin "type.__call__" args).frames ≤ 4
    rw [hf]; decide
  refine ⟨hA.handled, ?_, ?_⟩
  · show A.depth + (Code.builtin "type.__call__" args).weight + 2 * (n + 1) + 2 < 1000
    have := hA.depth; omega
  · show A.units + (Code.builtin "type.__call__" args).cUnits + 12 * (n + 1) + 100 < 9900
    have := hA.units; omega

theorem newObj_ok (G : GF P T ft init) (S : Sound P T n r) (hA : AOk (n + 2) A) {raw : AV} {rv : Value} (e : newObj r init raw σ = some (v, σ')) (I : Inv P ρ σ s.heap) (rr : RV P ρ s.heap raw rv) :
    wpAny P.M A (call (.ref P.C) [rv]) (EPost P ρ σ' s v) E s := by
  refine oO_elim e fun ℓ hb e => oP_elim e fun fl p eb e => iN_elim e fun hnx e => oO_elim e fun fs hfs e => oO_elim e fun w hw e => ret_elim e ?_
  cases fl with
  | brk => exact noB hnx
  | ret _ => exact noB hnx
  | next =>
    have X := G_X G I
    obtain ⟨h, g, d, t, os⟩ := s
    refine wpAny_call (make_core (makes_of X G.make) (looks_findIn X G.iniF.1) (fun self => bind_fn X self G.iniF.2) (.inl rfl) ?_)
    generalize hs2 : (⟨(h.push emptyDict).push (instObj P.C h.objs.size), g, d, t, os⟩ : Shared) = s2
    have k2 : ∀ b o, h.get? b = some o → s2.heap.get? b = some o := fun b o e => by rw [← hs2]; exact Heap.get?_push_of_some _ (Heap.get?_push_of_some _ e)
    have hD : s2.heap.get? h.objs.size = some emptyDict := by rw [← hs2]; exact Heap.get?_push_of_some _ (Heap.get?_push_size _ rfl)
    have hx : s2.heap.get? (h.objs.size + 1) = some (instObj P.C h.objs.size) := by
      rw [← hs2]
      have := Heap.get?_push_size (h.push emptyDict) (o := instObj P.C h.objs.size) rfl
      rwa [Heap.size_push] at this
    have hD0 : h.get? h.objs.size = none := get_size_none _
    have I2 : Inv P (ρ ++ [h.objs.size]) (σ ++ [.ns []]) s2.heap := by
      refine I.add (fun b o e _ => k2 b o e) hD0 ⟨fun _ => none, ⟨_, _, _, hD, rfl, fun e he => by simp at he, fun _ => rfl⟩, fun x => ?_, (fun p hp => by cases hp), ⟨_, _, _, hD, rfl, Nat.le_refl _⟩⟩
      show (fun _ => none) x = none
      rfl
    have rself : RV P (ρ ++ [h.objs.size]) s2.heap (.self σ.length) (.ref (h.objs.size + 1)) :=
      ⟨_, h.objs.size, rfl, hx, by rw [← I.len, List.getElem?_append_right (Nat.le_refl _), Nat.sub_self]; rfl⟩
    have rraw : RV P (ρ ++ [h.objs.size]) s2.heap raw rv := rr.kp (W := []) (fun b o e _ => k2 b o e) (by simp) fun b hb => by rw [List.mem_singleton.mp hb]; exact hD0
    refine body_ok G S (under_ok hA _) G.ini hb (ℓ' := p.1) (σ' := p.2) eb I2 ⟨_, _, rfl, rself, _, _, rfl, rraw, rfl⟩ fun ρ' s' f m I' hf => ?_
    cases hf
    refine ⟨rfl, ?_⟩
    have rself' := rself.mvE I2 m
    obtain ⟨x', D', ex, hx', hD'⟩ := rself'
    cases ex
    have hDD : D' = h.objs.size := by
      have h1 : (ρ ++ [h.objs.size])[σ.length]? = some h.objs.size := by rw [← I.len, List.getElem?_append_right (Nat.le_refl _), Nat.sub_self]; rfl
      have := m.get h1
      rw [hD'] at this
      exact Option.some.inj this
    subst hDD
    obtain ⟨D'', hD'', mm, hn, hfl, _⟩ := I'.at (nsOf_at hfs)
    rw [hD'] at hD''; cases hD''
    obtain ⟨od, _, _, hod, _⟩ := id hn
    have htake : ρ'.take σ.length = ρ := by
      obtain ⟨new, rfl, _⟩ := m.new
      rw [← I.len]; simp
    have J := I'.take σ.length
    rw [htake] at J
    have hnot : h.objs.size ∉ ρ := fun hm => by
      obtain ⟨o, e⟩ := (I.softs _ hm).live
      rw [show (⟨h, g, d, t, os⟩ : Shared).heap.get? h.objs.size = none from hD0] at e; cases e
    refine ⟨ρ, .of_step ?_, J, ⟨_, h.objs.size, od, rfl, ⟨hx', rfl, rfl, hod⟩, hnot, freeze_ok hw hn hod hfl⟩⟩
    have st : Step [] (⟨h, g, d, t, os⟩ : Shared) s2 := by
      rw [← hs2]
      exact .of_keep fun b o e _ => by have := k2 b o e; rwa [← hs2] at this
    refine (st.mono (by simp)).trans m.step fun b hb => ?_
    rcases List.mem_append.mp hb with hb | hb
    · exact .inl hb
    · rw [List.mem_singleton.mp hb]; exact .inr hD0

theorem c_cls (G : GF P T ft init) (S : Sound P T n r) {a : IE} {x : Str} {e1' : Expr} {p pos : Pos} (e : stepE ft init r (.cls a) ℓ σ = some (v, σ')) (hx : x = sWs) (hg : gname ns x = true) (h1 : isE T k ns e1' a = true)
    (F : FrameR P ρ ns ℓ env s.heap) (I : Inv P ρ σ s.heap) (hA : AOk (n + 2) A) : wpAny P.M A (eval (.Call (.Name x p) [e1'] [] pos) env) (EPost P ρ σ' s v) E s := by
  obtain ⟨mg, mb, n1, n2, n3, _, _, hw, _⟩ := G.ns
  subst hx
  refine oP_elim e fun u σ1 ea e => ?_
  have hi : allP (isE T k ns) [e1'] [a] = true := allP1 h1
  have hev : evEs r [a] ℓ σ = some ([u], σ1) := by simp only [evEs_q1, evEs_q2, ea, oP]
  refine Call_Name rfl (global_ok hg F I n1 hw ?_)
  refine callWith_of (P := fun h => P.K.In h) (by rw [(star_plain hi).1]; rfl) (keeps_K G.kept) (argsL S hev hi F I (hA.mono (Nat.le_add_right _ _)) fun ρ1 s1 xs m1 I1 F1 r1 => ⟨G_X G I1, rv1_elim r1 fun xv rx => ?_⟩)
  exact wp_then m1 I1 (newObj_ok G S hA e I1 rx)

end
end Mine
end
section
namespace Mine
open PySem PySem.W PyProof.Rows

/-- what a turn of an iterator does -/
structure StepN (own : List Addr) (gs : List Nat) (s s' : Shared) : Prop where
  keep : Kp own s.heap s'.heap
  os : s'.os = s.os
  gens : ∀ (g : Nat) x, g ∉ gs → s.gens[g]? = some x → s'.gens[g]? = some x
  bare : AllBare s.gens → AllBare s'.gens

theorem StepN.of_keep {own : List Addr} {gs : List Nat} {s : Shared} {h' : Heap} {t : Nat} (k : Kp own s.heap h') : StepN own gs s { s with heap := h', toks := t } := ⟨k, rfl, fun _ _ _ e => e, id⟩

noncomputable def noOwn : List String := ["enumerate", "zip", "dict_itemiterator", "dict_reverseitemiterator", "odict_iterator", "itertools.zip_longest", "itertools.pairwise"]

structure IterJ (P : Par) (A : Around) (it : Value) (i : Itr) (ρ₀ : List Addr) (s₀ : Shared) (own : List Addr) (gs : List Nat) (J : Nat → Shared → Prop) : Prop where
  new : ∀ a ∈ own, s₀.heap.get? a = none
  gnew : ∀ g ∈ gs, s₀.gens[g]? = none
  soft : ∀ k s, J k s → ∀ a ∈ own, Soft s.heap [] a
  stable : ∀ k s s', J k s → (∀ a ∈ own, ∀ o, s.heap.get? a = some o → s'.heap.get? a = some o) → (∀ a o, P.h₀.get? a = some o → s'.heap.get? a = some o) → (∀ g ∈ gs, ∀ x, s.gens[g]? = some x → s'.gens[g]? = some x) → J k s'
  next : ∀ k ρ σ s ov (Q : Option Value → Shared → Prop) (E : Value → Shared → Prop), J k s → Inv P ρ σ s.heap → (∀ (j : Nat) a, ρ₀[j]? = some a → ρ[j]? = some a) → itNext i k σ = some ov →
    (∀ r s', StepN own gs s s' → (match ov with | none => r = none | some v => ∃ y, r = some y ∧ RV P ρ s'.heap v y ∧ J (k + 1) s') → Q r s') → wpAny P.M A (pyNext it) Q E s
  self : ∀ k s (Q : Value → Shared → Prop) (E : Value → Shared → Prop), J k s → Q it s → wpAny P.M A (pyIter it) Q E s
  go : ∀ k s, J k s → ∃ r o T, it = .ref r ∧ s.heap.get? r = some o ∧ o.cls = .type T ∧ noOwn.contains T = false

section
variable {P : Par} {ρ ρ₀ ρ' : List Addr} {σ σ' : Sto} {s s₀ s' : Shared} {A : Around} {E : Value → Shared → Prop} {ns : Names} {ℓ ℓ' : Loc} {env : Env} {n k : Nat} {r : Rec} {v : AV}
  {it : Value} {i : Itr} {own : List Addr} {gs : List Nat} {J : Nat → Shared → Prop}

theorem Soft.up {h : Heap} {a : Addr} (x : Soft h [] a) : Soft h ρ a := by
  rcases x with x | x | ⟨h, _⟩ | x
  · exact .inl x
  · exact .inr (.inl x)
  · cases h
  · exact .inr (.inr (.inr x))

theorem letGo_ref {r : Addr} {o : Obj} {T : String} {target : Expr} {y : Value} {Q : Unit → Shared → Prop} (ho : s.heap.get? r = some o) (hc : o.cls = .type T) (hT : noOwn.contains T = false) (q : Q () s) : wpAny P.M A (letOwnedTupleGo target (.ref r) y) Q E s := by
  have key : ∀ a, wpAny P.M A (letOwnedTupleGo (.Tuple [] 0 default) (.ref r) (.ref a)) Q E s := fun a => by
    refine wpAny_bind (wpAny_load ho ?_)
    obtain ⟨c, dd, d, d2⟩ := o
    cases hc
    cases d with
    | fields vs =>
      show wpAny _ _ (if (noOwn.contains T && _) = true then _ else _) Q E s
      rw [hT, Bool.false_and, if_neg (by decide)]
      exact wpAny_pure q
    | _ => exact wpAny_pure q
  cases target with
  | Tuple es k p => cases y with
    | ref a => exact key a
    | _ => exact wpAny_pure q
  | List es p => cases y with
    | ref a => exact key a
    | _ => exact wpAny_pure q
  | _ => exact wpAny_pure q

theorem IterJ.letGo (j : IterJ P A it i ρ₀ s₀ own gs J) {target : Expr} {y : Value} {k : Nat} {Q : Unit → Shared → Prop} (h : J k s) (q : Q () s) : wpAny P.M A (letOwnedTupleGo target it y) Q E s := by
  obtain ⟨r, o, T, rfl, ho, hc, hT⟩ := j.go k s h
  exact letGo_ref ho hc hT q

/-- what stays behind a turn of an iterator -/
theorem Inv.stepN (I : Inv P ρ σ s.heap) (st : StepN own gs s s') (hsoft : ∀ a ∈ own, Soft s.heap [] a) (hρ : ∀ a ∈ own, a ∉ ρ) (h0 : ∀ a ∈ own, P.h₀.get? a = none) : Inv P ρ σ s'.heap := by
  refine ⟨fun a o e => st.keep a o (I.keep a o e) fun hm => (by rw [h0 a hm] at e; cases e), I.nodup, I.fresh, I.len, fun j a o e1 e2 => ?_⟩
  have := (I.rep j a o e1 e2).kp st.keep (fun a ha => (hsoft a ha).up) (new := []) (by intro a ha; cases ha) (fun hm => hρ a hm (List.mem_of_getElem? e1))
  rwa [List.append_nil] at this
theorem FrameR.stepN (F : FrameR P ρ ns ℓ env s.heap) (st : StepN own gs s s') (hsoft : ∀ a ∈ own, Soft s.heap [] a) (hF : ∀ a ∈ fa env, a ∉ own) : FrameR P ρ ns ℓ env s'.heap := by
  have := F.kpW st.keep hF (fun a ha => (hsoft a ha).up) (new := []) (by intro a ha; cases ha)
  rwa [List.append_nil] at this
theorem Mv.stepN {W : List Addr} (m : Mv W ρ₀ s₀ ρ s) (st : StepN own gs s s') (hnew : ∀ a ∈ own, s₀.heap.get? a = none) (hg : ∀ g ∈ gs, s₀.gens[g]? = none) : Mv W ρ₀ s₀ ρ s' := by
  refine ⟨m.new, fun a o e hW => st.keep a o (m.step.keep a o e hW) fun hm => (by rw [hnew a hm] at e; cases e), st.os.trans m.step.os, fun g x e => st.gens g x (fun hm => by rw [hg g hm] at e; cases e) (m.step.gens g x e), fun b => st.bare (m.step.bare b)⟩
theorem RV.stepN {v : AV} {y : Value} (r : RV P ρ s.heap v y) (st : StepN own gs s s') (hsoft : ∀ a ∈ own, Soft s.heap [] a) : RV P ρ s'.heap v y := by
  have := r.kp st.keep (fun a ha => (hsoft a ha).up) (new := []) (by intro a ha; cases ha)
  rwa [List.append_nil] at this

/-! ### the iterators -/

/-- from one of the library's walks: over values that bear no address -/
theorem iter_walk {I : Addr} {fp wr : List Addr} {m : Nat} {Pv : Nat → Value → Prop} {St : Nat → Heap → Prop} {l : List AV} (W : Walks P.prog P.w A I fp wr m Pv St) (hfp : ∀ a ∈ fp, s₀.heap.get? a = none) (hm : l.length = m)
    (hsoft : ∀ k h, St k h → ∀ a ∈ fp, Soft h [] a) (hgo : ∀ k h, St k h → ∃ o T, h.get? I = some o ∧ o.cls = .type T ∧ noOwn.contains T = false)
    (hP : ∀ j y v, l[j]? = some v → Pv j y → ∀ ρ h, RV P ρ h v y) : IterJ P A (.ref I) (.vals l) ρ₀ s₀ fp [] (fun k s => St k s.heap ∧ k ≤ m) where
  new := hfp
  gnew := fun g hg => by cases hg
  soft := fun k s h a ha => hsoft k _ h.1 a ha
  stable := fun k s s' h1 h2 _ _ => ⟨W.frame k _ _ h1.1 h2, h1.2⟩
  next := fun k ρ σ s ov Q E h I' hρ e q => by
    cases e
    by_cases hk : k < m
    · refine W.item k s Q E hk h.1 fun y h' tk hy hst hkp => ?_
      have hl : l[k]? = some l[k] := List.getElem?_eq_getElem (by omega)
      refine q _ _ (.of_keep fun a o e hn => hkp a o (fun hm => hn (W.sub a hm)) e) ?_
      rw [hl]
      exact ⟨y, rfl, hP k y _ hl hy ρ _, hst, hk⟩
    · have hkm : k = m := by have := h.2; omega
      subst hkm
      refine W.done s Q E h.1 fun h' tk hkp => ?_
      refine q _ _ (.of_keep fun a o e hn => hkp a o (fun hm => hn (W.sub a hm)) e) ?_
      rw [List.getElem?_eq_none (by omega)]
  self := fun k s Q E h q => W.self k s Q E h.1 q
  go := fun k s h => by obtain ⟨o, T, a, b, c⟩ := hgo k _ h.1; exact ⟨I, o, T, rfl, a, b, c⟩

set_option tactic.hygienic true
theorem iter_list (hA : A.handled = none) {j : Nat} {a : Addr} {I : Addr} (hI : s₀.heap.get? I = none) (ha : ρ₀[j]? = some a) : IterJ P A (.ref I) (.lst j) ρ₀ s₀ [I] [] (fun k s => s.heap.IsListIter I a k) where
  new := fun b hb => by rw [List.mem_singleton.mp hb]; exact hI
  gnew := fun g hg => by cases hg
  soft := fun k s h b hb => by
    rw [List.mem_singleton.mp hb]
    obtain ⟨o, ho, hc, hd⟩ := h
    exact .inr (.inr (.inr (.inr ⟨o, _, _, ho, hc, by decide, hd⟩)))
  stable := fun k s s' h1 h2 _ _ => h1.at fun o e => h2 I (by simp) o e
  next := fun k ρ σ s ov Q E h I' hρ e q => by
    have hne : ∀ {vs}, s.heap.PlainList a vs → a ≠ I := by
      rintro vs ⟨n, p⟩ rfl
      obtain ⟨o, ho, hc, hd⟩ := h
      rw [p] at ho; cases ho; cases hd
    unfold itNext at e
    dsimp only at e
    split at e
    · rename_i l hl
      cases e
      obtain ⟨a', vs, ha', p, qv, b⟩ := I'.list hl
      rw [hρ j a ha] at ha'; cases ha'
      cases hx : l[k]? with
      | none =>
        refine wpAny_pyNext_list_end hA h p.isList ?_ fun h' he => q _ _ (.of_keep fun b o e hn => he b o (by simpa using hn) e) (by rw [hx])
        have := qv.length
        rw [Array.length_toList] at this
        have := List.getElem?_eq_none_iff.mp hx
        exact Array.getElem?_eq_none (by omega)
      | some v =>
        obtain ⟨y, hy, ry⟩ := qv.get hx
        refine wpAny_pyNext_list_item h p.isList (x := y) (by simpa using hy) fun h' hit hs => ?_
        have st : StepN [I] [] s { s with heap := h' } := .of_keep fun b o e hn => (hs.2 b (by simpa using hn)).trans e
        refine q _ _ st ?_
        rw [hx]
        refine ⟨y, rfl, ry.stepN st fun b hb => ?_, hit⟩
        rw [List.mem_singleton.mp hb]
        obtain ⟨o, ho, hc, hd⟩ := h
        exact .inr (.inr (.inr (.inr ⟨o, _, _, ho, hc, by decide, hd⟩)))
    · cases e
  self := fun k s Q E h q => wpAny_pyIter_listiter h q
  go := fun k s h => by obtain ⟨o, ho, hc, hd⟩ := h; exact ⟨I, o, _, rfl, ho, hc, by decide⟩

set_option tactic.hygienic false
theorem rangeL_get : ∀ (m : Nat) (a : Int) (j : Nat) (v : AV), (rangeL a m)[j]? = some v → v = .int (a + j) := by
  intro m
  induction m with
  | zero => intro a j v h; simp [rangeL_q1] at h
  | succ m ih =>
    intro a j v h
    (first | rewrite [rangeL_q2] at h | rewrite [rangeL_q1] at h)
    cases j with
    | zero => simp at h; rw [← h]; simp
    | succ j =>
      simp at h
      rw [ih (a + 1) j v h]
      congr 1
      push_cast; omega
theorem rangeL_len : ∀ (m : Nat) (a : Int), (rangeL a m).length = m
  | 0, _ => rfl
  | m + 1, a => by rw [rangeL_q2, List.length_cons, rangeL_len m]

theorem iter_range (hA : A.handled = none) {I : Addr} {a : Int} {m : Nat} (hI : s₀.heap.get? I = none) :
    IterJ P A (.ref I) (.vals (rangeL a m)) ρ₀ s₀ [I] [] (fun k s => IsRangeIter s.heap I (a + (k : Nat) * 1) ((m : Int) - (k : Nat)) 1 ∧ k ≤ m) :=
  iter_walk (Walks.range hA I a 1 m) (fun b hb => by rw [List.mem_singleton.mp hb]; exact hI) (rangeL_len m a)
    (fun k h st b hb => by rw [List.mem_singleton.mp hb]; exact .inr (.inr (.inr (.inr ⟨_, _, _, st, rfl, by decide, rfl⟩))))
    (fun k h st => ⟨_, _, st, rfl, by decide⟩)
    (fun j y v hv ⟨t, hy⟩ ρ h => by rw [rangeL_get m a j v hv, hy]; exact ⟨t, by rw [Int.mul_one]⟩)

theorem iter_str (hA : A.handled = none) {I : Addr} {x : List Nat} {t : Tok} (hI : s₀.heap.get? I = none) :
    IterJ P A (.ref I) (.vals (x.map fun c => .str [c])) ρ₀ s₀ [I] [] (fun k s => s.heap.IsStrIter I "str_ascii_iterator" ⟨x.toArray⟩ t k ∧ k ≤ (⟨x.toArray⟩ : Str).cps.size) :=
  iter_walk (Walks.strAscii hA I ⟨x.toArray⟩ t) (fun b hb => by rw [List.mem_singleton.mp hb]; exact hI) (by simp)
    (fun k h st b hb => by rw [List.mem_singleton.mp hb]; obtain ⟨o, ho, hc, hd⟩ := st; exact .inr (.inr (.inr (.inr ⟨o, _, _, ho, hc, by decide, hd⟩))))
    (fun k h st => by obtain ⟨o, ho, hc, hd⟩ := st; exact ⟨o, _, ho, hc, by decide⟩)
    (fun j y v hv ⟨c, u, hc, hy⟩ ρ h => by
      rw [List.getElem?_map] at hv
      have hc' : x[j]? = some c := by simpa using hc
      rw [hc'] at hv
      cases hv
      exact ⟨u, hy⟩)
end

end Mine
end
section
namespace Mine
open PySem PySem.W PyProof.Rows

section
variable {P : Par} {ρ ρ₀ ρ' : List Addr} {σ σ' : Sto} {s s₀ s' : Shared} {A : Around} {E : Value → Shared → Prop} {ns : Names} {ℓ ℓ' : Loc} {env : Env} {n k : Nat} {r : Rec} {v : AV}
  {it : Value} {i : Itr} {own W : List Addr} {gs : List Nat} {J : Nat → Shared → Prop} {ok : Str → Nat → Bool}

/-- what a row of stores does -/
noncomputable def APost (P : Par) (ns : Names) (env : Env) (ρ : List Addr) (σ : Sto) (W : List Addr) (s : Shared) (ℓ' : Loc) (s' : Shared) : Prop := Step W s s' ∧ Inv P ρ σ s'.heap ∧ FrameR P ρ ns ℓ' env s'.heap

/-- stores by this test go to places among `W` -/
noncomputable def OkIn (ns : Names) (env : Env) (ok : Str → Nat → Bool) (W : List Addr) : Prop := ∀ x i, ok x i = true → sname ns x i = true ∧ ∀ a ∈ fa env, (ns.lookup x = some .local → a = env.locals) → a ∈ W

theorem okIn_s : OkIn ns env (sname ns) (fa env) := fun _ _ h => ⟨h, fun _ ha _ => ha⟩
theorem okIn_l : OkIn ns env (lname ns) [env.locals] := fun x i h => by
  simp only [lname, Bool.and_eq_true, decide_eq_true_eq] at h
  refine ⟨?_, fun a _ e => by rw [e h.2]; simp⟩
  simp only [sname, h.1, h.2, decide_true, Bool.true_or, Bool.and_self]

theorem RV.step (r : RV P ρ s.heap v k') (I : Inv P ρ σ s.heap) (F : FrameR P ρ ns ℓ env s.heap) (st : Step W s s') (hW : ∀ a ∈ W, a ∈ fa env) : RV P ρ s'.heap v k' := by
  have := r.kp st.keep (fun a ha => F.softs a (hW a ha)) (new := []) (by intro a ha; cases ha)
  rwa [List.append_nil] at this
theorem RVs.step {l : List AV} {vs : List Value} (r : RVs P ρ s.heap l vs) (F : FrameR P ρ ns ℓ env s.heap) (st : Step W s s') (hW : ∀ a ∈ W, a ∈ fa env) : RVs P ρ s'.heap l vs := by
  have := r.kp st.keep (fun a ha => F.softs a (hW a ha)) (new := []) (by intro a ha; cases ha)
  rwa [List.append_nil] at this

theorem storeN_ok (hok : OkIn ns env ok W) {x : Str} {i : Nat} {y : Value} {Q : Unit → Shared → Prop} (hs : ok x i = true) (F : FrameR P ρ ns ℓ env s.heap) (I : Inv P ρ σ s.heap) (hi : i < ℓ.length) (r : RV P ρ s.heap v y)
    (q : ∀ s', APost P ns env ρ σ W s (ℓ.set i (some v)) s' → Q () s') : wpAny P.M A (storeName env x y) Q E s := by
  obtain ⟨h1, h2⟩ := hok x i hs
  exact store_at h1 F I hi r fun s' a ha hl st I' F' _ _ => q s' ⟨st.mono fun b hb => by rw [List.mem_singleton.mp hb]; exact .inl (h2 a ha hl), I', F'⟩

@[elab_as_elim] theorem namesAre_elim {i : Nat} {is : List Nat} {es : List Expr} {motive : List Expr → Prop} (h : namesAre ok (i :: is) es = true) (k : ∀ x p es', ok x i = true → namesAre ok is es' = true → motive (.Name x p :: es')) : motive es :=
  uncons_elim h fun _ es h => have hh := andB h; xName_elim hh.1 fun x p h1 => k x p es h1 hh.2

theorem namesAre_targets {env : Env} : ∀ {is : List Nat} {es : List Expr}, namesAre ok is es = true → (assignEach es env).length = is.length ∧ (assignEach es env).findIdx? (·.1) = none
  | [], es, h => isNil_elim h ⟨rfl, rfl⟩
  | i :: is, es, h => namesAre_elim h fun x p es' h1 h2 => by
    obtain ⟨a, b⟩ := namesAre_targets (env := env) h2
    have e : assignEach (.Name x p :: es') env = (false, assign (.Name x p) env) :: assignEach es' env := rfl
    rw [e]
    exact ⟨congrArg Nat.succ a, by rw [List.findIdx?_cons]; simp [b]⟩

theorem inOrder_ok (hok : OkIn ns env ok W) (hW : ∀ a ∈ W, a ∈ fa env) : ∀ {is : List Nat} {es : List Expr} {vs : List AV} {ys : List Value} {ℓ ℓ' : Loc} {s : Shared} {Q : Unit → Shared → Prop}, namesAre ok is es = true → setSlots is vs ℓ = some ℓ' →
    FrameR P ρ ns ℓ env s.heap → Inv P ρ σ s.heap → RVs P ρ s.heap vs ys → (∀ s', APost P ns env ρ σ W s ℓ' s' → Q () s') → wpAny P.M A (assignInOrder ((assignEach es env).map (·.2)) ys) Q E s
  | [], es, vs, ys, ℓ, ℓ', s, Q, h, e, F, I, r, q => by
    refine isNil_elim h ?_
    cases vs with
    | nil => cases e; exact wpAny_pure (q s ⟨.refl .., I, F⟩)
    | cons _ _ => exact noS e
  | i :: is, es, vs, ys, ℓ, ℓ', s, Q, h, e, F, I, r, q => by
    refine namesAre_elim h fun x p es h1 h2 => ?_
    cases vs with
    | nil => exact noS e
    | cons v vs =>
      obtain ⟨y, ys, rfl, ry, rs⟩ := r
      refine iN_elim e fun hi e => ?_
      refine wpAny_bind (wpAny_holding (wpAny_assign_Name (storeN_ok hok h1 F I (Nat.le_of_ble_eq_true hi) ry fun s1 ⟨st, I1, F1⟩ => ?_)))
      exact inOrder_ok hok hW h2 e F1 I1 (rs.step F st hW) fun s2 ⟨st2, I2, F2⟩ => q s2 ⟨st.trans' st2, I2, F2⟩

theorem assign_ok (hok : OkIn ns env ok W) (hW : ∀ a ∈ W, a ∈ fa env) (hh : A.handled = none) {tg : Tg} {t : Expr} {y : Value} {Q : Unit → Shared → Prop} (h : tgIs ok tg t = true) (e : bindTg tg v ℓ = some ℓ')
    (F : FrameR P ρ ns ℓ env s.heap) (I : Inv P ρ σ s.heap) (r : RV P ρ s.heap v y) (q : ∀ s', APost P ns env ρ σ W s ℓ' s' → Q () s') : wpAny P.M A (assign t env y) Q E s := by
  revert r
  cases tg with
  | one i =>
    refine xName_elim h fun x p h r => iN_elim e fun hi e => ?_
    cases e
    exact wpAny_assign_Name (storeN_ok hok h F I (Nat.le_of_ble_eq_true hi) r q)
  | many is =>
    refine xTup_elim h fun es k p h => oT_elim e fun vs e r => tup_elim r fun a ys ht rs hl => ?_
    obtain ⟨h1, h2⟩ := namesAre_targets (env := env) h
    have hlen : is.length = ys.size := by rw [(setSlots_len e).1, hl]
    refine wpAny_assign_Tuple hh ht (h1.trans hlen) h2 fun h' he => ?_
    have hk : ∀ b o, s.heap.get? b = some o → h'.get? b = some o := fun b o e => he b o (fun hb => by subst hb; rw [get_size_none] at e; cases e) e
    have st : Step [] s { s with heap := h' } := .of_keep fun b o e _ => hk b o e
    have F' : FrameR P ρ ns ℓ env h' := by
      have := F.kpW (W := []) (fun b o e _ => hk b o e) (by simp) (by simp) (new := []) (by intro a ha; cases ha)
      rwa [List.append_nil] at this
    refine inOrder_ok hok hW h e F' (I.kp fun b o e _ => hk b o e) (RVs.keeps (s' := { s with heap := h' }) rs hk) fun s2 ⟨st2, I2, F2⟩ => q s2 ⟨?_, I2, F2⟩
    exact (st.mono (by simp)).trans' st2

/-! ### the for loop -/

theorem Mv.toks {W : List Addr} (m : Mv W ρ₀ s₀ ρ s) (st : Step W s s') : Mv W ρ₀ s₀ ρ s' := ⟨m.new, m.step.trans' st⟩

theorem h0_dead (I : Inv P ρ σ s.heap) {a : Addr} (h : s.heap.get? a = none) : P.h₀.get? a = none := by
  cases e : P.h₀.get? a with
  | none => rfl
  | some o => have := I.keep a o e; rw [h] at this; cases this
theorem ρ_dead (I : Inv P ρ σ s.heap) {a : Addr} (h : s.heap.get? a = none) : a ∉ ρ := fun hm => by
  obtain ⟨o, e⟩ := (I.softs a hm).live
  rw [h] at e; cases e
theorem fa_dead (F : FrameR P ρ ns ℓ env s.heap) {a : Addr} (h : s.heap.get? a = none) : a ∉ fa env := fun hm => by
  obtain ⟨o, e⟩ := (F.softs a hm).live
  rw [h] at e; cases e

/-- an iterator whose places may grow -/
structure IterX (P : Par) (A : Around) (it : Value) (i : Itr) (ρ₀ : List Addr) (s₀ : Shared) (gs : List Nat) (J : Nat → List Addr → Shared → Prop) : Prop where
  gnew : ∀ g ∈ gs, s₀.gens[g]? = none
  soft : ∀ k own s, J k own s → ∀ a ∈ own, Soft s.heap [] a
  stable : ∀ k own s s', J k own s → (∀ a ∈ own, ∀ o, s.heap.get? a = some o → s'.heap.get? a = some o) → (∀ a o, P.h₀.get? a = some o → s'.heap.get? a = some o) → (∀ g ∈ gs, ∀ x, s.gens[g]? = some x → s'.gens[g]? = some x) → J k own s'
  next : ∀ k own ρ σ s ov (Q : Option Value → Shared → Prop) (E : Value → Shared → Prop), k < gas → J k own s → Inv P ρ σ s.heap → (∀ (j : Nat) a, ρ₀[j]? = some a → ρ[j]? = some a) → itNext i k σ = some ov →
    (∀ r s', StepN own gs s s' → (match ov with | none => r = none | some v => ∃ y own', r = some y ∧ RV P ρ s'.heap v y ∧ J (k + 1) own' s' ∧ ∀ a ∈ own', a ∈ own ∨ s.heap.get? a = none) → Q r s') → wpAny P.M A (pyNext it) Q E s
  go : ∀ k own s, J k own s → ∃ r o T, it = .ref r ∧ s.heap.get? r = some o ∧ o.cls = .type T ∧ noOwn.contains T = false

/-- what the iterator's places are, seen from the loop -/
structure OwnOk (P : Par) (env : Env) (s₀ : Shared) (ρ own : List Addr) : Prop where
  dead : ∀ a ∈ own, s₀.heap.get? a = none
  fr : ∀ a ∈ fa env, a ∉ own
  st : ∀ a ∈ own, a ∉ ρ
  h0 : ∀ a ∈ own, P.h₀.get? a = none

theorem own_ok (I : Inv P ρ σ s₀.heap) (F : FrameR P ρ ns ℓ env s₀.heap) (hnew : ∀ a ∈ own, s₀.heap.get? a = none) : OwnOk P env s₀ ρ own :=
  ⟨hnew, fun _ ha hm => fa_dead F (hnew _ hm) ha, fun a ha hm => ρ_dead I (hnew a ha) hm, fun a ha => h0_dead I (hnew a ha)⟩

theorem IterJ.toX (j : IterJ P A it i ρ₀ s₀ own gs J) : IterX P A it i ρ₀ s₀ gs (fun k own' s => own' = own ∧ J k s) where
  gnew := j.gnew
  soft := fun k _ s h a ha => j.soft k s h.2 a (h.1 ▸ ha)
  stable := fun k _ s s' h h1 h2 h3 => ⟨h.1, j.stable k s s' h.2 (fun a ha => h1 a (h.1.symm ▸ ha)) h2 h3⟩
  next := fun k o ρ σ s ov Q E _ h I hρ e q => j.next k ρ σ s ov Q E h.2 I hρ e fun r s' st hx => q r s' (h.1.symm ▸ st) (by
    cases ov with
    | none => exact hx
    | some v => obtain ⟨y, h1, h2, h3⟩ := hx; exact ⟨y, own, h1, h2, ⟨rfl, h3⟩, fun a ha => .inl (h.1.symm ▸ ha)⟩)
  go := fun k _ s h => j.go k s h.2

theorem IterX.letGo {J : Nat → List Addr → Shared → Prop} (j : IterX P A it i ρ₀ s₀ gs J) {target : Expr} {y : Value} {k : Nat} {Q : Unit → Shared → Prop} (h : J k own s) (q : Q () s) : wpAny P.M A (letOwnedTupleGo target it y) Q E s := by
  obtain ⟨r, o, T, rfl, ho, hc, hT⟩ := j.go k own s h
  exact letGo_ref ho hc hT q
theorem OwnOk.grow {own' : List Addr} (ho : OwnOk P env s₀ ρ own) (back : ∀ a, s.heap.get? a = none → s₀.heap.get? a = none) (I : Inv P ρ σ s.heap) (F : FrameR P ρ ns ℓ env s.heap) (h : ∀ a ∈ own', a ∈ own ∨ s.heap.get? a = none) : OwnOk P env s₀ ρ own' :=
  ⟨fun a ha => (h a ha).elim (ho.dead a) (back a), fun a ha hm => (h a hm).elim (ho.fr a ha) fun h => fa_dead F h ha, fun a ha hm => (h a ha).elim (fun h => ho.st a h hm) fun h => ρ_dead I h hm, fun a ha => (h a ha).elim (ho.h0 a) (h0_dead I)⟩

theorem forLoop_ok (S : Sound P T n r) (hA : AOk n A) {tg : Tg} {body els : List IS} {t : Expr} {body' els' : List Stmt} {fl : Fl} {R : Result → Shared → Prop} {J : Nat → List Addr → Shared → Prop} (hj : IterX P A it i ρ₀ s₀ gs J)
    (ht : tgIs (sname ns) tg t = true) (hb : allP (isS T k ns) body' body = true) (he : allP (isS T k ns) els' els = true)
    (q : ∀ ρ' s' f, MvS env ρ₀ s₀ ρ' s' → Inv P ρ' σ' s'.heap → FrameR P ρ' ns ℓ' env s'.heap → FlR P ρ' s'.heap fl f → R (.ok f) s')
    (g kk : Nat) (hgk : g + kk = gas) (e : forLoop r tg i body els g kk ℓ σ = some (fl, ℓ', σ')) (m : MvS env ρ₀ s₀ ρ s) (I : Inv P ρ σ s.heap) (F : FrameR P ρ ns ℓ env s.heap) (hJ : J kk own s) (ho : OwnOk P env s₀ ρ own) :
    codeAny P.M A (.forLoop t it body' els' env) R s := by
  refine codeAny_forLoop_any (fun g s => ∃ kk ℓ σ ρ own, g + kk = gas ∧ forLoop r tg i body els g kk ℓ σ = some (fl, ℓ', σ') ∧ MvS env ρ₀ s₀ ρ s ∧ Inv P ρ σ s.heap ∧ FrameR P ρ ns ℓ env s.heap ∧ J kk own s ∧ OwnOk P env s₀ ρ own) ?_ g ⟨kk, ℓ, σ, ρ, own, hgk, e, m, I, F, hJ, ho⟩
  clear e m I F hJ ho hgk
  rintro g s ⟨kk, ℓ, σ, ρ, own, hgk, e, m, I, F, hJ, ho⟩
  cases g with
  | zero => exact noS e
  | succ g =>
    have soft := hj.soft kk own s hJ
    refine oO_elim e fun o hn e => hj.next kk own ρ σ s o _ _ (by omega) hJ I (fun j a h => m.get h) hn fun x s1 st hx => ?_
    have I1 := I.stepN st soft ho.st ho.h0
    have F1 := F.stepN st soft ho.fr
    have m1 := Mv.stepN m st ho.dead hj.gnew
    cases o with
    | none =>
      cases hx
      exact wpAny_mono (S.b e he F1 I1 hA) (fun f s2 ⟨ρ2, m2, I2, F2, r2⟩ => q ρ2 s2 f (MvS.trans m1 I1 F1 m2) I2 F2 r2) fun _ _ x => x
    | some v =>
      obtain ⟨y, own', rfl, ry, hJ1, hown⟩ := hx
      have ho1 : OwnOk P env s₀ ρ own' := ho.grow (fun a ha => m.back (fun b hb => (softs_app I F b ((List.mem_append.mp hb).elim (List.mem_append_left _) fun hb => List.mem_append_right _ (m.mem hb))).live) ha) I F hown
      refine hj.letGo hJ1 ?_
      refine oO_elim e fun ℓ2 hbind e => oP_elim e fun fl3 p eb e => ?_
      refine assign_ok okIn_s (fun _ h => h) hA.handled ht hbind F1 I1 ry fun s2 ⟨st2, I2, F2⟩ => ?_
      have m2 : MvS env ρ₀ s₀ ρ s2 := MvS.trans m1 I1 F1 (Mv.of_step (st2.mono fun a ha => .inl (List.mem_append_left _ ha)))
      have hJ2 : J (kk + 1) own' s2 := hj.stable _ _ _ _ hJ1 (fun a ha o e => st2.keep a o e fun hm => ho1.fr a hm ha) I2.keep fun g hg x e => st2.gens g x e
      refine wpAny_mono (S.b (ℓ' := p.1) (σ' := p.2) eb hb F2 I2 hA) (fun f s3 ⟨ρ3, m3, I3, F3, r3⟩ => ?_) fun _ _ x => x
      have mm := MvS.trans m2 I2 F2 m3
      cases fl3 with
      | next =>
        cases r3
        refine ⟨g, Nat.lt_succ_self _, _, _, _, _, own', by omega, e, mm, I3, F3, ?_, ⟨ho1.dead, ho1.fr, fun a ha hm => ?_, ho1.h0⟩⟩
        · exact hj.stable _ _ _ _ hJ2 (fun a ha o e => m3.step.keep a o e fun hm => (List.mem_append.mp hm).elim (fun hm => ho1.fr a hm ha) (ho1.st a ha)) I3.keep fun g hg x e => m3.step.gens g x e
        · refine (m3.cases hm).elim (ho1.st a ha) fun hm => ?_
          obtain ⟨o, e⟩ := (hj.soft _ _ _ hJ2 a ha).live
          rw [hm] at e; cases e
      | brk => cases r3; cases e; exact q ρ3 s3 .next mm I3 F3 rfl
      | ret w => cases e; obtain ⟨x, rfl, rx⟩ := r3; exact q ρ3 s3 (.ret x) mm I3 F3 ⟨x, rfl, rx⟩
end

end Mine
end
section
namespace Mine
open PySem PySem.W PyProof.Rows

section
variable {P : Par} {ρ ρ₀ ρ' : List Addr} {σ σ' : Sto} {s s₀ s' : Shared} {A : Around} {E : Value → Shared → Prop} {ns : Names} {ℓ ℓ' : Loc} {env : Env} {n k : Nat} {r : Rec} {v : AV}
  {it : Value} {i : Itr} {own W : List Addr} {gs : List Nat} {J : Nat → Shared → Prop} {ok : Str → Nat → Bool}

theorem isE_noSet {e : Expr} {ie : IE} (h : isE T k ns e ie = true) : ∀ x, foldedSetIterable e env x = pure x := by
  cases k with
  | zero => cases h
  | succ k =>
    intro x
    simp only [isE_q2, Bool.and_eq_true, Bool.not_eq_true'] at h
    cases e <;> first | rfl | cases h.1

theorem isIt_noSet {e : Expr} {ie : IE} (h : isIt (isE T k ns) ns ie e = true) : ∀ x, foldedSetIterable e env x = pure x := by
  have key : ∀ kd, isItK (isE T k ns) ns kd ie e = true → ∀ x, foldedSetIterable e env x = pure x := by
    intro kd
    cases kd with
    | r1 a => exact fun h => xCall_elim h fun _ _ _ _ _ _ => rfl
    | r2 a b => exact fun h => xCall_elim h fun _ _ _ _ _ _ => rfl
    | val => exact isE_noSet
  exact key _ h

theorem Step.pushed' {s : Shared} {o : Obj} {t : Nat} : Step [] s { s with heap := s.heap.push o, toks := t } := .pushed

theorem frame_push (F : FrameR P ρ ns ℓ env s.heap) (st : Step [] s s') : FrameR P ρ ns ℓ env s'.heap := by
  have := F.kpW (W := []) st.keep (by simp) (by simp) (new := []) (by intro a ha; cases ha)
  rwa [List.append_nil] at this
theorem inv_push (I : Inv P ρ σ s.heap) (st : Step [] s s') : Inv P ρ σ s'.heap := I.kp st.keep

theorem range_ok (G : GF P T ft init) (hA : AOk n A) {a b : Int} {t u : Tok} (ha : small a = true) (hb : small b = true) (I : Inv P ρ σ s.heap) {Q : Value → Shared → Prop} {rr : Addr} {w : Tok} (hr : IsRange s.heap rr a b 1 t u w)
    (q : ∀ s2 it own J, Step [] s s2 → IterJ P A it (.vals (rangeL a (b - a).toNat)) ρ s own [] J → J 0 s2 → Q it s2) : wpAny P.M A (pyIter (.ref rr)) Q E s := by
  have ha' := small_iff ha
  have hb' := small_iff hb
  have hsm : Builtin.Range.small a b 1 = true := small_one (by omega) (by omega) (by omega) (by omega)
  refine wpAny_pyIter_range hr hsm ?_
  refine q _ _ _ _ (.pushed (t := s.toks)) (iter_range hA.handled (get_size_none _)) ⟨?_, Nat.zero_le _⟩
  have e : (Builtin.Range.rangeSize a b 1) = ((b - a).toNat : Int) := by rw [rangeSize_one]; split <;> omega
  show IsRangeIter (s.heap.push _) _ _ _ _
  rw [e]
  have := Heap.get?_push_size s.heap (o := { cls := .type "range_iterator", data := .fields #[rawInt a, rawInt ((b - a).toNat : Int), rawInt 1] }) rfl
  show (s.heap.push _).get? _ = _
  rw [this]
  simp

/-- what is known of an iterator that is made -/
noncomputable def ItQ (P : Par) (A : Around) (ns : Names) (ℓ : Loc) (env : Env) (ρ : List Addr) (σ' : Sto) (s : Shared) (i : Itr) (Q : Value → Shared → Prop) : Prop :=
  ∀ ρ' s1 s2 it own J, MvE ρ s ρ' s1 → Inv P ρ' σ' s1.heap → FrameR P ρ' ns ℓ env s1.heap → Step [] s1 s2 → IterJ P A it i ρ' s1 own [] J → J 0 s2 → Q it s2

theorem it_r1 (G : GF P T ft init) (S : Sound P T n r) (hA : AOk n A) {a : IE} {e : Expr} (h : evItK r (.r1 a) (.rng1 a) ℓ σ = some (i, σ')) (hi : isItK (isE T k ns) ns (.r1 a) (.rng1 a) e = true) (F : FrameR P ρ ns ℓ env s.heap) (I : Inv P ρ σ s.heap) {Q : Value → Shared → Prop}
    (q : ItQ P A ns ℓ env ρ σ' s i Q) : wpAny P.M A (eval e env) (fun x s1 => wpAny P.M A (pyIter x) Q E s1) E s := by
  obtain ⟨mg, mb, n1, n2, _, n4, n5, _⟩ := G.ns
  revert q
  refine xCall_elim hi fun fn es kw pos hi => ?_
  obtain ⟨h0, hi⟩ := andB hi
  refine isNil_elim h0 (xName_elim hi fun x p hi => one_elim hi fun e1' hi => ?_)
  obtain ⟨h2, h1⟩ := andB hi
  obtain ⟨h3, hg⟩ := andB h2
  obtain rfl := eq_of_beq h3
  refine oP_elim h fun w σ1 ea h => ?_
  have hi : allP (isE T k ns) [e1'] [a] = true := allP1 h1
  have hev : evEs r [a] ℓ σ = some ([w], σ1) := by simp only [evEs_q1, evEs_q2, ea, oP]
  refine oI_elim (motive := fun w => evEs r [a] ℓ σ = some ([w], σ1) → ItQ P A ns ℓ env ρ σ' s i Q → _) h (fun m h hev => ?_) hev
  refine iN_elim h fun hm h => ret_elim (motive := fun i σ' => ItQ P A ns ℓ env ρ σ' s i Q → _) h fun q => ?_
  refine Call_Name rfl (builtin_ok hg F I n1 n4 n2 n5 (PyProof.Rows.callWith_type (star_plain hi).1 (argsL S hev hi F I hA fun ρ1 s1 xs m1 I1 F1 r1 => rv1_elim r1 fun xv rx => int_elim rx fun t => ?_)))
  refine call_range_1 ?_
  have st : Step [] s1 { s1 with heap := s1.heap.push { cls := .type "range", data := .fields #[.int 0 s1.toks, .int m t, .int 1 (s1.toks + 1)] }, toks := s1.toks + 1 + 1 } := .pushed
  refine range_ok G hA (by decide) (andB hm).1 (inv_push I1 st) (Heap.get?_push_size _ rfl) fun s2 it own J st2 hj hJ => ?_
  rw [Int.sub_zero] at hj
  exact q ρ1 _ s2 it own J (m1.trans I1 (.of_step (st.mono (by simp)))) (inv_push I1 st) (frame_push F1 st) st2 hj hJ

theorem it_r2 (G : GF P T ft init) (S : Sound P T n r) (hA : AOk n A) {a b : IE} {e : Expr} (h : evItK r (.r2 a b) (.rng2 a b) ℓ σ = some (i, σ')) (hi : isItK (isE T k ns) ns (.r2 a b) (.rng2 a b) e = true) (F : FrameR P ρ ns ℓ env s.heap) (I : Inv P ρ σ s.heap) {Q : Value → Shared → Prop}
    (q : ItQ P A ns ℓ env ρ σ' s i Q) : wpAny P.M A (eval e env) (fun x s1 => wpAny P.M A (pyIter x) Q E s1) E s := by
  obtain ⟨mg, mb, n1, n2, _, n4, n5, _⟩ := G.ns
  revert q
  refine xCall_elim hi fun fn es kw pos hi => ?_
  obtain ⟨h0, hi⟩ := andB hi
  refine isNil_elim h0 (xName_elim hi fun x p hi => two_elim hi fun e1' e2' hi => ?_)
  obtain ⟨h4, h2⟩ := andB hi
  obtain ⟨h5, h1⟩ := andB h4
  obtain ⟨h3, hg⟩ := andB h5
  obtain rfl := eq_of_beq h3
  refine oP_elim h fun w σ1 ea h => oP_elim h fun w2 σ2 eb h => ?_
  have hi : allP (isE T k ns) [e1', e2'] [a, b] = true := allP2 h1 h2
  have hev : evEs r [a, b] ℓ σ = some ([w, w2], σ2) := by simp only [evEs_q1, evEs_q2, ea, eb, oP]
  refine oI_elim (motive := fun w => evEs r [a, b] ℓ σ = some ([w, w2], σ2) → ItQ P A ns ℓ env ρ σ' s i Q → _) h (fun m h hev => ?_) hev
  refine oI_elim (motive := fun w2 => evEs r [a, b] ℓ σ = some ([.int m, w2], σ2) → ItQ P A ns ℓ env ρ σ' s i Q → _) h (fun m' h hev => ?_) hev
  refine iN_elim h fun hm h => ret_elim (motive := fun i σ' => ItQ P A ns ℓ env ρ σ' s i Q → _) h fun q => ?_
  refine Call_Name rfl (builtin_ok hg F I n1 n4 n2 n5 (PyProof.Rows.callWith_type (star_plain hi).1 (argsL S hev hi F I hA fun ρ1 s1 xs m1 I1 F1 r1 => rv2_elim r1 fun xv xv2 rx ry => int_elim rx fun t => int_elim ry fun t2 => ?_)))
  refine call_range_2 ?_
  have st : Step [] s1 { s1 with heap := s1.heap.push { cls := .type "range", data := .fields #[.int m t, .int m' t2, .int 1 s1.toks] }, toks := s1.toks + 1 } := .pushed
  obtain ⟨hm1, hm2⟩ := andB (andB hm).1
  refine range_ok G hA hm1 hm2 (inv_push I1 st) (Heap.get?_push_size _ rfl) fun s2 it own J st2 hj hJ => ?_
  exact q ρ1 _ s2 it own J (m1.trans I1 (.of_step (st.mono (by simp)))) (inv_push I1 st) (frame_push F1 st) st2 hj hJ

theorem it_val (hA : AOk n A) {x : AV} {xv : Value} (h : itVal x σ = some (i, σ')) (rx : RV P ρ s.heap x xv) (F : FrameR P ρ ns ℓ env s.heap) (I : Inv P ρ σ s.heap) {Q : Value → Shared → Prop} (q : ItQ P A ns ℓ env ρ σ' s i Q) : wpAny P.M A (pyIter xv) Q E s := by
  revert q rx
  cases x with
  | str x =>
    refine fun rx => iN_elim h fun hx h => ret_elim h fun q => str_elim rx fun t => ?_
    have hx' : (⟨x.toArray⟩ : Str).cps.all (· < 128) = true := by
      rw [← Array.all_toList]
      simp only [List.all_eq_true, Nat.blt_eq] at hx
      simp only [List.all_eq_true, decide_eq_true_eq]
      exact hx
    refine wpAny_pyIter_ascii hx' ?_
    exact q ρ s _ _ _ _ (.refl ..) I F (.pushed (t := s.toks)) (iter_str hA.handled (get_size_none _)) ⟨⟨_, Heap.get?_push_size _ rfl, rfl, rfl⟩, Nat.zero_le _⟩
  | ref j =>
    refine fun rx => iN_elim h fun hl h => ret_elim h fun q => ?_
    obtain ⟨l, hl⟩ := Option.isSome_iff_exists.mp hl
    refine list_elim I hl rx fun a vs ha p _ _ _ => wpAny_pyIter_list p.isList ?_
    exact q ρ s _ _ _ _ (.refl ..) I F (.pushed (t := s.toks)) (iter_list hA.handled (get_size_none _) ha) ⟨_, Heap.get?_push_size _ rfl, rfl, rfl⟩
  | _ => exact noS h

theorem it_ok (G : GF P T ft init) (S : Sound P T n r) (hA : AOk n A) {ie : IE} {e : Expr} (h : evIt r ie ℓ σ = some (i, σ')) (hi : isIt (isE T k ns) ns ie e = true) (F : FrameR P ρ ns ℓ env s.heap) (I : Inv P ρ σ s.heap) {Q : Value → Shared → Prop}
    (q : ItQ P A ns ℓ env ρ σ' s i Q) : wpAny P.M A (eval e env) (fun x s1 => wpAny P.M A (pyIter x) Q E s1) E s := by
  have key : ∀ kd, evItK r kd ie ℓ σ = some (i, σ') → isItK (isE T k ns) ns kd ie e = true → wpAny P.M A (eval e env) (fun x s1 => wpAny P.M A (pyIter x) Q E s1) E s := by
    intro kd
    cases kd with
    | r1 a => exact fun h hi => it_r1 G S hA h hi F I q
    | r2 a b => exact fun h hi => it_r2 G S hA h hi F I q
    | val => exact fun h hi => oP_elim h fun x σ1 ea h => e1 S ea hi F I hA fun ρ1 s1 xv m1 I1 F1 r1 => it_val hA h r1 F1 I1 fun ρ2 s2 s3 it own J m2 I2 F2 => q ρ2 s2 s3 it own J (m1.trans I1 m2) I2 F2
  exact key _ h hi
end

end Mine
end
section
namespace Mine
open PySem PySem.W PyProof.Rows

/-! ### the loops of a comprehension, in the text's tree -/

abbrev testsOf (ifs : List Expr) (env : Env) : Sem Bool :=
  forIn ifs true fun c r => if r = true then do let ok ← isTrue c env (eval c env); pure (ForInStep.yield ok) else pure (ForInStep.yield r)

section
variable {prog : Program} {w : World} {A : Around} {E : Value → Shared → Prop} {R : Result → Shared → Prop} {s : Shared}

theorem compTurn_in (elt target iter target2 iter2 : Expr) (ifs ifs2 : List Expr) (scope : Scope) (pos : Pos) (it acc : Value) (env : Env) :
    compTurn (.ListComp elt [⟨target, iter, ifs, 0⟩, ⟨target2, iter2, ifs2, 0⟩] scope pos) 1 it acc env = (do
      standAt iter2.pos
      match ← pyNext it with
      | none => pure (.done .next)
      | some v =>
        letOwnedTupleGo target2 it v
        assign target2 env v
        let mut ok := true
        for c in ifs2 do
          if ok then ok ← isTrue c env (eval c env)
        if ok then
          (do let _ ← call (.builtin "list.append") [acc, ← eval elt env])
        again (.compLoop (.ListComp elt [⟨target, iter, ifs, 0⟩, ⟨target2, iter2, ifs2, 0⟩] scope pos) 1 it acc env)) := by rfl

theorem compTurn_out (elt target iter target2 iter2 : Expr) (ifs ifs2 : List Expr) (scope : Scope) (pos : Pos) (it acc : Value) (env : Env) :
    compTurn (.ListComp elt [⟨target, iter, ifs, 0⟩, ⟨target2, iter2, ifs2, 0⟩] scope pos) 0 it acc env = (do
      standAt iter.pos
      match ← pyNext it with
      | none => pure (.done .next)
      | some v =>
        letOwnedTupleGo target it v
        assign target env v
        let mut ok := true
        for c in ifs do
          if ok then ok ← isTrue c env (eval c env)
        if ok then
          let x ← eval iter2 env
          standAt iter2.pos
          let x ← foldedSetIterable iter2 env x
          let y ← holding [x] (pyIter x)
          let _ ← runOwn (.compStart (.ListComp elt [⟨target, iter, ifs, 0⟩, ⟨target2, iter2, ifs2, 0⟩] scope pos) 1 y acc env) env
          again (.compLoop (.ListComp elt [⟨target, iter, ifs, 0⟩, ⟨target2, iter2, ifs2, 0⟩] scope pos) 0 it acc env)
        else
          again (.compLoop (.ListComp elt [⟨target, iter, ifs, 0⟩, ⟨target2, iter2, ifs2, 0⟩] scope pos) 0 it acc env)) := by rfl

/-- what one turn must bring -/
noncomputable def TurnOf (prog : Program) (w : World) (A : Around) (R : Result → Shared → Prop) (I : Nat → Shared → Prop) (target : Expr) (ifs : List Expr) (it : Value) (env : Env) (c : Code) (branch : Sem Fin) : Prop :=
  ∀ n s, I n s → wpAny (model prog w) A (pyNext it) (fun r s₁ => match r with
      | none => R (.ok .next) s₁
      | some v => wpAny (model prog w) A (letOwnedTupleGo target it v) (fun _ s₁' => wpAny (model prog w) A (assign target env v) (fun _ s₂ =>
          wpAny (model prog w) A (testsOf ifs env) (fun ok s₃ =>
            if ok = true then wpAny (model prog w) A branch (fun fin s₅ => fin = .again c ∧ ∃ m, m < n ∧ I m s₅) (notedBy (model prog w) A env fun e s' => R (.error e) s') s₃
            else ∃ m, m < n ∧ I m s₃) (notedBy (model prog w) A env fun e s' => R (.error e) s') s₂) (notedBy (model prog w) A env fun e s' => R (.error e) s') s₁') (notedBy (model prog w) A env fun e s' => R (.error e) s') s₁) (notedBy (model prog w) A env fun e s' => R (.error e) s') s

theorem turn_run {target : Expr} {ifs : List Expr} {it : Value} {env : Env} {branch : Sem Fin} {I : Nat → Shared → Prop} {c : Code} {n : Nat} {E : Value → Shared → Prop} {p : Pos}
    (turn : wpAny (model prog w) A (pyNext it) (fun r s₁ => match r with
      | none => R (.ok .next) s₁
      | some v => wpAny (model prog w) A (letOwnedTupleGo target it v) (fun _ s₁' => wpAny (model prog w) A (assign target env v) (fun _ s₂ =>
          wpAny (model prog w) A (testsOf ifs env) (fun ok s₃ =>
            if ok = true then wpAny (model prog w) A branch (fun fin s₅ => fin = .again c ∧ ∃ m, m < n ∧ I m s₅) E s₃
            else ∃ m, m < n ∧ I m s₃) E s₂) E s₁') E s₁) E s) :
    wpAny (model prog w) A (do
      standAt p
      match ← pyNext it with
      | none => pure (.done .next)
      | some v =>
        letOwnedTupleGo target it v
        assign target env v
        let mut ok := true
        for c in ifs do
          if ok then ok ← isTrue c env (eval c env)
        if ok then branch else again c) (fun fin s' => match fin with | .done f => R (.ok f) s' | .again c' => c' = c ∧ ∃ m, m < n ∧ I m s') E s := by
  refine wpAny_bind (wpAny_standAt (wpAny_bind (wpAny_mono turn (fun r s₁ h₁ => ?_) fun _ _ h' => h')))
  cases r with
  | none => exact wpAny_pure h₁
  | some v =>
    refine wpAny_bind (wpAny_mono h₁ (fun _ s₁' h₁' => ?_) fun _ _ h' => h')
    refine wpAny_bind (wpAny_mono h₁' (fun _ s₂ h₂ => wpAny_bind (wpAny_mono h₂ (fun ok s₃ h₃ => ?_) fun _ _ h' => h')) fun _ _ h' => h')
    cases ok with
    | false => exact wpAny_pure ⟨rfl, h₃⟩
    | true =>
      refine wpAny_mono h₃ (fun fin s₅ h₅ => ?_) fun _ _ h' => h'
      obtain ⟨rfl, h₅⟩ := h₅
      exact ⟨rfl, h₅⟩

theorem loop_one {elt target iter : Expr} {ifs : List Expr} {scope : Scope} {pos : Pos} {it acc : Value} {env : Env} (I : Nat → Shared → Prop)
    (turn : TurnOf prog w A R I target ifs it env (.compLoop (.ListComp elt [⟨target, iter, ifs, 0⟩] scope pos) 0 it acc env)
      ((do let _ ← call (.builtin "list.append") [acc, ← eval elt env]) >>= fun (_ : Unit) => again (.compLoop (.ListComp elt [⟨target, iter, ifs, 0⟩] scope pos) 0 it acc env)))
    (n : Nat) (h : I n s) : codeAny (model prog w) A (.compLoop (.ListComp elt [⟨target, iter, ifs, 0⟩] scope pos) 0 it acc env) R s := by
  refine codeAny_loop rfl I (fun n s hI => ?_) n h
  show wpAny _ A ((compTurn (.ListComp elt [⟨target, iter, ifs, 0⟩] scope pos) 0 it acc env).onRaise (fun x => do noteFrame x env; theTreesLotGoes x)) _ _ s
  refine wpAny_noted ?_
  rw [compTurn_list]
  exact turn_run (turn n s hI)

theorem loop_in {elt target iter target2 iter2 : Expr} {ifs ifs2 : List Expr} {scope : Scope} {pos : Pos} {it acc : Value} {env : Env} (I : Nat → Shared → Prop)
    (turn : TurnOf prog w A R I target2 ifs2 it env (.compLoop (.ListComp elt [⟨target, iter, ifs, 0⟩, ⟨target2, iter2, ifs2, 0⟩] scope pos) 1 it acc env)
      ((do let _ ← call (.builtin "list.append") [acc, ← eval elt env]) >>= fun (_ : Unit) => again (.compLoop (.ListComp elt [⟨target, iter, ifs, 0⟩, ⟨target2, iter2, ifs2, 0⟩] scope pos) 1 it acc env)))
    (n : Nat) (h : I n s) : codeAny (model prog w) A (.compLoop (.ListComp elt [⟨target, iter, ifs, 0⟩, ⟨target2, iter2, ifs2, 0⟩] scope pos) 1 it acc env) R s := by
  refine codeAny_loop rfl I (fun n s hI => ?_) n h
  show wpAny _ A ((compTurn (.ListComp elt [⟨target, iter, ifs, 0⟩, ⟨target2, iter2, ifs2, 0⟩] scope pos) 1 it acc env).onRaise (fun x => do noteFrame x env; theTreesLotGoes x)) _ _ s
  refine wpAny_noted ?_
  rw [compTurn_in]
  exact turn_run (turn n s hI)

theorem loop_out {elt target iter target2 iter2 : Expr} {ifs ifs2 : List Expr} {scope : Scope} {pos : Pos} {it acc : Value} {env : Env} (I : Nat → Shared → Prop)
    (turn : TurnOf prog w A R I target ifs it env (.compLoop (.ListComp elt [⟨target, iter, ifs, 0⟩, ⟨target2, iter2, ifs2, 0⟩] scope pos) 0 it acc env) (do
            let x ← eval iter2 env
            standAt iter2.pos
            let x ← foldedSetIterable iter2 env x
            let y ← holding [x] (pyIter x)
            let _ ← runOwn (.compStart (.ListComp elt [⟨target, iter, ifs, 0⟩, ⟨target2, iter2, ifs2, 0⟩] scope pos) 1 y acc env) env
            again (.compLoop (.ListComp elt [⟨target, iter, ifs, 0⟩, ⟨target2, iter2, ifs2, 0⟩] scope pos) 0 it acc env)))
    (n : Nat) (h : I n s) : codeAny (model prog w) A (.compLoop (.ListComp elt [⟨target, iter, ifs, 0⟩, ⟨target2, iter2, ifs2, 0⟩] scope pos) 0 it acc env) R s := by
  refine codeAny_loop rfl I (fun n s hI => ?_) n h
  show wpAny _ A ((compTurn (.ListComp elt [⟨target, iter, ifs, 0⟩, ⟨target2, iter2, ifs2, 0⟩] scope pos) 0 it acc env).onRaise (fun x => do noteFrame x env; theTreesLotGoes x)) _ _ s
  refine wpAny_noted ?_
  rw [compTurn_out]
  exact turn_run (turn n s hI)

theorem start_in {elt target iter target2 iter2 : Expr} {ifs ifs2 : List Expr} {scope : Scope} {pos : Pos} {it acc : Value} {env : Env}
    (h0 : codeAny (model prog w) A (.compLoop (.ListComp elt [⟨target, iter, ifs, 0⟩, ⟨target2, iter2, ifs2, 0⟩] scope pos) 1 it acc env) R s)
    (h : wpAny (model prog w) A (pyIter it) (fun it' s' => codeAny (model prog w) A (.compLoop (.ListComp elt [⟨target, iter, ifs, 0⟩, ⟨target2, iter2, ifs2, 0⟩] scope pos) 1 it' acc env) R s')
      (notedBy (model prog w) A env fun x s' => R (.error x) s') s) :
    codeAny (model prog w) A (.compStart (.ListComp elt [⟨target, iter, ifs, 0⟩, ⟨target2, iter2, ifs2, 0⟩] scope pos) 1 it acc env) R s := by
  refine codeAny_of_tree ?_
  show wpAny _ _ ((compStart (.ListComp elt [⟨target, iter, ifs, 0⟩, ⟨target2, iter2, ifs2, 0⟩] scope pos) 1 it acc env).onRaise (fun x => do noteFrame x env; standAt theWindowsPlace)) _ _ s
  refine wpAny_notedAt ?_
  unfold compStart
  show wpAny _ _ (ask >>= _) _ _ s
  refine wpAny_bind (wpAny_askSetting (wpAny_ite ?_))
  split
  · first
      | exact wpAny_bind (wpAny_pure (wpAny_pure (And.intro rfl h0)))
      | exact wpAny_pure (And.intro rfl h0)
  · first
      | exact wpAny_bind (wpAny_rule (wpAny_bind (wpAny_standAt (wpAny_bind (wpAny_mono h (fun it' s' h' => wpAny_pure (And.intro rfl h')) fun _ _ x => x)))))
      | (refine wpAny_bind (wpAny_rule ?_); show wpAny _ _ (standAt iter2.pos >>= _) _ _ s; exact wpAny_bind (wpAny_standAt (wpAny_bind (wpAny_mono h (fun it' s' h' => wpAny_pure (And.intro rfl h')) fun _ _ x => x))))
end

/-! ### the frame of a comprehension -/

theorem slot_at {names : Names} {x : Str} {i : Nat} (h : slot names x = some i) : ∃ k, names[i]? = some (x, k) := by
  unfold slot at h
  obtain ⟨a1, a2, _⟩ := List.findIdx?_eq_some_iff_getElem.mp h
  rw [beq_iff_eq] at a2
  exact ⟨names[i].2, by rw [List.getElem?_eq_getElem a1, ← a2]⟩

theorem lookup_at : ∀ {l : Names} {x : Str} {c : NameKind}, (l.map (·.1)).Nodup → (x, c) ∈ l → l.lookup x = some c
  | (y, d) :: r, x, c, hn, hm => by
    rw [List.map_cons, List.nodup_cons] at hn
    rw [List.lookup_cons]
    rcases List.mem_cons.mp hm with e | hm
    · cases e; rw [beq_self_eq_true]
    · have : (x == y) = false := by
        have : x ≠ y := fun e => hn.1 (e ▸ List.mem_map_of_mem (f := (·.1)) hm)
        simpa using this
      rw [this]
      exact lookup_at hn.2 hm

noncomputable def clOf (env : Env) : Names → List (Str × Addr) → List (Str × Addr)
  | [], acc => acc
  | (x, k) :: r, acc => if k == .free then clOf env r ((x, (env.cells.lookup x).getD 0) :: acc) else clOf env r acc
theorem clOf_q1 (env : Env) : clOf env ([]) (acc) = (acc) := rfl
theorem clOf_q2 (env : Env) : clOf env ((x, k) :: r) (acc) = (if k == .free then clOf env r ((x, (env.cells.lookup x).getD 0) :: acc) else clOf env r acc) := rfl

set_option tactic.hygienic true
theorem closure_loop {env : Env} (f : Str × NameKind → List (Str × Addr) → Sem (ForInStep (List (Str × Addr))))
    (hf : ∀ name kind cs, f (name, kind) cs = if kind == .free then (do let c ← cellOf env name; pure (.yield ((name, c) :: cs))) else pure (.yield cs)) :
    ∀ (names : Names) (acc : List (Str × Addr)), (∀ p ∈ names, p.2 = .free → (env.cells.lookup p.1).isSome = true) → forIn names acc f = (pure (clOf env names acc) : Sem _)
  | [], acc, _ => rfl
  | (x, kd) :: r, acc, h => by
    rw [List.forIn_cons, hf, clOf_q2]
    split
    · rename_i hk
      obtain ⟨c, hc⟩ := Option.isSome_iff_exists.mp (h (x, kd) List.mem_cons_self (by simpa using hk))
      unfold cellOf
      dsimp only at hc
      rw [hc]
      simp only [pure_bind]
      exact closure_loop f hf r _ fun p hp => h p (List.mem_cons_of_mem _ hp)
    · simp only [pure_bind]
      exact closure_loop f hf r _ fun p hp => h p (List.mem_cons_of_mem _ hp)

set_option tactic.hygienic false
theorem closure_is {env : Env} {sc : Scope} (h : ∀ p ∈ sc.names, p.2 = .free → (env.cells.lookup p.1).isSome = true) : closureFor sc env = pure (clOf env sc.names []) := by
  unfold closureFor
  show (forIn sc.names [] _ >>= _) = _
  rw [closure_loop (env := env) _ _ sc.names [] h]
  · rfl
  · intro name kind cs
    cases hk : kind == NameKind.free <;> simp [hk]

set_option tactic.hygienic true
theorem clOf_mem {env : Env} : ∀ (names : Names) (acc : List (Str × Addr)) (p : Str × Addr), (∀ p ∈ names, p.2 = .free → (env.cells.lookup p.1).isSome = true) → p ∈ clOf env names acc → p ∈ acc ∨ (env.cells.lookup p.1 = some p.2 ∧ (p.1, NameKind.free) ∈ names)
  | [], acc, p, _, h => .inl h
  | (x, kd) :: r, acc, p, hs, h => by
    (first | rewrite [clOf_q2] at h | rewrite [clOf_q1] at h)
    split at h
    · rename_i hk
      have hk' : kd = .free := by simpa using hk
      rcases clOf_mem r _ p (fun p hp => hs p (List.mem_cons_of_mem _ hp)) h with h | ⟨h1, h2⟩
      · rcases List.mem_cons.mp h with rfl | h
        · obtain ⟨c, hc⟩ := Option.isSome_iff_exists.mp (hs (x, kd) List.mem_cons_self hk')
          dsimp only at hc ⊢
          rw [hc]
          exact .inr ⟨rfl, by rw [hk']; exact List.mem_cons_self⟩
        · exact .inl h
      · exact .inr ⟨h1, List.mem_cons_of_mem _ h2⟩
    · rcases clOf_mem r _ p (fun p hp => hs p (List.mem_cons_of_mem _ hp)) h with h | ⟨h1, h2⟩
      · exact .inl h
      · exact .inr ⟨h1, List.mem_cons_of_mem _ h2⟩

set_option tactic.hygienic false
set_option tactic.hygienic true
theorem clOf_has {env : Env} : ∀ (names : Names) (acc : List (Str × Addr)) (x : Str), x ∈ acc.map (·.1) ∨ (x, NameKind.free) ∈ names → x ∈ (clOf env names acc).map (·.1)
  | [], acc, x, h => by rcases h with h | h; exact h; cases h
  | (y, kd) :: r, acc, x, h => by
    (first | rewrite [clOf_q2] | rewrite [clOf_q1])
    split
    · rename_i hk
      have hk' : kd = .free := by simpa using hk
      refine clOf_has r _ x ?_
      rcases h with h | h
      · exact .inl (List.mem_cons_of_mem _ h)
      · rcases List.mem_cons.mp h with e | h
        · cases e; exact .inl List.mem_cons_self
        · exact .inr h
    · rename_i hk
      refine clOf_has r _ x ?_
      rcases h with h | h
      · exact .inl h
      · rcases List.mem_cons.mp h with e | h
        · cases e; exact absurd rfl hk
        · exact .inr h

set_option tactic.hygienic false
theorem clOf_keys {env : Env} : ∀ (names : Names) (acc : List (Str × Addr)), (names.map (·.1)).Nodup → (acc.map (·.1)).Nodup → (∀ x ∈ names, x.1 ∉ acc.map (·.1)) → ((clOf env names acc).map (·.1)).Nodup
  | [], _, _, h, _ => h
  | (x, kd) :: r, acc, h1, h2, h3 => by
    rw [List.map_cons, List.nodup_cons] at h1
    (first | rewrite [clOf_q2] | rewrite [clOf_q1])
    split
    · refine clOf_keys r _ h1.2 ?_ fun y hy hm => ?_
      · rw [List.map_cons, List.nodup_cons]
        exact ⟨h3 _ List.mem_cons_self, h2⟩
      · rw [List.map_cons] at hm
        rcases List.mem_cons.mp hm with e | hm
        · exact h1.1 (e ▸ List.mem_map_of_mem hy)
        · exact h3 y (List.mem_cons_of_mem _ hy) hm
    · exact clOf_keys r acc h1.2 h2 fun y hy => h3 y (List.mem_cons_of_mem _ hy)

end Mine
end
section
namespace Mine
open PySem PySem.W PyProof.Rows

section
variable {P : Par} {ρ ρ₀ ρ' ρ'' : List Addr} {σ σ' : Sto} {s s₀ s' s'' : Shared} {A : Around} {E : Value → Shared → Prop} {ns : Names} {ℓ ℓ' : Loc} {env : Env} {n k : Nat} {r : Rec} {v : AV}
  {it : Value} {i : Itr} {own W : List Addr} {gs : List Nat} {J : Nat → Shared → Prop} {ok : Str → Nat → Bool} {sc : Scope} {imp : List (Option Nat)} {C D : Addr}

structure CompIs (ns : Names) (sc : Scope) (imp : List (Option Nat)) : Prop where
  kind : sc.kind = .function
  nodup : (sc.names.map (·.1)).Nodup
  imp : imp = impOf ns sc.names
  nos : (cnames ns sc.names).lookup sSimple = none
  all : ∀ p ∈ sc.names, p.2 = .local ∨ (p.2 = .free ∧ ns.lookup p.1 = some .cell ∧ (slot ns p.1).isSome = true) ∨ p.2 = .globalImplicit

theorem compIs (h : compOk ns sc imp = true) : CompIs ns sc imp := by
  simp only [compOk, Bool.and_eq_true, Bool.or_eq_true, decide_eq_true_eq, List.all_eq_true] at h
  exact ⟨h.1.1.1.1, h.1.1.1.2, h.1.1.2, h.1.2, fun p hp => or_assoc.mp (h.2 p hp)⟩

set_option tactic.hygienic true
theorem cnames_at {ns names : Names} {i : Nat} {x : Str} {kd : NameKind} (h : (cnames ns names)[i]? = some (x, kd)) : ∃ kd', names[i]? = some (x, kd') ∧ ((kd' = .free ∧ ns.lookup x = some .cell ∧ kd = .cell) ∨ ((¬ (kd' = .free ∧ ns.lookup x = some .cell)) ∧ kd = kd')) := by
  unfold cnames at h
  rw [List.getElem?_map] at h
  obtain ⟨⟨y, kd'⟩, h1, h2⟩ := Option.map_eq_some_iff.mp h
  dsimp only at h2
  split at h2
  · rename_i hc
    cases h2
    exact ⟨kd', h1, .inl ⟨hc.1, hc.2, rfl⟩⟩
  · rename_i hc
    cases h2
    exact ⟨kd, h1, .inr ⟨hc, rfl⟩⟩

set_option tactic.hygienic false
theorem cnames_keys {ns names : Names} : (cnames ns names).map (·.1) = names.map (·.1) := by
  unfold cnames
  rw [List.map_map]
  refine List.map_congr_left fun p _ => ?_
  show (if _ then _ else _ : Str × NameKind).1 = _
  split <;> rfl

theorem relabel_names (hF : env.scope.kind = .function) (hn : env.scope.names = ns) : (relabel sc env).names = cnames ns sc.names := by
  show sc.names.map _ = sc.names.map _
  refine List.map_congr_left fun p _ => ?_
  obtain ⟨x, kd⟩ := p
  have hk : env.kindOf x = ns.lookup x := by rw [← hn]; rfl
  dsimp only
  rw [hF, hk]
  by_cases h : kd = .free ∧ ns.lookup x = some .cell
  · rw [if_pos h, if_pos (by rw [h.1, h.2]; decide)]
  · rw [if_neg h, if_neg]
    intro hb
    simp only [Bool.and_eq_true, beq_iff_eq] at hb
    exact h ⟨hb.1.1, hb.2⟩

theorem free_cells (c : CompIs ns sc imp) {h : Heap} (F : FrameR P ρ ns ℓ env h) : ∀ p ∈ sc.names, p.2 = .free → (env.cells.lookup p.1).isSome = true := by
  intro p hp hf
  rcases c.all p hp with h | ⟨_, h1, h2⟩ | h
  · rw [hf] at h; cases h
  · obtain ⟨j, hj⟩ := Option.isSome_iff_exists.mp h2
    obtain ⟨a, ov, ha, _⟩ := F.cell j p.1 hj h1
    rw [ha]; rfl
  · rw [hf] at h; cases h

set_option tactic.hygienic true
theorem comp_frame (c : CompIs ns sc imp) {h : Heap} {m : Str → Option Value} (F : FrameR P ρ ns ℓ env h) (hm : ∀ x, m x = none) (hns : h.Ns C m) (hC1 : C ∉ ρ) (hC2 : P.h₀.get? C = none) : FrameR P ρ (cnames ns sc.names) (impLoc imp ℓ) (compEnvC sc (clOf env sc.names []) C env) h := by
  have hfree := free_cells c F
  have hkeys : ((cnames ns sc.names).map (·.1)).Nodup := by rw [cnames_keys]; exact c.nodup
  have hclk := clOf_keys (env := env) sc.names [] c.nodup List.nodup_nil (by simp)
  have hmem : ∀ p ∈ clOf env sc.names [], env.cells.lookup p.1 = some p.2 := fun p hp => by
    rcases clOf_mem sc.names [] p hfree hp with h | h
    · cases h
    · exact h.1
  have himp : ∀ (i : Nat) (v : AV), (impLoc imp ℓ)[i]? = some (some v) → ∃ j : Nat, imp[i]? = some (some j) ∧ ℓ[j]? = some (some v) := by
    intro i v hv
    unfold impLoc at hv
    rw [List.getElem?_map] at hv
    obtain ⟨o, h1, h2⟩ := Option.map_eq_some_iff.mp hv
    cases o with
    | none => cases h2
    | some j =>
      refine ⟨j, h1, ?_⟩
      dsimp only at h2
      cases hj : ℓ[j]? with
      | none => rw [hj] at h2; cases h2
      | some w => rw [hj] at h2; cases w with
        | none => cases h2
        | some w => cases h2; rfl
  have hslot : ∀ (i j : Nat) x kd, sc.names[i]? = some (x, kd) → imp[i]? = some (some j) → kd = .free ∧ slot ns x = some j := by
    intro i j x kd h1 h2
    rw [c.imp] at h2
    unfold impOf at h2
    rw [List.getElem?_map, h1] at h2
    simp only [Option.map_some, Option.some.injEq] at h2
    split at h2
    · rename_i hk; exact ⟨hk, h2⟩
    · cases h2
  refine ⟨c.kind, relabel_names F.kind F.nmEq, F.globals, F.builtins, ⟨m, hns, hm _, ?_⟩, ?_, ?_, ?_, ?_, c.nos⟩
  · intro i x v e1 e2 e3
    obtain ⟨kd, hkd⟩ := slot_at e1
    have := lookup_at hkeys (List.mem_of_getElem? hkd)
    rw [e2] at this
    cases this
    obtain ⟨kd', h1, h2⟩ := cnames_at hkd
    obtain ⟨j, hj, _⟩ := himp i v e3
    obtain ⟨h3, _⟩ := hslot i j x kd' h1 hj
    rcases h2 with ⟨_, _, h⟩ | ⟨_, h⟩
    · cases h
    · rw [h3] at h; cases h
  · intro i x e1 e2
    obtain ⟨kd, hkd⟩ := slot_at e1
    have := lookup_at hkeys (List.mem_of_getElem? hkd)
    rw [e2] at this
    cases this
    obtain ⟨kd', h1, h2⟩ := cnames_at hkd
    have hp := List.mem_of_getElem? h1
    have hfr : kd' = .free ∧ ns.lookup x = some .cell := by
      rcases h2 with ⟨a, b, _⟩ | ⟨_, h⟩
      · exact ⟨a, b⟩
      · rcases c.all _ hp with h' | ⟨h', _⟩ | h' <;> rw [← h] at h' <;> cases h'
    obtain ⟨rfl, hcell⟩ := hfr
    have hsl : (slot ns x).isSome = true := by
      rcases c.all _ hp with h' | ⟨_, _, h'⟩ | h'
      · cases h'
      · exact h'
      · cases h'
    obtain ⟨j, hj⟩ := Option.isSome_iff_exists.mp hsl
    obtain ⟨a, ov, ha, hi, f⟩ := F.cell j x hj hcell
    have hcl : (clOf env sc.names []).lookup x = some a := by
      have hx := clOf_has (env := env) sc.names [] x (.inr hp)
      obtain ⟨⟨x', a'⟩, hm1, hm2⟩ := List.mem_map.mp hx
      dsimp only at hm2
      subst hm2
      have := hmem _ hm1
      dsimp only at this
      rw [ha] at this
      cases this
      exact lookup_of_mem hclk hm1
    refine ⟨a, ov, hcl, hi, fun v e3 => ?_⟩
    obtain ⟨j', hj', hl⟩ := himp i v e3
    obtain ⟨_, h4⟩ := hslot i j' x _ h1 hj'
    rw [hj] at h4; cases h4
    exact f v hl
  · intro a ha
    rcases List.mem_cons.mp ha with rfl | ha
    · exact ⟨hC1, hC2⟩
    · obtain ⟨p, hp, rfl⟩ := List.mem_map.mp ha
      exact F.out _ (List.mem_cons_of_mem _ (List.mem_map.mpr ⟨_, mem_of_lookup (hmem p hp), rfl⟩))
  · intro a ha
    obtain ⟨p, hp, rfl⟩ := List.mem_map.mp ha
    exact F.soft _ (List.mem_map.mpr ⟨_, mem_of_lookup (hmem p hp), rfl⟩)
  · show (clOf env sc.names []).Pairwise fun x y => x.2 ≠ y.2
    have hp : (clOf env sc.names []).Pairwise fun x y => x.1 ≠ y.1 := List.pairwise_map.mp hclk
    refine hp.imp_of_mem fun {a b} ha hb hne he => hne ?_
    exact name_of_addr F.apart (mem_of_lookup (hmem a ha)) (he ▸ mem_of_lookup (hmem b hb))

/-! ### the inside of a comprehension -/

set_option tactic.hygienic false
structure CI (P : Par) (cn : Names) (cenv : Env) (D : Addr) (ρ : List Addr) (ℓ : Loc) (σ : Sto) (acc : List AV) (s : Shared) : Prop where
  inv : Inv P ρ σ s.heap
  fr : FrameR P ρ cn ℓ cenv s.heap
  acc : ∃ vs : Array Value, s.heap.PlainList D vs ∧ RVs P ρ s.heap acc vs.toList
  out : D ∉ ρ
  outF : D ∉ fa cenv
  out0 : P.h₀.get? D = none

variable {cn : Names} {cenv : Env} {acc : List AV}

theorem CI.expr (c : CI P cn cenv D ρ ℓ σ acc s) (m : MvE ρ s ρ' s') (I : Inv P ρ' σ' s'.heap) : CI P cn cenv D ρ' ℓ σ' acc s' := by
  obtain ⟨vs, p, q⟩ := c.acc
  refine ⟨I, c.fr.mvE c.inv m, ⟨vs, p.at fun o e => m.step.keep _ _ e c.out, q.mvE c.inv m⟩, fun hm => ?_, c.outF, c.out0⟩
  rcases m.cases hm with hm | hm
  · exact c.out hm
  · obtain ⟨_, e⟩ := p; rw [hm] at e; cases e

/-- a move of the inside: to its own locals, to its list, to the store -/
abbrev MvC (cenv : Env) (D : Addr) (ρ : List Addr) (s : Shared) (ρ' : List Addr) (s' : Shared) : Prop := Mv (cenv.locals :: D :: ρ) ρ s ρ' s'

theorem MvC.trans (x : MvC cenv D ρ s ρ' s') (c : CI P cn cenv D ρ' ℓ σ acc s') (y : MvC cenv D ρ' s' ρ'' s'') : MvC cenv D ρ s ρ'' s'' := by
  refine Mv.trans x y (fun a ha => ?_) fun a ha => ?_
  · rcases List.mem_cons.mp ha with rfl | ha
    · exact (c.fr.softs _ List.mem_cons_self).live
    · rcases List.mem_cons.mp ha with rfl | ha
      · obtain ⟨vs, ⟨_, e⟩, _⟩ := c.acc; exact ⟨_, e⟩
      · exact (c.inv.softs a (x.mem ha)).live
  · rcases List.mem_cons.mp ha with rfl | ha
    · exact .inl List.mem_cons_self
    · rcases List.mem_cons.mp ha with rfl | ha
      · exact .inl (List.mem_cons_of_mem _ List.mem_cons_self)
      · exact (x.cases ha).imp (fun h => List.mem_cons_of_mem _ (List.mem_cons_of_mem _ h)) id

theorem MvE.toC (x : MvE ρ s ρ' s') : MvC cenv D ρ s ρ' s' := ⟨x.new, x.step.mono fun _ ha => .inl (List.mem_cons_of_mem _ (List.mem_cons_of_mem _ ha))⟩

theorem tests_false {M : Model} {Q : Bool → Shared → Prop} : ∀ (l : List Expr), Q false s → wpAny M A (forIn l false fun c r => if r = true then do let ok ← isTrue c cenv (eval c cenv); pure (ForInStep.yield ok) else pure (ForInStep.yield r)) Q E s
  | [], h => wpAny_pure h
  | x :: l, h => by
    rw [List.forIn_cons, if_neg (by decide)]
    exact wpAny_bind (wpAny_pure (tests_false l h))

theorem tests_ok (S : Sound P T n r) (hA : AOk n A) : ∀ {ifs' : List Expr} {ifs : List IE} {b : Bool} {σ : Sto} {ρ : List Addr} {s : Shared} {Q : Bool → Shared → Prop}, evIfs r ifs ℓ σ = some (b, σ') → allP (isE T k cn) ifs' ifs = true →
    FrameR P ρ cn ℓ cenv s.heap → Inv P ρ σ s.heap → (∀ ρ' s', MvE ρ s ρ' s' → Inv P ρ' σ' s'.heap → Q b s') → wpAny P.M A (testsOf ifs' cenv) Q E s
  | ifs', [], b, σ, ρ, s, Q, e, h, F, I, q => by
    rw [allP_nil h]
    cases e
    exact wpAny_pure (q ρ s (.refl ..) I)
  | ifs', c :: ifs, b, σ, ρ, s, Q, e, h, F, I, q => by
    obtain ⟨c', ifs', rfl, h1, h2⟩ := allP_cons h
    unfold testsOf
    rw [List.forIn_cons, if_pos rfl]
    refine oP_elim e fun c σ1 ea e => wpAny_bind (wpAny_bind (t1 S ea h1 F I hA fun ρ1 s1 m1 I1 F1 => wpAny_pure ?_))
    cases c with
    | true => exact tests_ok S hA e h2 F1 I1 fun ρ2 s2 m2 I2 => q ρ2 s2 (m1.trans I1 m2) I2
    | false => cases e; exact tests_false _ (q ρ1 s1 m1 I1)

end

end Mine
end
section
namespace Mine
open PySem PySem.W PyProof.Rows

section
variable {P : Par} {ρ ρ₀ ρ' ρ'' : List Addr} {σ σ' : Sto} {s s₀ s' s'' : Shared} {A : Around} {E : Value → Shared → Prop} {ns : Names} {ℓ ℓ' : Loc} {env : Env} {n k : Nat} {r : Rec} {v : AV}
  {it : Value} {i : Itr} {own W : List Addr} {gs : List Nat} {J : Nat → Shared → Prop} {ok : Str → Nat → Bool} {sc : Scope} {imp : List (Option Nat)} {C D : Addr} {cn : Names} {cenv : Env} {acc acc' : List AV}

theorem CI.stepN (c : CI P cn cenv D ρ ℓ σ acc s) (st : StepN own gs s s') (soft : ∀ a ∈ own, Soft s.heap [] a) (hρ : ∀ a ∈ own, a ∉ ρ) (h0 : ∀ a ∈ own, P.h₀.get? a = none) (hF0 : ∀ a ∈ fa cenv, a ∉ own) (hD : D ∉ own) : CI P cn cenv D ρ ℓ σ acc s' := by
  obtain ⟨vs, p, q⟩ := c.acc
  refine ⟨c.inv.stepN st soft hρ h0, c.fr.stepN st soft hF0, ⟨vs, p.at fun o e => st.keep _ _ e hD, ?_⟩, c.out, c.outF, c.out0⟩
  have := q.kp st.keep (fun a ha => (soft a ha).up) (new := []) (by intro a ha; cases ha)
  rwa [List.append_nil] at this

theorem comp_turn (S : Sound P T n r) (hA : AOk n A) {inner : Loc → Sto → List AV → Option (Loc × Sto × List AV)} {tg : Tg} {t : Expr} {c : Code} {branch : Sem Fin} {ifs' : List Expr} {R : Result → Shared → Prop}
    (hj : IterJ P A it i ρ₀ s₀ own gs J) (hF0 : ∀ a ∈ fa cenv, a ∉ own) (hD : D ∉ own) (h0 : ∀ a ∈ own, P.h₀.get? a = none) (ht : tgIs (lname cn) tg t = true)
    (hin : ∀ {ℓ σ acc ℓ2 σ2 acc2 ρ s} {E' : Value → Shared → Prop} {Q : Shared → Prop}, inner ℓ σ acc = some (ℓ2, σ2, acc2) → CI P cn cenv D ρ ℓ σ acc s → (∀ ρ' s', MvC cenv D ρ s ρ' s' → CI P cn cenv D ρ' ℓ2 σ2 acc2 s' → Q s') →
      wpAny P.M A (testsOf ifs' cenv) (fun ok s3 => if ok = true then wpAny P.M A branch (fun fin s5 => fin = .again c ∧ Q s5) E' s3 else Q s3) E' s)
    (hR : ∀ ρ' s', MvC cenv D ρ₀ s₀ ρ' s' → CI P cn cenv D ρ' ℓ' σ' acc' s' → R (.ok .next) s') :
    TurnOf P.prog P.w A R (fun g s => ∃ kk ℓ σ acc ρ, compLoop inner tg i g kk ℓ σ acc = some (ℓ', σ', acc') ∧ MvC cenv D ρ₀ s₀ ρ s ∧ CI P cn cenv D ρ ℓ σ acc s ∧ J kk s ∧ ∀ a ∈ own, a ∉ ρ) t ifs' it cenv c branch := by
  rintro g s ⟨kk, ℓ, σ, acc, ρ, e, m, ci, hJ, hρ⟩
  cases g with
  | zero => cases e
  | succ g =>
    have soft := hj.soft kk s hJ
    refine oO_elim e fun o hn e => hj.next kk ρ σ s o _ _ hJ ci.inv (fun j a h => m.get h) hn fun x s1 st hx => ?_
    have ci1 := ci.stepN st soft hρ h0 hF0 hD
    have m1 : MvC cenv D ρ₀ s₀ ρ s1 := Mv.stepN m st hj.new hj.gnew
    cases o with
    | none => cases hx; cases e; exact hR ρ s1 m1 ci1
    | some v =>
      obtain ⟨y, rfl, ry, hJ1⟩ := hx
      refine hj.letGo hJ1 (oO_elim e fun ℓ2 hbind e => oP_elim e fun ℓ3 p hinn e => ?_)
      refine assign_ok okIn_l (fun a ha => List.mem_singleton.mp ha ▸ List.mem_cons_self) hA.handled ht hbind ci1.fr ci1.inv ry fun s2 ⟨st2, I2, F2⟩ => ?_
      have hCown : cenv.locals ∉ own := hF0 _ List.mem_cons_self
      have hJ2 : J (kk + 1) s2 := hj.stable _ _ _ hJ1 (fun a ha o e => st2.keep a o e fun hm => hCown (List.mem_singleton.mp hm ▸ ha)) I2.keep fun g hg x e => st2.gens g x e
      have ci2 : CI P cn cenv D ρ ℓ2 σ acc s2 := by
        obtain ⟨vs, p, q⟩ := ci1.acc
        exact ⟨I2, F2, ⟨vs, p.at fun o e => st2.keep _ _ e fun hm => ci1.outF (List.mem_singleton.mp hm ▸ List.mem_cons_self), q.step ci1.fr st2 fun a ha => List.mem_singleton.mp ha ▸ List.mem_cons_self⟩, ci1.out, ci1.outF, ci1.out0⟩
      have m2 : MvC cenv D ρ₀ s₀ ρ s2 := MvC.trans m1 ci1 (.of_step (st2.mono fun a ha => .inl (List.mem_singleton.mp ha ▸ List.mem_cons_self)))
      refine hin (σ2 := p.1) (acc2 := p.2) hinn ci2 fun ρ3 s3 m3 ci3 => ⟨g, Nat.lt_succ_self _, kk + 1, _, _, _, _, e, m2.trans ci2 m3, ci3, ?_, fun a ha hm => ?_⟩
      · refine hj.stable _ _ _ hJ2 (fun a ha o e => m3.step.keep a o e fun hm => ?_) ci3.inv.keep fun g hg x e => m3.step.gens g x e
        rcases List.mem_cons.mp hm with rfl | hm
        · exact hCown ha
        · exact (List.mem_cons.mp hm).elim (fun e => hD (e ▸ ha)) (hρ a ha)
      · refine (m3.cases hm).elim (hρ a ha) fun hm => ?_
        obtain ⟨o, e⟩ := (hj.soft _ _ hJ2 a ha).live
        rw [hm] at e; cases e

theorem elt_ok (S : Sound P T n r) (hA : AOk n A) {elt : IE} {ifs : List IE} {elt' : Expr} {ifs' : List Expr} {c : Code} (h1 : isE T k cn elt' elt = true) (h2 : allP (isE T k cn) ifs' ifs = true)
    {ℓ2 : Loc} {σ2 : Sto} {acc2 : List AV} {E' : Value → Shared → Prop} {Q : Shared → Prop} (e : innerElt r ifs elt ℓ σ acc = some (ℓ2, σ2, acc2)) (ci : CI P cn cenv D ρ ℓ σ acc s) (q : ∀ ρ' s', MvC cenv D ρ s ρ' s' → CI P cn cenv D ρ' ℓ2 σ2 acc2 s' → Q s') :
    wpAny P.M A (testsOf ifs' cenv) (fun ok s3 => if ok = true then wpAny P.M A ((do let _ ← call (.builtin "list.append") [.ref D, ← eval elt' cenv]) >>= fun (_ : Unit) => again c) (fun fin s5 => fin = .again c ∧ Q s5) E' s3 else Q s3) E' s := by
  refine oP_elim e fun b σ1 ea e => tests_ok S hA ea h2 ci.fr ci.inv fun ρ1 s1 m1 I1 => ?_
  have ci1 := ci.expr m1 I1
  cases b with
  | false => cases e; exact q ρ1 s1 m1.toC ci1
  | true =>
    rw [if_pos rfl]
    refine oP_elim e fun v σ3 eb e => iN_elim e fun hb e => wpAny_bind (wpAny_bind (e1 S eb h1 ci1.fr ci1.inv hA fun ρ2 s2 x m2 I2 F2 r2 => ?_))
    cases e
    have ci2 := ci1.expr m2 I2
    obtain ⟨vs, p, q2⟩ := ci2.acc
    have hsz : vs.size ≤ sizeLine := by
      rw [← Array.length_toList, q2.length]; exact Nat.le_trans (ble_lim hb) (by decide)
    refine wpAny_bind (wpAny_list_append_plain p (fun h' hp hs => wpAny_pure (wpAny_pure ⟨rfl, ?_⟩)) hsz)
    have hs1 : ∀ {a}, a ∈ [D] → a = D := List.mem_singleton.mp
    have stN : StepN [D] [] s2 { s2 with heap := h' } := .of_keep fun b o e hb => (hs.2 b fun e => hb (List.mem_singleton.mpr e)).trans e
    have st : Step [D] s2 { s2 with heap := h' } := .of_keep stN.keep
    have hsD : ∀ a ∈ [D], Soft s2.heap [] a := fun a ha => hs1 ha ▸ .inl ⟨_, p⟩
    refine q ρ2 _ ((MvE.toC (m1.trans I1 m2)).trans ci2 (.of_step (st.mono fun a ha => hs1 ha ▸ .inl (List.mem_cons_of_mem _ List.mem_cons_self)))) ⟨?_, ?_, ⟨vs.push x, hp, ?_⟩, ci2.out, ci2.outF, ci2.out0⟩
    · exact ci2.inv.stepN stN hsD (fun a ha => hs1 ha ▸ ci2.out) (fun a ha => hs1 ha ▸ ci2.out0)
    · exact ci2.fr.stepN stN hsD fun a ha hm => ci2.outF (hs1 hm ▸ ha)
    · rw [Array.toList_push]
      have := (q2.app (l' := [v]) (vs' := [x]) ⟨x, [], rfl, r2, rfl⟩).kp stN.keep (fun a ha => (hsD a ha).up) (new := []) (by intro a ha; cases ha)
      rwa [List.append_nil] at this
end

end Mine
end
section
namespace Mine
open PySem PySem.W PyProof.Rows

section
variable {P : Par} {ρ ρ₀ ρ' ρ'' : List Addr} {σ σ' : Sto} {s s₀ s' s'' : Shared} {A : Around} {E : Value → Shared → Prop} {ns : Names} {ℓ ℓ' : Loc} {env : Env} {n k : Nat} {r : Rec} {v : AV}
  {it : Value} {i : Itr} {own W : List Addr} {gs : List Nat} {J : Nat → Shared → Prop} {ok : Str → Nat → Bool} {sc : Scope} {imp : List (Option Nat)} {C D : Addr} {cn : Names} {cenv : Env} {acc acc' : List AV}

structure CompAt (P : Par) (A : Around) (ns : Names) (env : Env) (ℓ : Loc) (sc : Scope) (imp : List (Option Nat)) (ρ : List Addr) (s : Shared) (i : Itr) (σ1 : Sto) (ρ1 : List Addr) (s1 s4 : Shared) (it : Value) (own : List Addr) (J : Nat → Shared → Prop) (C D : Addr) : Prop where
  mv : MvE ρ s ρ1 s1
  inv : Inv P ρ1 σ1 s1.heap
  fr : FrameR P ρ1 ns ℓ env s1.heap
  st : Step [] s1 s4
  iter : IterJ P A it i ρ1 s1 own [] J
  now : J 0 s4
  ci : CI P (cnames ns sc.names) (compEnvC sc (clOf env sc.names []) C env) D ρ1 (impLoc imp ℓ) σ1 [] s4
  fown : ∀ a ∈ fa (compEnvC sc (clOf env sc.names []) C env), a ∉ own
  down : D ∉ own
  deadC : s1.heap.get? C = none
  deadD : s1.heap.get? D = none

theorem step_dead (st : Step [] s s') {a : Addr} (h : s'.heap.get? a = none) : s.heap.get? a = none := by
  cases e : s.heap.get? a with
  | none => rfl
  | some o => have := st.keep a o e (by simp); rw [h] at this; cases this

theorem fa_comp (c : CompIs ns sc imp) (F : FrameR P ρ ns ℓ env s.heap) : ∀ a ∈ fa (compEnvC sc (clOf env sc.names []) C env), a = C ∨ a ∈ fa env := by
  intro a ha
  rcases List.mem_cons.mp ha with rfl | ha
  · exact .inl rfl
  · obtain ⟨p, hp, rfl⟩ := List.mem_map.mp ha
    rcases clOf_mem sc.names [] p (free_cells c F) hp with h | h
    · cases h
    · exact .inr (List.mem_cons_of_mem _ (List.mem_map.mpr ⟨_, mem_of_lookup h.1, rfl⟩))

theorem comp_open (G : GF P T ft init) (S : Sound P T n r) (hA : AOk n A) (c : CompIs ns sc imp) {e : Expr} {g : Comprehension} {gs' : List Comprehension} {ite : IE} {σ1 : Sto} {pos : Pos} {use : Option (Value → Sem Unit)} {Q : Value → Shared → Prop}
    (hcl : clausesOf e = g :: gs') (hit : isIt (isE T k ns) ns ite g.iter = true) (hev : evIt r ite ℓ σ = some (i, σ1)) (F : FrameR P ρ ns ℓ env s.heap) (I : Inv P ρ σ s.heap)
    (h : ∀ ρ1 s1 s4 it own J C D, CompAt P A ns env ℓ sc imp ρ s i σ1 ρ1 s1 s4 it own J C D →
      codeAny P.M A (.compStart e 0 it (.ref D) (compEnvC sc (clOf env sc.names []) C env)) (compPost P.M A E use Q (.ref D) C) s4) :
    wpAny P.M A (comprehension e sc env pos (newList []) false (eval g.iter env) use) Q E s := by
  refine wpAny_comprehension_free hcl (isIt_noSet hit) (closure_is (free_cells c F)) c.kind ?_ (it_ok G S hA hev hit F I fun ρ1 s1 s2 it own J m1 I1 F1 st hj hJ => ?_)
  · intro x hx hl
    exact lookup_at c.nodup (by rw [← hl]; exact hx)
  · have hcell : ∀ x ∈ sc.names, x.2 ≠ .cell := fun x hx h => by
      rcases c.all x hx with h' | ⟨h', _⟩ | h' <;> rw [h] at h' <;> cases h'
    refine wpAny_newList ?_ (by show 0 ≤ 2 ^ 24; omega)
    refine wpAny_newFunctionEnv hcell (by intro y hy; simp at hy) (fun h₁ hns hsb => ?_) c.kind
    generalize hs3 : ({ s2 with heap := s2.heap.push { cls := .type "list", data := .seq ([] : List Value).toArray } } : Shared) = s3 at hns hsb ⊢
    have st3 : Step [] s2 s3 := by rw [← hs3]; exact .pushed (t := s2.toks)
    have sD : s2.heap.get? s2.heap.objs.size = none := get_size_none _
    have sC : s3.heap.get? s3.heap.objs.size = none := get_size_none _
    have hD3 : s3.heap.PlainList s2.heap.objs.size #[] := ⟨0, by rw [← hs3]; exact Heap.get?_push_size _ rfl⟩
    have k4 : ∀ b o, s3.heap.get? b = some o → h₁.get? b = some o := fun b o e => (hsb.2 b fun hb => by subst hb; rw [sC] at e; cases e).trans (Heap.get?_push_of_some _ e)
    generalize hs4 : ({ s3 with heap := h₁, toks := s3.toks + ([] : List (Str × Value)).length } : Shared) = s4 at ⊢
    have h4 : s4.heap = h₁ := by rw [← hs4]
    have st4 : Step [] s3 s4 := by rw [← hs4]; exact .of_keep fun b o e _ => k4 b o e
    have stA : Step [] s1 s4 := (st.trans' st3).trans' st4
    have dC : s1.heap.get? s3.heap.objs.size = none := step_dead (st.trans' st3) sC
    have dD : s1.heap.get? s2.heap.objs.size = none := step_dead st sD
    have hDC : s2.heap.objs.size ≠ s3.heap.objs.size := fun e => by obtain ⟨_, p⟩ := hD3; rw [e, sC] at p; cases p
    have own2 : ∀ a ∈ own, ∃ o, s2.heap.get? a = some o := fun a ha => (hj.soft 0 s2 hJ a ha).live
    have I4 := inv_push I1 stA
    have F4 := frame_push F1 stA
    have hns4 : s4.heap.Ns s3.heap.objs.size (fun x => ([] : List (Str × Value)).reverse.lookup x) := by rw [h4]; exact hns
    have Fc := comp_frame (C := s3.heap.objs.size) c F4 (m := fun x => ([] : List (Str × Value)).reverse.lookup x) (fun x => rfl) hns4 (ρ_dead I1 dC) (h0_dead I1 dC)
    have Fc' : FrameR P ρ1 (cnames ns sc.names) (impLoc imp ℓ) (compEnvC sc (clOf env sc.names []) s3.heap.objs.size env) s4.heap := by rw [h4]; rw [h4] at Fc; exact Fc
    refine h ρ1 s1 s4 it own J s3.heap.objs.size s2.heap.objs.size ⟨m1, I1, F1, stA, hj, ?_, ⟨I4, Fc', ⟨#[], ?_, rfl⟩, ρ_dead I1 dD, ?_, h0_dead I1 dD⟩, ?_, ?_, dC, dD⟩
    · exact hj.stable 0 s2 s4 hJ (fun a ha o e => (st3.trans' st4).keep a o e (by simp)) I4.keep fun g hg x e => by cases hg
    · obtain ⟨q, p⟩ := hD3; exact ⟨q, by rw [h4]; exact k4 _ _ p⟩
    · intro hm
      rcases fa_comp c F1 _ hm with e | hm
      · exact hDC e
      · exact fa_dead F1 dD hm
    · intro a ha hm
      obtain ⟨o, e⟩ := own2 a hm
      rcases fa_comp c F1 a ha with rfl | ha
      · have := st3.keep _ _ e (by simp); rw [sC] at this; cases this
      · obtain ⟨o', e'⟩ := (F1.softs a ha).live
        rw [hj.new a hm] at e'; cases e'
    · intro hm
      obtain ⟨o, e⟩ := own2 _ hm
      rw [sD] at e; cases e

/-! ### behind the loop -/

mutual
theorem RV.more {h : Heap} (hp : ∃ vs, h.PlainList D vs) : ∀ {x : AV} {v : Value}, RV P ρ h x v → RV P (ρ ++ [D]) h x v
  | .none, _, e => e
  | .bool _, _, e => e
  | .int _, _, e => e
  | .str _, _, e => e
  | .tup l, _, ⟨a, vs, e, t, r⟩ => ⟨a, vs, e, t, RVs.more hp r⟩
  | .ref i, _, ⟨a, e, r⟩ => ⟨a, e, by
      have := (List.getElem?_eq_some_iff.mp r).1
      rw [List.getElem?_append_left this]; exact r⟩
  | .frz _, _, r => r
  | .inst w, _, ⟨a, D', od, e, I, hD, ok⟩ => by
      have hn : D' ∉ ρ ++ [D] := by
        intro hm
        rcases List.mem_append.mp hm with hm | hm
        · exact hD hm
        · rw [List.mem_singleton.mp hm] at I
          obtain ⟨vs, nn, p⟩ := hp
          have hd : h.get? D = some od := I.dict
          rw [p] at hd
          cases hd
          have := ok.simple
          cases this
      exact ⟨a, D', od, e, I, hn, ok⟩
  | .self i, _, ⟨a, D', e, t, r⟩ => ⟨a, D', e, t, by
      have := (List.getElem?_eq_some_iff.mp r).1
      rw [List.getElem?_append_left this]; exact r⟩
theorem RVs.more {h : Heap} (hp : ∃ vs, h.PlainList D vs) : ∀ {l : List AV} {vs : List Value}, RVs P ρ h l vs → RVs P (ρ ++ [D]) h l vs
  | [], _, e => e
  | _ :: _, _, ⟨v, vs', e, r, rs⟩ => ⟨v, vs', e, RV.more hp r, RVs.more hp rs⟩
end

set_option tactic.hygienic true
theorem Inv.join {h : Heap} {vs : Array Value} (I : Inv P ρ σ h) (hD : D ∉ ρ) (h0 : P.h₀.get? D = none) (p : h.PlainList D vs) (q : RVs P ρ h acc vs.toList) (b : bels σ.length acc = true) : Inv P (ρ ++ [D]) (σ ++ [.list acc]) h := by
  have hp : ∃ vs, h.PlainList D vs := ⟨vs, p⟩
  refine ⟨I.keep, ?_, ?_, by simp [I.len], fun j a o e1 e2 => ?_⟩
  · rw [List.nodup_append]
    exact ⟨I.nodup, by simp, fun x hx y hy e => hD (by rw [List.mem_singleton.mp hy] at e; exact e ▸ hx)⟩
  · intro a ha
    rcases List.mem_append.mp ha with ha | ha
    · exact I.fresh a ha
    · rw [List.mem_singleton.mp ha]; exact h0
  · by_cases hj : j < ρ.length
    · rw [List.getElem?_append_left hj] at e1
      rw [List.getElem?_append_left (by rw [← I.len]; exact hj)] at e2
      have rp := I.rep j a o e1 e2
      cases o with
      | list l => obtain ⟨vs', p', q', b'⟩ := rp; exact ⟨vs', p', q'.more hp, b'⟩
      | ns fs =>
        obtain ⟨mm, p', q', b''⟩ := rp
        refine ⟨mm, p', fun x => ?_, b''⟩
        have := q' x
        split
        · rename_i w e
          rw [e] at this
          obtain ⟨y, hy, ry⟩ := this
          exact ⟨y, hy, ry.more hp⟩
        · rename_i e
          rw [e] at this; exact this
    · have hj2 : j = ρ.length := by
        have := (List.getElem?_eq_some_iff.mp e1).1
        rw [List.length_append, List.length_singleton] at this
        omega
      subst hj2
      rw [List.getElem?_append_right (Nat.le_refl _), Nat.sub_self] at e1
      rw [I.len, List.getElem?_append_right (Nat.le_refl _), Nat.sub_self] at e2
      simp at e1 e2
      subst e1 e2
      rw [I.len]
      exact ⟨vs, p, q.more hp, b⟩

set_option tactic.hygienic false
theorem FrameR.more {h : Heap} (F : FrameR P ρ ns ℓ env h) (hp : ∃ vs, h.PlainList D vs) (hD : D ∉ fa env) : FrameR P (ρ ++ [D]) ns ℓ env h := by
  refine ⟨F.kind, F.nmEq, F.globals, F.builtins, ?_, ?_, ?_, F.soft, F.apart, F.nosimple⟩
  · obtain ⟨m, hn, z, f⟩ := F.ns
    exact ⟨m, hn, z, fun i x v e1 e2 e3 => by obtain ⟨y, hy, ry⟩ := f i x v e1 e2 e3; exact ⟨y, hy, ry.more hp⟩⟩
  · intro i x e1 e2
    obtain ⟨c, ov, hc, hi, f⟩ := F.cell i x e1 e2
    exact ⟨c, ov, hc, hi, fun v e3 => by obtain ⟨y, hy, ry⟩ := f v e3; exact ⟨y, hy, ry.more hp⟩⟩
  · intro a ha
    refine ⟨fun hm => ?_, (F.out a ha).2⟩
    rcases List.mem_append.mp hm with hm | hm
    · exact (F.out a ha).1 hm
    · rw [List.mem_singleton.mp hm] at ha; exact hD ha

/-- what holds behind a comprehension's loop, its own locals not yet let go -/
structure CDone (P : Par) (ns : Names) (env : Env) (ℓ : Loc) (ρ : List Addr) (s : Shared) (σ' : Sto) (v : AV) (C : Addr) (x : Value) (s' : Shared) (ρ'' : List Addr) : Prop where
  mv : MvE ρ s ρ'' s'
  inv : Inv P ρ'' σ' s'.heap
  fr : FrameR P ρ'' ns ℓ env s'.heap
  val : RV P ρ'' s'.heap v x
  dead : s.heap.get? C = none
  outρ : C ∉ ρ''
  outF : C ∉ fa env
  out0 : P.h₀.get? C = none
  loc : ∃ m, s'.heap.Ns C m ∧ m sSimple = none

theorem comp_done {σ1 σ2 : Sto} {ρ1 : List Addr} {s1 s4 : Shared} (a : CompAt P A ns env ℓ sc imp ρ s i σ1 ρ1 s1 s4 it own J C D) (I : Inv P ρ σ s.heap) {ℓc : Loc} (m : MvC (compEnvC sc (clOf env sc.names []) C env) D ρ1 s1 ρ' s')
    (ci : CI P (cnames ns sc.names) (compEnvC sc (clOf env sc.names []) C env) D ρ' ℓc σ2 acc s') (e : endComp σ2 acc = some (v, σ')) : ∃ ρ'', CDone P ns env ℓ ρ s σ' v C (.ref D) s' ρ'' := by
  refine iN_elim e fun hb e => ret_elim e ?_
  obtain ⟨vs, p, q⟩ := ci.acc
  have dead1 : ∀ b, s1.heap.get? b = none → s.heap.get? b = none := fun b hb => a.mv.back (fun x hx => (a.inv.softs x (a.mv.mem hx)).live) hb
  have mE : MvE ρ1 s1 ρ' s' := ⟨m.new, m.step.mono fun b hb => by
    rcases List.mem_cons.mp hb with rfl | hb
    · exact .inr a.deadC
    · rcases List.mem_cons.mp hb with rfl | hb
      · exact .inr a.deadD
      · exact .inl hb⟩
  have F' := a.fr.mvE a.inv mE
  have m2 := a.mv.trans a.inv mE
  have hDF : D ∉ fa env := fa_dead a.fr a.deadD
  refine ⟨ρ' ++ [D], ⟨?_, m2.step⟩, ci.inv.join ci.out ci.out0 p q hb, F'.more ⟨_, p⟩ hDF, ⟨D, rfl, ?_⟩, dead1 _ a.deadC, ?_, fa_dead a.fr a.deadC, h0_dead a.inv a.deadC, ?_⟩
  · obtain ⟨new, e1, e2⟩ := m2.new
    refine ⟨new ++ [D], by rw [e1, List.append_assoc], fun b hb => ?_⟩
    rcases List.mem_append.mp hb with hb | hb
    · exact e2 b hb
    · rw [List.mem_singleton.mp hb]; exact dead1 _ a.deadD
  · rw [← ci.inv.len, List.getElem?_append_right (Nat.le_refl _), Nat.sub_self]; rfl
  · intro hm
    rcases List.mem_append.mp hm with hm | hm
    · exact (ci.fr.out C List.mem_cons_self).1 hm
    · rw [← List.mem_singleton.mp hm] at ci
      exact ci.outF List.mem_cons_self
  · obtain ⟨mm, h1, h2, _⟩ := ci.fr.ns
    exact ⟨mm, h1, h2⟩

/-- the locals let go -/
theorem CDone.gone {x : Value} (d : CDone P ns env ℓ ρ s σ' v C x s' ρ'') {h' : Heap} (hs : Heap.SameBut C s'.heap h') : MvE ρ s ρ'' { s' with heap := h' } ∧ Inv P ρ'' σ' h' ∧ FrameR P ρ'' ns ℓ env h' ∧ RV P ρ'' h' v x := by
  have st : StepN [C] [] s' { s' with heap := h' } := .of_keep fun b o e hb => (hs.2 b (by simpa using hb)).trans e
  obtain ⟨m, hn, hz⟩ := d.loc
  have soft : ∀ a ∈ [C], Soft s'.heap [] a := fun a ha => by rw [List.mem_singleton.mp ha]; exact .inr (.inr (.inr (.inl ⟨m, hn, hz⟩)))
  refine ⟨Mv.stepN d.mv st (fun a ha => by rw [List.mem_singleton.mp ha]; exact d.dead) (fun g hg => by cases hg), d.inv.stepN st soft (fun a ha => by rw [List.mem_singleton.mp ha]; exact d.outρ) (fun a ha => by rw [List.mem_singleton.mp ha]; exact d.out0),
    d.fr.stepN st soft (fun a ha hm => by rw [List.mem_singleton.mp hm] at ha; exact d.outF ha), d.val.stepN st soft⟩

theorem comp1_ok (G : GF P T ft init) (S : Sound P T n r) (hA : AOk n A) {elt ite : IE} {tg : Tg} {ifs : List IE} {el iter t : Expr} {fs : List Expr} {pos : Pos} {use : Option (Value → Sem Unit)} {Q : Value → Shared → Prop}
    (e : stepE ft init r (.comp imp elt tg ite ifs) ℓ σ = some (v, σ')) (hc : compOk ns sc imp = true) (hit : isIt (isE T k ns) ns ite iter = true) (ht : tgIs (lname (cnames ns sc.names)) tg t = true)
    (h1 : isE T k (cnames ns sc.names) el elt = true) (h2 : allP (isE T k (cnames ns sc.names)) fs ifs = true) (F : FrameR P ρ ns ℓ env s.heap) (I : Inv P ρ σ s.heap)
    (q : ∀ x s' C ρ'', CDone P ns env ℓ ρ s σ' v C x s' ρ'' → compPost P.M A E use Q x C (.ok .next) s') :
    wpAny P.M A (comprehension (.ListComp el [⟨t, iter, fs, 0⟩] sc pos) sc env (firstIterPos [⟨t, iter, fs, 0⟩] pos) (newList []) false (eval iter env) use) Q E s := by
  refine oP_elim e fun i σ1 ei e => oP_elim e fun ℓc x ec e => ?_
  refine comp_open (g := ⟨t, iter, fs, 0⟩) (gs' := []) G S hA (compIs hc) rfl hit ei F I fun ρ1 s1 s4 it own J C D a => ?_
  have loop : codeAny P.M A (.compLoop (.ListComp el [⟨t, iter, fs, 0⟩] sc pos) 0 it (.ref D) (compEnvC sc (clOf env sc.names []) C env)) (compPost P.M A E use Q (.ref D) C) s4 := by
    refine loop_one _ (comp_turn S hA a.iter a.fown a.down (fun b hb => h0_dead a.inv (a.iter.new b hb)) ht (fun {ℓ σ acc ℓ2 σ2 acc2 ρ s E' Q} ee ci q => elt_ok S hA h1 h2 ee ci q) (σ' := x.1) (acc' := x.2) (fun ρ' s' m ci => ?_)) gas
      ⟨0, _, _, _, ρ1, ec, .of_step (a.st.mono (by simp)), a.ci, a.now, fun b hb => ρ_dead a.inv (a.iter.new b hb)⟩
    obtain ⟨ρ'', d⟩ := comp_done a I m ci e
    exact q _ _ _ _ d
  exact codeAny_compStart_list loop (a.iter.self 0 _ _ _ a.now loop)
end

end Mine
end
section
namespace Mine
open PySem PySem.W PyProof.Rows

section
variable {P : Par} {ρ ρ₀ ρ' ρ'' : List Addr} {σ σ' : Sto} {s s₀ s' s'' : Shared} {A : Around} {E : Value → Shared → Prop} {ns : Names} {ℓ ℓ' : Loc} {env : Env} {n k : Nat} {r : Rec} {v : AV}
  {it : Value} {i : Itr} {own W : List Addr} {gs : List Nat} {J : Nat → Shared → Prop} {ok : Str → Nat → Bool} {sc : Scope} {imp : List (Option Nat)} {C D : Addr} {cn : Names} {cenv : Env} {acc acc' : List AV}

theorem comp2_ok (G : GF P T ft init) (S : Sound P T n r) (hA : AOk n A) {elt ite ite2 : IE} {x y : Nat} {ifs : List IE} {el iter t iter2 t2 : Expr} {fs : List Expr} {pos : Pos} {use : Option (Value → Sem Unit)} {Q : Value → Shared → Prop}
    (e : stepE ft init r (.comp2 imp elt x ite y ite2 ifs) ℓ σ = some (v, σ')) (hc : compOk ns sc imp = true) (hit : isIt (isE T k ns) ns ite iter = true) (ht : tgIs (lname (cnames ns sc.names)) (.one x) t = true)
    (hit2 : isIt (isE T k (cnames ns sc.names)) (cnames ns sc.names) ite2 iter2 = true) (ht2 : tgIs (lname (cnames ns sc.names)) (.one y) t2 = true)
    (h1 : isE T k (cnames ns sc.names) el elt = true) (h2 : allP (isE T k (cnames ns sc.names)) fs ifs = true) (F : FrameR P ρ ns ℓ env s.heap) (I : Inv P ρ σ s.heap)
    (q : ∀ x s' C ρ'', CDone P ns env ℓ ρ s σ' v C x s' ρ'' → compPost P.M A E use Q x C (.ok .next) s') :
    wpAny P.M A (comprehension (.ListComp el [⟨t, iter, [], 0⟩, ⟨t2, iter2, fs, 0⟩] sc pos) sc env (firstIterPos [⟨t, iter, [], 0⟩, ⟨t2, iter2, fs, 0⟩] pos) (newList []) false (eval iter env) use) Q E s := by
  refine oP_elim e fun i σ1 ei e => oP_elim e fun ℓc xx ec e => ?_
  refine comp_open (g := ⟨t, iter, [], 0⟩) (gs' := [⟨t2, iter2, fs, 0⟩]) G S hA (compIs hc) rfl hit ei F I fun ρ1 s1 s4 it own J C D a => ?_
  have loop : codeAny P.M A (.compLoop (.ListComp el [⟨t, iter, [], 0⟩, ⟨t2, iter2, fs, 0⟩] sc pos) 0 it (.ref D) (compEnvC sc (clOf env sc.names []) C env)) (compPost P.M A E use Q (.ref D) C) s4 := by
    refine loop_out _ (comp_turn S hA a.iter a.fown a.down (fun b hb => h0_dead a.inv (a.iter.new b hb)) ht (fun {ℓ σ acc ℓ2 σ2 acc2 ρ s E' Q} ee ci q => ?_) (σ' := xx.1) (acc' := xx.2) (fun ρ' s' m ci => ?_)) gas
      ⟨0, _, _, _, ρ1, ec, .of_step (a.st.mono (by simp)), a.ci, a.now, fun b hb => ρ_dead a.inv (a.iter.new b hb)⟩
    · -- the inner loop
      refine wpAny_pure ?_
      rw [if_pos rfl]
      refine oP_elim ee fun i2 σ3 ei2 ee => ?_
      refine wpAny_bind (wpAny_mono (it_ok (Q := fun it2 s3 => wpAny P.M A (do
          let _ ← runOwn (.compStart (.ListComp el [⟨t, iter, [], 0⟩, ⟨t2, iter2, fs, 0⟩] sc pos) 1 it2 (.ref D) (compEnvC sc (clOf env sc.names []) C env)) (compEnvC sc (clOf env sc.names []) C env)
          again (.compLoop (.ListComp el [⟨t, iter, [], 0⟩, ⟨t2, iter2, fs, 0⟩] sc pos) 0 it (.ref D) (compEnvC sc (clOf env sc.names []) C env))) (fun fin s5 => fin = .again (.compLoop (.ListComp el [⟨t, iter, [], 0⟩, ⟨t2, iter2, fs, 0⟩] sc pos) 0 it (.ref D) (compEnvC sc (clOf env sc.names []) C env)) ∧ Q s5) E' s3)
        G S hA ei2 hit2 ci.fr ci.inv fun ρ2 s2 s3 it2 own2 J2 m2 I2 F2 st3 hj2 hJ2 => ?_) (fun xv s2 h2 => wpAny_bind (wpAny_standAt (wpAny_bind (wpAny_of_eq (isIt_noSet hit2 xv) (wpAny_bind (wpAny_holding h2)))))) fun _ _ x => x)
      have ci2 := ci.expr m2 I2
      have ci3 : CI P (cnames ns sc.names) (compEnvC sc (clOf env sc.names []) C env) D ρ2 ℓ σ3 acc s3 := by
        have := ci2.stepN (own := []) (gs := []) (s' := s3) ⟨st3.keep, st3.os, fun g x _ e => st3.gens g x e, st3.bare⟩ (by simp) (by simp) (by simp) (by simp) (by simp)
        exact this
      have dOwn : ∀ b ∈ own2, s2.heap.get? b = none := hj2.new
      have hFo : ∀ b ∈ fa (compEnvC sc (clOf env sc.names []) C env), b ∉ own2 := fun b hb hm => by
        obtain ⟨o, e⟩ := (F2.softs b hb).live
        rw [dOwn b hm] at e; cases e
      have hDo : D ∉ own2 := fun hm => by
        obtain ⟨vs, ⟨_, p⟩, _⟩ := ci2.acc
        rw [dOwn D hm] at p; cases p
      refine wpAny_bind (wpAny_runOwn ?_)
      have loop2 : ∀ (R : Result → Shared → Prop), (∀ ρ' s', MvC (compEnvC sc (clOf env sc.names []) C env) D ρ2 s2 ρ' s' → CI P (cnames ns sc.names) (compEnvC sc (clOf env sc.names []) C env) D ρ' ℓ2 σ2 acc2 s' → R (.ok .next) s') →
          codeAny P.M A (.compLoop (.ListComp el [⟨t, iter, [], 0⟩, ⟨t2, iter2, fs, 0⟩] sc pos) 1 it2 (.ref D) (compEnvC sc (clOf env sc.names []) C env)) R s3 := by
        intro R hR
        exact loop_in _ (comp_turn S hA hj2 hFo hDo (fun b hb => h0_dead I2 (dOwn b hb)) ht2 (fun {ℓ σ acc ℓ2 σ2 acc2 ρ s E' Q} ee ci q => elt_ok S hA h1 h2 ee ci q) hR) gas
          ⟨0, _, _, _, ρ2, ee, .of_step (st3.mono (by simp)), ci3, hJ2, fun b hb => ρ_dead I2 (dOwn b hb)⟩
      have fin : ∀ ρ' s', MvC (compEnvC sc (clOf env sc.names []) C env) D ρ2 s2 ρ' s' → CI P (cnames ns sc.names) (compEnvC sc (clOf env sc.names []) C env) D ρ' ℓ2 σ2 acc2 s' → Q s' := fun ρ' s' m' ci' =>
        q ρ' s' (MvC.trans m2.toC ci2 m') ci'
      exact start_in (loop2 _ fun ρ' s' m' ci' => wpAny_pure ⟨rfl, fin ρ' s' m' ci'⟩) (hj2.self 0 _ _ _ hJ2 (loop2 _ fun ρ' s' m' ci' => wpAny_pure ⟨rfl, fin ρ' s' m' ci'⟩))
    · obtain ⟨ρ'', d⟩ := comp_done a I m ci e
      exact q _ _ _ _ d
  exact codeAny_compStart_list loop (a.iter.self 0 _ _ _ a.now loop)

theorem done_post {Q : Value → Shared → Prop} {x : Value} (q : ∀ ρ'' s'', MvE ρ s ρ'' s'' → Inv P ρ'' σ' s''.heap → FrameR P ρ'' ns ℓ env s''.heap → RV P ρ'' s''.heap v x → Q x s'') (d : CDone P ns env ℓ ρ s σ' v C x s' ρ'') : compPost P.M A E none Q x C (.ok .next) s' := by
  obtain ⟨m, hn, _⟩ := d.loc
  refine ⟨m, hn, fun h' hs => ?_⟩
  obtain ⟨a, b, c, e⟩ := d.gone hs
  exact q ρ'' _ a b c e

theorem c_comp (G : GF P T ft init) (S : Sound P T n r) (hA : AOk n A) {elt ite : IE} {tg : Tg} {ifs : List IE} {el iter t : Expr} {fs : List Expr} {pos : Pos}
    (e : stepE ft init r (.comp imp elt tg ite ifs) ℓ σ = some (v, σ')) (hc : compOk ns sc imp = true) (hit : isIt (isE T k ns) ns ite iter = true) (ht : tgIs (lname (cnames ns sc.names)) tg t = true)
    (h1 : isE T k (cnames ns sc.names) el elt = true) (h2 : allP (isE T k (cnames ns sc.names)) fs ifs = true) (F : FrameR P ρ ns ℓ env s.heap) (I : Inv P ρ σ s.heap) :
    wpAny P.M A (eval (.ListComp el [⟨t, iter, fs, 0⟩] sc pos) env) (EPost P ρ σ' s v) E s := by
  rw [eval_ListComp]
  exact comp1_ok G S hA e hc hit ht h1 h2 F I fun x s' C ρ'' d => done_post (fun ρ'' s'' m I' _ r' => ⟨ρ'', m, I', r'⟩) d
theorem c_comp2 (G : GF P T ft init) (S : Sound P T n r) (hA : AOk n A) {elt ite ite2 : IE} {x y : Nat} {ifs : List IE} {el iter t iter2 t2 : Expr} {fs : List Expr} {pos : Pos}
    (e : stepE ft init r (.comp2 imp elt x ite y ite2 ifs) ℓ σ = some (v, σ')) (hc : compOk ns sc imp = true) (hit : isIt (isE T k ns) ns ite iter = true) (ht : tgIs (lname (cnames ns sc.names)) (.one x) t = true)
    (hit2 : isIt (isE T k (cnames ns sc.names)) (cnames ns sc.names) ite2 iter2 = true) (ht2 : tgIs (lname (cnames ns sc.names)) (.one y) t2 = true)
    (h1 : isE T k (cnames ns sc.names) el elt = true) (h2 : allP (isE T k (cnames ns sc.names)) fs ifs = true) (F : FrameR P ρ ns ℓ env s.heap) (I : Inv P ρ σ s.heap) :
    wpAny P.M A (eval (.ListComp el [⟨t, iter, [], 0⟩, ⟨t2, iter2, fs, 0⟩] sc pos) env) (EPost P ρ σ' s v) E s := by
  rw [eval_ListComp]
  exact comp2_ok G S hA e hc hit ht hit2 ht2 h1 h2 F I fun x s' C ρ'' d => done_post (fun ρ'' s'' m I' _ r' => ⟨ρ'', m, I', r'⟩) d
end

end Mine
end
section
namespace Mine
open PySem PySem.W PyProof.Rows

section
variable {P : Par} {n : Nat} {r : Rec}

theorem slot_of {ℓ : Loc} {i : Nat} {v : AV} (h : (ℓ[i]?).join = some v) : ℓ[i]? = some (some v) := Option.join_eq_some_iff.mp h
theorem stepE_sound (G : GF P T ft init) (S : Sound P T n r) (hf : ∀ {k args σ o}, r.f k args σ = some o → k < ft.length) : SoundE P T (n + 2) (stepE ft init r) := by
  intro ie ℓ σ v σ' e k ns ex hi env ρ A s E F I hA
  cases k with
  | zero => cases hi
  | succ k =>
    simp only [isE_q2, Bool.and_eq_true] at hi
    replace hi := hi.2
    have hA0 : AOk n A := hA.mono (by omega)
    cases ie with
    | lit v =>
      refine xConst_elim hi fun _ _ _ hi => ?_
      refine ret_elim e ?_
      exact c_lit hi I
    | var i =>
      refine xName_elim hi fun _ _ hi => ?_
      exact oO_elim e fun v hv e => ret_elim e (name_ok hi F I (slot_of hv))
    | bin op a b =>
      refine xBin_elim hi fun _ _ _ _ hi => ?_
      simp only [Bool.and_eq_true, decide_eq_true_eq] at hi
      obtain ⟨⟨rfl, h1⟩, h2⟩ := hi
      exact c_bin S e h1 h2 F I hA0
    | neg a =>
      refine xUn_elim hi fun _ _ _ hi => ?_
      simp only [Bool.and_eq_true, decide_eq_true_eq] at hi
      obtain ⟨rfl, hi⟩ := hi
      exact c_neg S e hi F I hA0
    | notE a => cases e
    | andE a b =>
      refine xBool_elim hi fun _ _ _ hi => ?_
      simp only [Bool.and_eq_true, decide_eq_true_eq] at hi
      obtain ⟨rfl, hi⟩ := hi
      refine two_elim hi fun _ _ hi => ?_
      simp only [Bool.and_eq_true] at hi
      exact c_and S e hi.1 hi.2 F I hA0
    | orE a b =>
      refine xBool_elim hi fun _ _ _ hi => ?_
      simp only [Bool.and_eq_true, decide_eq_true_eq] at hi
      obtain ⟨rfl, hi⟩ := hi
      refine two_elim hi fun _ _ hi => ?_
      simp only [Bool.and_eq_true] at hi
      exact c_or S e hi.1 hi.2 F I hA0
    | ife t a b =>
      refine xIf_elim hi fun _ _ _ _ hi => ?_
      simp only [Bool.and_eq_true] at hi
      exact c_ife S e hi.1.1 hi.1.2 hi.2 F I hA0
    | cmp op a b =>
      refine xCmp_elim hi fun _ _ _ _ hi => ?_
      refine one_elim hi fun _ hi => ?_
      refine one_elim hi fun _ hi => ?_
      simp only [Bool.and_eq_true, decide_eq_true_eq, Bool.not_eq_true'] at hi
      obtain ⟨⟨⟨rfl, h0⟩, h1⟩, h2⟩ := hi
      exact c_cmp S e h0 h1 h2 F I hA0
    | tup l =>
      refine xTup_elim hi fun _ _ _ hi => ?_
      simp only [Bool.and_eq_true, decide_eq_true_eq] at hi
      exact c_tup S e hi.2 hi.1 F I hA0
    | list l =>
      refine xList_elim hi fun _ _ hi => ?_
      simp only [Bool.and_eq_true, decide_eq_true_eq] at hi
      exact c_list S e hi.2 hi.1 F I hA0
    | idx a i =>
      refine xSub_elim hi fun _ _ _ hi => ?_
      simp only [Bool.and_eq_true, Bool.not_eq_true'] at hi
      exact c_idx S e hi.1.1 hi.1.2 hi.2 F I hA0
    | slice a lo hj =>
      refine xSub_elim hi fun _ _ _ hi => ?_
      refine xSlice_elim hi fun _ _ st _ hi => ?_
      simp only [Bool.and_eq_true, decide_eq_true_eq] at hi
      obtain ⟨⟨⟨h0, h1⟩, h2⟩, h3⟩ := hi
      obtain rfl := Option.isNone_iff_eq_none.mp h0
      exact c_slice S e h1 h2 h3 F I hA0
    | comp imp elt tg it ifs =>
      refine xComp_elim hi fun _ _ _ _ hi => ?_
      refine one_elim hi fun ⟨t, i, fs, as⟩ hi => ?_
      simp only [Bool.and_eq_true, decide_eq_true_eq] at hi
      obtain ⟨⟨⟨⟨⟨rfl, h1⟩, h2⟩, h3⟩, h4⟩, h5⟩ := hi
      exact c_comp G S hA0 e h1 h2 h3 h4 h5 F I
    | comp2 imp elt x it y it2 ifs =>
      refine xComp_elim hi fun _ _ _ _ hi => ?_
      refine two_elim hi fun ⟨t, i, fs, as⟩ ⟨t2, i2, fs2, as2⟩ hi => ?_
      simp only [Bool.and_eq_true, decide_eq_true_eq] at hi
      obtain ⟨h0, ⟨⟨⟨⟨⟨⟨⟨rfl, rfl⟩, h1⟩, h2⟩, h3⟩, h4⟩, h5⟩, h6⟩, h7⟩ := hi
      refine isNil_elim h0 ?_
      exact c_comp2 G S hA0 e h1 h2 h3 h4 h5 h6 h7 F I
    | rng1 a => cases e
    | rng2 a b => cases e
    | call j args =>
      refine xCall_elim hi fun _ _ _ _ hi => ?_
      obtain ⟨h0, hi⟩ := andB hi
      refine isNil_elim h0 ?_
      refine xName_elim hi fun _ _ hi => ?_
      simp only [Bool.and_eq_true, decide_eq_true_eq] at hi
      exact c_call G S hf e hi.1.1 hi.1.2 hi.2 F I hA0
    | cls a =>
      refine xCall_elim hi fun _ _ _ _ hi => ?_
      obtain ⟨h0, hi⟩ := andB hi
      refine isNil_elim h0 ?_
      refine xName_elim hi fun _ _ hi => ?_
      refine one_elim hi fun _ hi => ?_
      simp only [Bool.and_eq_true, beq_iff_eq] at hi
      exact c_cls G S e hi.1.1 hi.1.2 hi.2 F I hA
    | bi b args =>
      refine xCall_elim hi fun _ _ _ _ hi => ?_
      obtain ⟨h0, hi⟩ := andB hi
      refine isNil_elim h0 ?_
      refine xName_elim hi fun _ _ hi => ?_
      simp only [Bool.and_eq_true, beq_iff_eq] at hi
      exact c_bi G S e hi.1.1 hi.1.2 hi.2 F I hA0
    | meth m o as =>
      revert e
      refine one_elim hi fun _ hi => ?_
      intro e
      refine xCall_elim hi fun _ _ _ _ hi => ?_
      obtain ⟨h0, hi⟩ := andB hi
      refine isNil_elim h0 ?_
      refine xAttr_elim hi fun _ _ _ hi => ?_
      refine one_elim hi fun _ hi => ?_
      simp only [Bool.and_eq_true, beq_iff_eq, Bool.not_eq_true'] at hi
      obtain ⟨⟨⟨⟨h1, h2⟩, h3⟩, h4⟩, h5⟩ := hi
      exact c_meth S e h1 h2 (by simpa using h3) h4 h5 F I hA0
    | umeth j o args =>
      refine xCall_elim hi fun _ _ _ _ hi => ?_
      obtain ⟨h0, hi⟩ := andB hi
      refine isNil_elim h0 ?_
      refine xAttr_elim hi fun _ _ _ hi => ?_
      simp only [Bool.and_eq_true, beq_iff_eq, Bool.not_eq_true', decide_eq_true_eq] at hi
      obtain ⟨⟨⟨⟨⟨h1, h2⟩, h3⟩, h4⟩, h5⟩, h6⟩ := hi
      exact c_umeth G S hf e h1 h2 (by simpa using h3) h4 h5 h6 F I hA0
    | attr fk o =>
      refine xAttr_elim hi fun _ _ _ hi => ?_
      simp only [Bool.and_eq_true, beq_iff_eq, Bool.not_eq_true'] at hi
      exact c_attr G S e hi.1.1 hi.1.2 hi.2 F I hA0
    | wsS =>
      refine xAttr_elim hi fun _ _ _ hi => ?_
      refine xName_elim hi fun _ _ hi => ?_
      simp only [Bool.and_eq_true, beq_iff_eq] at hi
      refine ret_elim e ?_
      exact c_wsS G hi.1.1 hi.1.2 hi.2 F I
    | wsT =>
      refine xAttr_elim hi fun _ _ _ hi => ?_
      refine xName_elim hi fun _ _ hi => ?_
      simp only [Bool.and_eq_true, beq_iff_eq] at hi
      refine ret_elim e ?_
      exact c_wsT G hi.1.1 hi.1.2 hi.2 F I
    | dget a d =>
      refine xCall_elim hi fun _ _ _ _ hi => ?_
      obtain ⟨h0, hi⟩ := andB hi
      refine isNil_elim h0 ?_
      refine xAttr_elim hi fun _ _ _ hi => ?_
      refine xName_elim hi fun _ _ hi => ?_
      refine two_elim hi fun _ _ hi => ?_
      simp only [Bool.and_eq_true, beq_iff_eq] at hi
      obtain ⟨⟨⟨⟨⟨h1, h2⟩, h3⟩, h4⟩, h5⟩, h6⟩ := hi
      exact c_dget G S e h1 h2 h3 (by simpa using h4) h5 h6 F I hA0

end
end Mine
end
section
namespace Mine
open PySem PySem.W PyProof.Rows

section
variable {P : Par} {n : Nat} {r : Rec} {ρ : List Addr} {σ σ' : Sto} {ℓ : Loc} {s : Shared} {A : Around} {E : Value → Shared → Prop} {ns : Names} {env : Env} {k : Nat}

theorem isTrue_cmp {M : Model} {l rr : Expr} {op : CmpOp} {pos : Pos} {whole : Sem Value} {Q : Bool → Shared → Prop} (h : wpAny M A (eval (.Compare l [op] [rr] pos) env) (fun v s₁ => wpAny M A (truthy v) Q E s₁) E s) :
    wpAny M A (isTrue (.Compare l [op] [rr] pos) env whole) Q E s := by
  have e : isTrue (.Compare l [op] [rr] pos) env whole = (eval (.Compare l [op] [rr] pos) env >>= fun c => holding [c] (truthy c)) := by
    rw [isTrue_Compare1, eval_Compare1]
    simp only [bind_assoc]
  rw [e]
  exact wpAny_bind (wpAny_mono h (fun v s₁ h₁ => wpAny_holding h₁) fun _ _ x => x)

theorem plain_t (S : Sound P T n r) {ie : IE} {e : Expr} {b : Bool} (h : (oP (r.e ie ℓ σ) fun v σ => oO (truthV v) fun b => some (b, σ)) = some (b, σ')) (hi : isE T k ns e ie = true) (F : FrameR P ρ ns ℓ env s.heap) (I : Inv P ρ σ s.heap) (hA : AOk n A) :
    wpAny P.M A (eval e env) (fun v s₁ => wpAny P.M A (truthy v) (TPost P ρ σ' s b) E s₁) E s := by
  exact oP_elim h fun v σ1 ea h => oO_elim h fun c ec h => ret_elim h (e1 S ea hi F I hA fun ρ1 s1 x m1 I1 F1 r1 => truth_ok ec r1 ⟨rfl, ρ1, m1, I1⟩)

theorem stepT_sound (S : Sound P T n r) : SoundT P T n (stepT r) := by
  intro ie ℓ σ b σ' e k ns ex hi env ρ A s E F I hA
  have hi0 := hi
  cases k with
  | zero => cases hi
  | succ k =>
    simp only [isE_q2, Bool.and_eq_true] at hi
    replace hi := hi.2
    revert hi0
    cases ie with
    | lit v =>
      refine xConst_elim hi fun _ _ _ hi => ?_
      exact fun hi0 => isTrue_plain (plain_t S e hi0 F I hA) rfl
    | var i =>
      refine xName_elim hi fun _ _ hi => ?_
      exact fun hi0 => isTrue_plain (plain_t S e hi0 F I hA) rfl
    | bin op a c =>
      refine xBin_elim hi fun _ _ _ _ hi => ?_
      exact fun hi0 => isTrue_plain (plain_t S e hi0 F I hA) rfl
    | neg a =>
      refine xUn_elim hi fun _ _ _ hi => ?_
      replace hi := (Bool.and_eq_true_iff.mp hi).1
      replace hi := of_decide_eq_true hi
      subst hi
      exact fun hi0 => isTrue_plain (plain_t S e hi0 F I hA) rfl
    | notE a =>
      refine xUn_elim hi fun _ _ _ hi => ?_
      simp only [Bool.and_eq_true, decide_eq_true_eq] at hi
      obtain ⟨rfl, hi⟩ := hi
      intro _
      exact oP_elim e fun c σ1 ea e => ret_elim e (isTrue_not (t1 S ea hi F I hA fun ρ1 s1 m1 I1 F1 => ⟨rfl, ρ1, m1, I1⟩))
    | andE a c =>
      refine xBool_elim hi fun _ _ _ hi => ?_
      simp only [Bool.and_eq_true, decide_eq_true_eq] at hi
      obtain ⟨rfl, hi⟩ := hi
      refine two_elim hi fun _ _ hi => ?_
      simp only [Bool.and_eq_true] at hi
      intro _
      refine oP_elim e fun c σ1 ea e => isTrue_and (t1 S ea hi.1 F I hA fun ρ1 s1 m1 I1 F1 => ?_)
      cases c with
      | true =>
        rw [if_pos rfl]
        refine isTrue_and (t1 S e hi.2 F1 I1 hA fun ρ2 s2 m2 I2 F2 => ?_)
        cases b with
        | true => rw [if_pos rfl]; exact isTrue_and_nil ⟨rfl, ρ2, m1.trans I1 m2, I2⟩
        | false => rw [if_neg (by decide)]; exact ⟨rfl, ρ2, m1.trans I1 m2, I2⟩
      | false => cases e; rw [if_neg (by decide)]; exact ⟨rfl, ρ1, m1, I1⟩
    | orE a c =>
      refine xBool_elim hi fun _ _ _ hi => ?_
      simp only [Bool.and_eq_true, decide_eq_true_eq] at hi
      obtain ⟨rfl, hi⟩ := hi
      refine two_elim hi fun _ _ hi => ?_
      simp only [Bool.and_eq_true] at hi
      intro _
      refine oP_elim e fun c σ1 ea e => isTrue_or (t1 S ea hi.1 F I hA fun ρ1 s1 m1 I1 F1 => ?_)
      cases c with
      | false =>
        rw [if_neg (by decide)]
        refine isTrue_or (t1 S e hi.2 F1 I1 hA fun ρ2 s2 m2 I2 F2 => ?_)
        cases b with
        | true => rw [if_pos rfl]; exact ⟨rfl, ρ2, m1.trans I1 m2, I2⟩
        | false => rw [if_neg (by decide)]; exact isTrue_or_nil ⟨rfl, ρ2, m1.trans I1 m2, I2⟩
      | true => cases e; rw [if_pos rfl]; exact ⟨rfl, ρ1, m1, I1⟩
    | ife t a c => cases e
    | cmp op a c =>
      refine xCmp_elim hi fun _ _ _ _ hi => ?_
      refine one_elim hi fun _ hi => ?_
      refine one_elim hi fun _ hi => ?_
      exact fun hi0 => isTrue_cmp (plain_t S e hi0 F I hA)
    | tup l =>
      refine xTup_elim hi fun _ _ _ hi => ?_
      exact fun hi0 => isTrue_plain (plain_t S e hi0 F I hA) rfl
    | list l =>
      refine xList_elim hi fun _ _ hi => ?_
      exact fun hi0 => isTrue_plain (plain_t S e hi0 F I hA) rfl
    | idx a i =>
      refine xSub_elim hi fun _ _ _ hi => ?_
      exact fun hi0 => isTrue_plain (plain_t S e hi0 F I hA) rfl
    | slice a lo hj =>
      refine xSub_elim hi fun _ _ _ hi => ?_
      exact fun hi0 => isTrue_plain (plain_t S e hi0 F I hA) rfl
    | comp imp elt tg it ifs =>
      refine xComp_elim hi fun _ _ _ _ hi => ?_
      exact fun hi0 => isTrue_plain (plain_t S e hi0 F I hA) rfl
    | comp2 imp elt x it y it2 ifs =>
      refine xComp_elim hi fun _ _ _ _ hi => ?_
      exact fun hi0 => isTrue_plain (plain_t S e hi0 F I hA) rfl
    | rng1 a => cases hi
    | rng2 a c => cases hi
    | call j args =>
      refine xCall_elim hi fun _ _ _ _ hi => ?_
      exact fun hi0 => isTrue_plain (plain_t S e hi0 F I hA) rfl
    | cls a =>
      refine xCall_elim hi fun _ _ _ _ hi => ?_
      exact fun hi0 => isTrue_plain (plain_t S e hi0 F I hA) rfl
    | bi c args =>
      refine xCall_elim hi fun _ _ _ _ hi => ?_
      exact fun hi0 => isTrue_plain (plain_t S e hi0 F I hA) rfl
    | meth m o as =>
      revert e
      refine one_elim hi fun _ hi => ?_
      intro e
      refine xCall_elim hi fun _ _ _ _ hi => ?_
      exact fun hi0 => isTrue_plain (plain_t S e hi0 F I hA) rfl
    | umeth j o args =>
      refine xCall_elim hi fun _ _ _ _ hi => ?_
      exact fun hi0 => isTrue_plain (plain_t S e hi0 F I hA) rfl
    | attr fk o =>
      refine xAttr_elim hi fun _ _ _ hi => ?_
      exact fun hi0 => isTrue_plain (plain_t S e hi0 F I hA) rfl
    | wsS =>
      refine xAttr_elim hi fun _ _ _ hi => ?_
      exact fun hi0 => isTrue_plain (plain_t S e hi0 F I hA) rfl
    | wsT =>
      refine xAttr_elim hi fun _ _ _ hi => ?_
      exact fun hi0 => isTrue_plain (plain_t S e hi0 F I hA) rfl
    | dget a d =>
      refine xCall_elim hi fun _ _ _ _ hi => ?_
      exact fun hi0 => isTrue_plain (plain_t S e hi0 F I hA) rfl

end
end Mine
end
section
namespace Mine
open PySem PySem.W PyProof.Rows

/-- the same for a comprehension whose value is taken before its locals go -/
noncomputable def SoundC (P : Par) (T : Tab) (n : Nat) (f : IE → Loc → Sto → Option (AV × Sto)) : Prop :=
  ∀ {ie : IE} {ℓ : Loc} {σ : Sto} {v : AV} {σ' : Sto}, f ie ℓ σ = some (v, σ') → ∀ {k : Nat} {ns : Names} {el : Expr} {gens : List Comprehension} {sc : Scope} {pos : Pos}, isE T k ns (.ListComp el gens sc pos) ie = true →
    ∀ {env : Env} {ρ : List Addr} {A : Around} {s : Shared} {E : Value → Shared → Prop} {use : Option (Value → Sem Unit)} {Q : Value → Shared → Prop}, FrameR P ρ ns ℓ env s.heap → Inv P ρ σ s.heap → AOk n A →
    (∀ x s' C ρ'', CDone P ns env ℓ ρ s σ' v C x s' ρ'' → compPost P.M A E use Q x C (.ok .next) s') →
    wpAny P.M A (comprehension (.ListComp el gens sc pos) sc env (firstIterPos gens pos) (newList []) (firstAsync gens) (firstIter gens env) use) Q E s

section
variable {P : Par} {n : Nat} {r : Rec} {ρ : List Addr} {σ σ' : Sto} {ℓ ℓ' : Loc} {s : Shared} {A : Around} {E : Value → Shared → Prop} {ns : Names} {env : Env} {k : Nat} {v : AV}

theorem stepC_sound (G : GF P T ft init) (S : Sound P T n r) : SoundC P T n (stepE ft init r) := by
  intro ie ℓ σ v σ' e k ns el gens sc pos hi env ρ A s E use Q F I hA q
  cases k with
  | zero => cases hi
  | succ k =>
    simp only [isE_q2, Bool.and_eq_true] at hi
    replace hi := hi.2
    cases ie with
    | comp imp elt tg it ifs =>
      refine one_elim hi fun ⟨t, i, fs, as⟩ hi => ?_
      simp only [Bool.and_eq_true, decide_eq_true_eq] at hi
      obtain ⟨⟨⟨⟨⟨rfl, h1⟩, h2⟩, h3⟩, h4⟩, h5⟩ := hi
      exact comp1_ok G S hA e h1 h2 h3 h4 h5 F I q
    | comp2 imp elt x it y it2 ifs =>
      refine two_elim hi fun ⟨t, i, fs, as⟩ ⟨t2, i2, fs2, as2⟩ hi => ?_
      simp only [Bool.and_eq_true, decide_eq_true_eq] at hi
      obtain ⟨h0, ⟨⟨⟨⟨⟨⟨⟨rfl, rfl⟩, h1⟩, h2⟩, h3⟩, h4⟩, h5⟩, h6⟩, h7⟩ := hi
      refine isNil_elim h0 ?_
      exact comp2_ok G S hA e h1 h2 h3 h4 h5 h6 h7 F I q
    | meth m o as =>
      refine one_elim hi fun _ hi => ?_
      exact noB hi
    | _ => exact noB hi

/-! ### stores to objects -/

theorem setItem_ok {l : Addr} {items : Array Value} {k : Int} {t : Tok} {v : Value} {Q : Unit → Shared → Prop} (hl : s.heap.PlainList l items)
    (h0 : 0 ≤ k) (hfit : k < 2 ^ 63) (hn : k < items.size)
    (hQ : ∀ h', h'.PlainList l (items.setIfInBounds k.toNat v) → Heap.SameBut l s.heap h' → Q () { s with heap := h' }) :
    wpAny P.M A (setItem (.ref l) (.int k t) v) Q E s := by
  obtain ⟨ne, ho⟩ := id hl
  have hI := hl.isList
  unfold setItem
  try with_reducible refine wpAny_holding ?_
  first | refine wpAny_bind (wpAny_pure ?_) | skip
  refine wpAny_bind (wpAny_sequenceKey hI.typeIs (by decide) ?_)
  refine wpAny_bind (wpAny_callSpecial?_slot (name := Str.ofString "__setitem__") hI.typeIs slot_list_setitem
    (wpAny_call_entry slot_list_setitem hI.typeIs entry_list_setitem ?_ (args_list_setitem _ _ _)))
  show wpAny _ _ (Builtin.List.listSubscript? (.int k t) >>= _) _ _ s
  refine wpAny_bind (wpAny_listSubscript_int (fitsIndex_of h0 hfit) ?_)
  clear hfit
  obtain ⟨j, rfl⟩ := Int.eq_ofNat_of_zero_le h0
  have hj : j < items.size := by omega
  have hx' : items[j]? = some items[j] := Array.getElem?_eq_getElem hj
  show wpAny _ _ ((seqItemAt l j >>= fun r => pure (r.map (j, ·))) >>= _) _ _ s
  refine wpAny_bind (wpAny_bind (wpAny_seqItemAt ho rfl (wpAny_pure ?_)))
  rw [hx']
  show wpAny _ _ (setSeqItemAt l j v >>= _) _ _ s
  have hfin : (s.heap.update l (Obj.mapSeq (·.setIfInBounds j v))).PlainList l (items.setIfInBounds j v) := PlainList.update_app _ ho
  refine wpAny_bind (wpAny_setSeqItemAt ho rfl ?_)
  first
    | exact wpAny_bind (wpAny_pure (wpAny_pure ⟨.none, rfl, wpAny_pure (hQ _ hfin (Heap.SameBut.update ..))⟩))
    | exact wpAny_pure ⟨.none, rfl, wpAny_pure (hQ _ hfin (Heap.SameBut.update ..))⟩

theorem putName_ns {h : Heap} {a : Addr} {m : Str → Option Value} {name : Str} {hash : Int} {t : Tok} {v : Value} {kk : Nat} (hn : h.Ns a m) (hz : NsSz h a kk) :
    (h.update a (Obj.putName name hash (.str name t) v)).Ns a (fun x => if x = name then some v else m x) ∧ NsSz (h.update a (Obj.putName name hash (.str name t) v)) a (kk + 1) := by
  obtain ⟨o, es, ep, ho, hd, hk, hm⟩ := hn
  obtain ⟨o', es', ep', ho', hd', hz⟩ := hz
  rw [ho] at ho'; cases ho'
  rw [hd] at hd'; cases hd'
  obtain ⟨c, d, dt, sl⟩ := o
  subst hd
  cases hi : es.findIdx? (·.key.isStr name) with
  | some i =>
    have e := Heap.get?_update_self (Obj.putName name hash (.str name t) v) ho (by simp only [Obj.putName_eq, Obj.putNameByArray, hi]; rfl)
    refine ⟨⟨_, _, ep, e, by simp only [Obj.putName_eq, Obj.putNameByArray, hi]; rfl, hk.modify _ _, fun x => ?_⟩, ⟨_, _, ep, e, by simp only [Obj.putName_eq, Obj.putNameByArray, hi]; rfl, ?_⟩⟩
    · show _ = if x = name then some v else m x
      rw [← hm]; exact findBy_modify (fun n v => v.isStr n) Value.isStr_inj es name x v i hi
    · simp; omega
  | none =>
    have e := Heap.get?_update_self (Obj.putName name hash (.str name t) v) ho (by simp only [Obj.putName_eq, Obj.putNameByArray, hi]; rfl)
    refine ⟨⟨_, _, ep + 1, e, by simp only [Obj.putName_eq, Obj.putNameByArray, hi]; rfl, hk.push _ _ _ _, fun x => ?_⟩, ⟨_, _, ep + 1, e, by simp only [Obj.putName_eq, Obj.putNameByArray, hi]; rfl, ?_⟩⟩
    · show _ = if x = name then some v else m x
      rw [← hm]
      exact findBy_push (fun n v => v.isStr n) es name x _ _ v (fun y => by
        show (name == y) = decide (y = name)
        by_cases h : y = name
        · subst h; simp
        · have : ¬ name = y := fun e => h e.symm
          simp [h, this]) hi
    · simp; omega

theorem setAttr_ok (G : GF P T ft init) {x D : Addr} {m : Str → Option Value} {f : FK} {v : Value} {kk : Nat} {Q : Unit → Shared → Prop} (X : P.K.In s.heap) (hx : s.heap.get? x = some (instObj P.C D)) (hn : s.heap.Ns D m) (hz : NsSz s.heap D kk) (hk : kk ≤ 1000)
    (q : ∀ h' t, h'.Ns D (fun y => if y = fkName f then some v else m y) → NsSz h' D (kk + 1) → Heap.SameBut D s.heap h' → Q () { s with heap := h', toks := t }) : wpAny P.M A (setAttr (.ref x) (fkName f) v) Q E s := by
  obtain ⟨od, es, ep, ho, hd, hks, hm⟩ := id hn
  have i : InstAt s.heap x (instObj P.C D) P.C (some od) := ⟨hx, rfl, rfl, ho⟩
  refine set_plain X i G.sa ?_
  have i' : InstAt ({ s with toks := s.toks + 1 } : Shared).heap x (instObj P.C D) P.C (some od) := i
  refine osa_open (s := { s with toks := s.toks + 1 }) X i' G.plain (G.taker f) fun b => ?_
  obtain ⟨cd, hc, hd'⟩ := any_some G.hasD
  have L := looks_clsIn (M := P.M) X hc
  obtain ⟨hh, gg, dd, tk, os⟩ := s
  refine wpAny_bind (wpAny_pure (wpAny_bind (wpAny_bind (wpAny_loadPart hx (wpAny_bind (L.at ?_))))))
  rw [hd']
  refine wpAny_pure (a := some D) (wpAny_bind (wpAny_pure (wpAny_bind ?_)))
  unfold nsSet
  refine wpAny_bind (wpAny_bind (wpAny_askSetting (wpAny_pure (wpAny_bind (wpAny_mkText (wpAny_bind (wpAny_loadPart ho ?_)))))))
  rw [hd]
  dsimp only
  have c : (!es.any (·.key.isStr (fkName f)) && es.any (·.refKey)) = false := by
    have hany : es.any (·.refKey) = false := by
      rw [Array.any_eq_false']; intro e he; obtain ⟨n, t, h⟩ := hks e he; simp [DictEntry.refKey, h]
    rw [hany, Bool.and_false]
  rw [aRefKeyMayBeTheName_at, c]
  refine wpAny_updatePart ho ?_
  obtain ⟨N', Z'⟩ := putName_ns (name := fkName f) (hash := PyData.keyHash P.w.params (fkName f)) (t := tk + 1) (v := v) hn hz
  obtain ⟨od', es', ep', ho', hd2, hsz⟩ := id Z'
  refine wpAny_bind (wpAny_lookBehind ho' (by rw [hd2]; exact pastItsLine_dict (by rw [sizeLine_eq]; omega)) ?_)
  exact wpAny_pure (q _ _ N' Z' (Heap.SameBut.update ..))
end
end Mine
end
section
namespace Mine
open PySem PySem.W PyProof.Rows

section
variable {P : Par} {n : Nat} {r : Rec} {ρ ρ' : List Addr} {σ σ' : Sto} {ℓ ℓ' : Loc} {s s' : Shared} {A : Around} {E : Value → Shared → Prop} {ns : Names} {env : Env} {k : Nat} {v : AV} {fl : Fl}

theorem APost.toS {W : List Addr} (hW : ∀ a ∈ W, a ∈ fa env) (a : APost P ns env ρ σ W s ℓ' s') : MvS env ρ s ρ s' := .of_step (a.1.mono fun b hb => .inl (List.mem_append_left _ (hW b hb)))

theorem isE_sw {val : Expr} {ie : IE} (h : isE T k ns val ie = true) (hl : ∀ el gens sc pos, val ≠ .ListComp el gens sc pos) (t : Option Expr) (line : Nat) : swapsWith val t line env = pure false := by
  cases k with
  | zero => cases h
  | succ k =>
    simp only [isE_q2, Bool.and_eq_true, Bool.not_eq_true'] at h
    cases val <;> first | rfl | (cases h.1; done) | exact absurd rfl (hl _ _ _ _)

theorem s_assign (S : Sound P T n r) (SC : SoundC P T n r.e) {x : Nat} {ie : IE} {nm : Str} {p pos : Pos} {val : Expr} (e : stepS r (.assign x ie) ℓ σ = some (fl, ℓ', σ')) (h1 : sname ns nm x = true) (h2 : isE T k ns val ie = true)
    (F : FrameR P ρ ns ℓ env s.heap) (I : Inv P ρ σ s.heap) (hA : AOk n A) : wpAny P.M A (exec (.Assign [.Name nm p] val pos) env) (SPost P ns env ρ σ' s fl ℓ') E s := by
  refine oP_elim e fun v σ1 ea e => iN_elim e fun hx e => ret3_elim e ?_
  have plain : swapsWith val (some (.Name nm p)) pos.line env = pure false → wpAny P.M A (exec (.Assign [.Name nm p] val pos) env) (SPost P ns env ρ σ1 s .next (ℓ.set x (some v))) E s := by
    intro hs
    refine wpAny_Assign_Name (e1 S ea h2 F I hA fun ρ1 s1 y m1 I1 F1 r1 => ?_) hs
    exact storeN_ok okIn_s h1 F1 I1 (Nat.le_of_ble_eq_true hx) r1 fun s2 a => ⟨ρ1, MvS.trans m1.toS I1 F1 (a.toS fun _ h => h), a.2.1, a.2.2, rfl⟩
  by_cases hl : ∀ el gens sc pos, val ≠ .ListComp el gens sc pos
  · exact plain (isE_sw h2 hl _ _)
  · simp only [Classical.not_forall, Classical.not_not] at hl
    obtain ⟨el, gens, sc, cpos, rfl⟩ := hl
    have hsw : ∃ b, swapsWith (.ListComp el gens sc cpos) (some (.Name nm p)) pos.line env = pure b := ⟨_, rfl⟩
    obtain ⟨b, hsw⟩ := hsw
    cases b with
    | false => exact plain hsw
    | true =>
      rw [exec_Assign_Name_used _ _ _ _ hsw]
      refine wpAny_bind (wpAny_standAt (wpAny_bind ?_))
      show wpAny _ A (do let _ ← comprehension (.ListComp el gens sc cpos) sc env (firstIterPos gens cpos) (newList []) (firstAsync gens) (firstIter gens env) (some (assign (.Name nm p) env))) _ _ s
      refine wpAny_bind (wpAny_mono (SC ea h2 (Q := fun _ s' => SPost P ns env ρ σ1 s .next (ℓ.set x (some v)) .next s') F I hA fun y s1 C ρ1 d => ?_) (fun _ s' hq => wpAny_pure (wpAny_pure hq)) fun _ _ x => x)
      show wpAny P.M A (assign (.Name nm p) env y) _ _ _
      refine wpAny_assign_Name (storeN_ok okIn_s h1 d.fr d.inv (Nat.le_of_ble_eq_true hx) d.val fun s2 a => ?_)
      obtain ⟨m, hn, hz⟩ := d.loc
      have hn2 : s2.heap.Ns C m := hn.at' fun o e => a.1.keep _ o e d.outF
      refine ⟨m, hn2, fun h' hs => ?_⟩
      have st : StepN [C] [] s2 { s2 with heap := h' } := .of_keep fun b o e hb => (hs.2 b (by simpa using hb)).trans e
      have soft : ∀ b ∈ [C], Soft s2.heap [] b := fun b hb => by rw [List.mem_singleton.mp hb]; exact .inr (.inr (.inr (.inl ⟨m, hn2, hz⟩)))
      refine ⟨ρ1, ?_, a.2.1.stepN st soft (fun b hb => by rw [List.mem_singleton.mp hb]; exact d.outρ) (fun b hb => by rw [List.mem_singleton.mp hb]; exact d.out0), a.2.2.stepN st soft (fun b hb hm => by rw [List.mem_singleton.mp hm] at hb; exact d.outF hb), rfl⟩
      exact Mv.stepN (MvS.trans d.mv.toS d.inv d.fr (a.toS fun _ h => h)) st (fun b hb => by rw [List.mem_singleton.mp hb]; exact d.dead) (fun g hg => by cases hg)

theorem sws_tuple {es : List Expr} {kk : Nat} {p : Pos} (val : Expr) (line : Nat) : swapsWithSole [.Tuple es kk p] val line env = pure false := by
  show swapsWith val (some (.Tuple es kk p)) line env = pure false
  cases val <;> rfl

theorem s_assignT (S : Sound P T n r) {xs : List Nat} {ie : IE} {es : List Expr} {q : Nat} {p pos : Pos} {val : Expr} (e : stepS r (.assignT xs ie) ℓ σ = some (fl, ℓ', σ')) (h1 : tgIs (sname ns) (.many xs) (.Tuple es q p) = true) (h0 : isTupleE val = false) (h2 : isE T k ns val ie = true)
    (F : FrameR P ρ ns ℓ env s.heap) (I : Inv P ρ σ s.heap) (hA : AOk n A) : wpAny P.M A (exec (.Assign [.Tuple es q p] val pos) env) (SPost P ns env ρ σ' s fl ℓ') E s := by
  refine oP_elim e fun x σ1 ea e => ?_
  have hw : swappedStores [.Tuple es q p] val env = pure none := by
    cases val <;> first | rfl | cases h0
  refine Assign_Tuple (e1 S ea h2 F I hA fun ρ1 s1 y m1 I1 F1 r1 => ?_) (sws_tuple _ _) hw
  revert r1
  refine oT_elim e fun vs e r1 => oO_elim e fun ℓ2 hb e => ret3_elim (motive := fun fl ℓ' σ' => wpAny P.M A (assign (.Tuple es q p) env y) (fun _ => SPost P ns env ρ σ' s fl ℓ' .next) E s1) e ?_
  exact assign_ok okIn_s (fun _ h => h) hA.handled h1 (show bindTg (.many xs) (.tup vs) ℓ = some ℓ2 from hb) F1 I1 r1 fun s2 a => ⟨ρ1, MvS.trans m1.toS I1 F1 (a.toS fun _ h => h), a.2.1, a.2.2, rfl⟩

theorem notStarred {e : Expr} {ie : IE} : isE T k ns e ie = true → ∀ x p, e ≠ .Starred x p := by
  intro h x p he
  subst he
  cases k with
  | zero => cases h
  | succ k =>
    simp only [isE_q2, Bool.and_eq_true, Bool.not_eq_true'] at h
    cases h.1

theorem s_swap (S : Sound P T n r) {x y : Nat} {a b : IE} {n1 n2 : Str} {p1 p2 p3 p4 pos : Pos} {k1 k2 : Nat} {v1 v2 : Expr} (e : stepS r (.swap x y a b) ℓ σ = some (fl, ℓ', σ')) (h1 : lname ns n1 x = true) (h2 : lname ns n2 y = true) (h3 : (n1 == n2) = false)
    (h4 : (p2.line == p1.line) = true) (h5 : constantsAlone 8 v1 = false) (h6 : foldedForSure 8 v1 = false) (h7 : isE T k ns v1 a = true) (h8 : isE T k ns v2 b = true)
    (F : FrameR P ρ ns ℓ env s.heap) (I : Inv P ρ σ s.heap) (hA : AOk n A) : wpAny P.M A (exec (.Assign [.Tuple [.Name n1 p1, .Name n2 p2] k1 p3] (.Tuple [v1, v2] k2 p4) pos) env) (SPost P ns env ρ σ' s fl ℓ') E s := by
  refine oP_elim e fun v σ1 ea e => oP_elim e fun u σ2 eb e => iN_elim e fun hxy e => ret3_elim e ?_
  simp only [Bool.and_eq_true, Nat.blt_eq] at hxy
  have l1 := h1; have l2 := h2
  simp only [lname, Bool.and_eq_true, decide_eq_true_eq] at l1 l2
  have hkd : ∀ z, env.kindOf z = ns.lookup z := fun z => by show env.scope.names.lookup z = _; rw [F.nmEq]
  have hb : env.blockKind = .function := by unfold Env.blockKind; rw [F.kind]; rfl
  have e1' : env.kindOf n1 = some .local := by rw [hkd]; exact l1.2
  have e2' : env.kindOf n2 = some .local := by rw [hkd]; exact l2.2
  have hw : swappedStores [.Tuple [.Name n1 p1, .Name n2 p2] k1 p3] (.Tuple [v1, v2] k2 p4) env = pure (some [n1, n2]) := by
    unfold swappedStores
    have hs1 := notStarred h7
    have hs2 := notStarred h8
    have hne : n2 ≠ n1 := fun e => by rw [e] at h3; simp at h3
    have hl4 : p2.line = p1.line := by simpa using h4
    simp [hb, e1', e2', h5, h6, hl4, Expr.pos, List.eraseDups_cons, hne]
  have hi : allP (isE T k ns) [v1, v2] [a, b] = true := allP2 h7 h8
  have hev : evEs r [a, b] ℓ σ = some ([v, u], σ2) := by simp only [evEs_q1, evEs_q2, ea, eb, oP]
  refine Assign_Tuple_swapped (wpAny_Tuple (wpAny_mono (esL S hA hev hi F I) (fun xs s1 ⟨ρ1, m1, I1, r1⟩ => ⟨?_, ?_⟩) fun _ _ x => x)) (sws_tuple _ _) hw
  · rw [r1.length]; exact (by decide : 2 ≤ 2 ^ 24)
  · have F1 := F.mvE I m1
    generalize hs2 : ({ s1 with heap := s1.heap.push { cls := .type "tuple", data := .seq xs.toArray } } : Shared) = s2
    have st : Step [] s1 s2 := by rw [← hs2]; exact .pushed (t := s1.toks)
    have I2 := inv_push I1 st
    have F2 := frame_push F1 st
    have rt : RVs P ρ1 s2.heap [v, u] xs := by
      have := r1.kp (W := []) st.keep (by simp) (new := []) (by intro a ha; cases ha)
      rwa [List.append_nil] at this
    obtain ⟨xv, _, rfl, rv, xu, _, rfl, ru, rfl⟩ := rt
    have ht : s2.heap.IsTuple s1.heap.objs.size #[xv, xu] := ⟨_, by rw [← hs2]; exact Heap.get?_push_size _ rfl, rfl, 0, rfl⟩
    refine wpAny_unpackItems_tuple (items := #[xv, xu]) hA.handled ht fun h' he => ?_
    have hk : ∀ b o, s2.heap.get? b = some o → h'.get? b = some o := fun b o e => he b o (fun hb => by subst hb; rw [get_size_none] at e; cases e) e
    generalize hs3 : ({ s2 with heap := h' } : Shared) = s3
    have st3 : Step [] s2 s3 := by rw [← hs3]; exact .of_keep fun b o e _ => hk b o e
    have I3 := inv_push I2 st3
    have F3 := frame_push F2 st3
    have rv3 := rv.kp (W := []) st3.keep (by simp) (new := []) (by intro a ha; cases ha)
    have ru3 := ru.kp (W := []) st3.keep (by simp) (new := []) (by intro a ha; cases ha)
    rw [List.append_nil] at rv3 ru3
    have m3 : MvS env ρ s ρ1 s3 := MvS.trans m1.toS I1 F1 (.of_step ((st.trans' st3).mono (by simp)))
    show wpAny P.M A (assignInOrder [fun v => bindName env n2 v, fun v => bindName env n1 v] [xu, xv]) _ _ _
    refine assignInOrder_cons (bindName_ (storeN_ok okIn_l h2 F3 I3 hxy.2 ru3 fun s4 a4 => ?_))
    have rv4 := rv3.step I3 F3 a4.1 (by simp [fa])
    refine assignInOrder_cons (bindName_ (storeN_ok okIn_l h1 a4.2.2 a4.2.1 (by rw [List.length_set]; exact hxy.1) rv4 fun s5 a5 => ?_))
    refine assignInOrder_nil ?_
    have hWl : ∀ a ∈ [env.locals], a ∈ fa env := by simp [fa]
    exact ⟨ρ1, MvS.trans (MvS.trans m3 I3 F3 (a4.toS hWl)) a4.2.1 a4.2.2 (a5.toS hWl), a5.2.1, a5.2.2, rfl⟩
end
end Mine
end
section
namespace Mine
open PySem PySem.W PyProof.Rows

section
variable {P : Par} {n : Nat} {r : Rec} {ρ ρ' : List Addr} {σ σ' : Sto} {ℓ ℓ' : Loc} {s s' : Shared} {A : Around} {E : Value → Shared → Prop} {ns : Names} {env : Env} {k : Nat} {v : AV} {fl : Fl}

theorem sws_many {es : List Expr} (h : 2 ≤ es.length) {val : Expr} (hv : xConst val (fun _ => true) = true) (line : Nat) : swapsWithSole es val line env = pure false ∧ swappedStores es val env = pure none := by
  match es, h with
  | a :: b :: es, _ => exact xConst_elim hv fun _ _ _ _ => ⟨rfl, by cases a <;> rfl⟩

theorem all_ok : ∀ {xs : List Nat} {es : List Expr} {y : Value} {ℓ ℓ' : Loc} {s : Shared} {Q : Unit → Shared → Prop}, namesAre (sname ns) xs es = true → setAll v xs ℓ = some ℓ' → FrameR P ρ ns ℓ env s.heap → Inv P ρ σ s.heap → RV P ρ s.heap v y →
    (∀ s', APost P ns env ρ σ (fa env) s ℓ' s' → Q () s') → wpAny P.M A (assignAll y ((assignEach es env).map (·.2))) Q E s
  | [], es, y, ℓ, ℓ', s, Q, h, e, F, I, r, q => by
    refine isNil_elim h ?_
    cases e
    exact wpAny_pure (q s ⟨.refl .., I, F⟩)
  | i :: is, es, y, ℓ, ℓ', s, Q, h, e, F, I, r, q => by
    refine namesAre_elim h fun x p es h1 h2 => iN_elim e fun hi e => ?_
    cases is with
    | nil =>
      refine isNil_elim h2 ?_
      cases e
      exact wpAny_assign_Name (storeN_ok okIn_s h1 F I (Nat.le_of_ble_eq_true hi) r q)
    | cons i2 is =>
      refine namesAre_elim (motive := fun es => namesAre (sname ns) (i2 :: is) es = true → wpAny P.M A (assignAll y ((assignEach (.Name x p :: es) env).map (·.2))) Q E s) h2 (fun x2 p2 es _ _ h2 => ?_) h2
      refine wpAny_bind (wpAny_holding (wpAny_assign_Name (storeN_ok okIn_s h1 F I (Nat.le_of_ble_eq_true hi) r fun s1 a => ?_)))
      exact all_ok h2 e a.2.2 a.2.1 (r.step I F a.1 fun _ h => h) fun s2 b => q s2 ⟨a.1.trans' b.1, b.2.1, b.2.2⟩

theorem s_chain (S : Sound P T n r) {xs : List Nat} {ie : IE} {es : List Expr} {pos : Pos} {val : Expr} (e : stepS r (.chain xs ie) ℓ σ = some (fl, ℓ', σ')) (h0 : 2 ≤ es.length) (h1 : namesAre (sname ns) xs es = true) (h2 : isE T k ns val ie = true) (hv : xConst val (fun _ => true) = true)
    (F : FrameR P ρ ns ℓ env s.heap) (I : Inv P ρ σ s.heap) (hA : AOk n A) : wpAny P.M A (exec (.Assign es val pos) env) (SPost P ns env ρ σ' s fl ℓ') E s := by
  refine oP_elim e fun v σ1 ea e => oO_elim e fun ℓ2 hb e => ret3_elim e ?_
  obtain ⟨w1, w2⟩ := sws_many (env := env) h0 hv pos.line
  rw [exec_Assign]
  refine wpAny_bind (wpAny_standAt ?_)
  rw [w1]
  refine wpAny_bind (wpAny_pure ?_)
  rw [if_neg (by decide)]
  refine wpAny_bind (e1 S ea h2 F I hA fun ρ1 s1 y m1 I1 F1 r1 => ?_)
  rw [w2]
  refine wpAny_bind (wpAny_pure ?_)
  show wpAny P.M A (assignAll y ((assignEach es env).map (·.2)) >>= fun _ => pure Flow.next) _ _ _
  refine wpAny_bind (all_ok h1 hb F1 I1 r1 fun s2 a => wpAny_pure ⟨ρ1, MvS.trans m1.toS I1 F1 (a.toS fun _ h => h), a.2.1, a.2.2, rfl⟩)

/-- one target that is no name -/
theorem assign_one {M : Model} {t val : Expr} {pos : Pos} {Q : Flow → Shared → Prop} (hs : swapsWithSole [t] val pos.line env = pure false) (hw : swappedStores [t] val env = pure none) (ht : ∀ e : Expr, t ≠ .Starred e pos → True) (hst : assignEach [t] env = [(false, assign t env)])
    (h : wpAny M A (eval val env) (fun v s₁ => wpAny M A (assign t env v) (fun _ => Q .next) E s₁) E s) : wpAny M A (exec (.Assign [t] val pos) env) Q E s := by
  rw [exec_Assign]
  refine wpAny_bind (wpAny_standAt ?_)
  rw [hs]
  refine wpAny_bind (wpAny_pure ?_)
  rw [if_neg (by decide)]
  refine wpAny_bind (wpAny_mono h (fun v s₁ h₁ => ?_) fun _ _ x => x)
  rw [hw]
  refine wpAny_bind (wpAny_pure ?_)
  rw [hst]
  show wpAny M A (do assign t env v; pure .next) Q E s₁
  exact wpAny_bind (wpAny_mono h₁ (fun _ _ x => wpAny_pure x) fun _ _ x => x)

theorem s_assignF (G : GF P T ft init) (S : Sound P T n r) {f : FK} {o ie : IE} {vl val : Expr} {nm : Str} {p pos : Pos} (e : stepS r (.assignF f o ie) ℓ σ = some (fl, ℓ', σ')) (hx : nm = fkName f) (h1 : isE T k ns vl o = true) (h2 : isE T k ns val ie = true)
    (F : FrameR P ρ ns ℓ env s.heap) (I : Inv P ρ σ s.heap) (hA : AOk n A) : wpAny P.M A (exec (.Assign [.Attribute vl nm p] val pos) env) (SPost P ns env ρ σ' s fl ℓ') E s := by
  subst hx
  refine oP_elim e fun v σ1 ea e => oP_elim e fun xx σ2 eb e => ?_
  refine assign_one (by cases val <;> rfl) (by cases val <;> rfl) (fun _ _ => trivial) rfl (e1 S ea h2 F I hA fun ρ1 s1 y m1 I1 F1 r1 => ?_)
  rw [arm_assign_Attribute]
  refine wpAny_bind (wpAny_holding (e1 S eb h1 F1 I1 hA fun ρ2 s2 x m2 I2 F2 r2 => wpAny_bind (wpAny_standAt (wpAny_bind (wpAny_holding ?_)))))
  have ry := r1.mvE I1 m2
  revert r2
  refine oSelf_elim e fun i e r2 => oO_elim e fun fs hfs e => iN_elim e fun hb e => ?_
  cases e
  simp only [Bool.and_eq_true, Nat.ble_eq, Option.isNone_iff_eq_none] at hb
  obtain ⟨⟨hno, hb1⟩, hb2⟩ := hb
  obtain ⟨a, D, rfl, hob, hD⟩ := r2
  obtain ⟨D', hD', mm, hm, hfl, hbl, hz⟩ := I2.at (nsOf_at hfs)
  rw [hD] at hD'; cases hD'
  have hDm : D ∈ ρ2 := List.mem_of_getElem? hD
  refine setAttr_ok G (G_X G I2) hob hm hz (by omega) fun h' t N' Z' sb => wpAny_release ?_
  have st : Step [D] s2 { s2 with heap := h', toks := t } := .of_keep fun b o e hb => (sb.2 b (by simpa using hb)).trans e
  have hW : ∀ b ∈ [D], Soft s2.heap ρ2 b := fun b hb => by rw [List.mem_singleton.mp hb]; exact I2.softs D hDm
  have mE : MvE ρ2 s2 ρ2 { s2 with heap := h', toks := t } := .of_step (st.mono fun b hb => by rw [List.mem_singleton.mp hb]; exact .inl hDm)
  have F3 := F2.mvE I2 mE
  have keepV : ∀ {u : AV} {w : Value}, RV P ρ2 s2.heap u w → RV P ρ2 h' u w := fun ru => by
    have := ru.kp st.keep hW (new := []) (by intro a ha; cases ha)
    rwa [List.append_nil] at this
  refine ⟨ρ2, MvS.trans (MvS.trans m1.toS I1 F1 m2.toS) I2 F2 mE.toS, ?_, F3, rfl⟩
  refine I2.set hD st.keep ⟨_, N', fun x => ?_, ?_, ?_⟩
  · rw [List.lookup_append]
    have hx := hfl x
    by_cases hxf : x = fkName f
    · subst hxf
      have e0 : (fs.lookup (fkName f)).or (List.lookup (fkName f) [(fkName f, v)]) = some v := by rw [hno]; simp
      rw [e0]
      exact ⟨y, if_pos rfl, keepV ry⟩
    · cases hl : fs.lookup x with
      | some u =>
        rw [hl] at hx
        obtain ⟨w, hw, rw'⟩ := hx
        exact ⟨w, (if_neg hxf).trans hw, keepV rw'⟩
      | none =>
        rw [hl] at hx
        have : (x == fkName f) = false := by simpa using hxf
        simp only [Option.none_or, List.lookup_cons, this, List.lookup_nil]
        exact (if_neg hxf).trans hx
  · intro q hq
    rcases List.mem_append.mp hq with hq | hq
    · exact hbl q hq
    · rw [List.mem_singleton.mp hq]; exact hb1
  · rw [List.length_append, List.length_singleton]; exact Z'

theorem RVs.set {h : Heap} {y : Value} (ry : RV P ρ h v y) : ∀ {l : List AV} {vs : List Value} (_ : RVs P ρ h l vs) (j : Nat), RVs P ρ h (l.set j v) (vs.set j y)
  | [], _, e, j => by cases e; exact rfl
  | _ :: _, _, ⟨w, ws, e, r, rs⟩, 0 => by subst e; exact ⟨y, ws, rfl, ry, rs⟩
  | _ :: _, _, ⟨w, ws, e, r, rs⟩, j + 1 => by subst e; exact ⟨w, _, rfl, r, RVs.set ry rs j⟩
theorem bels_set {m : Nat} : ∀ {l : List AV} (_ : bels m l = true) (_ : bel m v = true) (j : Nat), bels m (l.set j v) = true
  | [], b, _, j => b
  | _ :: _, b, c, 0 => by simp only [List.set_cons_zero, belsC, Bool.and_eq_true] at b ⊢; exact ⟨c, b.2⟩
  | _ :: _, b, c, j + 1 => by simp only [List.set_cons_succ, belsC, Bool.and_eq_true] at b ⊢; exact ⟨b.1, bels_set b.2 c j⟩

theorem s_assignI (S : Sound P T n r) {o i ie : IE} {vl sl val : Expr} {p pos : Pos} (e : stepS r (.assignI o i ie) ℓ σ = some (fl, ℓ', σ')) (hsl : isSlice sl = false) (h1 : isE T k ns vl o = true) (h3 : isE T k ns sl i = true) (h2 : isE T k ns val ie = true)
    (F : FrameR P ρ ns ℓ env s.heap) (I : Inv P ρ σ s.heap) (hA : AOk n A) : wpAny P.M A (exec (.Assign [.Subscript vl sl p] val pos) env) (SPost P ns env ρ σ' s fl ℓ') E s := by
  refine oP_elim e fun v σ1 ea e => oP_elim e fun xx σ2 eb e => oP_elim e fun yy σ3 ec e => ?_
  refine assign_one (by cases val <;> rfl) (by cases val <;> rfl) (fun _ _ => trivial) rfl (e1 S ea h2 F I hA fun ρ1 s1 y m1 I1 F1 r1 => ?_)
  rw [arm_assign_Subscript]
  refine wpAny_bind (wpAny_holding (e1 S eb h1 F1 I1 hA fun ρ2 s2 x m2 I2 F2 r2 => wpAny_bind (wpAny_holding (e1 S ec h3 F2 I2 hA fun ρ3 s3 z m3 I3 F3 r3 => wpAny_bind (wpAny_standAt (wpAny_bind (wpAny_holding ?_)))))))
  have ry := (r1.mvE I1 m2).mvE I2 m3
  have rx := r2.mvE I2 m3
  revert rx r3
  refine oR_elim e fun j e => oI_elim e fun kk e r3 rx => oO_elim e fun l hl e => iN_elim e fun hb e => ?_
  cases e
  simp only [Bool.and_eq_true, decide_eq_true_eq] at hb
  obtain ⟨⟨⟨hb1, hb2⟩, hb3⟩, hb4⟩ := hb
  have hb4 := ble_lim hb4
  refine int_elim r3 fun t => list_elim I3 hl rx fun a vs ha p' q b hlen => ?_
  refine setItem_ok p' hb1 (by omega) (by omega) fun h' hp hs => wpAny_release ?_
  have ham : a ∈ ρ3 := List.mem_of_getElem? ha
  have k' : Kp [a] s3.heap h' := fun b o e hb => (hs.2 b (by simpa using hb)).trans e
  have mE : MvE ρ3 s3 ρ3 { s3 with heap := h' } := .of_step (.of_keep fun b o e hb => k' b o e fun hm => hb (by rw [List.mem_singleton.mp hm]; exact ham))
  have hW : ∀ x ∈ [a], Soft s3.heap ρ3 x := fun x hx => by rw [List.mem_singleton.mp hx]; exact I3.softs a ham
  refine ⟨ρ3, MvS.trans (MvS.trans m1.toS I1 F1 (m2.trans I2 m3).toS) I3 F3 mE.toS, I3.setList ha k' hp ?_ ?_, F3.mvE I3 mE, rfl⟩
  · rw [Array.toList_setIfInBounds]
    exact RVs.set ry q _
  · exact bels_set b hb3 _

theorem s_aug (S : Sound P T n r) {x : Nat} {op : AugK} {ie : IE} {nm : Str} {p pos : Pos} {val : Expr} (e : stepS r (.aug x op ie) ℓ σ = some (fl, ℓ', σ')) (h1 : sname ns nm x = true) (h2 : isE T k ns val ie = true)
    (F : FrameR P ρ ns ℓ env s.heap) (I : Inv P ρ σ s.heap) (hA : AOk n A) : wpAny P.M A (exec (.AugAssign (.Name nm p) (augOf op) val pos) env) (SPost P ns env ρ σ' s fl ℓ') E s := by
  refine oO_elim e fun old ho e => oP_elim e fun v σ1 ea e => oO_elim e fun u hu e => ret3_elim e ?_
  have ho := slot_of ho
  have hx : x < ℓ.length := (List.getElem?_eq_some_iff.mp ho).1
  have hs := h1
  simp only [sname, Bool.and_eq_true, decide_eq_true_eq, Bool.or_eq_true] at hs
  refine wpAny_AugAssign_Name (load_ok hs.1 hs.2 F ho fun y ry => e1 S ea h2 F I hA fun ρ1 s1 z m1 I1 F1 r1 => ?_)
  refine wpAny_mono (aug_ok hu I1 (ry.mvE I m1) r1) (fun w s2 ⟨ρ2, m2, I2, r2⟩ => ?_) fun _ _ x => x
  have F2 := F1.mvE I1 m2
  exact storeN_ok okIn_s h1 F2 I2 hx r2 fun s3 a => ⟨ρ2, MvS.trans (m1.trans I1 m2).toS I2 F2 (a.toS fun _ h => h), a.2.1, a.2.2, rfl⟩

theorem s_expr (S : Sound P T n r) {ie : IE} {pos : Pos} {val : Expr} (e : stepS r (.expr ie) ℓ σ = some (fl, ℓ', σ')) (h0 : isCallE val = true) (h2 : isE T k ns val ie = true)
    (F : FrameR P ρ ns ℓ env s.heap) (I : Inv P ρ σ s.heap) (hA : AOk n A) : wpAny P.M A (exec (.Expr val pos) env) (SPost P ns env ρ σ' s fl ℓ') E s := by
  refine oP_elim e fun x σ1 ea e => ?_
  have hi : interactive env = false := by unfold interactive; rw [F.kind]; rfl
  refine wpAny_Expr (e1 S ea h2 F I hA fun ρ1 s1 y m1 I1 F1 r1 => ?_) hi (by cases val <;> first | rfl | cases h0)
  revert r1
  refine oN_elim e fun e r1 => ?_
  cases e; cases r1
  exact ⟨ρ1, m1.toS, I1, F1, rfl⟩

theorem s_if (S : Sound P T n r) {t : IE} {a b : List IS} {t' : Expr} {a' b' : List Stmt} {pos : Pos} (e : stepS r (.ifS t a b) ℓ σ = some (fl, ℓ', σ')) (h0 : isE T k ns t' t = true) (h1 : allP (isS T k ns) a' a = true) (h2 : allP (isS T k ns) b' b = true)
    (F : FrameR P ρ ns ℓ env s.heap) (I : Inv P ρ σ s.heap) (hA : AOk n A) : wpAny P.M A (exec (.If t' a' b' pos) env) (SPost P ns env ρ σ' s fl ℓ') E s := by
  refine oP_elim e fun c σ1 ea e => wpAny_If (t1 S ea h0 F I hA fun ρ1 s1 m1 I1 F1 => ?_)
  cases c with
  | true => exact wpAny_mono (S.b e h1 F1 I1 hA) (fun f s2 ⟨ρ2, m2, I2, F2, r2⟩ => ⟨ρ2, MvS.trans m1.toS I1 F1 m2, I2, F2, r2⟩) fun _ _ x => x
  | false => exact wpAny_mono (S.b e h2 F1 I1 hA) (fun f s2 ⟨ρ2, m2, I2, F2, r2⟩ => ⟨ρ2, MvS.trans m1.toS I1 F1 m2, I2, F2, r2⟩) fun _ _ x => x

theorem s_ret (S : Sound P T n r) {ie : IE} {pos : Pos} {val : Expr} (e : stepS r (.ret ie) ℓ σ = some (fl, ℓ', σ')) (h2 : isE T k ns val ie = true)
    (F : FrameR P ρ ns ℓ env s.heap) (I : Inv P ρ σ s.heap) (hA : AOk n A) : wpAny P.M A (exec (.Return (some val) pos) env) (SPost P ns env ρ σ' s fl ℓ') E s := by
  exact oP_elim e fun v σ1 ea e => ret3_elim e (wpAny_Return_some (e1 S ea h2 F I hA fun ρ1 s1 y m1 I1 F1 r1 => ⟨ρ1, m1.toS, I1, F1, y, rfl, r1⟩))

theorem s_for (G : GF P T ft init) (S : Sound P T n r) {tg : Tg} {ite : IE} {body els : List IS} {t iter : Expr} {b' els' : List Stmt} {pos : Pos} (e : stepS r (.forS tg ite body els) ℓ σ = some (fl, ℓ', σ')) (ht : tgIs (sname ns) tg t = true) (hi : isIt (isE T k ns) ns ite iter = true)
    (hb : allP (isS T k ns) b' body = true) (he : allP (isS T k ns) els' els = true)
    (F : FrameR P ρ ns ℓ env s.heap) (I : Inv P ρ σ s.heap) (hA : AOk n A) : wpAny P.M A (exec (.For t iter b' els' pos) env) (SPost P ns env ρ σ' s fl ℓ') E s := by
  refine oP_elim e fun i σ1 ea e => wpAny_For (it_ok G S hA ea hi F I fun ρ1 s1 s2 it own J m1 I1 F1 st hj hJ => ?_) (isIt_noSet hi)
  refine forLoop_ok S hA hj.toX ht hb he (fun ρ' s' f m' I' F' r' => ?_) gas 0 rfl e (.of_step (st.mono (by simp))) (inv_push I1 st) (frame_push F1 st) ⟨rfl, hJ⟩ (own_ok I1 F1 hj.new)
  exact ⟨ρ', MvS.trans m1.toS I1 F1 m', I', F', r'⟩

theorem s_while (S : Sound P T n r) {t : IE} {body : List IS} {t' : Expr} {b' : List Stmt} {pos : Pos} (e : stepS r (.whileS t body) ℓ σ = some (fl, ℓ', σ')) (h0 : isE T k ns t' t = true) (hb : allP (isS T k ns) b' body = true)
    (F : FrameR P ρ ns ℓ env s.heap) (I : Inv P ρ σ s.heap) (hA : AOk n A) : wpAny P.M A (exec (.While t' b' [] pos) env) (SPost P ns env ρ σ' s fl ℓ') E s := by
  refine wpAny_While (codeAny_whileLoop (fun g s1 => ∃ ℓ σ ρ1, whileLoop r t body g ℓ σ = some (fl, ℓ', σ') ∧ MvS env ρ s ρ1 s1 ∧ Inv P ρ1 σ s1.heap ∧ FrameR P ρ1 ns ℓ env s1.heap) ?_ gas ⟨ℓ, σ, ρ, e, .refl .., I, F⟩)
  rintro g s1 ⟨ℓ1, σ1, ρ1, e, m1, I1, F1⟩
  cases g with
  | zero => exact noS e
  | succ g =>
    refine oP_elim e fun c σ2 ea e => t1 S ea h0 F1 I1 hA fun ρ2 s2 m2 I2 F2 => ?_
    have mm := MvS.trans m1 I1 F1 m2.toS
    cases c with
    | false => cases e; rw [if_neg (by decide)]; exact wpAny_execs_nil ⟨ρ2, mm, I2, F2, rfl⟩
    | true =>
      rw [if_pos rfl]
      refine oP_elim e fun fl3 p eb e => wpAny_mono (S.b (ℓ' := p.1) (σ' := p.2) eb hb F2 I2 hA) (fun f s3 ⟨ρ3, m3, I3, F3, r3⟩ => ?_) fun _ _ x => x
      have m4 := MvS.trans mm I2 F2 m3
      cases fl3 with
      | next => cases r3; exact ⟨g, Nat.lt_succ_self _, _, _, _, e, m4, I3, F3⟩
      | brk => cases r3; cases e; exact ⟨ρ3, m4, I3, F3, rfl⟩
      | ret w => cases e; obtain ⟨x, rfl, rx⟩ := r3; exact ⟨ρ3, m4, I3, F3, x, rfl, rx⟩
end
end Mine
end
section
namespace Mine
open PySem PySem.W PyProof.Rows

/-! ## generators -/

section
variable {M : Model} {A : Around} {R : GenEnd} {Y : Protocol} {n : Nat} {s₀ : Shared} {c : Code} {fs : List Frame} {s : Shared} {env : Env}
  {K : Flow → Sem Fin} {H : Value → Sem Fin} {gd : Bool → Bool} {lv : List Value → List Value}

theorem seg_stmt {st : Stmt} {rest : List Stmt} (h : wpAny M (A.over c fs) (exec st env) (fun f s' => f = .next ∧ Seg M A R Y n s₀ c ((execs rest env).wrap K H gd lv) fs s') (fun x s' => Seg M A R Y n s₀ c (H x) fs s') s) :
    Seg M A R Y n s₀ c ((execs (st :: rest) env).wrap K H gd lv) fs s := by
  refine seg_execs_cons (seg_wrap (wpAny_mono h (fun f s' ⟨hf, h'⟩ => ?_) fun _ _ x => x))
  subst hf
  exact h'

theorem seg_If {test : Expr} {body orelse : List Stmt} {pos : Pos} (h : wpAny M (A.over c fs) (isTrue test env (eval test env))
      (fun b s' => if b = true then Seg M A R Y n s₀ c ((execs body env).wrap K H gd lv) fs s' else Seg M A R Y n s₀ c ((execs orelse env).wrap K H gd lv) fs s') (fun x s' => Seg M A R Y n s₀ c (H x) fs s') s) :
    Seg M A R Y n s₀ c ((exec (.If test body orelse pos) env).wrap K H gd lv) fs s := by
  rw [exec_If]
  refine seg_bind_wrap (wpAny_standAt (seg_bind_wrap (wpAny_mono h (fun b s' h' => ?_) fun _ _ x => x)))
  cases b <;> exact h'

theorem seg_For {target iter : Expr} {body orelse : List Stmt} {pos : Pos} (hs : ∀ x, foldedSetIterable iter env x = pure x)
    (h : wpAny M (A.over c fs) (eval iter env) (fun x s1 => wpAny M (A.over c fs) (pyIter x) (fun it s2 => ∀ p, Seg M A R Y n s₀ (.forLoop target it body orelse env) (M.den (.forLoop target it body orelse env))
      (.ret (fun r => ((match r with | .ok f => (.pure f : Sem Flow) | .error e => .raise e).onRaise fun (x : Value) => do
        if (← field x 1) == Value.none then unsupported "frame.own-activation:exception-without-traceback"
        setFlight x env.frame).wrap K H gd lv) none (gd false) (lv []) c p [] :: fs) s2) (fun x s' => Seg M A R Y n s₀ c (H x) fs s') s1) (fun x s' => Seg M A R Y n s₀ c (H x) fs s') s) :
    Seg M A R Y n s₀ c ((exec (.For target iter body orelse pos) env).wrap K H gd lv) fs s := by
  rw [exec_For]
  refine seg_bind_wrap (wpAny_standAt (seg_bind_wrap (wpAny_mono h (fun x s1 h1 => ?_) fun _ _ x => x)))
  rw [hs x]
  refine seg_bind_wrap (wpAny_pure (seg_bind_wrap (wpAny_standAt (seg_bind_wrap (wpAny_holding (wpAny_mono h1 (fun it s2 h2 => ?_) fun _ _ x => x))))))
  exact seg_call h2
end

section
variable {prog : Program} {w : World} {A : Around} {R : GenEnd} {Y : Protocol} {n : Nat} {s₀ : Shared} {fs : List Frame} {s : Shared} {env : Env}

theorem seg_forLoop {target : Expr} {it : Value} {body orelse : List Stmt}
    (h : ∀ E : Value → Shared → Prop, wpAny (model prog w) (A.over (.forLoop target it body orelse env) fs) (pyNext it) (fun r s' => match r with
      | none => Seg (model prog w) A R Y n s₀ (.block orelse env) ((model prog w).den (.block orelse env)) fs s'
      | some v => wpAny (model prog w) (A.over (.forLoop target it body orelse env) fs) (letOwnedTupleGo target it v) (fun _ s1 => wpAny (model prog w) (A.over (.forLoop target it body orelse env) fs) (assign target env v) (fun _ s2 =>
          ∀ (H : Value → Sem Fin), Seg (model prog w) A R Y n s₀ (.forLoop target it body orelse env) ((execs body env).wrap (fun f => match f with
            | .next | .cont => .pure (.again (.forLoop target it body orelse env))
            | .brk => .pure (.done .next)
            | .ret v => .pure (.done (.ret v))) H id id) fs s2) E s1) E s') E s) :
    Seg (model prog w) A R Y n s₀ (.forLoop target it body orelse env) ((model prog w).den (.forLoop target it body orelse env)) fs s := by
  show Seg _ A R Y n s₀ _ ((forTurn target it body orelse env).onRaise (fun x => do noteFrame x env; theTreesLotGoes x)) fs s
  unfold forTurn
  rw [Sem.onRaise_eq_wrap]
  refine seg_bind_wrap (wpAny_standAt (seg_bind_wrap (wpAny_onRaise (wpAny_mono (h _) (fun r s' hr => ?_) fun _ _ x => wpAny_standAt x))))
  cases r with
  | none => exact seg_again rfl hr
  | some v =>
    refine seg_bind_wrap (wpAny_mono hr (fun _ s1 h1 => seg_bind_wrap (wpAny_mono h1 (fun _ s2 h2 => ?_) fun _ _ x => x)) fun _ _ x => x)
    rw [Sem.bind_eq_wrap', Sem.wrap_wrap]
    rw [Sem.wrap_congr (execs body env) _ _ (K' := fun f => match f with
            | .next | .cont => .pure (.again (.forLoop target it body orelse env))
            | .brk => .pure (.done .next)
            | .ret v => .pure (.done (.ret v))) (fun f => by cases f <;> rfl) (fun _ => rfl)]
    exact h2 _

theorem seg_block_nil (h : Seg (model prog w) A R Y n s₀ (.block [] env) (leafOf (.ok .next)) fs s) : Seg (model prog w) A R Y n s₀ (.block [] env) ((model prog w).den (.block [] env)) fs s := h
end

end Mine
end
section
namespace Mine
open PySem PySem.W PyProof.Rows

section
variable {prog : Program} {w : World} {A : Around} {E : Value → Shared → Prop} {s : Shared}

theorem pyNext_fnQ {a : Addr} {g n : Nat} {gs : GenState} {P : Nat → Shared → Shared → Prop} {Y : Protocol} {Q : Option Value → Shared → Prop} (hh : A.handled = none)
    (hl : s.heap.NoLimit) (hroom : A.depth < recursionLimit)
    (hg : s.heap.IsGen a g) (hgs : s.gens[g]? = some gs)
    (hgo : gs.Goes (model prog w) A.in1 (fun n s₀ r s₁ => r = .ok (.ret .none) ∧ P n s₀ s₁) Y n (.send .none) (s.setGen g .running))
    (hY : ∀ v s₁ gs', gs'.bare = true → Y (n - 1) (s.setGen g .running) v s₁ (fun r' s'' => match n with
        | 0 => False
        | m + 1 => gs'.Goes (model prog w) A.in1 (fun n s₀ r s₁ => r = .ok (.ret .none) ∧ P n s₀ s₁) Y m r' s'') → Q (some v) (s₁.setGen g gs'))
    (hP : ∀ s₁, P n (s.setGen g .running) s₁ → ∀ h', (∀ b o, s₁.heap.get? b = some o → h'.get? b = some o) → Q none { s₁.setGen g .finished with heap := h' }) :
    wpAny (model prog w) A (pyNext (.ref a)) Q E s := by
  unfold pyNext
  refine wpAny_bind (wpAny_attempt (wpAny_callSpecial?_slot (name := Str.ofString "__next__") hg.typeIs slot_gen_next
    (wpAny_call_entry slot_gen_next hg.typeIs entry_gen_next ?_ (args_gen_next _))))
  show wpAny _ A.in1 (Builtin.Generator.genWake (.ref a) (.send .none)) _ _ s
  unfold Builtin.Generator.genWake
  refine wpAny_bind (wpAny_holding (wpAny_genNumber hg (wpAny_bind (wpAny_genState hgs ?_))))
  cases gs with
  | running => exact hgo.elim
  | finished => exact hgo.elim
  | _ =>
    refine wpAny_bind (wpAny_roomToWake hl hroom ?_)
    show wpAny _ A.in1 (.resume g (.send .none) [] _) _ _ s
    refine wpAny_resumeQ hgs hgo (fun x s₁ hx => ?_) (fun v s₁ gs' hb hv => ?_)
    · obtain ⟨rfl, hp⟩ := hx
      show wpAny _ A.in1 (newExc (.type "StopIteration") [] >>= _) _ _ _
      refine wpAny_bind ?_
      simp only [newExc, newTuple]
      refine wpAny_bind (wpAny_newObj_type ?_ (by size_fits))
      refine wpAny_bind (m := firstArgMember _ _) (wpAny_of_eq (a := Value.none) (by first | rfl | (simp only [firstArgMember]; rfl)) ?_)
      refine wpAny_newObj_type ?_ (by size_fits)
      simp only [raiseNew]
      refine wpAny_bind (wpAny_bind (wpAny_handled ?_))
      first | rw [show A.in1.handled = none from hh] | rw [hh]
      refine wpAny_throw ?_
      refine wpAny_bind (wpAny_isInstance (T := "StopIteration") (b := true) ⟨_, Heap.get?_push_size _ rfl, rfl⟩ isSubtype_stop ?_)
      exact wpAny_pure (hP s₁ hp _ fun b o hb => Heap.get?_push_of_some _ (Heap.get?_push_of_some _ hb))
    · exact wpAny_pure ⟨v, rfl, wpAny_pure (hY v s₁ gs' hb hv)⟩
end

end Mine
end
section
namespace Mine
open PySem PySem.W PyProof.Rows

/-! ### what a generator keeps to -/

noncomputable def KeptOn (own : List Addr) (h h' : Heap) : Prop := ∀ b ∈ own, ∀ o, h.get? b = some o → h'.get? b = some o
noncomputable def Kept0 (P : Par) (h : Heap) : Prop := ∀ b o, P.h₀.get? b = some o → h.get? b = some o

noncomputable def GY (P : Par) (i : Itr) (a : Addr) (g : Nat) (own : List Addr) : Protocol := fun m s₀ v s kap =>
  (∃ x, itNext i (gas - m) [] = some (some x) ∧ ∀ ρ, RV P ρ s.heap x v) ∧ Step own s₀ s ∧ s.heap.IsGen a g ∧ (∀ b ∈ own, Soft s.heap [] b) ∧
    (0 < m → ∀ s'' : Shared, KeptOn own s.heap s''.heap → Kept0 P s''.heap → kap (.send .none) s'')
noncomputable def GP (i : Itr) (own : List Addr) (n : Nat) (s₀ s₁ : Shared) : Prop := itNext i (gas + 1 - n) [] = some none ∧ Step own s₀ s₁
noncomputable def GR (i : Itr) (own : List Addr) : GenEnd := fun n s₀ r s₁ => r = .ok (.ret .none) ∧ GP i own n s₀ s₁

noncomputable def GJ (P : Par) (A : Around) (i : Itr) (a : Addr) (g : Nat) (k : Nat) (own : List Addr) (s : Shared) : Prop :=
  ∃ gs, s.heap.IsGen a g ∧ s.gens[g]? = some gs ∧ (∀ b ∈ own, Soft s.heap [] b) ∧ a ∈ own ∧
    ∀ s'' : Shared, KeptOn own s.heap s''.heap → Kept0 P s''.heap → ∃ own', (∀ b ∈ own', b ∈ own ∨ s''.heap.get? b = none) ∧ (∀ b ∈ own, b ∈ own') ∧
      gs.Goes P.M A.in1 (GR i own') (GY P i a g own') (gas + 1 - k) (.send .none) s''

theorem Soft.at' {h h' : Heap} {a : Addr} (x : Soft h [] a) (e : ∀ o, h.get? a = some o → h'.get? a = some o) : Soft h' [] a := by
  rcases x with ⟨its, n, p⟩ | ⟨v, o, ho, d⟩ | ⟨hm, _⟩ | ⟨m, hn, hz⟩ | ⟨o, T, vs, ho, r⟩
  · exact .inl ⟨its, n, e _ p⟩
  · exact .inr (.inl ⟨v, o, e _ ho, d⟩)
  · cases hm
  · exact .inr (.inr (.inr (.inl ⟨m, hn.at' e, hz⟩)))
  · exact .inr (.inr (.inr (.inr ⟨o, T, vs, e _ ho, r⟩)))

theorem IsGen.at' {h h' : Heap} {a : Addr} {g : Nat} (x : h.IsGen a g) (e : ∀ o, h.get? a = some o → h'.get? a = some o) : h'.IsGen a g := let ⟨o, nm, qn, ho, r⟩ := x; ⟨o, nm, qn, e _ ho, r⟩

section
variable {P : Par} {ρ ρ₀ ρ' : List Addr} {σ σ' σ₀ : Sto} {s s₀ s' : Shared} {A : Around} {E : Value → Shared → Prop} {ns : Names} {ℓ ℓ' ℓ₀ : Loc} {env : Env} {n k : Nat} {r : Rec} {v : AV}
  {i : Itr} {own : List Addr} {a : Addr} {g : Nat}

theorem setGen_gens {s : Shared} {g g' : Nat} {x y : GenState} (h : g' ≠ g) (e : s.gens[g']? = some y) : (s.setGen g x).gens[g']? = some y := by
  rw [(GenOnly.setGen s g x).2 g' h]; exact e
theorem setGen_bare {s : Shared} {g : Nat} {x : GenState} (hx : x.bare = true) (h : AllBare s.gens) : AllBare (s.setGen g x).gens := by
  intro y hy
  obtain ⟨j, hj, rfl⟩ := Array.mem_iff_getElem.mp hy
  by_cases e : j = g
  · subst e
    have : (s.setGen j x).gens[j] = x := by simp [Shared.setGen]
    rw [this]; exact hx
  · have h1 := (GenOnly.setGen s g x).2 j e
    rw [Array.getElem?_eq_getElem hj] at h1
    obtain ⟨hi', e'⟩ := Array.getElem?_eq_some_iff.mp h1.symm
    rw [← e']; exact h _ (Array.getElem_mem hi')

theorem iter_gen (G : GF P T ft init) (hA : AOk n A) (hfree : ∀ k σ, itNext i k σ = itNext i k []) (hg : s₀.gens[g]? = none) : IterX P A (.ref a) i ρ₀ s₀ [g] (GJ P A i a g) where
  gnew := fun b hb => by rw [List.mem_singleton.mp hb]; exact hg
  soft := fun k own s h => h.choose_spec.2.2.1
  stable := fun k own s s' h h1 h2 h3 => by
    obtain ⟨gs, a1, a2, a3, a4, a5⟩ := h
    exact ⟨gs, IsGen.at' a1 fun o e => h1 a a4 o e, h3 g (by simp) _ a2, fun b hb => (a3 b hb).at' fun o e => h1 b hb o e, a4, fun s'' k1 k2 => a5 s'' (fun b hb o e => k1 b hb o (h1 b hb o e)) k2⟩
  next := fun k own ρ σ s ov Q E hk h I _ hn q => by
    have h0 := I.keep
    rw [hfree] at hn
    obtain ⟨gs, a1, a2, a3, a4, a5⟩ := h
    obtain ⟨own', b1, b2, b3⟩ := a5 (s.setGen g .running) (fun b _ o e => e) h0
    have stN : ∀ {s₁ : Shared} {x : GenState} {h' : Heap}, x.bare = true → Step own' (s.setGen g .running) s₁ → (∀ b o, s₁.heap.get? b = some o → h'.get? b = some o) → StepN own [g] s { s₁.setGen g x with heap := h' } := by
      intro s₁ x h' hx st hk'
      refine ⟨fun b o e hb => hk' b o (st.keep b o e fun hm => ?_), st.os, fun g' y hg' e => ?_, fun hb => ?_⟩
      · rcases b1 b hm with h | h
        · exact hb h
        · rw [show (s.setGen g GenState.running).heap.get? b = s.heap.get? b from rfl] at h; rw [h] at e; cases e
      · have hne : g' ≠ g := by simpa using hg'
        exact setGen_gens hne (st.gens g' y (setGen_gens hne e))
      · exact setGen_bare hx (st.bare (setGen_bare rfl hb))
    refine pyNext_fnQ (P := GP i own') hA.handled (G.nolimit.keeps h0) hA.room a1 a2 b3 (fun v s₁ gs' hb hv => ?_) (fun s₁ hp h' hk' => ?_)
    · obtain ⟨⟨x, hx, rx⟩, st, isg, soft', kap⟩ := hv
      have hnk : gas - (gas + 1 - k - 1) = k := by omega
      rw [hnk, hn] at hx
      cases hx
      refine q _ _ (stN hb st fun b o e => e) ⟨v, own', rfl, rx ρ, ⟨gs', isg, ?_, soft', b2 a a4, fun s'' k1 k2 => ⟨own', fun b hb => .inl hb, fun b hb => hb, ?_⟩⟩, b1⟩
      · exact setGen_self (st.gens g .running (setGen_self a2))
      · have := kap (by omega) s'' k1 k2
        have hm : gas + 1 - k = (gas + 1 - (k + 1)) + 1 := by omega
        rw [hm] at this
        exact this
    · obtain ⟨h1, st⟩ := hp
      have hnk : gas + 1 - (gas + 1 - k) = k := by omega
      rw [hnk, hn] at h1
      cases h1
      exact q _ _ (stN rfl st hk') rfl
  go := fun k own s h => by
    obtain ⟨gs, ⟨o, nm, qn, ho, hc, _⟩, _⟩ := h
    exact ⟨a, o, _, rfl, ho, hc, by decide⟩

/-! ### the making of a generator -/

noncomputable def flatV : AV → Bool
  | .none => true
  | .bool _ => true
  | .int _ => true
  | .str _ => true
  | .ref _ => true
  | _ => false
theorem flatV_q2  : flatV (.bool u1') = (true) := rfl
theorem flatV_q3  : flatV (.int u1') = (true) := rfl
theorem flatV_q4  : flatV (.str u1') = (true) := rfl
theorem flatV_q5  : flatV (.ref u1') = (true) := rfl
theorem RV.flat {h h' : Heap} {x : AV} {y : Value} (hf : flatV x = true) (r : RV P ρ h x y) : RV P ρ h' x y := by
  cases x <;> first | exact r | cases hf

structure GenFn (P : Par) (f : Addr) (chk : Names → List Stmt → Bool) : Prop where
  ex : ∃ (o : Obj) (F : FuncData) (body : List Stmt) (x : Str), P.h₀.get? f = some o ∧ o.data = .func F ∧ F.body = .stmts body ∧ F.scope.isCoroutine = false ∧ F.scope.isGenerator = true ∧ F.scope.kind = .function ∧
    F.globals = mainGlobals ∧ F.builtins = builtinsNs ∧ F.closure = [] ∧ P.h₀.CodeRec F.code F.qualname ∧ (∀ v : Value, bindArgs F ⟨[v], []⟩ = pure [(x, v)]) ∧
    F.scope.names.lookup x = some .local ∧ slot F.scope.names x = some 0 ∧ (∀ p ∈ F.scope.names, p.2 ≠ .cell) ∧ chk F.scope.names body = true ∧ F.scope.names.lookup sSimple = none ∧ (F.scope.names.map (·.1)).Nodup

/-- what stands behind the making -/
structure GenMade (P : Par) (chk : Names → List Stmt → Bool) (ρg : List Addr) (v : AV) (s s' : Shared) (a : Addr) (env : Env) (body : List Stmt) : Prop where
  st : Step [] s s'
  isg : s'.heap.IsGen a s.gens.size
  now : s'.gens[s.gens.size]? = some (.fresh (.func body env))
  deadA : s.heap.get? a = none
  deadL : s.heap.get? env.locals = none
  neAL : a ≠ env.locals
  cells : env.cells = []
  chk : chk env.scope.names body = true
  co : env.scope.isCoroutine = false
  fr : ∀ m : Nat, FrameR P ρg env.scope.names (some v :: List.replicate m none) env s'.heap

theorem gen_make (G : GF P T ft init) (hA : AOk (n + 1) A) {f : Addr} {chk : Names → List Stmt → Bool} (gf : GenFn P f chk) {y : Value} {Q : Value → Shared → Prop} (I : Inv P ρ σ s.heap) (hv : flatV v = true) (rv : RV P ρ s.heap v y)
    (q : ∀ a env body s', GenMade P chk ρ v s s' a env body → Q (.ref a) s') : wpAny P.M A (call (.ref f) [y]) Q E s := by
  obtain ⟨o, F, body, x, ho, hd, hbody, hco, hgen, hkind, hgl, hbi, hclo, hcr, hbind, hx, hsl, hcell, hchk, hns, hnd⟩ := gf.ex
  refine wpAny_call (codeAny_call_generator hA.room (I.keep _ _ ho) hd hco hgen hbody (hcr.keeps I.keep) ?_)
  rw [hbind y]
  refine wpAny_pure (wpAny_newFunctionEnv hcell (fun p hp => by rw [List.mem_singleton.mp hp]; exact hx) (fun h' hN hsb => ?_) hkind)
  have sL : s.heap.get? s.heap.objs.size = none := get_size_none _
  have k1 : ∀ b o, s.heap.get? b = some o → h'.get? b = some o := fun b o e => (hsb.2 b fun hb => by subst hb; rw [sL] at e; cases e).trans (Heap.get?_push_of_some _ e)
  refine ⟨G.nolimit.keeps fun b o e => k1 b o (I.keep b o e), ?_⟩
  have hLlt : s.heap.objs.size < h'.objs.size := by
    obtain ⟨oL, _, _, hoL, _⟩ := hN
    exact Heap.lt_size hoL
  generalize hgo : ({ cls := .type "generator", data := .fields #[.int s.gens.size 0, .str F.name _, .str F.qualname _] } : Obj) = go
  have k2 : ∀ b o, s.heap.get? b = some o → (h'.push go).get? b = some o := fun b o e => Heap.get?_push_of_some _ (k1 b o e)
  have hgo' : go.isFreed = false := by rw [← hgo]; rfl
  refine q _ (newEnv F.scope s.heap.objs.size F.globals F.closure (F.qualname ++ ".<locals>.") (some f) F.code none F.builtins) body _ ⟨⟨fun b o e _ => k2 b o e, rfl, fun g x e => ?_, fun hb => ?_⟩, ?_, ?_, ?_, sL, Nat.ne_of_gt hLlt, ?_, hchk, hco, ?_⟩
  · show (s.gens.push _)[g]? = _
    have hlt : g < s.gens.size := (Array.getElem?_eq_some_iff.mp e).1
    rw [Array.getElem?_push_lt hlt]
    exact (Array.getElem?_eq_getElem hlt) ▸ e
  · exact AllBare.push hb rfl
  · subst hgo; exact ⟨_, _, _, Heap.get?_push_size _ rfl, rfl, rfl, rfl⟩
  · show (s.gens.push _)[s.gens.size]? = _
    simp
  · exact get_ge_none (Nat.le_of_lt hLlt)
  · exact hclo
  · intro m
    have hcells : (newEnv F.scope s.heap.objs.size F.globals F.closure (F.qualname ++ ".<locals>.") (some f) F.code none F.builtins).cells = [] := hclo
    refine ⟨hkind, rfl, hgl, hbi, ⟨_, hN.push _, ?_, fun j z w e1 e2 e3 => ?_⟩, fun j z e1 e2 => ?_, fun b hb => ?_, fun c hc => ?_, ?_, hns⟩
    · show ([(x, y)] : List (Str × Value)).reverse.lookup sSimple = none
      have : (sSimple == x) = false := by
        have : sSimple ≠ x := fun e => by rw [← e, hns] at hx; cases hx
        simpa using this
      simp only [List.reverse_cons, List.reverse_nil, List.nil_append, List.lookup_cons, this, List.lookup_nil]
    · cases j with
      | zero =>
        simp at e3
        subst e3
        have hzx : z = x := slot_inj e1 hsl
        subst hzx
        refine ⟨y, ?_, rv.flat hv⟩
        show ([(z, y)] : List (Str × Value)).reverse.lookup z = some y
        simp
      | succ j =>
        rw [List.getElem?_cons_succ, List.getElem?_replicate] at e3
        split at e3 <;> cases e3
    · obtain ⟨kd, hkd⟩ := slot_at e1
      have := lookup_at hnd (List.mem_of_getElem? hkd)
      have e2 : F.scope.names.lookup z = some .cell := e2
      rw [this] at e2
      cases e2
      exact absurd rfl (hcell _ (List.mem_of_getElem? hkd))
    · have hb' : b = s.heap.objs.size := by
        rcases List.mem_cons.mp hb with h | h
        · exact h
        · rw [hcells] at h; cases h
      subst hb'
      exact ⟨ρ_dead I sL, h0_dead I sL⟩
    · rw [hcells] at hc; cases hc
    · rw [hcells]; exact List.Pairwise.nil

end
end Mine
end
section
namespace Mine
open PySem PySem.W PyProof.Rows

/-- the evaluator of expressions alone -/
noncomputable def evx (ft : List FDef) (init : FDef) : Nat → Rec
  | 0 => ⟨fun _ _ _ => none, fun _ _ _ => none, fun _ _ _ => none, fun _ _ _ => none⟩
  | n + 1 => ⟨stepE ft init (evx ft init n), stepT (evx ft init n), fun _ _ _ => none, fun _ _ _ => none⟩

section
variable {P : Par} {ρ ρ₀ ρ' ρg : List Addr} {σ σ' σ₀ σg : Sto} {s s₀ s' : Shared} {A : Around} {E : Value → Shared → Prop} {ns : Names} {ℓ ℓ' ℓ₀ : Loc} {env : Env} {n k : Nat} {r : Rec} {v : AV}
  {i : Itr} {own : List Addr} {a : Addr} {g : Nat}

theorem SoundE.mono {m : Nat} {f : IE → Loc → Sto → Option (AV × Sto)} (h : SoundE P T n f) (hm : n ≤ m) : SoundE P T m f := fun e _ _ _ hi _ _ _ _ _ F I hA => h e hi F I (hA.mono hm)
theorem SoundT.mono {m : Nat} {f : IE → Loc → Sto → Option (Bool × Sto)} (h : SoundT P T n f) (hm : n ≤ m) : SoundT P T m f := fun e _ _ _ hi _ _ _ _ _ F I hA => h e hi F I (hA.mono hm)

theorem evx_fk {n k : Nat} {args : List AV} {σ : Sto} {o} (h : (evx ft init n).f k args σ = some o) : k < ft.length := by
  cases n <;> cases h

theorem evx_sound (G : GF P T ft init) : ∀ n, Sound P T (2 * n) (evx ft init n)
  | 0 => by
    constructor
    · intro ie ℓ σ v σ' e; cases e
    · intro ie ℓ σ v σ' e; cases e
    · intro ie ℓ σ v ℓ' σ' e; cases e
    · intro ie ℓ σ v σ' e; cases e
  | n + 1 => by
    have S := evx_sound G n
    constructor
    · exact stepE_sound G S evx_fk
    · exact SoundT.mono (stepT_sound S) (by omega)
    · intro ie ℓ σ v ℓ' σ' e; cases e
    · intro ie ℓ σ v σ' e; cases e
theorem evx_soundC (G : GF P T ft init) (n : Nat) : SoundC P T (2 * n) (evx ft init n).e := by
  cases n with
  | zero => intro ie ℓ σ v σ' e; cases e
  | succ n =>
    have h : SoundC P T (2 * n) (stepE ft init (evx ft init n)) := stepC_sound G (evx_sound G n)
    intro ie ℓ σ v σ' e k ns el gens sc pos hi env ρ A s E use Q F I hA q
    exact h e hi F I (hA.mono (by omega)) q

theorem AOk.over {fs : List Frame} {c : Code} (hA : AOk (n + 2) A) (hm : ∀ h, (marksOver fs (h, h)).1 = h) (hw : frameCount (fs.map Frame.where_) + c.weight ≤ 1) (hu : unitsOf (fs.map Frame.where_) + c.cUnits ≤ 10) : AOk n (A.in1.over c fs) := by
  refine ⟨?_, ?_, ?_⟩
  · show (marksOver fs (A.handled, A.handled)).1 = none
    rw [hm]; exact hA.handled
  · show A.depth + frameCount (fs.map Frame.where_) + c.weight + 2 * n + 2 < 1000
    have := hA.depth; omega
  · show A.units + 1 + unitsOf (fs.map Frame.where_) + c.cUnits + 12 * n + 100 < 9900
    have := hA.units; omega

theorem over_func (hA : AOk (n + 2) A) {body : List Stmt} {env : Env} : AOk n (A.in1.over (.func body env) []) :=
  hA.over (fun _ => rfl) (by exact Nat.le_refl _) (by show 0 + 3 ≤ 10; omega)
theorem over_for (hA : AOk (n + 2) A) {t : Expr} {it : Value} {b o : List Stmt} {body : List Stmt} {env : Env} {k : Result → Sem Fin} {gg : Bool} {l : List Value} {p : Pos} : AOk n (A.in1.over (.forLoop t it b o env) [.ret k none gg l (.func body env) p []]) :=
  hA.over (fun h => by cases h <;> rfl) (by exact Nat.le_refl _) (by show 3 + 0 ≤ 10; omega)
theorem over_while (hA : AOk (n + 2) A) {t t2 : Expr} {it : Value} {b b2 o o2 : List Stmt} {body : List Stmt} {env : Env} {k k2 : Result → Sem Fin} {gg gg2 : Bool} {l l2 : List Value} {p p2 : Pos} :
    AOk n (A.in1.over (.whileLoop t2 b2 o2 env) [.ret k2 none gg2 l2 (.forLoop t it b o env) p2 [], .ret k none gg l (.func body env) p []]) :=
  hA.over (fun h => by cases h <;> rfl) (by exact Nat.le_refl _) (by show 3 + 0 ≤ 10; omega)

/-! ### the inside of a generator -/

structure GI (P : Par) (ρg : List Addr) (σg : Sto) (ns : Names) (ℓ : Loc) (env : Env) (a : Addr) (g : Nat) (own : List Addr) (s₀ s : Shared) : Prop where
  fr : FrameR P ρg ns ℓ env s.heap
  inv : Inv P ρg σg s.heap
  isg : s.heap.IsGen a g
  soft : ∀ b ∈ own, Soft s.heap [] b
  st : Step own s₀ s
  aown : a ∈ own
  fown : ∀ b ∈ fa env, b ∈ own
  ρown : ∀ b ∈ ρg, b ∈ own
  aF : a ∉ fa env
  aρ : a ∉ ρg
  lists : ∀ o ∈ σg, ∃ l, o = .list l ∧ l.all flatV = true
  h0 : ∀ b ∈ own, P.h₀.get? b = none

theorem Mv.same_len {W : List Addr} (m : Mv W ρ s ρ' s') (h : ρ'.length = ρ.length) : ρ' = ρ := by
  obtain ⟨new, rfl, _⟩ := m.new
  rw [List.length_append] at h
  have : new = [] := List.eq_nil_of_length_eq_zero (by omega)
  rw [this, List.append_nil]

theorem GI.softF (x : GI P ρg σg ns ℓ env a g own s₀ s) (F : FrameR P ρg ns ℓ' env s'.heap) (I : Inv P ρg σg s'.heap) (k : ∀ b ∈ own, b ∉ fa env → b ∉ ρg → ∀ o, s.heap.get? b = some o → s'.heap.get? b = some o) : ∀ b ∈ own, Soft s'.heap [] b := by
  intro b hb
  by_cases h1 : b ∈ fa env
  · rcases F.softs b h1 with h | h | ⟨h, _⟩ | h
    · exact .inl h
    · exact .inr (.inl h)
    · exact absurd h (F.out b h1).1
    · exact .inr (.inr (.inr h))
  · by_cases h2 : b ∈ ρg
    · obtain ⟨j, hj, rfl⟩ := List.mem_iff_getElem.mp h2
      have hj' : j < σg.length := by rw [← I.len]; exact hj
      obtain ⟨l, hl, _⟩ := x.lists σg[j] (List.getElem_mem hj')
      have := I.rep j ρg[j] σg[j] (by simp [hj]) (by simp [hj'])
      rw [hl] at this
      obtain ⟨vs, p, _⟩ := this
      exact .inl ⟨vs, p⟩
    · exact (x.soft b hb).at' fun o e => k b hb h1 h2 o e

/-- behind a statement or an expression of the generator's own -/
theorem GI.move (x : GI P ρg σg ns ℓ env a g own s₀ s) (m : MvS env ρg s ρ' s') (I : Inv P ρ' σg s'.heap) (F : FrameR P ρ' ns ℓ' env s'.heap) : GI P ρg σg ns ℓ' env a g own s₀ s' := by
  have e : ρ' = ρg := m.same_len (by rw [I.len, x.inv.len])
  subst e
  have k : ∀ b, b ∉ fa env → b ∉ ρ' → ∀ o, s.heap.get? b = some o → s'.heap.get? b = some o := fun b h1 h2 o e => m.step.keep b o e fun hm => (List.mem_append.mp hm).elim h1 h2
  refine ⟨F, I, IsGen.at' x.isg fun o e => k a x.aF x.aρ o e, x.softF F I fun b _ h1 h2 o e => k b h1 h2 o e, x.st.trans (m.step.mono fun b hb => .inl hb) fun b hb => ?_, x.aown, x.fown, x.ρown, x.aF, x.aρ, x.lists, x.h0⟩
  rcases List.mem_append.mp hb with hb | hb
  · exact .inl (x.fown b hb)
  · exact .inl (x.ρown b hb)
theorem GI.moveE (x : GI P ρg σg ns ℓ env a g own s₀ s) (m : MvE ρg s ρ' s') (I : Inv P ρ' σg s'.heap) : GI P ρg σg ns ℓ env a g own s₀ s' := by
  have F := x.fr.mvE x.inv m
  exact x.move m.toS I F

/-- behind a turn of an iterator of the generator's own -/
theorem GI.turn (x : GI P ρg σg ns ℓ env a g own s₀ s) {W : List Addr} (k : Kp W s.heap s'.heap) (hos : s'.os = s.os) (hg : s'.gens = s.gens) (hW : ∀ b ∈ W, b ∈ own) (h1 : a ∉ W) (h2 : ∀ b ∈ fa env, b ∉ W) (h3 : ∀ b ∈ ρg, b ∉ W)
    (hs : ∀ b ∈ W, Soft s'.heap [] b) : GI P ρg σg ns ℓ env a g own s₀ s' := by
  have softW : ∀ b ∈ W, Soft s.heap [] b := fun b hb => x.soft b (hW b hb)
  have st : StepN W [] s s' := ⟨k, hos, fun g y _ e => by rw [hg]; exact e, fun b => by rw [hg]; exact b⟩
  have F := x.fr.stepN st softW h2
  have I := x.inv.stepN st softW (fun b hb hm => h3 b hm hb) (fun b hb => x.h0 b (hW b hb))
  refine ⟨F, I, IsGen.at' x.isg fun o e => k a o e h1, fun b hb => ?_, x.st.trans ⟨k, hos, fun g y e => by rw [hg]; exact e, fun b => by rw [hg]; exact b⟩ fun b hb => .inl (hW b hb), x.aown, x.fown, x.ρown, x.aF, x.aρ, x.lists, x.h0⟩
  by_cases hbW : b ∈ W
  · exact hs b hbW
  · exact (x.soft b hb).at' fun o e => k b o e hbW

end
end Mine
end
section
namespace Mine
open PySem PySem.W PyProof.Rows

section
variable {P : Par} {ρ ρ₀ ρ' ρg : List Addr} {σ σ' σ₀ σg : Sto} {s s₀ s' s'' : Shared} {A : Around} {E : Value → Shared → Prop} {ns : Names} {ℓ ℓ' ℓ₀ : Loc} {env : Env} {n k : Nat} {r : Rec} {v : AV}
  {i : Itr} {own : List Addr} {a : Addr} {g : Nat} {c : Code} {fs : List Frame} {K : Flow → Sem Fin} {H : Value → Sem Fin} {gd : Bool → Bool} {lv : List Value → List Value}

theorem RVs.flat {h h' : Heap} : ∀ {l : List AV} {vs : List Value}, l.all flatV = true → RVs P ρ h l vs → RVs P ρ h' l vs
  | [], _, _, e => e
  | x :: l, _, hf, ⟨w, ws, e, r, rs⟩ => by
    rw [List.all_cons, Bool.and_eq_true] at hf
    exact ⟨w, ws, e, r.flat hf.1, RVs.flat hf.2 rs⟩

noncomputable def flatL (ℓ : Loc) : Bool := ℓ.all fun o => match o with | some v => flatV v | none => true

theorem GI.resume (x : GI P ρg σg ns ℓ env a g own s₀ s) (hf : flatL ℓ = true) (hc : env.cells = []) (k1 : KeptOn own s.heap s''.heap) (k2 : Kept0 P s''.heap) : GI P ρg σg ns ℓ env a g own s'' s'' := by
  have F := x.fr
  refine ⟨⟨F.kind, F.nmEq, F.globals, F.builtins, ?_, ?_, F.out, ?_, F.apart, F.nosimple⟩, ⟨k2, x.inv.nodup, x.inv.fresh, x.inv.len, ?_⟩, IsGen.at' x.isg fun o e => k1 a x.aown o e, fun b hb => (x.soft b hb).at' fun o e => k1 b hb o e, .refl .., x.aown, x.fown, x.ρown, x.aF, x.aρ, x.lists, x.h0⟩
  · obtain ⟨m, hn, hz, f⟩ := F.ns
    refine ⟨m, hn.at' fun o e => k1 _ (x.fown _ List.mem_cons_self) o e, hz, fun j z w e1 e2 e3 => ?_⟩
    obtain ⟨y, hy, ry⟩ := f j z w e1 e2 e3
    have hw : flatV w = true := by
      have := List.all_eq_true.mp hf _ (List.mem_of_getElem? e3)
      exact this
    exact ⟨y, hy, ry.flat hw⟩
  · intro j z e1 e2
    obtain ⟨b, ov, hb, _⟩ := F.cell j z e1 e2
    rw [hc] at hb; cases hb
  · intro b hb
    rw [hc] at hb; cases hb
  · intro j b o e1 e2
    have rp := x.inv.rep j b o e1 e2
    obtain ⟨l, rfl, hl⟩ := x.lists o (List.mem_of_getElem? e2)
    obtain ⟨vs, p, q, bb⟩ := rp
    exact ⟨vs, p.at fun o e => k1 b (x.ρown b (List.mem_of_getElem? e1)) o e, q.flat hl, bb⟩

/-- what the generator's own steps leave alone -/
noncomputable def KO (env : Env) (ρg own : List Addr) (s s' : Shared) : Prop := ∀ b ∈ own, b ∉ fa env → b ∉ ρg → ∀ o, s.heap.get? b = some o → s'.heap.get? b = some o
theorem KO.trans (x : KO env ρg own s s') (y : KO env ρg own s' s'') : KO env ρg own s s'' := fun b hb h1 h2 o e => y b hb h1 h2 o (x b hb h1 h2 o e)
theorem Mv.ko (m : MvS env ρg s ρ' s') : KO env ρg own s s' := fun b _ h1 h2 o e => m.step.keep b o e fun hm => (List.mem_append.mp hm).elim h1 h2
theorem Mv.koE (m : MvE ρg s ρ' s') : KO env ρg own s s' := fun b _ _ h2 o e => m.step.keep b o e h2

theorem g_assign {R : GenEnd} {Y : Protocol} {N : Nat} (G : GF P T ft init) (hA : AOk 12 (A.over c fs)) (x : GI P ρg σg ns ℓ env a g own s₀ s) {nm : Str} {p pos : Pos} {val : Expr} {rest : List Stmt} {j : Nat} {ie : IE} (h1 : sname ns nm j = true) (h2 : isE T k ns val ie = true)
    (e : (evx ft init 6).e ie ℓ σg = some (v, σg)) (hj : j < ℓ.length) (q : ∀ s', GI P ρg σg ns (ℓ.set j (some v)) env a g own s₀ s' → KO env ρg own s s' → Seg P.M A R Y N s₀ c ((execs rest env).wrap K H gd lv) fs s') :
    Seg P.M A R Y N s₀ c ((execs (.Assign [.Name nm p] val pos :: rest) env).wrap K H gd lv) fs s := by
  have es : stepS (evx ft init 6) (.assign j ie) ℓ σg = some (.next, ℓ.set j (some v), σg) := by
    simp only [↓stepS_q1, stepS_q1, e, oP]
    rw [if_pos (by rw [Nat.blt_eq]; exact hj)]
  refine seg_stmt (wpAny_mono (s_assign (evx_sound G 6) (evx_soundC G 6) es h1 h2 x.fr x.inv hA) (fun f s' ⟨ρ', m, I', F', hf⟩ => ⟨hf, q s' (x.move m I' F') m.ko⟩) fun _ _ x => x)

theorem g_test {R : GenEnd} {Y : Protocol} {N : Nat} (G : GF P T ft init) (hA : AOk 12 (A.over c fs)) (x : GI P ρg σg ns ℓ env a g own s₀ s) {test : Expr} {body orelse : List Stmt} {pos : Pos} {ie : IE} {b : Bool} (h2 : isE T k ns test ie = true)
    (e : (evx ft init 6).t ie ℓ σg = some (b, σg)) (q : ∀ s', GI P ρg σg ns ℓ env a g own s₀ s' → KO env ρg own s s' → Seg P.M A R Y N s₀ c ((execs (if b = true then body else orelse) env).wrap K H gd lv) fs s') :
    Seg P.M A R Y N s₀ c ((exec (.If test body orelse pos) env).wrap K H gd lv) fs s := by
  refine seg_If (wpAny_mono ((evx_sound G 6).t e h2 x.fr x.inv hA) (fun b' s' ⟨hb, ρ', m, I'⟩ => ?_) fun _ _ x => x)
  have h3 := q s' (x.moveE m I') m.koE
  subst hb
  cases b' with
  | true => exact h3
  | false => exact h3

theorem g_yield {m kk : Nat} (G : GF P T ft init) (hA : AOk 12 (A.over c fs)) (x : GI P ρg σg ns ℓ env a g own s₀ s) {y : Expr} {yp pos : Pos} {ie : IE} (h2 : isE T k ns y ie = true)
    (e : (evx ft init 6).e ie ℓ σg = some (v, σg)) (hfs : splitAtGen fs = none) (hgd : gd false = false) (hfg : fs.any Frame.guarded = false) (hco : env.scope.isCoroutine = false) (hc : env.cells = []) (hf : flatL ℓ = true)
    (hN : m + kk = gas) (hit : itNext i kk [] = some (some v)) (rv : ∀ h x, RV P ρg h v x → ∀ ρ, RV P ρ h v x)
    (q : 0 < m → ∀ s'', GI P ρg σg ns ℓ env a g own s'' s'' → KO env ρg own s s'' → Seg P.M A (GR i own) (GY P i a g own) m s'' c (K .next) fs s'') :
    Seg P.M A (GR i own) (GY P i a g own) (m + 1) s₀ c ((exec (.Expr (.Yield (some y) yp) pos) env).wrap K H gd lv) fs s := by
  have hi : interactive env = false := by unfold interactive; rw [x.fr.kind]; rfl
  refine seg_Expr_Yield hfs hgd hfg (wpAny_mono ((evx_sound G 6).e e h2 x.fr x.inv hA) (fun w s' ⟨ρ', mv, I', rw'⟩ kap hk => ?_) fun _ _ x => x) hco hi
  have hρ : ρ' = ρg := mv.same_len (by rw [I'.len, x.inv.len])
  subst hρ
  have x' := x.moveE mv I'
  refine ⟨⟨v, ?_, rv _ _ rw'⟩, x'.st, x'.isg, x'.soft, fun hm s'' k1 k2 => hk .none s'' (q hm s'' (x'.resume hf hc k1 k2) (KO.trans mv.koE fun b hb _ _ o e => k1 b hb o e))⟩
  rw [show gas - m = kk by omega]
  exact hit

/-! ### _iter_escaped_chars -/

noncomputable def sEnum : Str := Str.ofString "enumerate"

noncomputable def four {α : Type} (l : List α) (f : α → α → α → α → Bool) : Bool := match l with
  | [a, b, c, d] => f a b c d
  | _ => false
@[elab_as_elim] theorem four_elim {α : Type} {l : List α} {f : α → α → α → α → Bool} {motive : List α → Prop} (h : four l f = true) (k : ∀ a b c d, f a b c d = true → motive [a, b, c, d]) : motive l := by
  rcases l with _ | ⟨a, _ | ⟨b, _ | ⟨c, _ | ⟨d, _ | ⟨e, l⟩⟩⟩⟩⟩
  · cases h
  · cases h
  · cases h
  · cases h
  · exact k a b c d h
  · cases h
noncomputable def yieldOf (s : Stmt) (f : Expr → Bool) : Bool := yExpr s fun e => xYield e fun o => xSome o f
@[elab_as_elim] theorem yieldOf_elim {s : Stmt} {f : Expr → Bool} {motive : Stmt → Prop} (h : yieldOf s f = true) (k : ∀ y p q, f y = true → motive (.Expr (.Yield (some y) p) q)) : motive s :=
  yExpr_elim h fun _ q h => xYield_elim h fun _ p h => xSome_elim h fun y h => k y p q h
noncomputable def asgIs (s : Stmt) (f : Str → Expr → Bool) : Bool := yAssign s fun ts v => one ts fun t => xName t fun n => f n v
@[elab_as_elim] theorem asgIs_elim {s : Stmt} {f : Str → Expr → Bool} {motive : Stmt → Prop} (h : asgIs s f = true) (k : ∀ n p v q, f n v = true → motive (.Assign [.Name n p] v q)) : motive s :=
  yAssign_elim h fun _ v q h => one_elim h fun _ h => xName_elim h fun n p h => k n p v q h
noncomputable def isInt0 : Const → Bool
  | .int z => z == 0
  | _ => false
theorem isInt0_ok {c : Const} (h : isInt0 c = true) : c = .int 0 := by
  cases c with
  | int z => rw [eq_of_beq h]
  | _ => cases h
noncomputable def isFalseC : Const → Bool
  | .bool b => !b
  | _ => false
theorem isFalseC_ok {c : Const} (h : isFalseC c = true) : c = .bool false := by
  cases c with
  | bool b => cases b with
    | false => rfl
    | true => cases h
  | _ => cases h
noncomputable def escTg (ns : Names) (tg : Expr) : Bool := (xTup tg fun es => two es fun a b => xName a fun _ => xName b fun _ => true) && tgIs (sname ns) (.many [1, 3]) tg
noncomputable def escIt (ns : Names) (it : Expr) : Bool := xCall it fun fn es kw _ => isNil kw && xName fn fun en => one es fun a => xName a fun ar => (en == sEnum) && gname ns en && vname ns ar 0
noncomputable def escA (T : Tab) (ns : Names) (l : List Stmt) : Bool := two l fun sa sb => yieldOf sa fun y1 => asgIs sb fun n3 v3 => isE T 6 ns y1 (.tup [.var 1, .bin .add (.lit (.str [92])) (.var 3)]) && sname ns n3 2 && isE T 6 ns v3 (.lit (.bool false))
noncomputable def escB (T : Tab) (ns : Names) (l : List Stmt) : Bool := one l fun s => yIf s fun c2 a2 b2 => one a2 fun sc => asgIs sc fun n4 v4 => one b2 fun sd => yieldOf sd fun y2 =>
  isE T 6 ns c2 (.cmp .eq (.var 3) (.lit (.str [92]))) && sname ns n4 2 && isE T 6 ns v4 (.lit (.bool true)) && isE T 6 ns y2 (.tup [.var 1, .var 3])
noncomputable def escLoop (T : Tab) (ns : Names) (l : List Stmt) : Bool := one l fun s => yIf s fun c1 a1 b1 => isE T 6 ns c1 (.var 2) && (escA T ns a1 && escB T ns b1)
noncomputable def escBody (T : Tab) (ns : Names) (body : List Stmt) : Bool := four body fun s1 s2 s3 s4 =>
  (asgIs s1 fun n v => xConst v fun c => sname ns n 1 && isInt0 c) && ((asgIs s2 fun n v => xConst v fun c => sname ns n 2 && isFalseC c) &&
    ((yFor s3 fun tg it b els => isNil els && (escTg ns tg && (escIt ns it && escLoop T ns b))) &&
      (yIf s4 fun c3 a b => isNil b && (one a fun s => yieldOf s fun y3 => isE T 6 ns c3 (.var 2) && isE T 6 ns y3 (.tup [.var 1, .lit (.str [92])])))))

theorem RV.tupIS {h : Heap} {p : Int} {z : List Nat} {x : Value} (r : RV P ρg h (.tup [.int p, .str z]) x) : ∀ ρ, RV P ρ h (.tup [.int p, .str z]) x := by
  intro ρ
  obtain ⟨b, vs, rfl, ht, w1, _, e, ⟨t1, rfl⟩, w2, _, rfl, ⟨t2, rfl⟩, rfl⟩ := r
  exact ⟨b, vs, rfl, ht, _, _, e, ⟨t1, rfl⟩, _, _, rfl, ⟨t2, rfl⟩, rfl⟩

theorem itVals {L : List AV} {k : Nat} : itNext (.vals L) k [] = some L[k]? := rfl

theorem end_seg {R : GenEnd} {Y : Protocol} {N : Nat} {own : List Addr} {r : Result} (h : GR i own N s₀ r s) : Seg P.M A (GR i own) Y N s₀ c (leafOf r) [] s := seg_end r h

end
end Mine
end
section
namespace Mine
open PySem PySem.W PyProof.Rows

section
variable {prog : Program} {w : World} {A : Around} {E : Value → Shared → Prop} {s : Shared}
open Builtin Builtin.Str
theorem ascii_end {it : Addr} {x : Str} {t : Tok} {i : Nat} {Q : Value → Shared → Prop} (hh : A.handled = none)
    (hit : s.heap.IsStrIter it "str_ascii_iterator" x t i) (hx : x.cps[i]? = none)
    (hE : ∀ h' e, Heap.ExtBut it s.heap h' → Soft h' [] it → (∃ o, h'.get? e = some o ∧ o.cls = .type "StopIteration") → E (.ref e) { s with heap := h' }) :
    wpAny (model prog w) A (Builtin.SmallTypes.nextOf (.ref it)) Q E s := by
  obtain ⟨o, ho, hc, hd⟩ := id hit
  unfold Builtin.SmallTypes.nextOf
  refine wpAny_bind (wpAny_callSpecial?_slot (name := Str.ofString "__next__") hit.typeIs PySem.F.slot_str_ascii_iterator_next
    (wpAny_call_entry PySem.F.slot_str_ascii_iterator_next hit.typeIs PySem.F.entry_str_ascii_iterator_next ?_ (PySem.F.args_str_ascii_iterator_next_1 _)))
  show wpAny _ _ (field (.ref it) 0 >>= _) _ _ s
  refine wpAny_bind (wpAny_field ho hd (x := .str x t) rfl ?_)
  show wpAny _ _ (field (.ref it) 1 >>= _) _ _ s
  refine wpAny_bind (wpAny_field ho hd (x := .int i 0) rfl ?_)
  simp only [Int.toNat_natCast, hx]
  refine wpAny_bind (wpAny_rule (wpAny_bind (wpAny_setField ho hd (by simp) (wpAny_bind (wpAny_letGo ?_)))))
  show wpAny _ _ (newExc (.type "StopIteration") [] >>= _) _ _ _
  refine wpAny_bind ?_
  simp only [newExc, newTuple]
  refine wpAny_bind (wpAny_newObj_type ?_ (by size_fits))
  refine wpAny_bind (m := firstArgMember _ _) (wpAny_of_eq (a := Value.none) (by first | rfl | (simp only [firstArgMember]; rfl)) ?_)
  refine wpAny_newObj_type ?_ (by size_fits)
  simp only [raiseNew]
  refine wpAny_bind (wpAny_handled ?_)
  first | rw [show A.in1.handled = none from hh] | rw [hh]
  refine wpAny_bind (wpAny_pure (wpAny_throw ?_))
  refine hE _ _ (((Heap.SameBut.update ..).extBut.push _).push _) ?_ ⟨_, Heap.get?_push_size _ rfl, rfl⟩
  have e := Heap.get?_update_self (h := s.heap) (a := it) (Obj.mapFields (·.setIfInBounds 0 Value.none)) ho (Obj.isFreed_of_fields (Obj.data_mapFields hd _))
  exact .inr (.inr (.inr (.inr ⟨_, _, _, Heap.get?_push_of_some _ (Heap.get?_push_of_some _ e), (Obj.cls_mapFields ..).trans hc, by decide, Obj.data_mapFields hd _⟩)))

theorem enum_end {e it : Addr} {x : Str} {t : Tok} {j : Nat} {i : Int} {old : Value} {Q : Option Value → Shared → Prop} (hh : A.handled = none)
    (he : IsEnum s.heap e it i old) (hit : s.heap.IsStrIter it "str_ascii_iterator" x t j) (hx : x.cps[j]? = none)
    (hQ : ∀ h', Heap.ExtBut it s.heap h' → Soft h' [] it → Q none { s with heap := h' }) : wpAny (model prog w) A (pyNext (.ref e)) Q E s := by
  have hT : s.TypeIs (.ref e) "enumerate" := ⟨_, he, rfl⟩
  unfold pyNext
  refine wpAny_bind (wpAny_attempt (wpAny_callSpecial?_slot (name := Str.ofString "__next__") hT PySem.F.slot_enumerate_next
    (wpAny_call_entry PySem.F.slot_enumerate_next hT PySem.F.entry_enumerate_next ?_ (PySem.F.args_enumerate_next_1 _))))
  show wpAny _ _ (field (.ref e) 2 >>= _) _ _ _
  refine wpAny_bind (wpAny_field he rfl (x := .ref it) rfl ?_)
  refine wpAny_bind (ascii_end hh hit hx fun h' x he' hs hx' => ?_)
  obtain ⟨o, ho, hc⟩ := hx'
  refine wpAny_bind (wpAny_isInstance (T := "StopIteration") (b := true) ⟨o, ho, hc⟩ isSubtype_stop ?_)
  exact wpAny_pure (hQ _ he' hs)
end

section
variable {P : Par} {ρ ρ₀ ρ' ρg : List Addr} {σ σ' σ₀ σg : Sto} {s s₀ s' s'' : Shared} {A : Around} {E : Value → Shared → Prop} {ns : Names} {ℓ ℓ' ℓ₀ : Loc} {env : Env} {n k : Nat} {r : Rec} {v : AV}
  {i : Itr} {own : List Addr} {a : Addr} {g : Nat} {c : Code} {fs : List Frame} {K : Flow → Sem Fin} {H : Value → Sem Fin} {gd : Bool → Bool} {lv : List Value → List Value}

/-- what a generator's function hands back behind its body -/
abbrev KF : Flow → Sem Fin := fun f => .pure (.done (.ret (match f with | .ret v => v | _ => .none)))

theorem kf_end {N kk : Nat} {f : Flow} (hf : f = .next ∨ f = .ret .none) (hN : N + kk = gas + 1) (h : itNext i kk [] = some none) (st : Step own s₀ s) : Seg P.M A (GR i own) (GY P i a g own) N s₀ c (KF f) [] s := by
  have e : (KF f : Sem Fin) = leafOf (.ok (.ret .none)) := by rcases hf with rfl | rfl <;> rfl
  rw [e]
  exact seg_end _ ⟨rfl, by rw [show gas + 1 - N = kk by omega]; exact h, st⟩

noncomputable def escL (w : List Nat) (p : Int) (e : Bool) (ch : Option AV) : Loc := [some (.str w), some (.int p), some (.bool e), ch]

theorem drop_get {α : Type} {L : List α} {k : Nat} {x : α} {r : List α} (h : L.drop k = x :: r) : L[k]? = some x ∧ L.drop (k + 1) = r := by
  refine ⟨by rw [← List.head?_drop, h]; rfl, by rw [← List.drop_drop, h]; rfl⟩
theorem drop_end {α : Type} {L : List α} {k : Nat} (h : L.drop k = []) : L[k]? = none := by rw [← List.head?_drop, h]; rfl

theorem esc_tail (G : GF P T ft init) (hA : AOk 14 A) {w : List Nat} {p : Int} {e : Bool} {ch : Option AV} {L : List AV} {kk N : Nat} {c3 y3 : Expr} {yp ypos ip : Pos} {body : List Stmt} (hch : flatL [ch] = true) (hco : env.scope.isCoroutine = false) (hc : env.cells = [])
    (h3 : isE T 6 ns c3 (.var 2) = true) (h4 : isE T 6 ns y3 (.tup [.var 1, .lit (.str [92])]) = true)
    (x : GI P [] [] ns (escL w p e ch) env a g own s₀ s) (hL : L.drop kk = if e = true then [.tup [.int p, .str [92]]] else []) (hN : N + kk = gas + 1) (hN1 : 0 < N) :
    Seg P.M A.in1 (GR (.vals L) own) (GY P (.vals L) a g own) N s₀ (.func body env) ((execs [.If c3 [.Expr (.Yield (some y3) yp) ypos] [] ip] env).wrap KF H id id) [] s := by
  refine seg_execs_cons (g_test G (over_func hA) x (b := e) h3 rfl fun s1 x1 _ => ?_)
  have hfl : flatL (escL w p e ch) = true := by
    simp only [flatL, List.all_cons, List.all_nil, Bool.and_true, escL, ↓flatV_q2, flatV_q2, ↓flatV_q3, flatV_q3, ↓flatV_q4, flatV_q4, Bool.true_and] at hch ⊢; exact hch
  cases e with
  | true =>
    rw [if_pos rfl] at hL ⊢
    obtain ⟨m, rfl⟩ : ∃ m, N = m + 1 := ⟨N - 1, by omega⟩
    obtain ⟨hx, hrest⟩ := drop_get hL
    refine seg_execs_cons (g_yield (m := m) (kk := kk) G (over_func hA) x1 (v := .tup [.int p, .str [92]]) h4 rfl rfl rfl rfl hco hc hfl (by omega) (by rw [itVals, hx]) (fun h x r => r.tupIS) fun hm s2 x2 _ => ?_)
    exact kf_end (.inl rfl) (by omega : m + (kk + 1) = gas + 1) (by rw [itVals, drop_end hrest]) (.refl ..)
  | false =>
    rw [if_neg (by decide)] at hL ⊢
    exact kf_end (.inl rfl) hN (by rw [itVals, drop_end hL]) x1.st

/-- the places of the enumerate object and of the walk over the text -/
structure EnumAt (P : Par) (env : Env) (a : Addr) (own : List Addr) (w : List Nat) (en itr : Addr) (j : Nat) (s : Shared) : Prop where
  en_ : ∃ old, IsEnum s.heap en itr j old
  it_ : ∃ t, s.heap.IsStrIter itr "str_ascii_iterator" ⟨w.toArray⟩ t j
  e1 : en ∈ own
  e2 : itr ∈ own
  e3 : en ≠ itr
  e4 : en ∉ fa env ∧ itr ∉ fa env
  e5 : en ≠ a ∧ itr ≠ a

theorem EnumAt.at {w : List Nat} {en itr : Addr} {j : Nat} (x : EnumAt P env a own w en itr j s) (k : ∀ b, (b = en ∨ b = itr) → ∀ o, s.heap.get? b = some o → s'.heap.get? b = some o) : EnumAt P env a own w en itr j s' := by
  obtain ⟨⟨old, h1⟩, ⟨t, o, ho, h2⟩, e1, e2, e3, e4, e5⟩ := x
  exact ⟨⟨old, k en (.inl rfl) _ h1⟩, ⟨t, o, k itr (.inr rfl) o ho, h2⟩, e1, e2, e3, e4, e5⟩

theorem enum_soft {h : Heap} {en it : Addr} {j : Int} {old : Value} (x : IsEnum h en it j old) : Soft h [] en := .inr (.inr (.inr (.inr ⟨_, _, _, x, rfl, by decide, rfl⟩)))
theorem striter_soft {h : Heap} {it : Addr} {x : Str} {t : Tok} {j : Nat} (y : h.IsStrIter it "str_ascii_iterator" x t j) : Soft h [] it := by
  obtain ⟨o, ho, hc, hd⟩ := y
  exact .inr (.inr (.inr (.inr ⟨o, _, _, ho, hc, by decide, hd⟩)))

theorem esc_loop (G : GF P T ft init) (hA : AOk 14 A) {w : List Nat} {L : List AV} {c1 c2 y1 y2 v3 v4 c3 y3 : Expr} {n3 n4 t1 t2 : Str} {q1 q2 tp yp1 yq1 p3 ap3 yp2 yq2 p4 ap4 ip1 ip2 yp ypos ip3 : Pos} {kt : Nat} {body : List Stmt} {en itr : Addr}
    (hco : env.scope.isCoroutine = false) (hc : env.cells = [])
    (ht : tgIs (sname ns) (.many [1, 3]) (.Tuple [.Name t1 q1, .Name t2 q2] kt tp) = true)
    (hc1 : isE T 6 ns c1 (.var 2) = true) (hy1 : isE T 6 ns y1 (.tup [.var 1, .bin .add (.lit (.str [92])) (.var 3)]) = true) (hn3 : sname ns n3 2 = true) (hv3 : isE T 6 ns v3 (.lit (.bool false)) = true)
    (hc2 : isE T 6 ns c2 (.cmp .eq (.var 3) (.lit (.str [92]))) = true) (hn4 : sname ns n4 2 = true) (hv4 : isE T 6 ns v4 (.lit (.bool true)) = true) (hy2 : isE T 6 ns y2 (.tup [.var 1, .var 3]) = true)
    (h3 : isE T 6 ns c3 (.var 2) = true) (h4 : isE T 6 ns y3 (.tup [.var 1, .lit (.str [92])]) = true) {KR : Result → Sem Fin} {ll : List Value} {pp : Pos}
    (hKR : KR (.ok .next) = (execs [.If c3 [.Expr (.Yield (some y3) yp) ypos] [] ip3] env).wrap KF H id id) :
    ∀ (cs : List Nat) (j kk N : Nat) (p : Int) (e : Bool) (ch : Option AV) (s₀ s : Shared), w.drop j = cs → j ≤ w.length → L.drop kk = escGo j e cs → N + kk = gas + 1 → 0 < N → (e = true → p = (j : Int) - 1) → flatL [ch] = true → GI P [] [] ns (escL w p e ch) env a g own s₀ s →
      EnumAt P env a own w en itr j s →
      Seg P.M A.in1 (GR (.vals L) own) (GY P (.vals L) a g own) N s₀ (.forLoop (.Tuple [.Name t1 q1, .Name t2 q2] kt tp) (.ref en)
          [.If c1 [.Expr (.Yield (some y1) yp1) yq1, .Assign [.Name n3 p3] v3 ap3] [.If c2 [.Assign [.Name n4 p4] v4 ap4] [.Expr (.Yield (some y2) yp2) yq2] ip2] ip1] [] env)
        (P.M.den (.forLoop (.Tuple [.Name t1 q1, .Name t2 q2] kt tp) (.ref en)
          [.If c1 [.Expr (.Yield (some y1) yp1) yq1, .Assign [.Name n3 p3] v3 ap3] [.If c2 [.Assign [.Name n4 p4] v4 ap4] [.Expr (.Yield (some y2) yp2) yq2] ip2] ip1] [] env))
        [.ret KR none false ll (.func body env) pp []] s := by
  intro cs
  induction cs with
  | nil =>
    intro j kk N p e ch s₀ s hcs hjw hL hN hN1 hp hch x en0
    refine seg_forLoop fun E => ?_
    obtain ⟨⟨old, he⟩, ⟨t, hit⟩, e1, e2, e3, e4, e5⟩ := en0
    have hjl : j = w.length := by have := congrArg List.length hcs; simp at this; omega
    refine enum_end (show Around.handled _ = none from (over_for hA).handled) he hit (by simp [hjl]) fun h' hk hsoft => ?_
    refine seg_block_nil (seg_leaf (.ok .next) ?_)
    rw [hKR]
    have x' : GI P [] [] ns (escL w p e ch) env a g own s₀ { s with heap := h' } := by
      refine x.turn (W := [itr]) (fun b o e hb => hk b o (by simpa using hb) e) rfl rfl ?_ ?_ ?_ (by simp) ?_
      · intro b hb; rw [List.mem_singleton.mp hb]; exact e2
      · simpa using e5.2.symm
      · intro b hb hm; rw [List.mem_singleton.mp hm] at hb; exact e4.2 hb
      · intro b hb; rw [List.mem_singleton.mp hb]; exact hsoft
    refine esc_tail G hA hch hco hc h3 h4 x' ?_ hN hN1
    rw [hL]
    cases e with
    | true => rw [hp rfl]; rfl
    | false => rfl
  | cons z cs ih =>
    intro j kk N p e ch s₀ s hcs hjw hL hN hN1 hp hch x en0
    refine seg_forLoop fun E => ?_
    obtain ⟨⟨old, he⟩, ⟨t, hit⟩, e1, e2, e3, e4, e5⟩ := en0
    have hjl : j < w.length := by have := congrArg List.length hcs; simp at this; omega
    have hz : w[j]? = some z := by rw [← List.head?_drop, hcs]; rfl
    have hcs' : w.drop (j + 1) = cs := by rw [← List.drop_drop, hcs]; rfl
    have hA' : AOk 12 (A.in1.over (.forLoop (.Tuple [.Name t1 q1, .Name t2 q2] kt tp) (.ref en)
          [.If c1 [.Expr (.Yield (some y1) yp1) yq1, .Assign [.Name n3 p3] v3 ap3] [.If c2 [.Assign [.Name n4 p4] v4 ap4] [.Expr (.Yield (some y2) yp2) yq2] ip2] ip1] [] env) [.ret KR none false ll (.func body env) pp []]) := over_for hA
    have hh := hA'.handled
    refine wpAny_pyNext_enum_itemD (fp := [itr]) (St := fun i h => h.IsStrIter itr "str_ascii_iterator" ⟨w.toArray⟩ t i) (Draws.strAscii (by exact hh) itr ⟨w.toArray⟩ t) he hit (by simpa using hjl) e3 (by simpa using e3) fun xv h1 tk hxv hout hit1 htup hsz hk => ?_
    obtain ⟨z', u, hz', rfl⟩ := hxv
    have : z' = z := by
      have h0 : w[j]? = some z' := by simpa using hz'
      rw [hz] at h0; exact (Option.some.inj h0).symm
    subst this
    refine wpAny_letOwnedTupleGo_enum hout fun h2 hen2 hs2 => ?_
    have hTdead : s.heap.get? s.heap.objs.size = none := get_size_none _
    have hT2 : h2.get? s.heap.objs.size = some { cls := .type "tuple", data := .seq #[.int j tk, .str ⟨#[z']⟩ u] } := hs2.extBut _ _ (fun e => by
      have h0 : s.heap.get? en = _ := he
      rw [← e, hTdead] at h0; cases h0) htup
    have x2 : GI P [] [] ns (escL w p e ch) env a g own s₀ { s with heap := h2, toks := tk + 1 } := by
      refine x.turn (W := [en, itr]) (fun b o e hb => ?_) rfl rfl ?_ ?_ ?_ (by simp) ?_
      · simp only [List.mem_cons, List.not_mem_nil, or_false, not_or] at hb
        exact hs2.extBut b o hb.1 (hk b o hb.1 hb.2 e)
      · intro b hb; rcases List.mem_cons.mp hb with rfl | hb
        · exact e1
        · rw [List.mem_singleton.mp hb]; exact e2
      · simp [e5.1.symm, e5.2.symm]
      · intro b hb hm
        rcases List.mem_cons.mp hm with rfl | hm
        · exact e4.1 hb
        · rw [List.mem_singleton.mp hm] at hb; exact e4.2 hb
      · intro b hb; rcases List.mem_cons.mp hb with rfl | hb
        · exact enum_soft hen2
        · rw [List.mem_singleton.mp hb]
          obtain ⟨o, ho, r⟩ := hit1
          exact striter_soft ⟨o, hs2.extBut _ _ (Ne.symm e3) ho, r⟩
    have en2 : EnumAt P env a own w en itr (j + 1) { s with heap := h2, toks := tk + 1 } := by
      refine ⟨⟨_, by exact_mod_cast hen2⟩, ⟨t, ?_⟩, e1, e2, e3, e4, e5⟩
      obtain ⟨o, ho, r⟩ := hit1
      exact ⟨o, hs2.extBut _ _ (Ne.symm e3) ho, r⟩
    have rt : RV P [] h2 (.tup [.int j, .str [z']]) (.ref s.heap.objs.size) := ⟨_, _, rfl, ⟨_, hT2, rfl, 0, rfl⟩, _, _, rfl, ⟨tk, rfl⟩, _, _, rfl, ⟨u, rfl⟩, rfl⟩
    refine assign_ok okIn_s (fun _ h => h) hh ht (show bindTg (.many [1, 3]) (.tup [.int j, .str [z']]) (escL w p e ch) = some (escL w j e (some (.str [z']))) from rfl) x2.fr x2.inv rt fun s3 a3 H3 => ?_
    have x3 := x2.move (a3.toS fun _ h => h) a3.2.1 a3.2.2
    have en3 : EnumAt P env a own w en itr (j + 1) s3 := en2.at fun b hb o e => a3.1.keep b o e (by rcases hb with rfl | rfl; exact e4.1; exact e4.2)
    clear rt hT2 hTdead x2 en2
    have hfl : flatL (escL w j e (some (.str [z']))) = true := rfl
    have next : ∀ (e' : Bool) (kk' N' : Nat) (s₀ s4 : Shared), L.drop kk' = escGo (j + 1) e' cs → N' + kk' = gas + 1 → 0 < N' → GI P [] [] ns (escL w j e' (some (.str [z']))) env a g own s₀ s4 → EnumAt P env a own w en itr (j + 1) s4 → _ :=
      fun e' kk' N' s₀ s4 h5 h6 h7 h8 h9 => ih (j + 1) kk' N' j e' (some (.str [z'])) s₀ s4 hcs' hjl h5 h6 h7 (fun _ => by push_cast; omega) rfl h8 h9
    (first | rewrite [escGo_q2] at hL | rewrite [escGo_q1] at hL)
    have ko : ∀ {s s' : Shared}, EnumAt P env a own w en itr (j + 1) s → KO env [] own s s' → EnumAt P env a own w en itr (j + 1) s' := fun h k => h.at fun b hb o e => by
      rcases hb with rfl | rfl
      · exact k _ h.e1 h.e4.1 (by simp) o e
      · exact k _ h.e2 h.e4.2 (by simp) o e
    refine seg_execs_cons (g_test G hA' x3 (b := e) hc1 rfl fun s4 x4 k4 => ?_)
    have en4 := ko en3 k4
    cases e with
    | true =>
      rw [if_pos rfl] at hL ⊢
      obtain ⟨m, rfl⟩ : ∃ m, N = m + 1 := ⟨N - 1, by omega⟩
      obtain ⟨hx, hrest⟩ := drop_get hL
      refine seg_execs_cons (g_yield (m := m) (kk := kk) G hA' x4 (v := .tup [.int j, .str [92, z']]) hy1 rfl rfl rfl rfl hco hc hfl (by omega) (by rw [itVals, hx]) (fun h x r => r.tupIS) fun hm s5 x5 k5 => ?_)
      refine g_assign G hA' x5 (v := .bool false) hn3 hv3 rfl (by show 2 < 4; decide) fun s6 x6 k6 => ?_
      exact seg_again rfl (next false (kk + 1) m _ _ hrest (by omega) hm x6 (ko (ko en4 k5) k6))
    | false =>
      rw [if_neg (by decide)] at hL ⊢
      have ez : (([z'] : List Nat) == [92]) = (z' == 92) := by simp
      refine seg_execs_cons (g_test G hA' x4 (b := ([z'] : List Nat) == [92]) hc2 rfl fun s5 x5 k5 => ?_)
      have en5 := ko en4 k5
      rw [ez]
      by_cases hz92 : (z' == 92) = true
      · rw [if_pos hz92] at hL ⊢
        refine g_assign G hA' x5 (v := .bool true) hn4 hv4 rfl (by show 2 < 4; decide) fun s6 x6 k6 => ?_
        exact seg_again rfl (next true kk N _ _ hL hN hN1 x6 (ko en5 k6))
      · rw [if_neg hz92] at hL ⊢
        obtain ⟨m, rfl⟩ : ∃ m, N = m + 1 := ⟨N - 1, by omega⟩
        obtain ⟨hx, hrest⟩ := drop_get hL
        refine seg_execs_cons (g_yield (m := m) (kk := kk) G hA' x5 (v := .tup [.int j, .str [z']]) hy2 rfl rfl rfl rfl hco hc hfl (by omega) (by rw [itVals, hx]) (fun h x r => r.tupIS) fun hm s6 x6 k6 => ?_)
        exact seg_again rfl (next false (kk + 1) m _ _ hrest (by omega) hm x6 (ko en5 k6))
end
end Mine
end
section
namespace Mine
open PySem PySem.W PyProof.Rows

section
variable {P : Par} {ρ ρ₀ ρ' ρg : List Addr} {σ σ' σ₀ σg : Sto} {s s₀ s' s'' : Shared} {A : Around} {E : Value → Shared → Prop} {ns : Names} {ℓ ℓ' ℓ₀ : Loc} {env : Env} {n k : Nat} {r : Rec} {v : AV}
  {i : Itr} {own : List Addr} {a : Addr} {g : Nat} {c : Code} {fs : List Frame} {K : Flow → Sem Fin} {H : Value → Sem Fin} {gd : Bool → Bool} {lv : List Value → List Value}

/-- a store ahead of the loop: no object is made -/
theorem g_store {R : GenEnd} {Y : Protocol} {N : Nat} (x : GI P ρg σg ns ℓ env a g own s₀ s) {nm : Str} {p pos : Pos} {val : Expr} {rest : List Stmt} {j : Nat} (h1 : sname ns nm j = true)
    (hsw : swapsWith val (some (.Name nm p)) pos.line env = pure false) (hv : ∀ (A' : Around) (E : Value → Shared → Prop) (Q : Value → Shared → Prop), (∀ y t, RV P ρg s.heap v y → Q y { s with toks := t }) → wpAny P.M A' (eval val env) Q E s) (hj : j < ℓ.length)
    (q : ∀ s', GI P ρg σg ns (ℓ.set j (some v)) env a g own s₀ s' → KO env ρg own s s' → s'.heap.objs.size = s.heap.objs.size → Seg P.M A R Y N s₀ c ((execs rest env).wrap K H gd lv) fs s') :
    Seg P.M A R Y N s₀ c ((execs (.Assign [.Name nm p] val pos :: rest) env).wrap K H gd lv) fs s := by
  refine seg_stmt (wpAny_Assign_Name (hv _ _ _ fun y t ry => ?_) hsw)
  have F1 : FrameR P ρg ns ℓ env ({ s with toks := t } : Shared).heap := x.fr
  have I1 : Inv P ρg σg ({ s with toks := t } : Shared).heap := x.inv
  refine store_at h1 F1 I1 hj ry fun s' b hb _ st I' F' hsz _ => ⟨rfl, ?_⟩
  have m : MvS env ρg s ρg s' := .of_step ⟨fun b' o e hb' => st.keep b' o e fun hm => hb' (by rw [List.mem_singleton.mp hm]; exact List.mem_append_left _ hb), st.os, st.gens, st.bare⟩
  exact q s' (x.move m I' F') m.ko hsz

theorem all2 {p : Addr → Prop} {a b : Addr} (ha : p a) (hb : p b) : ∀ x ∈ [a, b], p x := fun _ h => (List.mem_cons.mp h).elim (· ▸ ha) fun h => List.mem_singleton.mp h ▸ hb
theorem all3 {p : Addr → Prop} {a b c : Addr} (ha : p a) (hb : p b) (hc : p c) : ∀ x ∈ [a, b, c], p x := fun _ h => (List.mem_cons.mp h).elim (· ▸ ha) (all2 hb hc _)
theorem all4 {p : Addr → Prop} {a b c d : Addr} (ha : p a) (hb : p b) (hc : p c) (hd : p d) : ∀ x ∈ [a, b, c, d], p x := fun _ h => (List.mem_cons.mp h).elim (· ▸ ha) (all3 hb hc hd _)
theorem in3_1 (a b c : Addr) : a ∈ [a, b, c] := List.mem_cons_self
theorem in3_2 (a b c : Addr) : b ∈ [a, b, c] := List.mem_cons_of_mem _ List.mem_cons_self
theorem in3_3 (a b c : Addr) : c ∈ [a, b, c] := List.mem_cons_of_mem _ (List.mem_cons_of_mem _ List.mem_cons_self)
theorem in4_3 (a b c d : Addr) : c ∈ [a, b, c, d] := List.mem_cons_of_mem _ (in3_2 ..)
theorem in4_4 (a b c d : Addr) : d ∈ [a, b, c, d] := List.mem_cons_of_mem _ (in3_3 ..)
theorem in2_2 (a b : Addr) : b ∈ [a, b] := List.mem_cons_of_mem _ List.mem_cons_self

structure GG (P : Par) (T : Tab) : Prop where
  enum : ∃ mg mb, P.h₀.Ns mainGlobals mg ∧ P.h₀.Ns builtinsNs mb ∧ mg sEnum = none ∧ mb sEnum = some (.type "enumerate")
  esc : GenFn P P.esc (escBody T)

theorem esc_gj (G : GF P T ft init) (GE : GG P T) (hA : AOk 14 A) {w : List Nat} {body : List Stmt} (gm : GenMade P (escBody T) [] (.str w) s s' a env body) (I : Inv P [] [] s.heap) (hw : w.all (Nat.blt · 128) = true) (h0 : ∀ b ∈ [a, env.locals], P.h₀.get? b = none) :
    GJ P A (.vals (escGo 0 false w)) a s.gens.size 0 [a, env.locals] s' := by
  have fr := gm.fr 3
  have hL := fr.softs env.locals List.mem_cons_self
  have hfa : fa env = [env.locals] := by unfold fa; rw [gm.cells]; rfl
  have softA : Soft s'.heap [] a := by
    obtain ⟨o, nm, qn, ho, hc, hd, _⟩ := gm.isg
    exact .inr (.inr (.inr (.inr ⟨o, _, _, ho, hc, by decide, hd⟩)))
  have softL : Soft s'.heap [] env.locals := by obtain ⟨m, n, z, _⟩ := fr.ns; exact .inr (.inr (.inr (.inl ⟨m, n, z⟩)))
  have soft0 : ∀ b ∈ [a, env.locals], Soft s'.heap [] b := all2 softA softL
  have in4 : ∀ {q q' : Addr}, ∀ b ∈ [a, env.locals], b ∈ [a, env.locals, q, q'] := fun b hb => List.mem_append_left [_, _] hb
  refine ⟨_, gm.isg, gm.now, soft0, List.mem_cons_self, fun s'' k1 k2 => ⟨[a, env.locals, s''.heap.objs.size, s''.heap.objs.size + 1], all4 (.inl List.mem_cons_self) (.inl (in2_2 ..)) (.inr (get_size_none _)) (.inr (get_ge_none (Nat.le_succ _))), in4, rfl, ?_⟩⟩
  · have I' : Inv P [] [] s'.heap := I.kp fun b o e _ => gm.st.keep b o e (by simp)
    have x0 : GI P [] [] env.scope.names [some (.str w), none, none, none] env a s.gens.size [a, env.locals] s' s' :=
      ⟨fr, I', gm.isg, soft0, .refl .., by simp, by rw [hfa]; simp, by simp, by rw [hfa]; simpa using gm.neAL, by simp, by simp, h0⟩
    have x1 := x0.resume rfl gm.cells k1 k2
    clear x0
    have hchk := gm.chk
    refine four_elim hchk fun _ _ _ _ hchk => ?_
    obtain ⟨k1', hchk⟩ := andB hchk
    obtain ⟨k2', hchk⟩ := andB hchk
    obtain ⟨k3', k4'⟩ := andB hchk
    refine asgIs_elim k1' fun n1 p1 _ ap1 k1' => ?_
    refine xConst_elim k1' fun _ _ _ k1' => ?_
    obtain ⟨e1, k1'⟩ := andB k1'
    obtain rfl := isInt0_ok k1'
    clear k1'
    refine asgIs_elim k2' fun n2 p2 _ ap2 k2' => ?_
    refine xConst_elim k2' fun _ _ _ k2' => ?_
    obtain ⟨e2, k2'⟩ := andB k2'
    obtain rfl := isFalseC_ok k2'
    clear k2'
    refine yFor_elim k3' fun _ _ _ _ fp k3' => ?_
    obtain ⟨h0', k3'⟩ := andB k3'
    refine isNil_elim h0' ?_
    clear h0'
    obtain ⟨ktg, k3'⟩ := andB k3'
    obtain ⟨kit, k3'⟩ := andB k3'
    obtain ⟨ktg, ht⟩ := andB ktg
    revert ht
    refine xTup_elim ktg fun _ kt tp ktg => ?_
    refine two_elim ktg fun _ _ ktg => ?_
    refine xName_elim ktg fun t1 q1 ktg => ?_
    refine xName_elim ktg fun t2 q2 _ => ?_
    intro ht
    refine xCall_elim kit fun _ _ _ pc kit => ?_
    obtain ⟨h0', kit⟩ := andB kit
    refine isNil_elim h0' ?_
    clear h0'
    refine xName_elim kit fun en pe kit => ?_
    refine one_elim kit fun _ kit => ?_
    refine xName_elim kit fun ar par kit => ?_
    simp only [Bool.and_eq_true, beq_iff_eq] at kit
    obtain ⟨⟨rfl, hge⟩, har⟩ := kit
    refine one_elim k3' fun _ k3' => ?_
    refine yIf_elim k3' fun c1 _ _ ip1 k3' => ?_
    obtain ⟨hc1, k3'⟩ := andB k3'
    obtain ⟨kA, kB⟩ := andB k3'
    refine two_elim kA fun _ _ kA => ?_
    refine yieldOf_elim kA fun y1 yp1 yq1 kA => ?_
    refine asgIs_elim kA fun n3 p3 v3 ap3 kA => ?_
    simp only [Bool.and_eq_true] at kA
    obtain ⟨⟨hy1, hn3⟩, hv3⟩ := kA
    refine one_elim kB fun _ kB => ?_
    refine yIf_elim kB fun c2 _ _ ip2 kB => ?_
    refine one_elim kB fun _ kB => ?_
    refine asgIs_elim kB fun n4 p4 v4 ap4 kB => ?_
    refine one_elim kB fun _ kB => ?_
    refine yieldOf_elim kB fun y2 yp2 yq2 kB => ?_
    simp only [Bool.and_eq_true] at kB
    obtain ⟨⟨⟨hc2, hn4⟩, hv4⟩, hy2⟩ := kB
    refine yIf_elim k4' fun c3 _ _ ip3 k4' => ?_
    obtain ⟨h0', k4'⟩ := andB k4'
    refine isNil_elim h0' ?_
    clear h0'
    refine one_elim k4' fun _ k4' => ?_
    refine yieldOf_elim k4' fun y3 yp ypos k4' => ?_
    simp only [Bool.and_eq_true] at k4'
    obtain ⟨h3, h4⟩ := k4'
    refine seg_func (g_store x1 (v := .int 0) e1 rfl (fun A' E Q q => wpAny_Constant_int (q _ _ ⟨_, rfl⟩)) (by show 1 < 4; decide) fun s2 x2 _ z2 => ?_)
    refine g_store x2 (v := .bool false) e2 rfl (fun A' E Q q => wpAny_Constant_bool (q _ s2.toks rfl)) (by show 2 < 4; decide) fun s3 x3 _ z3 => ?_
    have hsz : s3.heap.objs.size = s''.heap.objs.size := z3.trans z2
    obtain ⟨mg, mb, g1, g2, g3, g4⟩ := GE.enum
    refine seg_execs_cons (seg_For (fun x => rfl) (Call_Name rfl (builtin_ok hge x3.fr x3.inv g1 g3 g2 g4 (PyProof.Rows.callWith_type1 ?_))))
    simp only [vname, Bool.and_eq_true, Bool.not_eq_true', decide_eq_true_eq, Bool.or_eq_true] at har
    refine wpAny_items_cons (wpAny_Name (load_ok har.1.2 har.2 x3.fr (show ([some (AV.str w), some (.int 0), some (.bool false), none] : Loc)[0]? = some (some (.str w)) from rfl) fun y ry => ?_) har.1.1)
    obtain ⟨t, rfl⟩ := ry
    refine wpAny_items_nil ?_
    refine call_enumerate_str fun h' hen hit hsz' hk => ?_
    refine wpAny_pyIter_enum hen fun pp => ?_
    have hasc : strIterType ⟨w.toArray⟩ = "str_ascii_iterator" := by
      unfold strIterType
      rw [if_pos]
      rw [← Array.all_toList]
      simp only [List.all_eq_true, Nat.blt_eq] at hw
      simp only [List.all_eq_true, decide_eq_true_eq]
      exact hw
    rw [hasc, hsz] at hit
    rw [hsz] at hen
    have st4 : Step [] s3 { s3 with heap := h' } := .of_keep fun b o e _ => hk b o e
    have dead0 : s3.heap.get? s3.heap.objs.size = none := get_size_none _
    have dead1 : s3.heap.get? (s3.heap.objs.size + 1) = none := get_ge_none (Nat.le_succ _)
    rw [hsz] at dead0 dead1
    have liveA : ∃ o, s3.heap.get? a = some o := (x3.soft a (by simp)).live
    have liveL : ∃ o, s3.heap.get? env.locals = some o := (x3.soft env.locals (by simp)).live
    have neq : ∀ {b d : Addr}, s3.heap.get? b = none → (∃ o, s3.heap.get? d = some o) → b ≠ d := by
      rintro b d hb ⟨o, ho⟩ rfl; rw [hb] at ho; cases ho
    have x4 : GI P [] [] env.scope.names (escL w 0 false none) env a s.gens.size [a, env.locals, s''.heap.objs.size, s''.heap.objs.size + 1] s'' { s3 with heap := h' } := by
      have sa := fun b hb => (x3.soft b hb).at' fun o e => hk _ o e
      exact ⟨frame_push x3.fr st4, inv_push x3.inv st4, x3.isg.keeps hk, all4 (sa _ List.mem_cons_self) (sa _ (in2_2 ..)) (striter_soft hit) (enum_soft hen), (x3.st.trans' (st4.mono (by simp))).mono fun b hb => .inl (in4 b hb), List.mem_cons_self,
        by rw [hfa]; exact fun b hb => List.mem_singleton.mp hb ▸ in4 _ (in2_2 ..), fun b hb => (nomatch hb), x3.aF, fun hb => (nomatch hb), fun b hb => (nomatch hb), all4 (h0 _ List.mem_cons_self) (h0 _ (in2_2 ..)) (h0_dead x3.inv dead0) (h0_dead x3.inv dead1)⟩
    have en4 : EnumAt P env a [a, env.locals, s''.heap.objs.size, s''.heap.objs.size + 1] w (s''.heap.objs.size + 1) s''.heap.objs.size 0 { s3 with heap := h' } :=
      ⟨⟨_, hen⟩, ⟨t, hit⟩, in4_4 .., in4_3 .., Nat.succ_ne_self _, by rw [hfa]; exact ⟨by simpa using neq dead1 liveL, by simpa using neq dead0 liveL⟩, neq dead1 liveA, neq dead0 liveA⟩
    rw [hsz]
    exact esc_loop (c3 := c3) (yp := yp) (ypos := ypos) (ip3 := ip3) (H := fun e => (leaving env e).wrap (fun _ => .raise e) .raise id id) G hA gm.co gm.cells ht hc1 hy1 hn3 hv3 hc2 hn4 hv4 hy2 h3 h4
      rfl w 0 0 (gas + 1) 0 false none s'' { s3 with heap := h' } rfl (Nat.zero_le _) rfl rfl (by omega) (by intro h; cases h) rfl x4 en4
end
end Mine
end
section
namespace Mine
open PySem PySem.W PyProof.Rows

/-! ### _grouping_intervals -/

noncomputable def sCharMax : Str := Str.ofString "CHAR_MAX"

noncomputable def kCmp (e : Expr) (f : Expr → CmpOp → Expr → Bool) : Bool := xCmp e fun l os rs => one os fun o => one rs fun r => f l o r
@[elab_as_elim] theorem kCmp_elim {e : Expr} {f : Expr → CmpOp → Expr → Bool} {motive : Expr → Prop} (h : kCmp e f = true) (k : ∀ l o r p, f l o r = true → motive (.Compare l [o] [r] p)) : motive e :=
  xCmp_elim h fun l _ _ p h => one_elim h fun o h => one_elim h fun r h => k l o r p h
noncomputable def isNoneC : Const → Bool
  | .none => true
  | _ => false
theorem isNoneC_ok {c : Const} (h : isNoneC c = true) : c = .none := by
  cases c with
  | none => rfl
  | _ => cases h
noncomputable def isTrueC : Const → Bool
  | .bool b => b
  | _ => false
theorem isTrueC_ok {c : Const} (h : isTrueC c = true) : c = .bool true := by
  cases c with
  | bool b => cases b with
    | false => cases h
    | true => rfl
  | _ => cases h
noncomputable def grp1 (ns : Names) (s : Stmt) : Bool := yIf s fun c a b => isNil b && kCmp c fun l o r => decide (o = .Eq) && (xName l fun i1 => xName r fun cm => one a fun st => yRet st fun v => decide (v.isNone = true) && (vname ns i1 2 && (cm == sCharMax) && gname ns cm))
noncomputable def grp2 (T : Tab) (ns : Names) (s : Stmt) : Bool := yIf s fun c2 a b => isNil b && (isE T 6 ns c2 (.cmp .eq (.var 2) (.lit (.int 0))) && two a fun sa sb =>
  (yIf sa fun c3 _ b3 => isNil b3 && isE T 6 ns c3 (.cmp .is (.var 1) (.lit .none))) && (yWhile sb fun t b els => isNil els && ((xConst t fun c => isTrueC c) && one b fun s => yieldOf s fun y1 => isE T 6 ns y1 (.var 1))))
noncomputable def grpLoop (T : Tab) (ns : Names) (b : List Stmt) : Bool := four b fun s1 s2 s3 s4 => grp1 ns s1 && (grp2 T ns s2 && ((yieldOf s3 fun y2 => isE T 6 ns y2 (.var 2)) && (asgIs s4 fun n2 v2 => sname ns n2 1 && isE T 6 ns v2 (.var 2))))
noncomputable def grpBody (T : Tab) (ns : Names) (body : List Stmt) : Bool := two body fun s1 s2 => (asgIs s1 fun n v => xConst v fun c => sname ns n 1 && isNoneC c) &&
  (yFor s2 fun tg it b els => isNil els && (xName tg fun t1 => xName it fun gn => sname ns t1 2 && (vname ns gn 0 && grpLoop T ns b)))

structure GG2 (P : Par) (T : Tab) : Prop where
  cm : ∃ mg t, P.h₀.Ns mainGlobals mg ∧ mg sCharMax = some (.int 127 t)
  grp : GenFn P P.grp (grpBody T)

section
variable {P : Par} {ρ ρ₀ ρ' ρg : List Addr} {σ σ' σ₀ σg : Sto} {s s₀ s' s'' : Shared} {A : Around} {E : Value → Shared → Prop} {ns : Names} {ℓ ℓ' ℓ₀ : Loc} {env : Env} {n k : Nat} {r : Rec} {v : AV}
  {i : Itr} {own : List Addr} {a : Addr} {g : Nat} {c : Code} {fs : List Frame} {K : Flow → Sem Fin} {H : Value → Sem Fin} {gd : Bool → Bool} {lv : List Value → List Value}

noncomputable def lastV : Option Int → AV
  | none => .none
  | some b => .int b
theorem lastV_q1  : lastV (some b) = (.int b) := rfl
theorem lastV_flat (o : Option Int) : flatV (lastV o) = true := by cases o <;> rfl

noncomputable def grpL (o : Option Int) (iv : Option AV) : Loc := [some (.ref 0), some (lastV o), iv]

theorem RV.intP {h : Heap} {b : Int} {x : Value} (r : RV P ρg h (.int b) x) : ∀ ρ, RV P ρ h (.int b) x := fun _ => r

theorem grp_while (G : GF P T ft init) (hA : AOk 14 A) {L : List Int} {b : Int} {iv : Option AV} {t y1 : Expr} {it : Value} {tp yp yq : Pos} {tk : Nat} {bd o : List Stmt} {body : List Stmt} {KR K2 : Result → Sem Fin} {ll l2 : List Value} {pp p2 : Pos} {la : Addr}
    (hco : env.scope.isCoroutine = false) (hc : env.cells = []) (hiv : flatL [iv] = true) (hy : isE T 6 ns y1 (.var 1) = true) :
    ∀ (N kk : Nat) (s₀ s : Shared), 0 < N → N + kk = gas + 1 → (∀ k', itNext (.grp L) (kk + k') [] = some (some (.int b))) → GI P [la] [.list (L.map .int)] ns (grpL (some b) iv) env a g own s₀ s →
      Seg P.M A.in1 (GR (.grp L) own) (GY P (.grp L) a g own) N s₀ (.whileLoop (.Constant (.bool true) tk tp) [.Expr (.Yield (some y1) yp) yq] [] env) (P.M.den (.whileLoop (.Constant (.bool true) tk tp) [.Expr (.Yield (some y1) yp) yq] [] env))
        [.ret K2 none false l2 (.forLoop t it bd o env) p2 [], .ret KR none false ll (.func body env) pp []] s
  | 0, _, _, _, h, _, _, _ => absurd h (Nat.lt_irrefl _)
  | N + 1, kk, s₀, s, _, hN, hit, x => by
    have hfl : flatL (grpL (some b) iv) = true := by
      simp only [flatL, List.all_cons, List.all_nil, Bool.and_true, grpL, ↓lastV_q1, lastV_q1, ↓flatV_q3, flatV_q3, ↓flatV_q5, flatV_q5, Bool.true_and] at hiv ⊢; exact hiv
    refine seg_whileLoop (isTrue_plain (Constant_bool (wpAny_truthy_bool ?_)) rfl)
    rw [if_pos rfl]
    refine seg_execs_cons (g_yield (m := N) (kk := kk) G (over_while hA) x (v := .int b) hy rfl rfl rfl rfl hco hc hfl (by omega) (hit 0) (fun h x r => r.intP) fun hm s2 x2 _ => ?_)
    exact seg_again rfl (grp_while G hA hco hc hiv hy N (kk + 1) s2 s2 hm (by omega) (fun k' => by have := hit (1 + k'); rw [show kk + (1 + k') = kk + 1 + k' by omega] at this; exact this) x2)

theorem listiter_soft {h : Heap} {it l : Addr} {j : Nat} (y : h.IsListIter it l j) : Soft h [] it := by
  obtain ⟨o, ho, hc, hd⟩ := y
  exact .inr (.inr (.inr (.inr ⟨o, _, _, ho, hc, by decide, hd⟩)))

structure ListAt (env : Env) (a la : Addr) (own : List Addr) (itr : Addr) (j : Nat) (s : Shared) : Prop where
  it_ : s.heap.IsListIter itr la j
  e1 : itr ∈ own
  e2 : itr ∉ fa env
  e3 : itr ≠ a
  e4 : itr ≠ la

theorem ListAt.ko {la itr : Addr} {j : Nat} (x : ListAt env a la own itr j s) (k : KO env [la] own s s') : ListAt env a la own itr j s' :=
  ⟨x.it_.at fun o e => k itr x.e1 x.e2 (by simpa using x.e4) o e, x.e1, x.e2, x.e3, x.e4⟩

theorem test_cm (G : GF P T ft init) (GE : GG2 P T) {i1 cm : Str} {p1 p2 pc : Pos} {z : Int} {o : Option Int} (hi : vname ns i1 2 = true) (hcm : cm = sCharMax) (hg : gname ns cm = true) (x : GI P ρg σg ns (grpL o (some (.int z))) env a g own s₀ s) (A' : Around) (E : Value → Shared → Prop) (Q : Bool → Shared → Prop)
    (q : ∀ s', GI P ρg σg ns (grpL o (some (.int z))) env a g own s₀ s' → KO env ρg own s s' → Q (z == 127) s') : wpAny P.M A' (isTrue (.Compare (.Name i1 p1) [.Eq] [.Name cm p2] pc) env (eval (.Compare (.Name i1 p1) [.Eq] [.Name cm p2] pc) env)) Q E s := by
  obtain ⟨mg, t, hmg, hv⟩ := GE.cm
  subst hcm
  simp only [vname, Bool.and_eq_true, Bool.not_eq_true', decide_eq_true_eq, Bool.or_eq_true] at hi
  refine isTrue_cmp (wpAny_Compare1 (wpAny_Name (load_ok hi.1.2 hi.2 x.fr (show (grpL o (some (.int z)))[2]? = some (some (.int z)) from rfl) fun y ry => global_ok hg x.fr x.inv hmg hv ?_) hi.1.1) rfl)
  obtain ⟨u, rfl⟩ := ry
  refine eq_int ?_
  exact wpAny_truthy_bool (q s x fun _ _ _ _ _ e => e)

theorem grp_loop (G : GF P T ft init) (GE : GG2 P T) (hA : AOk 14 A) {L : List Int} {t1 i1 cm n2 : Str} {q1 p1 p2 pc rp ip1 c3p wp yp1 yq1 ip2 yp2 yq2 ap2p ap2 tp : Pos} {c2 c3 y1 y2 v2 : Expr} {rs : List Stmt} {tk : Nat} {body : List Stmt} {la itr : Addr} {KR : Result → Sem Fin} {ll : List Value} {pp : Pos}
    (hco : env.scope.isCoroutine = false) (hc : env.cells = []) (ht : sname ns t1 2 = true) (hi : vname ns i1 2 = true) (hcm : cm = sCharMax) (hg : gname ns cm = true) (hc2 : isE T 6 ns c2 (.cmp .eq (.var 2) (.lit (.int 0))) = true) (hc3 : isE T 6 ns c3 (.cmp .is (.var 1) (.lit .none)) = true)
    (hy1 : isE T 6 ns y1 (.var 1) = true) (hy2 : isE T 6 ns y2 (.var 2) = true) (hn2 : sname ns n2 1 = true) (hv2 : isE T 6 ns v2 (.var 2) = true) (hKR : KR (.ok .next) = KF .next) (hKR2 : KR (.ok (.ret .none)) = KF (.ret .none)) :
    ∀ (cs : List Int) (j kk N : Nat) (o : Option Int) (iv : Option AV) (s₀ s : Shared), L.drop j = cs → j ≤ L.length → (∀ k', grpGo none L (kk + k') = grpGo o cs k') → (o = none → ∀ z r, cs = z :: r → z ≠ 0) → N + kk = gas + 1 → 0 < N → flatL [iv] = true →
      GI P [la] [.list (L.map .int)] ns (grpL o iv) env a g own s₀ s → ListAt env a la own itr j s →
      Seg P.M A.in1 (GR (.grp L) own) (GY P (.grp L) a g own) N s₀ (.forLoop (.Name t1 q1) (.ref itr)
          [.If (.Compare (.Name i1 p1) [.Eq] [.Name cm p2] pc) [.Return none rp] [] ip1, .If c2 [.If c3 rs [] c3p, .While (.Constant (.bool true) tk tp) [.Expr (.Yield (some y1) yp1) yq1] [] wp] [] ip2, .Expr (.Yield (some y2) yp2) yq2, .Assign [.Name n2 ap2p] v2 ap2] [] env)
        (P.M.den (.forLoop (.Name t1 q1) (.ref itr)
          [.If (.Compare (.Name i1 p1) [.Eq] [.Name cm p2] pc) [.Return none rp] [] ip1, .If c2 [.If c3 rs [] c3p, .While (.Constant (.bool true) tk tp) [.Expr (.Yield (some y1) yp1) yq1] [] wp] [] ip2, .Expr (.Yield (some y2) yp2) yq2, .Assign [.Name n2 ap2p] v2 ap2] [] env))
        [.ret KR none false ll (.func body env) pp []] s := by
  have itg : ∀ k, itNext (.grp L) k [] = match grpGo none L k with | some (some a) => some (some (.int a)) | some none => some none | none => none := fun k => rfl
  intro cs
  induction cs with
  | nil =>
    intro j kk N o iv s₀ s hcs hjL hgo ho hN hN1 hiv x it0
    refine seg_forLoop fun E => ?_
    have hjl : j = L.length := by have := congrArg List.length hcs; simp at this; omega
    obtain ⟨vs, p, qv, _⟩ := x.inv.rep 0 la _ rfl rfl
    have hlen := qv.length
    rw [Array.length_toList, List.length_map] at hlen
    refine wpAny_pyNext_list_end (over_for hA).handled it0.it_ p.isList (Array.getElem?_eq_none (by omega)) fun h' hk => ?_
    refine seg_block_nil (seg_leaf (.ok .next) ?_)
    rw [hKR]
    refine kf_end (.inl rfl) hN ?_ (x.st.trans' (.of_keep (t := s.toks) fun b o e hb => hk b o (fun h => hb (h ▸ it0.e1)) e))
    rw [itg, show kk = kk + 0 from rfl, hgo 0]; rfl
  | cons z cs ih =>
    intro j kk N o iv s₀ s hcs hjL hgo ho hN hN1 hiv x it0
    refine seg_forLoop fun E => ?_
    have hjl : j < L.length := by have := congrArg List.length hcs; simp at this; omega
    have hz : L[j]? = some z := by rw [← List.head?_drop, hcs]; rfl
    have hcs' : L.drop (j + 1) = cs := by rw [← List.drop_drop, hcs]; rfl
    obtain ⟨vs, p, qv, _⟩ := x.inv.rep 0 la _ rfl rfl
    obtain ⟨y, hy, u, rfl⟩ := qv.get (i := j) (x := .int z) (by rw [List.getElem?_map, hz]; rfl)
    refine wpAny_pyNext_list_item it0.it_ p.isList (x := .int z u) (by simpa using hy) fun h1 hit1 hs1 => ?_
    have x1 : GI P [la] [.list (L.map .int)] ns (grpL o iv) env a g own s₀ { s with heap := h1 } := by
      refine x.turn (W := [itr]) (fun b o e hb => (hs1.2 b (by simpa using hb)).trans e) rfl rfl ?_ ?_ ?_ ?_ ?_
      · intro b hb; rw [List.mem_singleton.mp hb]; exact it0.e1
      · simpa using it0.e3.symm
      · intro b hb hm; rw [List.mem_singleton.mp hm] at hb; exact it0.e2 hb
      · intro b hb; rw [List.mem_singleton.mp hb]; simpa using it0.e4.symm
      · intro b hb; rw [List.mem_singleton.mp hb]; exact listiter_soft hit1
    have it1 : ListAt env a la own itr (j + 1) { s with heap := h1 } := ⟨hit1, it0.e1, it0.e2, it0.e3, it0.e4⟩
    refine wpAny_pure ?_
    refine wpAny_assign_Name (storeN_ok okIn_s ht x1.fr x1.inv (v := .int z) (by show 2 < 3; decide) ⟨u, rfl⟩ fun s2 a2 H2 => ?_)
    have m2 : MvS env [la] { s with heap := h1 } [la] s2 := a2.toS fun _ h => h
    have x2 : GI P [la] [.list (L.map .int)] ns (grpL o (some (.int z))) env a g own s₀ s2 := x1.move m2 a2.2.1 a2.2.2
    have it2 := it1.ko m2.ko
    have hA' : AOk 12 (A.in1.over (.forLoop (.Name t1 q1) (.ref itr)
          [.If (.Compare (.Name i1 p1) [.Eq] [.Name cm p2] pc) [.Return none rp] [] ip1, .If c2 [.If c3 rs [] c3p, .While (.Constant (.bool true) tk tp) [.Expr (.Yield (some y1) yp1) yq1] [] wp] [] ip2, .Expr (.Yield (some y2) yp2) yq2, .Assign [.Name n2 ap2p] v2 ap2] [] env) [.ret KR none false ll (.func body env) pp []]) := over_for hA
    have hfl : flatL (grpL o (some (.int z))) = true := by
      simp only [flatL, List.all_cons, List.all_nil, Bool.and_true, grpL, ↓flatV_q3, flatV_q3, ↓flatV_q5, flatV_q5, Bool.true_and]; exact lastV_flat o
    refine seg_execs_cons (seg_If (test_cm G GE hi hcm hg x2 _ _ _ fun s3 x3 k3 => ?_))
    have it3 := it2.ko k3
    by_cases h127 : (z == 127) = true
    · rw [if_pos h127]
      refine seg_execs_cons (seg_wrap (wpAny_Return_none ?_))
      refine seg_leaf (.ok (.ret .none)) ?_
      rw [hKR2]
      refine kf_end (.inr rfl) hN ?_ x3.st
      rw [itg, show kk = kk + 0 from rfl, hgo 0]
      (first | rewrite [grpGo_q2] | rewrite [grpGo_q1]); rw [if_pos h127]
    · rw [if_neg h127]
      refine seg_execs_cons (g_test G hA' x3 (b := z == 0) hc2 rfl fun s4 x4 k4 => ?_)
      have it4 := it3.ko k4
      by_cases h00 : (z == 0) = true
      · rw [if_pos h00]
        cases o with
        | none => exact absurd (by simpa using h00) (ho rfl z cs rfl)
        | some b =>
          refine seg_execs_cons (g_test G hA' x4 (b := false) hc3 rfl fun s5 x5 k5 => ?_)
          rw [if_neg (by decide)]
          refine seg_execs_cons (seg_While fun p => ?_)
          refine grp_while G hA hco hc rfl hy1 N kk s₀ s5 hN1 hN (fun k' => ?_) x5
          rw [itg, hgo k']
          (first | rewrite [grpGo_q2] | rewrite [grpGo_q1]); rw [if_neg h127, if_pos h00]
      · rw [if_neg h00]
        obtain ⟨m, rfl⟩ : ∃ m, N = m + 1 := ⟨N - 1, by omega⟩
        refine seg_execs_cons (g_yield (m := m) (kk := kk) G hA' x4 (v := .int z) hy2 rfl rfl rfl rfl hco hc hfl (by omega) ?_ (fun h x r => r.intP) fun hm s5 x5 k5 => ?_)
        · rw [itg, show kk = kk + 0 from rfl, hgo 0]
          (first | rewrite [grpGo_q2] | rewrite [grpGo_q1]); rw [if_neg h127, if_neg h00]
        · refine g_assign G hA' x5 (v := .int z) hn2 hv2 rfl (by show 1 < 3; decide) fun s6 x6 k6 => ?_
          refine seg_again rfl (ih (j + 1) (kk + 1) m (some z) (some (.int z)) s5 s6 hcs' hjl (fun k' => ?_) (fun h => by cases h) (by omega) hm rfl x6 ((it4.ko k5).ko k6))
          rw [show kk + 1 + k' = kk + (k' + 1) by omega, hgo (k' + 1)]
          conv => lhs; (first | rw [grpGo_q2] | rw [grpGo_q1])
          rw [if_neg h127, if_neg h00]
end
end Mine
end
section
namespace Mine
open PySem PySem.W PyProof.Rows

section
variable {P : Par} {ρ ρ₀ ρ' ρg : List Addr} {σ σ' σ₀ σg : Sto} {s s₀ s' s'' : Shared} {A : Around} {E : Value → Shared → Prop} {ns : Names} {ℓ ℓ' ℓ₀ : Loc} {env : Env} {n k : Nat} {r : Rec} {v : AV}
  {i : Itr} {own : List Addr} {a : Addr} {g : Nat} {c : Code} {fs : List Frame} {fl : Fl}

theorem grp_gj (G : GF P T ft init) (GE : GG2 P T) (hA : AOk 14 A) {L : List Int} {la : Addr} {body : List Stmt} (gm : GenMade P (grpBody T) [la] (.ref 0) s s' a env body) (I : Inv P [la] [.list (L.map .int)] s.heap) (hz : headZero L = false) (h0 : ∀ b ∈ [a, env.locals, la], P.h₀.get? b = none)
    (hla : la ≠ a ∧ la ≠ env.locals) : GJ P A (.grp L) a s.gens.size 0 [a, env.locals, la] s' := by
  have fr := gm.fr 2
  have hfa : fa env = [env.locals] := by unfold fa; rw [gm.cells]; rfl
  have I' : Inv P [la] [.list (L.map .int)] s'.heap := I.kp fun b o e _ => gm.st.keep b o e (by simp)
  have softA : Soft s'.heap [] a := by
    obtain ⟨o, nm, qn, ho, hc, hd, _⟩ := gm.isg
    exact .inr (.inr (.inr (.inr ⟨o, _, _, ho, hc, by decide, hd⟩)))
  have softL : Soft s'.heap [] env.locals := by obtain ⟨m, n, z, _⟩ := fr.ns; exact .inr (.inr (.inr (.inl ⟨m, n, z⟩)))
  have softl : Soft s'.heap [] la := by obtain ⟨vs, p, _⟩ := I'.rep 0 la _ rfl rfl; exact .inl ⟨vs, p⟩
  have soft0 : ∀ b ∈ [a, env.locals, la], Soft s'.heap [] b := all3 softA softL softl
  have in4 : ∀ {q : Addr}, ∀ b ∈ [a, env.locals, la], b ∈ [a, env.locals, la, q] := fun b hb => List.mem_append_left [_] hb
  refine ⟨_, gm.isg, gm.now, soft0, List.mem_cons_self, fun s'' k1 k2 => ⟨[a, env.locals, la, s''.heap.objs.size], all4 (.inl (in3_1 ..)) (.inl (in3_2 ..)) (.inl (in3_3 ..)) (.inr (get_size_none _)), in4, rfl, ?_⟩⟩
  · have x0 : GI P [la] [.list (L.map .int)] env.scope.names [some (.ref 0), none, none] env a s.gens.size [a, env.locals, la] s' s' :=
      ⟨fr, I', gm.isg, soft0, .refl .., by simp, by rw [hfa]; simp, by simp, by rw [hfa]; simpa using gm.neAL, by simpa using hla.1.symm, by
        intro o ho
        rw [List.mem_singleton.mp ho]
        exact ⟨_, rfl, by simp [List.all_eq_true, ↓flatV_q3, flatV_q3]⟩, h0⟩
    have x1 := x0.resume rfl gm.cells k1 k2
    clear x0
    have hchk := gm.chk
    refine two_elim hchk fun _ _ hchk => ?_
    obtain ⟨q1', q2'⟩ := andB hchk
    refine asgIs_elim q1' fun n1 p1 _ ap1 q1' => ?_
    refine xConst_elim q1' fun _ _ _ q1' => ?_
    have kk := andB q1'
    obtain ⟨e1, q1'⟩ := kk
    obtain rfl := isNoneC_ok q1'
    clear q1'
    refine yFor_elim q2' fun _ _ _ _ fp q2' => ?_
    have kk := andB q2'
    obtain ⟨h0', q2'⟩ := kk
    refine isNil_elim h0' ?_
    clear h0'
    refine xName_elim q2' fun t1 q1 q2' => ?_
    refine xName_elim q2' fun gn gp q2' => ?_
    have kk := andB q2'
    obtain ⟨ht, q2'⟩ := kk
    have kk := andB q2'
    obtain ⟨hgn, q2'⟩ := kk
    refine four_elim q2' fun _ _ _ _ q2' => ?_
    have kk := andB q2'
    obtain ⟨g1', q2'⟩ := kk
    have kk := andB q2'
    obtain ⟨g2', q2'⟩ := kk
    have kk := andB q2'
    obtain ⟨g3', g4'⟩ := kk
    refine yIf_elim g1' fun _ _ _ ip1 g1' => ?_
    have kk := andB g1'
    obtain ⟨h0', g1'⟩ := kk
    refine isNil_elim h0' ?_
    clear h0'
    refine kCmp_elim g1' fun _ _ _ pc g1' => ?_
    have kk := andB g1'
    obtain ⟨ho', g1'⟩ := kk
    obtain rfl := of_decide_eq_true ho'
    clear ho'
    refine xName_elim g1' fun i1 p1' g1' => ?_
    refine xName_elim g1' fun cm p2 g1' => ?_
    refine one_elim g1' fun _ g1' => ?_
    refine yRet_elim g1' fun _ rp g1' => ?_
    have kq := andB g1'
    obtain ⟨hv', kq1⟩ := kq
    obtain ⟨kr1, hg⟩ := andB kq1
    obtain ⟨hi, hcm⟩ := andB kr1
    replace hcm := eq_of_beq hcm
    obtain rfl := Option.isNone_iff_eq_none.mp (of_decide_eq_true hv')
    refine yIf_elim g2' fun c2 _ _ ip2 g2' => ?_
    have kk := andB g2'
    obtain ⟨h0', g2'⟩ := kk
    refine isNil_elim h0' ?_
    clear h0'
    have kk := andB g2'
    obtain ⟨hc2, g2'⟩ := kk
    refine two_elim g2' fun _ _ g2' => ?_
    have kk := andB g2'
    obtain ⟨ga, gb⟩ := kk
    refine yIf_elim ga fun c3 rs _ c3p ga => ?_
    obtain ⟨h0', hc3⟩ := andB ga
    refine isNil_elim h0' ?_
    clear h0'
    refine yWhile_elim gb fun _ _ _ wp gb => ?_
    obtain ⟨h0', gb⟩ := andB gb
    refine isNil_elim h0' ?_
    clear h0'
    obtain ⟨gc, gb⟩ := andB gb
    refine xConst_elim gc fun _ tk tp gc => ?_
    obtain rfl := isTrueC_ok gc
    clear gc
    refine one_elim gb fun _ gb => ?_
    refine yieldOf_elim gb fun y1 yp1 yq1 hy1 => ?_
    refine yieldOf_elim g3' fun y2 yp2 yq2 hy2 => ?_
    refine asgIs_elim g4' fun n2 ap2p v2 ap2 g4' => ?_
    have kk := andB g4'
    obtain ⟨hn2, hv2⟩ := kk
    refine seg_func (g_store x1 (v := .none) e1 rfl (fun A' E Q q => wpAny_Constant_none (q _ s''.toks rfl)) (by show 1 < 3; decide) fun s3 x3 _ hsz => ?_)
    simp only [vname, Bool.and_eq_true, Bool.not_eq_true', decide_eq_true_eq, Bool.or_eq_true] at hgn
    refine seg_execs_cons (seg_For (fun x => rfl) (wpAny_Name (load_ok hgn.1.2 hgn.2 x3.fr (show ([some (AV.ref 0), some .none, none] : Loc)[0]? = some (some (.ref 0)) from rfl) fun y ry => ?_) hgn.1.1))
    obtain ⟨la', rfl, hla'⟩ := ry
    cases hla'
    obtain ⟨vs, p, _⟩ := x3.inv.rep 0 la _ rfl rfl
    refine wpAny_pyIter_list p.isList fun pp => ?_
    have st4 : Step [] s3 { s3 with heap := s3.heap.push { cls := .type "list_iterator", data := .fields #[.ref la, .int 0 0] } } := .pushed (t := s3.toks)
    have hit : (s3.heap.push { cls := .type "list_iterator", data := .fields #[.ref la, .int 0 0] }).IsListIter s3.heap.objs.size la 0 := ⟨_, Heap.get?_push_size _ rfl, rfl, rfl⟩
    have dead0 : s3.heap.get? s3.heap.objs.size = none := get_size_none _
    rw [hsz] at hit dead0
    have live : ∀ b ∈ [a, env.locals, la], ∃ o, s3.heap.get? b = some o := fun b hb => (x3.soft b hb).live
    have neq : ∀ d ∈ [a, env.locals, la], s''.heap.objs.size ≠ d := by
      rintro d hd rfl
      obtain ⟨o, ho⟩ := live _ hd
      rw [dead0] at ho; cases ho
    have x4 : GI P [la] [.list (L.map .int)] env.scope.names (grpL none none) env a s.gens.size [a, env.locals, la, s''.heap.objs.size] s'' { s3 with heap := s3.heap.push { cls := .type "list_iterator", data := .fields #[.ref la, .int 0 0] } } := by
      have sa : ∀ (ob : Obj), ∀ b ∈ [a, env.locals, la], Soft (s3.heap.push ob) [] b := fun ob b hb => (x3.soft b hb).at' fun o e => Heap.get?_push_of_some _ e
      exact ⟨frame_push x3.fr st4, inv_push x3.inv st4, x3.isg.push _, all4 (sa _ _ (in3_1 ..)) (sa _ _ (in3_2 ..)) (sa _ _ (in3_3 ..)) (listiter_soft hit), (x3.st.trans' (st4.mono (by simp))).mono fun b hb => .inl (in4 b hb), List.mem_cons_self,
        by rw [hfa]; exact fun b hb => List.mem_singleton.mp hb ▸ in4 _ (in3_2 ..), fun b hb => List.mem_singleton.mp hb ▸ in4 _ (in3_3 ..), x3.aF, x3.aρ, x3.lists, all4 (h0 _ (in3_1 ..)) (h0 _ (in3_2 ..)) (h0 _ (in3_3 ..)) (h0_dead x3.inv dead0)⟩
    have it4 : ListAt env a la [a, env.locals, la, s''.heap.objs.size] s''.heap.objs.size 0 { s3 with heap := s3.heap.push { cls := .type "list_iterator", data := .fields #[.ref la, .int 0 0] } } :=
      ⟨hit, by simp, by rw [hfa]; simpa using neq env.locals (by simp), neq a (by simp), neq la (by simp)⟩
    rw [hsz]
    exact grp_loop G GE hA gm.co gm.cells ht hi hcm hg hc2 hc3 hy1 hy2 hn2 hv2 rfl rfl L 0 0 (gas + 1) none none s'' _ rfl (Nat.zero_le _) (fun k' => by rw [Nat.zero_add]) (fun _ z r hzr => by
      subst hzr; simpa [headZero] using hz) (by omega) (by omega) rfl x4 it4

theorem s_forE (G : GF P T ft init) (GE : GG P T) (S : Sound P T n r) (hA : AOk n A) (hn : 20 ≤ n) {tg : Tg} {ie : IE} {body els : List IS} {t arg : Expr} {x : Str} {xp cp pos : Pos} {b' els' : List Stmt} (e : stepS r (.forE tg ie body els) ℓ σ = some (fl, ℓ', σ')) (hx : x = sEsc) (hg : gname ns x = true) (ht : tgIs (sname ns) tg t = true)
    (hi : isE T k ns arg ie = true) (hb : allP (isS T k ns) b' body = true) (he : allP (isS T k ns) els' els = true) (F : FrameR P ρ ns ℓ env s.heap) (I : Inv P ρ σ s.heap) : wpAny P.M A (exec (.For t (.Call (.Name x xp) [arg] [] cp) b' els' pos) env) (SPost P ns env ρ σ' s fl ℓ') E s := by
  obtain ⟨mg, mb, n1, n2, _, _, _, _, _, hesc, _⟩ := G.ns
  subst hx
  refine oP_elim e fun xx σ1 ea e => ?_
  obtain ⟨o, fd, _, _, ho, hd, _⟩ := GE.esc.ex
  have hi' : allP (isE T k ns) [arg] [ie] = true := allP1 hi
  have hev : evEs r [ie] ℓ σ = some ([xx], σ1) := by simp only [evEs_q1, evEs_q2, ea, oP]
  refine wpAny_For (Call_Name rfl (global_ok hg F I n1 hesc ?_)) (fun x => rfl)
  refine Calls.callWith_function (o := o) (fd := fd) (argsL S hev hi' F I hA fun ρ1 s1 xs m1 I1 F1 r1 => ⟨⟨I1.keep _ _ ho, hd⟩, ?_⟩)
  refine rv1_elim r1 fun y ry => ?_
  revert ry
  refine oS_elim e fun w e ry => iN_elim e fun hw e => ?_
  have I0 : Inv P [] [] s1.heap := I1.take 0
  refine gen_make (n := n - 1) G (hA.mono (by omega)) GE.esc I0 (v := .str w) rfl ry fun a env' body' s2 gm => ?_
  refine wpAny_pyIter_gen gm.isg ?_
  have hg0 : s1.gens[s1.gens.size]? = none := by simp
  have hj := iter_gen (i := .vals (escGo 0 false w)) (a := a) (g := s1.gens.size) (ρ₀ := ρ1) (s₀ := s1) G (hA.mono (Nat.le_refl _)) (fun _ _ => rfl) hg0
  refine forLoop_ok S hA hj ht hb he (fun ρ' s' f m' I' F' r' => ?_) gas 0 rfl e (.of_step (gm.st.mono (by simp))) (inv_push I1 gm.st) (frame_push F1 gm.st) (esc_gj G GE (hA.mono (by omega)) gm I0 hw (all2 (h0_dead I1 gm.deadA) (h0_dead I1 gm.deadL))) (own_ok I1 F1 (all2 gm.deadA gm.deadL))
  exact ⟨ρ', MvS.trans m1.toS I1 F1 m', I', F', r'⟩
end
end Mine
end
section
namespace Mine
open PySem PySem.W PyProof.Rows

section
variable {P : Par} {ρ ρ₀ ρ' ρg : List Addr} {σ σ' σ₀ σg : Sto} {s s₀ s' s'' : Shared} {A : Around} {E : Value → Shared → Prop} {ns : Names} {ℓ ℓ' ℓ₀ : Loc} {env : Env} {n k : Nat} {r : Rec} {v : AV}
  {i : Itr} {own : List Addr} {a : Addr} {g : Nat} {c : Code} {fs : List Frame} {fl : Fl}

theorem s_forG (G : GF P T ft init) (GE : GG2 P T) (S : Sound P T n r) (hA : AOk n A) (hn : 20 ≤ n) {tg : Tg} {ie : IE} {body els : List IS} {t arg : Expr} {x : Str} {xp cp pos : Pos} {b' els' : List Stmt} (e : stepS r (.forG tg ie body els) ℓ σ = some (fl, ℓ', σ')) (hx : x = sGrp) (hg : gname ns x = true) (ht : tgIs (sname ns) tg t = true)
    (hi : isE T k ns arg ie = true) (hb : allP (isS T k ns) b' body = true) (he : allP (isS T k ns) els' els = true) (F : FrameR P ρ ns ℓ env s.heap) (I : Inv P ρ σ s.heap) : wpAny P.M A (exec (.For t (.Call (.Name x xp) [arg] [] cp) b' els' pos) env) (SPost P ns env ρ σ' s fl ℓ') E s := by
  obtain ⟨mg, mb, n1, n2, _, _, _, _, _, _, hgrp, _⟩ := G.ns
  subst hx
  refine oP_elim e fun xx σ1 ea e => ?_
  obtain ⟨o, fd, _, _, ho, hd, _⟩ := GE.grp.ex
  have hi' : allP (isE T k ns) [arg] [ie] = true := allP1 hi
  have hev : evEs r [ie] ℓ σ = some ([xx], σ1) := by simp only [evEs_q1, evEs_q2, ea, oP]
  refine wpAny_For (Call_Name rfl (global_ok hg F I n1 hgrp ?_)) (fun x => rfl)
  refine Calls.callWith_function (o := o) (fd := fd) (argsL S hev hi' F I hA fun ρ1 s1 xs m1 I1 F1 r1 => ⟨⟨I1.keep _ _ ho, hd⟩, ?_⟩)
  refine rv1_elim r1 fun y ry => ?_
  revert ry
  refine oR_elim e fun i e ry => iN_elim e fun hlast e => oO_elim e fun l hl e => oO_elim e fun L hL e => iM_elim e fun hz e => list_elim I1 hl ry fun la vs hla p q b _ => ?_
  simp only [Bool.and_eq_true, beq_iff_eq, Nat.ble_eq] at hlast
  obtain ⟨hlast, hle⟩ := hlast
  have hints := asInts_are hL q
  have hlaρ : la ∈ ρ1 := List.mem_of_getElem? hla
  obtain ⟨new, hnew1, hnew2⟩ := m1.new
  have hρl := I.len
  have hidx := (List.getElem?_eq_some_iff.mp hla).1
  have hlanew : la ∈ new := by
    rw [hnew1, List.getElem?_append_right (by omega)] at hla
    exact List.mem_of_getElem? hla
  have dla : s.heap.get? la = none := hnew2 la hlanew
  have live1 : ∀ x ∈ ρ, ∃ o, s1.heap.get? x = some o := fun x hx => (I1.softs x (m1.mem hx)).live
  have back : ∀ b, s1.heap.get? b = none → s.heap.get? b = none := fun b hb => m1.back live1 hb
  -- the store without the list
  have htk : ρ1.take i = ρ ++ new.take (i - ρ.length) := by
    rw [hnew1, List.take_append, List.take_of_length_le (by omega)]
  have m2 : MvE ρ s (ρ1.take i) s1 := ⟨⟨new.take (i - ρ.length), htk, fun b hb => hnew2 b (List.mem_of_mem_take hb)⟩, m1.step⟩
  have I2 := I1.take i
  have F2 := F.mvE I m2
  have hlan : la ∉ ρ1.take i := by
    intro hm
    obtain ⟨j, hj, hja⟩ := List.mem_iff_getElem.mp hm
    rw [List.length_take] at hj
    have hj1 : ρ1[j]? = some la := by
      rw [List.getElem_take] at hja
      rw [List.getElem?_eq_getElem (by omega), hja]
    have := (List.getElem?_inj (by omega) I1.nodup).mp (hj1.trans hla.symm)
    omega
  have Ig : Inv P [la] [.list (L.map .int)] s1.heap := by
    refine ⟨I1.keep, by simp, ?_, rfl, fun j b' o' e1 e2 => ?_⟩
    · intro b hb; rw [List.mem_singleton.mp hb]; exact I1.fresh la hlaρ
    · cases j with
      | zero => cases e1; cases e2; exact ⟨vs, p, RVs.of_ints hints, bels_ints _ _⟩
      | succ j => cases e1
  refine gen_make (n := n - 1) G (hA.mono (by omega)) GE.grp Ig (v := .ref 0) rfl ⟨la, rfl, rfl⟩ fun a env' body' s2 gm => ?_
  refine wpAny_pyIter_gen gm.isg ?_
  have hg0 : s1.gens[s1.gens.size]? = none := by simp
  have hgs : s.gens[s1.gens.size]? = none := by
    cases e : s.gens[s1.gens.size]? with
    | none => rfl
    | some x => have := m1.step.gens _ _ e; rw [hg0] at this; cases this
  have hj := iter_gen (i := .grp L) (a := a) (g := s1.gens.size) (ρ₀ := ρ) (s₀ := s) G (hA.mono (Nat.le_refl _)) (fun _ _ => rfl) hgs
  have livela : ∃ o, s1.heap.get? la = some o := (I1.softs la hlaρ).live
  have hne : ∀ b, s1.heap.get? b = none → la ≠ b := by
    rintro b hb rfl; obtain ⟨o, ho⟩ := livela; rw [hb] at ho; cases ho
  have own1 : ∀ x ∈ [a, env'.locals, la], P.h₀.get? x = none := all3 (h0_dead I1 gm.deadA) (h0_dead I1 gm.deadL) (I1.fresh la hlaρ)
  exact forLoop_ok S hA hj ht hb he (fun ρ' s' f m' I' F' r' => ⟨ρ', m', I', F', r'⟩) gas 0 rfl e (MvS.trans m2.toS I2 F2 (.of_step (gm.st.mono (by simp)))) (inv_push I2 gm.st) (frame_push F2 gm.st)
    (grp_gj G GE (hA.mono (by omega)) gm Ig hz own1 ⟨hne a gm.deadA, hne _ gm.deadL⟩) ⟨all3 (back _ gm.deadA) (back _ gm.deadL) dla, fun b hb hm => all3 (p := fun x => x ∈ fa env → False) (fa_dead F1 gm.deadA) (fa_dead F1 gm.deadL) (fun h => (F1.out _ h).1 hlaρ) b hm hb, all3 (ρ_dead I2 gm.deadA) (ρ_dead I2 gm.deadL) hlan, own1⟩

theorem isTupleE_ok {e : Expr} (h : isTupleE e = true) : ∃ es q p, e = .Tuple es q p := by
  exact xTup_elim (f := fun _ => true) (motive := fun e => ∃ es q p, e = .Tuple es q p) h fun es q p _ => ⟨es, q, p, rfl⟩

theorem stepS_sound (G : GF P T ft init) (GE : GG P T) (G2 : GG2 P T) (S : Sound P T n r) (SC : SoundC P T n r.e) (hn : 20 ≤ n) {is : IS} {st : Stmt} (e : stepS r is ℓ σ = some (fl, ℓ', σ')) (hi : isS T k ns st is = true)
    (F : FrameR P ρ ns ℓ env s.heap) (I : Inv P ρ σ s.heap) (hA : AOk n A) : wpAny P.M A (exec st env) (SPost P ns env ρ σ' s fl ℓ') E s := by
  cases k with
  | zero => cases hi
  | succ k =>
    cases is with
    | assign x e1 =>
      refine yAssign_elim hi fun _ _ _ hi => ?_
      refine one_elim hi fun _ hi => ?_
      refine xName_elim hi fun _ _ hi => ?_
      simp only [Bool.and_eq_true] at hi
      exact s_assign S SC e hi.1 hi.2 F I hA
    | assignT xs e1 =>
      refine yAssign_elim hi fun _ _ _ hi => ?_
      refine one_elim hi fun t hi => ?_
      simp only [Bool.and_eq_true, Bool.not_eq_true'] at hi
      obtain ⟨h0, hi⟩ := hi
      obtain ⟨es, q, p', rfl⟩ := isTupleE_ok h0
      exact s_assignT S e hi.1.1 hi.1.2 hi.2 F I hA
    | swap x y a b =>
      refine yAssign_elim hi fun _ _ _ hi => ?_
      refine one_elim hi fun _ hi => ?_
      refine xTup_elim hi fun _ _ _ hi => ?_
      refine two_elim hi fun _ _ hi => ?_
      refine xName2_elim hi fun _ _ hi => ?_
      refine xName2_elim hi fun _ _ hi => ?_
      refine xTup_elim hi fun _ _ _ hi => ?_
      refine two_elim hi fun _ _ hi => ?_
      simp only [Bool.and_eq_true, Bool.not_eq_true'] at hi
      obtain ⟨⟨⟨⟨⟨⟨⟨h1, h2⟩, h3⟩, h4⟩, h5⟩, h6⟩, h7⟩, h8⟩ := hi
      exact s_swap S e h1 h2 h3 h4 h5 h6 h7 h8 F I hA
    | chain xs e1 =>
      refine yAssign_elim hi fun _ _ _ hi => ?_
      simp only [Bool.and_eq_true, decide_eq_true_eq] at hi
      exact s_chain S e hi.1.1.1 hi.1.1.2 hi.1.2 hi.2 F I hA
    | assignF fk o e1 =>
      refine yAssign_elim hi fun _ _ _ hi => ?_
      refine one_elim hi fun _ hi => ?_
      refine xAttr_elim hi fun _ _ _ hi => ?_
      simp only [Bool.and_eq_true, beq_iff_eq] at hi
      exact s_assignF G S e hi.1.1 hi.1.2 hi.2 F I hA
    | assignI o i e1 =>
      refine yAssign_elim hi fun _ _ _ hi => ?_
      refine one_elim hi fun _ hi => ?_
      refine xSub_elim hi fun _ _ _ hi => ?_
      simp only [Bool.and_eq_true, Bool.not_eq_true'] at hi
      exact s_assignI S e hi.1.1.1 hi.1.1.2 hi.1.2 hi.2 F I hA
    | aug x op e1 =>
      refine yAug_elim hi fun _ _ _ _ hi => ?_
      refine xName_elim hi fun _ _ hi => ?_
      simp only [Bool.and_eq_true, decide_eq_true_eq] at hi
      obtain ⟨⟨h1, rfl⟩, h2⟩ := hi
      exact s_aug S e h1 h2 F I hA
    | expr e1 =>
      refine yExpr_elim hi fun _ _ hi => ?_
      simp only [Bool.and_eq_true] at hi
      exact s_expr S e hi.1 hi.2 F I hA
    | forE tg e1 b els =>
      refine yFor_elim hi fun _ _ _ _ _ hi => ?_
      refine xCall_elim hi fun _ _ _ _ hi => ?_
      obtain ⟨h0, hi⟩ := andB hi
      refine isNil_elim h0 ?_
      refine xName_elim hi fun _ _ hi => ?_
      refine one_elim hi fun _ hi => ?_
      simp only [Bool.and_eq_true, beq_iff_eq] at hi
      obtain ⟨⟨⟨⟨⟨h1, h2⟩, h3⟩, h4⟩, h5⟩, h6⟩ := hi
      exact s_forE G GE S hA hn e h1 h2 h3 h4 h5 h6 F I
    | forG tg e1 b els =>
      refine yFor_elim hi fun _ _ _ _ _ hi => ?_
      refine xCall_elim hi fun _ _ _ _ hi => ?_
      obtain ⟨h0, hi⟩ := andB hi
      refine isNil_elim h0 ?_
      refine xName_elim hi fun _ _ hi => ?_
      refine one_elim hi fun _ hi => ?_
      simp only [Bool.and_eq_true, beq_iff_eq] at hi
      obtain ⟨⟨⟨⟨⟨h1, h2⟩, h3⟩, h4⟩, h5⟩, h6⟩ := hi
      exact s_forG G G2 S hA hn e h1 h2 h3 h4 h5 h6 F I
    | forS tg it b els =>
      refine yFor_elim hi fun _ _ _ _ _ hi => ?_
      simp only [Bool.and_eq_true] at hi
      obtain ⟨⟨⟨h1, h2⟩, h3⟩, h4⟩ := hi
      exact s_for G S e h1 h2 h3 h4 F I hA
    | whileS t b =>
      refine yWhile_elim hi fun _ _ _ _ hi => ?_
      obtain ⟨h0, hi⟩ := andB hi
      refine isNil_elim h0 ?_
      simp only [Bool.and_eq_true] at hi
      exact s_while S e hi.1 hi.2 F I hA
    | ifS t a b =>
      refine yIf_elim hi fun _ _ _ _ hi => ?_
      simp only [Bool.and_eq_true] at hi
      exact s_if S e hi.1.1 hi.1.2 hi.2 F I hA
    | ret e1 =>
      refine yRet_elim hi fun _ _ hi => ?_
      refine xSome_elim hi fun _ hi => ?_
      exact s_ret S e hi F I hA
    | brk =>
      refine yBrk_elim hi fun _ => ?_
      cases e
      exact wpAny_Break ⟨ρ, .refl .., I, F, rfl⟩
    | pass =>
      refine yPass_elim hi fun _ => ?_
      cases e
      exact wpAny_Pass ⟨ρ, .refl .., I, F, rfl⟩

theorem stepB_sound (G : GF P T ft init) (GE : GG P T) (G2 : GG2 P T) (S : Sound P T n r) (SC : SoundC P T n r.e) (hn : 20 ≤ n) : ∀ {body : List IS} {ℓ : Loc} {σ : Sto} {fl : Fl} {ℓ' : Loc} {σ' : Sto}, stepB r body ℓ σ = some (fl, ℓ', σ') → ∀ {k : Nat} {ns : Names} {stmts : List Stmt}, allP (isS T k ns) stmts body = true →
    ∀ {env : Env} {ρ : List Addr} {A : Around} {s : Shared} {E : Value → Shared → Prop}, FrameR P ρ ns ℓ env s.heap → Inv P ρ σ s.heap → AOk n A → wpAny P.M A (execs stmts env) (SPost P ns env ρ σ' s fl ℓ') E s
  | [], ℓ, σ, fl, ℓ', σ', e, k, ns, stmts, hi, env, ρ, A, s, E, F, I, hA => by
    cases stmts with
    | cons _ _ => cases hi
    | nil => cases e; exact wpAny_execs_nil ⟨ρ, .refl .., I, F, rfl⟩
  | is :: body, ℓ, σ, fl, ℓ', σ', e, k, ns, stmts, hi, env, ρ, A, s, E, F, I, hA => by
    cases stmts with
    | nil => cases hi
    | cons st stmts =>
      replace hi := allP_c hi
      refine oP_elim e fun fl1 p es e => wpAny_execs_cons (wpAny_mono (stepS_sound G GE G2 S SC hn (ℓ' := p.1) (σ' := p.2) es hi.1 F I hA) (fun f s1 ⟨ρ1, m1, I1, F1, r1⟩ => ?_) fun _ _ x => x)
      cases fl1 with
      | next =>
        cases r1
        exact wpAny_mono (stepB_sound G GE G2 S SC hn e hi.2 F1 I1 hA) (fun f s2 ⟨ρ2, m2, I2, F2, r2⟩ => ⟨ρ2, MvS.trans m1 I1 F1 m2, I2, F2, r2⟩) fun _ _ x => x
      | brk => cases r1; cases e; exact ⟨ρ1, m1, I1, F1, rfl⟩
      | ret w => cases e; obtain ⟨x, rfl, rx⟩ := r1; exact ⟨ρ1, m1, I1, F1, x, rfl, rx⟩

theorem ev_fk {n k : Nat} {args : List AV} {σ : Sto} {o} (h : (ev ft init n).f k args σ = some o) : k < ft.length := by
  cases n with
  | zero => cases h
  | succ n =>
    exact oO_elim h fun fd hfd _ => (List.getElem?_eq_some_iff.mp hfd).1

theorem ev_sound (G : GF P T ft init) (GE : GG P T) (G2 : GG2 P T) (n : Nat) : Sound P T (2 * n + 20) (ev ft init n) ∧ SoundC P T (2 * n + 20) (ev ft init n).e := by
  induction n with
  | zero =>
    refine ⟨⟨?_, ?_, ?_, ?_⟩, ?_⟩
    · intro ie ℓ σ v σ' e; cases e
    · intro ie ℓ σ v σ' e; cases e
    · intro ie ℓ σ v ℓ' σ' e; cases e
    · intro ie ℓ σ v σ' e; cases e
    · intro ie ℓ σ v σ' e; cases e
  | succ n ih =>
    obtain ⟨S, SC⟩ := ih
    have hE : SoundE P T (2 * n + 20 + 2) (stepE ft init (ev ft init n)) := stepE_sound G S ev_fk
    have hT : SoundT P T (2 * n + 20) (stepT (ev ft init n)) := stepT_sound S
    have hB : SoundB P T (2 * n + 20) (stepB (ev ft init n)) := stepB_sound G GE G2 S SC (by omega)
    have hC : SoundC P T (2 * n + 20) (stepE ft init (ev ft init n)) := stepC_sound G S
    have he : 2 * (n + 1) + 20 = 2 * n + 20 + 2 := by omega
    rw [he]
    refine ⟨⟨hE, SoundT.mono hT (by omega), ?_, ?_⟩, ?_⟩
    · intro body ℓ σ fl ℓ' σ' e k ns stmts hi env ρ A s E F I hA
      exact hB e hi F I (hA.mono (by omega))
    · intro k args σ v σ' e a ha vals ρ A s E I rv hA
      exact oO_elim e fun fd hfd h => callFn_ok G S (hA.mono (by omega)) (G.fn k a fd ha hfd) h I rv
    · intro ie ℓ σ v σ' e k ns el gens sc pos hi env ρ A s E use Q F I hA q
      exact hC e hi F I (hA.mono (by omega)) q
end
end Mine
end
section
namespace Mine
open PySem PySem.W PyProof.Rows

/-! ## the facts told by a look into the heap's list -/

theorem fm_congr {α β : Type} {f g : α → Option β} : ∀ {l : List α}, (∀ x ∈ l, f x = g x) → l.filterMap f = l.filterMap g
  | [], _ => rfl
  | x :: l, h => by rw [List.filterMap_cons, List.filterMap_cons, h x List.mem_cons_self, fm_congr fun y hy => h y (List.mem_cons_of_mem _ hy)]

theorem zip_lookup : ∀ (ns : List Str) (vs : List Value), ns.Nodup → vs.length = ns.length → ns.filterMap (fun n => ((ns.zip vs).lookup n).map (n, ·)) = ns.zip vs
  | [], _, _, _ => by simp
  | n :: ns, [], _, h => by simp at h
  | n :: ns, v :: vs, hn, h => by
    obtain ⟨h1, h2⟩ := List.nodup_cons.mp hn
    have ih := zip_lookup ns vs h2 (by simpa using h)
    simp only [List.zip_cons_cons, List.filterMap_cons, List.lookup, beq_self_eq_true, Option.map_some, List.cons.injEq, true_and]
    refine (fm_congr fun m hm => ?_).trans ih
    have : (m == n) = false := by
      rw [beq_eq_false_iff_ne]
      intro e; subst e; exact h1 hm
    rw [this]

set_option tactic.hygienic true
theorem zip_has : ∀ (ns : List Str) (vs : List Value) (n : Str), n ∈ ns → vs.length = ns.length → ((ns.zip vs).lookup n).isNone = false
  | [], _, _, h, _ => by cases h
  | m :: ns, [], _, _, h => by simp at h
  | m :: ns, v :: vs, n, hm, h => by
    simp only [List.zip_cons_cons, List.lookup]
    split
    · rfl
    · rename_i hx
      rcases List.mem_cons.mp hm with e | e
      · subst e; simp at hx
      · exact zip_has ns vs n e (by simpa using h)

set_option tactic.hygienic false
noncomputable def pnames (F : FuncData) : List Str := F.params.args.map (·.arg)
noncomputable def plainArgs (F : FuncData) : Bool := F.params.posonlyargs.isEmpty && F.params.kwonlyargs.isEmpty && F.params.vararg.isNone && F.params.kwarg.isNone && (F.defaults == .none) && decide ((pnames F).Nodup)

theorem bind_plain {F : FuncData} (h : plainArgs F = true) {vals : List Value} (hl : vals.length = (pnames F).length) : bindArgs F ⟨vals, []⟩ = pure ((pnames F).zip vals) := by
  simp only [plainArgs, Bool.and_eq_true, List.isEmpty_iff, Option.isNone_iff_eq_none, decide_eq_true_eq, beq_iff_eq] at h
  obtain ⟨⟨⟨⟨⟨h1, h2⟩, h3⟩, h4⟩, h5⟩, h6⟩ := h
  have e1 : (pnames F).filter (fun n => (((pnames F).zip vals).lookup n).isNone) = [] := by
    rw [List.filter_eq_nil_iff]
    intro n hn
    rw [zip_has _ _ _ hn hl]; simp
  have e2 := zip_lookup (pnames F) vals h6 hl
  have hp : List.map (fun x => x.arg) F.params.args = pnames F := rfl
  have hs : seqItems? Value.none = pure none := rfl
  have hg : (decide (vals.length > (pnames F).length) && true) = false := by rw [hl]; simp
  unfold bindArgs
  simp only [h1, h2, h3, h4, h5, hp, hs, hg, List.map_nil, List.nil_append, List.append_nil, List.forIn_nil, pure_bind, Option.getD_none, List.drop_nil, List.length_nil, Nat.sub_zero, List.take_length, e1, List.isEmpty_nil, Bool.not_true, Bool.false_eq_true, if_false, List.drop_length, List.zip_nil_right, Option.isNone_none, e2]
end Mine
end
section
namespace Mine
open PySem PySem.W PyProof.Rows PyProof.V

noncomputable def dDict (v : Data) : Option (List DictEntry) := @Data.casesOn (fun _ => Option (List DictEntry)) v none (fun _ => none) (fun _ _ => none) (fun es _ => some es.toList) (fun _ _ _ => none) (fun _ _ => none) (fun _ => none) (fun _ => none) (fun _ => none) (fun _ => none) none
theorem dDict_ex {d : Data} {es : List DictEntry} (h : dDict d = some es) : ∃ a n, d = .dict a n ∧ a.toList = es := by
  cases d <;> first | exact noS h | exact ⟨_, _, rfl, Option.some.inj h⟩
noncomputable def dFunc (v : Data) : Option FuncData := @Data.casesOn (fun _ => Option FuncData) v none (fun _ => none) (fun _ _ => none) (fun _ _ => none) (fun _ _ _ => none) (fun _ _ => none) (fun _ => none) some (fun _ => none) (fun _ => none) none
theorem dFunc_ex {d : Data} {F : FuncData} (h : dFunc d = some F) : d = .func F := by
  cases d <;> first | exact noS h | exact congrArg Data.func (Option.some.inj h)
noncomputable def dFields (v : Data) (f : Array Value → Bool) : Bool := @Data.casesOn (fun _ => Bool) v false (fun _ => false) (fun _ _ => false) (fun _ _ => false) (fun _ _ _ => false) (fun _ _ => false) (fun _ => false) (fun _ => false) (fun _ => false) f false
theorem dFields_ex {d : Data} {f : Array Value → Bool} (h : dFields d f = true) : ∃ vs, d = .fields vs ∧ f vs = true := by
  cases d <;> first | exact noB h | exact ⟨_, rfl, h⟩
noncomputable def vStr (v : Value) (f : Str → Bool) : Bool := @Value.casesOn (fun _ => Bool) v false false false (fun _ => false) (fun _ _ => false) (fun _ _ => false) (fun s _ => f s) (fun _ _ => false) (fun _ => false) (fun _ => false) (fun _ => false)
theorem vStr_ex {v : Value} {f : Str → Bool} (h : vStr v f = true) : ∃ s t, v = .str s t ∧ f s = true := by
  cases v <;> first | exact noB h | exact ⟨_, _, rfl, h⟩
noncomputable def vInt (v : Value) (f : Int → Bool) : Bool := @Value.casesOn (fun _ => Bool) v false false false (fun _ => false) (fun s _ => f s) (fun _ _ => false) (fun _ _ => false) (fun _ _ => false) (fun _ => false) (fun _ => false) (fun _ => false)
theorem vInt_ex {v : Value} {f : Int → Bool} (h : vInt v f = true) : ∃ s t, v = .int s t ∧ f s = true := by
  cases v <;> first | exact noB h | exact ⟨_, _, rfl, h⟩
noncomputable def vRef (v : Value) (f : Addr → Bool) : Bool := @Value.casesOn (fun _ => Bool) v false false false (fun _ => false) (fun _ _ => false) (fun _ _ => false) (fun _ _ => false) (fun _ _ => false) (fun _ => false) (fun _ => false) f
theorem vRef_ex {v : Value} {f : Addr → Bool} (h : vRef v f = true) : ∃ a, v = .ref a ∧ f a = true := by
  cases v <;> first | exact noB h | exact ⟨_, rfl, h⟩
noncomputable def bStm (v : FuncBody) (f : List Stmt → Bool) : Bool := @FuncBody.casesOn (fun _ => Bool) v f (fun _ => false)
theorem bStm_ex {v : FuncBody} {f : List Stmt → Bool} (h : bStm v f = true) : ∃ b, v = .stmts b ∧ f b = true := by
  cases v <;> first | exact noB h | exact ⟨_, rfl, h⟩

noncomputable def dictIn (K : Frag) (a : Addr) : Option (List DictEntry) := oO (K.lookup a) fun o => dDict o.data
noncomputable def strKeyed (es : List DictEntry) : Bool := es.all fun e => vStr e.key fun _ => true
noncomputable def nsAt (K : Frag) (a : Addr) (x : Str) : Option Value := oO (dictIn K a) fun es => (es.find? fun e => e.key.isStr x).map (·.val)

theorem ns_of {K : Frag} {h : Heap} {a : Addr} (X : K.In h) (e : (dictIn K a).any strKeyed = true) : h.Ns a (nsAt K a) := by
  obtain ⟨es, he, hk⟩ : ∃ es, dictIn K a = some es ∧ strKeyed es = true := xSome_ex e
  have e0 : ∀ x, nsAt K a x = (es.find? fun e => e.key.isStr x).map (·.val) := fun x => by unfold nsAt; rw [he]; rfl
  refine oO_elim he fun o ho he => ?_
  obtain ⟨es', n, hd, rfl⟩ := dDict_ex he
  refine ⟨o, es', n, X _ _ ho, hd, fun e he => ?_, fun x => ?_⟩
  · obtain ⟨s, t, hs, _⟩ := vStr_ex (List.all_eq_true.mp hk e (Array.mem_toList_iff.mpr he))
    exact ⟨s, t, hs⟩
  · rw [e0]; unfold nsFind findBy; rw [Array.find?_toList]

noncomputable def funcIn (K : Frag) (a : Addr) : Option FuncData := oO (K.lookup a) fun o => dFunc o.data
theorem func_of {K : Frag} {h : Heap} {a : Addr} {F : FuncData} (X : K.In h) (e : funcIn K a = some F) : ∃ o, h.get? a = some o ∧ o.data = .func F :=
  oO_elim e fun o ho e => ⟨o, X _ _ ho, dFunc_ex e⟩

noncomputable def codeIn (K : Frag) (cd : Value) (q : Str) : Bool := vRef cd fun c => xSome (K.lookup c) fun o => dFields o.data fun vs => uncons vs.toList fun _ l => uncons l fun v _ => vStr v fun x => x == q
theorem code_of {K : Frag} {h : Heap} {cd : Value} {q : Str} (X : K.In h) (e : codeIn K cd q = true) : h.CodeRec cd q := by
  obtain ⟨c, rfl, e⟩ := vRef_ex e
  obtain ⟨o, ho, e⟩ := xSome_ex e
  obtain ⟨vs, hd, e⟩ := dFields_ex e
  obtain ⟨v, l, hv, e⟩ := uncons_ex e
  obtain ⟨w, l', rfl, e⟩ := uncons_ex e
  obtain ⟨x, t, rfl, e⟩ := vStr_ex e
  refine ⟨c, o, vs, t, rfl, X _ _ ho, hd, ?_⟩
  rw [← Array.getElem?_toList, hv, ← beq_iff_eq.mp e]; rfl

noncomputable def fnOk (K : Frag) (F : FuncData) : Bool := !F.scope.isCoroutine && decide (F.scope.kind = .function) && decide (F.globals = mainGlobals) && decide (F.builtins = builtinsNs) && F.closure.isEmpty && codeIn K F.code F.qualname && plainArgs F &&
  decide (F.scope.names.lookup sSimple = none) && decide ((F.scope.names.map (·.1)).Nodup)
structure FnOk (h : Heap) (F : FuncData) : Prop where
  co : F.scope.isCoroutine = false
  kind : F.scope.kind = .function
  gl : F.globals = mainGlobals
  bi : F.builtins = builtinsNs
  clo : F.closure = []
  cd : h.CodeRec F.code F.qualname
  pl : plainArgs F = true
  sim : F.scope.names.lookup sSimple = none
  nd : (F.scope.names.map (·.1)).Nodup
theorem fnOk_of {K : Frag} {h : Heap} {F : FuncData} (X : K.In h) (e : fnOk K F = true) : FnOk h F := by
  simp only [fnOk, Bool.and_eq_true, Bool.not_eq_true', decide_eq_true_eq, List.isEmpty_iff] at e
  obtain ⟨⟨⟨⟨⟨⟨⟨⟨h1, h2⟩, h3⟩, h4⟩, h5⟩, h6⟩, h7⟩, h8⟩, h9⟩ := e
  exact ⟨h1, h2, h3, h4, h5, code_of X h6, h7, h8, h9⟩

noncomputable def fnIs (K : Frag) (T : Tab) (a : Addr) (fd : FDef) : Bool := xSome (funcIn K a) fun F => fnOk K F && !F.scope.isGenerator && (bStm F.body fun body => allP (isS T 40 F.scope.names) body fd.body) && decide (F.scope.names.length = fd.slots) &&
      decide ((pnames F).map (slot F.scope.names) = fd.params.map some) && (pnames F).all fun x => decide (F.scope.names.lookup x = some .local) || decide (F.scope.names.lookup x = some .cell)
theorem fn_of {P : Par} {a : Addr} {fd : FDef} (X : P.K.In P.h₀) (e : fnIs P.K T a fd = true) : FnAt P T a fd := by
  obtain ⟨F, hF, e⟩ := xSome_ex e
  obtain ⟨o, ho, hd⟩ := func_of X hF
  simp only [Bool.and_eq_true, Bool.not_eq_true', decide_eq_true_eq, List.all_eq_true, Bool.or_eq_true] at e
  obtain ⟨⟨⟨⟨⟨h1, h2⟩, h3⟩, h4⟩, h5⟩, h6⟩ := e
  have f := fnOk_of X h1
  obtain ⟨body, hb, h3⟩ := bStm_ex h3
  exact ⟨o, F, body, pnames F, 40, ho, hd, hb, f.co, h2, f.kind, f.gl, f.bi, f.clo, f.cd, fun vals hl => bind_plain f.pl hl, h3, h4, h5, h6, f.sim, f.nd⟩

noncomputable def genIs (K : Frag) (chk : Names → List Stmt → Bool) (a : Addr) : Bool := xSome (funcIn K a) fun F => fnOk K F && F.scope.isGenerator && (bStm F.body fun body => chk F.scope.names body) && (one (pnames F) fun x => decide (F.scope.names.lookup x = some .local) && decide (slot F.scope.names x = some 0)) &&
      F.scope.names.all fun p => decide (p.2 ≠ .cell)
theorem gen_of {P : Par} {chk : Names → List Stmt → Bool} {a : Addr} (X : P.K.In P.h₀) (e : genIs P.K chk a = true) : GenFn P a chk := by
  obtain ⟨F, hF, e⟩ := xSome_ex e
  obtain ⟨o, ho, hd⟩ := func_of X hF
  simp only [Bool.and_eq_true, decide_eq_true_eq, List.all_eq_true] at e
  obtain ⟨⟨⟨⟨h1, h2⟩, h3⟩, h4⟩, h5⟩ := e
  have f := fnOk_of X h1
  obtain ⟨body, hb, h3⟩ := bStm_ex h3
  obtain ⟨x, hx, h4⟩ := one_ex h4
  refine ⟨o, F, body, x, ho, hd, hb, f.co, h2, f.kind, f.gl, f.bi, f.clo, f.cd, fun v => ?_, of_decide_eq_true (andB h4).1, of_decide_eq_true (andB h4).2, h5, h3, f.sim, f.nd⟩
  rw [bind_plain f.pl (vals := [v]) (by rw [hx]; rfl), hx]; rfl

noncomputable def tabOk : List DictEntry → List (Int × String) → Bool := allP fun e p => Value.isInt p.1 e.key && decide (e.hash = hashInt p.1) && vStr e.val fun s => s == Str.ofString p.2
theorem tab_pairs {prog : Program} {w : World} : ∀ {es : List DictEntry} {l : List (Int × String)}, tabOk es l = true →
    ∃ kvs : List (Int × Value), Pairs (intKind prog w) es kvs ∧ kvs.map (·.1) = l.map (·.1) ∧ FlatPairs PyData.int kvs (l.map fun p => (.int p.1, .str (Str.ofString p.2))) ∧ ∀ e ∈ es, ∃ k, (intKind prog w).is k e.key = true ∧ e.hash = (intKind prog w).hash k
  | [], [], _ => ⟨[], .nil, rfl, .nil, fun _ h => nomatch h⟩
  | e :: es, (k, n) :: l, h => by
    obtain ⟨h3, h4⟩ := allP_c h
    obtain ⟨h2, h3⟩ := andB h3
    obtain ⟨h1, h2⟩ := andB h2
    replace h2 := of_decide_eq_true h2
    obtain ⟨s, t, hs, h3⟩ := vStr_ex h3
    obtain ⟨kvs, p, q, f, g⟩ := tab_pairs (prog := prog) (w := w) h4
    refine ⟨(k, e.val) :: kvs, .cons h1 rfl p, by simp [q], .cons ?_ f, fun e' he => ?_⟩
    · rw [hs, beq_iff_eq.mp h3]
      exact .str _ _
    · rcases List.mem_cons.mp he with rfl | he
      · exact ⟨k, h1, h2⟩
      · exact g e' he
  | [], _ :: _, h => by cases h
  | _ :: _, [], h => by cases h

noncomputable def tabIs (K : Frag) (a : Addr) : Bool := xSome (K.lookup a) fun o => decide (o.cls = .type "dict") && o.dict.isNone && o.slots.isEmpty && xSome (dDict o.data) fun es => tabOk es flagNames
theorem tab_of {K : Frag} {prog : Program} {w : World} {h : Heap} {a : Addr} (X : K.In h) (ha : (a == sysModules) = false) (e : tabIs K a = true) : IntTab prog w h a flagTab := by
  obtain ⟨o, ho, e⟩ := xSome_ex e
  obtain ⟨e, h3⟩ := andB e
  simp only [Bool.and_eq_true, decide_eq_true_eq, Option.isNone_iff_eq_none, Array.isEmpty_iff] at e
  obtain ⟨es, he, h3⟩ := xSome_ex h3
  obtain ⟨es', n, hd, rfl⟩ := dDict_ex he
  obtain ⟨kvs, p, q, f, g⟩ := tab_pairs (prog := prog) (w := w) h3
  refine TabAt.ofObj ha (X _ _ ho) ⟨es', n, ⟨e.1.1, e.1.2, e.2⟩, hd, fun e he => g e (Array.mem_toList_iff.mpr he), p, ?_⟩ f
  rw [q]; decide
end Mine
end
section
namespace Mine
open PySem PySem.W PyProof.Rows PyProof.V

structure Ads where
  C : Addr
  fns : List Addr
  ini : Addr
  esc : Addr
  grp : Addr
  flags : Addr
noncomputable def Ads.par (D : Ads) (prog : Program) (w : World) (h : Heap) (K : Frag) : Par := ⟨prog, w, h, K, D.C, D.fns, D.ini, D.esc, D.grp, D.flags⟩

noncomputable def nameIs (K : Frag) (C : Addr) (x : Str) (m : Bool) (a : Addr) : Bool :=
  if m then decide (findIn K (.ref C) x = some (some (.ref a))) && decide (typeIn K (.ref a) = some (.type "function")) && ![sRaw, sN, sNt, sNorm, sSimple].contains x
  else decide (nsAt K mainGlobals x = some (.ref a))
noncomputable def allBK : List BK := [.len, .sum, .max, .sorted, .hex, .tuple, .list]
theorem allBK_mem (b : BK) : b ∈ allBK := by cases b <;> simp [allBK]
noncomputable def allFK : List FK := [.raw, .n, .nt, .norm, .simple]
theorem allFK_mem (b : FK) : b ∈ allFK := by cases b <;> simp [allFK]

noncomputable def cVal (v : CFound) (f : Value → Bool) : Bool := @CFound.casesOn (fun _ => Bool) v f (fun _ _ _ _ => false)
theorem cVal_ex {v : CFound} {f : Value → Bool} (h : cVal v f = true) : ∃ b, v = .val b ∧ f b = true := by
  cases v <;> first | exact noB h | exact ⟨_, rfl, h⟩
noncomputable def strVal (r : Option CFound) (x : Str) : Bool := xSome r fun c => cVal c fun v => vStr v fun s => s == x
theorem strVal_of {r : Option CFound} {x : Str} (h : strVal r x = true) : ∃ t, r = some (.val (.str x t)) := by
  obtain ⟨c, rfl, h⟩ := xSome_ex h
  obtain ⟨v, rfl, h⟩ := cVal_ex h
  obtain ⟨s, t, rfl, h⟩ := vStr_ex h
  exact ⟨t, by rw [beq_iff_eq.mp h]⟩

/-- the globals -/
noncomputable def chkN (K : Frag) (D : Ads) : Bool :=
  (dictIn K mainGlobals).any strKeyed && (dictIn K builtinsNs).any strKeyed && (allBK.all fun b => decide (nsAt K mainGlobals (biName b) = none) && decide (nsAt K builtinsNs (biName b) = some (biVal b)) && !(biName b == sDebug)) &&
  decide (nsAt K mainGlobals sRange = none) && decide (nsAt K builtinsNs sRange = some (.type "range")) && decide (nsAt K mainGlobals sWs = some (.ref D.C)) && decide (nsAt K mainGlobals sFlags = some (.ref D.flags)) &&
  decide (nsAt K mainGlobals sEsc = some (.ref D.esc)) && decide (nsAt K mainGlobals sGrp = some (.ref D.grp)) && decide (nsAt K mainGlobals sEnum = none) && decide (nsAt K builtinsNs sEnum = some (.type "enumerate")) &&
  (xSome (nsAt K mainGlobals sCharMax) fun v => vInt v fun i => i == 127)
/-- the class -/
noncomputable def chkC (K : Frag) (D : Ads) : Bool :=
  makesIn K D.C && keepIn K (.ref D.C) && decide (findIn K (.ref D.C) "__init__" = some (some (.ref D.ini))) && decide (typeIn K (.ref D.ini) = some (.type "function")) &&
  decide (findIn K (.ref D.C) "__getattribute__" = some (some (.builtin "object.__getattribute__"))) && decide (findIn K (.ref D.C) "__getattr__" = some none) && decide (findIn K (.ref D.C) "__setattr__" = some (some (.builtin "object.__setattr__"))) &&
  plainOver K D.C && (allFK.all fun f => decide (takerIn K D.C (fkName f) = some none) && decide (findIn K (.ref D.C) (fkName f) = some none)) && (clsIn K D.C).any (·.hasDict) &&
  strVal (findCls K (.ref D.C) (.type "type") sS) ⟨#[32]⟩ && strVal (findCls K (.ref D.C) (.type "type") sT) ⟨#[9]⟩ && readsIn K D.C (.type "type")
/-- the defs -/
noncomputable def chkF (K : Frag) (T : Tab) (ft : List FDef) (init : FDef) (D : Ads) : Bool := allP (fun p a => nameIs K D.C p.1 p.2 a) T.fn D.fns && allP (fnIs K T) D.fns ft && fnIs K T D.ini init && genIs K (escBody T) D.esc && genIs K (grpBody T) D.grp
noncomputable def chkT (K : Frag) (D : Ads) : Bool := !(D.flags == sysModules) && tabIs K D.flags

theorem facts {K : Frag} {D : Ads} (hN : chkN K D = true) (hC : chkC K D = true) (hF : chkF K T ft init D = true) (hT : chkT K D = true) {prog : Program} {w : World} {h : Heap} (X : K.In h) (nl : h.NoLimit) :
    GF (D.par prog w h K) T ft init ∧ GG (D.par prog w h K) T ∧ GG2 (D.par prog w h K) T := by
  simp only [chkN, Bool.and_eq_true, decide_eq_true_eq, List.all_eq_true, Bool.not_eq_true'] at hN
  obtain ⟨⟨⟨⟨⟨⟨⟨⟨⟨⟨⟨n1, n2⟩, n3⟩, n4⟩, n5⟩, n6⟩, n7⟩, n8⟩, n9⟩, n10⟩, n11⟩, n12⟩ := hN
  simp only [chkC, Bool.and_eq_true, decide_eq_true_eq, List.all_eq_true] at hC
  obtain ⟨⟨⟨⟨⟨⟨⟨⟨⟨⟨⟨⟨c1, c2⟩, c3⟩, c4⟩, c5⟩, c6⟩, c7⟩, c8⟩, c9⟩, c10⟩, c11⟩, c12⟩, c13⟩ := hC
  simp only [chkF, Bool.and_eq_true] at hF
  obtain ⟨⟨⟨⟨f1, f2⟩, f3⟩, f4⟩, f5⟩ := hF
  simp only [chkT, Bool.and_eq_true, Bool.not_eq_true'] at hT
  have f1a := allP_len f1
  have f1b := fun k x m a => allP_at f1 k (x, m) a
  have f2a := allP_len f2
  have f2b := allP_at f2
  have m1 := ns_of X n1
  have m2 := ns_of X n2
  have tk : ∀ f, takerIn K D.C (fkName f) = some none := fun f => (c9 f (allFK_mem f)).1
  have nc : ∀ f, findIn K (.ref D.C) (fkName f) = some none := fun f => (c9 f (allFK_mem f)).2
  have nb : ∀ b, (biName b == sDebug) = false := fun b => (n3 b (allBK_mem b)).2
  have nv : ∀ b, nsAt K mainGlobals (biName b) = none ∧ nsAt K builtinsNs (biName b) = some (biVal b) := fun b => (n3 b (allBK_mem b)).1
  refine ⟨⟨⟨_, _, m1, m2, nv, n4, n5, n6, n7, n8, n9, fun k x a h1 h2 => ?_⟩, nl, X, f2a, f1a.trans f2a, nb, fun k a fd h1 h2 => fn_of X (f2b k a fd h1 h2), fn_of X f3, c1, c2, ⟨c3, c4⟩, c5, c6, c7, c8, tk, nc, c10, fun k x a h1 h2 => ?_, strVal_of c11, strVal_of c12,
    tab_of X hT.1 hT.2, c13⟩, ⟨⟨_, _, m1, m2, n10, n11⟩, gen_of X f4⟩, ⟨?_, gen_of X f5⟩⟩
  · have := f1b k x false a h1 h2
    simpa [nameIs] using this
  · have := f1b k x true a h1 h2
    simp only [nameIs, if_true, Bool.and_eq_true, decide_eq_true_eq, Bool.not_eq_true'] at this
    exact ⟨this.1.1, this.1.2, this.2⟩
  · obtain ⟨v, hv, n12⟩ := xSome_ex n12
    obtain ⟨i, t, rfl, n12⟩ := vInt_ex n12
    exact ⟨_, t, m1, by rw [hv, beq_iff_eq.mp n12]⟩
end Mine
end
section
namespace Mine
open PySem PySem.W PyProof.Rows

theorem inv_start {P : Par} : Inv P [] [] P.h₀ := ⟨fun _ _ e => e, List.Pairwise.nil, (fun _ h => nomatch h), rfl, fun i a o h _ => by cases i <;> cases h⟩

theorem aok_caller {n : Nat} (h : n ≤ 300) : AOk n callerA := by
  refine ⟨rfl, ?_, ?_⟩
  · show 301 + 2 * n + 2 < 1000; omega
  · show 4 + 12 * n + 100 < 9900; omega

theorem law_ends {K : Frag} {D : Ads} {prog : Program} {w : World} {s : Shared} (F : GF (D.par prog w s.heap K) T ft init ∧ GG (D.par prog w s.heap K) T ∧ GG2 (D.par prog w s.heap K) T) {k n : Nat} {f a : Addr} (hn : n ≤ 140)
    (hk : D.fns[k]? = some f) {vs : Array Value} {l : List Int} (hl : s.heap.IsList a vs) (hi : IntsAre vs.toList l) {σ' : Sto} (run : (ev ft init n).f k [.frz l] [] = some (.bool true, σ')) (hg : s.gens = #[]) {E : Value → Shared → Prop} {Q : Value → Shared → Prop}
    (q : ∀ s', OldK s.heap s'.heap → s'.os = s.os → AllBare s'.gens → Q (.bool true) s') : wpAny (model prog w) callerA (call (.ref f) [.ref a]) Q E s := by
  obtain ⟨G, GE, G2⟩ := F
  have S := (ev_sound G GE G2 n).1
  have h : wpAny (model prog w) callerA (call (.ref f) [.ref a]) (EPost (D.par prog w s.heap K) [] σ' s (.bool true)) E s :=
    S.f run (P := D.par prog w s.heap K) hk inv_start ⟨.ref a, [], rfl, ⟨a, vs, rfl, hl, hi⟩, rfl⟩ (aok_caller (by omega))
  refine wpAny_mono h (fun v s' hp => ?_) fun _ _ x => x
  obtain ⟨ρ', m, I, r⟩ := hp
  cases r
  refine q s' (.of_keep fun b o e => m.step.keep b o e (by simp)) m.step.os (m.step.bare ?_)
  rw [hg]; exact AllBare.empty
end Mine
end
section
set_option linter.unusedSimpArgs false
namespace Mine
open PySem PySem.W PyProof.Rows

/-! ## symbolic evaluation -/
section
variable (ft : List FDef) (init : FDef) (n : Nat)
theorem ev_e (e : IE) (ℓ : Loc) (σ : Sto) : (ev ft init (n + 1)).e e ℓ σ = stepE ft init (ev ft init n) e ℓ σ := rfl
theorem ev_t (e : IE) (ℓ : Loc) (σ : Sto) : (ev ft init (n + 1)).t e ℓ σ = stepT (ev ft init n) e ℓ σ := rfl
theorem ev_b (l : List IS) (ℓ : Loc) (σ : Sto) : (ev ft init (n + 1)).b l ℓ σ = stepB (ev ft init n) l ℓ σ := rfl
theorem ev_f {k : Nat} {fd : FDef} (h : ft[k]? = some fd) (args : List AV) (σ : Sto) : (ev ft init (n + 1)).f k args σ = callFn (ev ft init n) fd args σ := by
  show (oO ft[k]? fun fd => callFn (ev ft init n) fd args σ) = _
  rw [h]; rfl
end

theorem isNext_n : isNext .next = true := rfl
theorem oO_def {α β : Type} (o : Option α) (f : α → Option β) : oO o f = match o with | some a => f a | none => none := rfl
theorem oP_def {α γ β : Type} (o : Option (α × γ)) (f : α → γ → Option β) : oP o f = match o with | some (a, c) => f a c | none => none := rfl
theorem oO_s {α β : Type} (a : α) (f : α → Option β) : oO (some a) f = f a := rfl
theorem oO_n {α β : Type} (f : α → Option β) : oO none f = none := rfl
theorem oP_s {α γ β : Type} (a : α) (c : γ) (f : α → γ → Option β) : oP (some (a, c)) f = f a c := rfl
theorem oP_n {α γ β : Type} (f : α → γ → Option β) : oP none f = none := rfl
theorem gLen {α : Type} (l : List α) : l[l.length]? = none := List.getElem?_eq_none (Nat.le_refl _)

/-- a for loop over given values, by the values -/
noncomputable def forL (r : Rec) (tg : Tg) (body els : List IS) : List AV → Loc → Sto → Option (Fl × Loc × Sto)
  | [], ℓ, σ => r.b els ℓ σ
  | v :: vs, ℓ, σ => oO (bindTg tg v ℓ) fun ℓ => oP (r.b body ℓ σ) fun fl x => match fl with
      | .next => forL r tg body els vs x.1 x.2
      | .brk => some (.next, x)
      | .ret v => some (.ret v, x)
theorem forL_q1 (r : Rec) (tg : Tg) (body els : List IS) : forL r tg body els ([]) (ℓ) (σ) = (r.b els ℓ σ) := rfl
theorem forL_q2 (r : Rec) (tg : Tg) (body els : List IS) : forL r tg body els (v :: vs) (ℓ) (σ) = (oO (bindTg tg v ℓ) fun ℓ => oP (r.b body ℓ σ) fun fl x => match fl with
        | .next => forL r tg body els vs x.1 x.2
        | .brk => some (.next, x)
        | .ret v => some (.ret v, x)) := rfl

theorem forLoop_valsAux (r : Rec) (tg : Tg) (body els : List IS) : ∀ (l pre : List AV) (g : Nat) (ℓ : Loc) (σ : Sto), l.length < g →
    forLoop r tg (.vals (pre ++ l)) body els g pre.length ℓ σ = forL r tg body els l ℓ σ
  | [], pre, g + 1, ℓ, σ, _ => by
    simp only [forLoop_q2, ↓itNext_q1, itNext_q1, List.append_nil, gLen, forL_q1, oO]
  | v :: l, pre, g + 1, ℓ, σ, h => by
    have e : (pre ++ v :: l)[pre.length]? = some v := by simp
    have ih := forLoop_valsAux r tg body els l (pre ++ [v]) g
    have e2 : pre ++ v :: l = (pre ++ [v]) ++ l := by simp
    have e3 : pre.length + 1 = (pre ++ [v]).length := by simp
    show (oO (some (pre ++ v :: l)[pre.length]?) _) = _
    rw [e, e2, e3]
    show (oO (bindTg tg v ℓ) _) = oO (bindTg tg v ℓ) _
    congr 1; funext ℓ; congr 1; funext fl x
    cases fl with
    | next => exact ih x.1 x.2 (by simpa using h)
    | brk => rfl
    | ret v => rfl
theorem forLoop_vals (r : Rec) (tg : Tg) (body els : List IS) (l : List AV) (ℓ : Loc) (σ : Sto) (h : l.length < 100000) :
    forLoop r tg (.vals l) body els gas 0 ℓ σ = forL r tg body els l ℓ σ := forLoop_valsAux r tg body els l [] gas ℓ σ h

noncomputable def compL (inner : Loc → Sto → List AV → Option (Loc × Sto × List AV)) (tg : Tg) : List AV → Loc → Sto → List AV → Option (Loc × Sto × List AV)
  | [], ℓ, σ, acc => some (ℓ, σ, acc)
  | v :: l, ℓ, σ, acc => oO (bindTg tg v ℓ) fun ℓ => oP (inner ℓ σ acc) fun ℓ x => compL inner tg l ℓ x.1 x.2
theorem compL_q1 (inner : Loc → Sto → List AV → Option (Loc × Sto × List AV)) (tg : Tg) : compL inner tg ([]) (ℓ) (σ) (acc) = (some (ℓ, σ, acc)) := rfl
theorem compL_q2 (inner : Loc → Sto → List AV → Option (Loc × Sto × List AV)) (tg : Tg) : compL inner tg (v :: l) (ℓ) (σ) (acc) = (oO (bindTg tg v ℓ) fun ℓ => oP (inner ℓ σ acc) fun ℓ x => compL inner tg l ℓ x.1 x.2) := rfl

theorem compLoop_valsAux (inner : Loc → Sto → List AV → Option (Loc × Sto × List AV)) (tg : Tg) : ∀ (l pre : List AV) (g : Nat) (ℓ : Loc) (σ : Sto) (acc : List AV), l.length < g →
    compLoop inner tg (.vals (pre ++ l)) g pre.length ℓ σ acc = compL inner tg l ℓ σ acc
  | [], pre, g + 1, ℓ, σ, acc, _ => by
    simp only [compLoop_q2, ↓itNext_q1, itNext_q1, List.append_nil, gLen, compL_q1, oO]
  | v :: l, pre, g + 1, ℓ, σ, acc, h => by
    have e : (pre ++ v :: l)[pre.length]? = some v := by simp
    have ih := compLoop_valsAux inner tg l (pre ++ [v]) g
    have e2 : pre ++ v :: l = (pre ++ [v]) ++ l := by simp
    have e3 : pre.length + 1 = (pre ++ [v]).length := by simp
    show (oO (some (pre ++ v :: l)[pre.length]?) _) = _
    rw [e, e2, e3]
    show (oO (bindTg tg v ℓ) _) = oO (bindTg tg v ℓ) _
    congr 1; funext ℓ; congr 1; funext ℓ x
    exact ih ℓ x.1 x.2 (by simpa using h)
theorem compLoop_vals (inner : Loc → Sto → List AV → Option (Loc × Sto × List AV)) (tg : Tg) (l : List AV) (ℓ : Loc) (σ : Sto) (acc : List AV) (h : l.length < 100000) :
    compLoop inner tg (.vals l) gas 0 ℓ σ acc = compL inner tg l ℓ σ acc := compLoop_valsAux inner tg l [] gas ℓ σ acc h

/-- a comprehension over a list of the store, each turn leaving the store as it was -/
theorem compLoop_lstAux (inner : Loc → Sto → List AV → Option (Loc × Sto × List AV)) (x i : Nat) (L : List AV) (F : AV → List AV) (σ : Sto) (hL : listOf? σ i = some L)
    (ℓ : Loc) (hx : x < ℓ.length) (B : Nat) :
    ∀ (l pre : List AV) (g : Nat) (w : Option AV) (acc : List AV), L = pre ++ l → l.length < g → acc.length + l.length ≤ B →
    (∀ v ∈ l, (F v).length ≤ 1 ∧ ∀ acc : List AV, acc.length ≤ B → inner (ℓ.set x (some v)) σ acc = some (ℓ.set x (some v), σ, acc ++ F v)) →
    ∃ w', compLoop inner (.one x) (.lst i) g pre.length (ℓ.set x w) σ acc = some (ℓ.set x w', σ, acc ++ l.flatMap F)
  | [], pre, g + 1, w, acc, e, _, _, _ => by
    subst e
    refine ⟨w, ?_⟩
    simp only [compLoop_q2, ↓itNext_q2, itNext_q2, hL, List.append_nil, gLen, List.flatMap_nil, oO]
  | v :: l, pre, g + 1, w, acc, e, h, hB, hi => by
    subst e
    have e1 : (pre ++ v :: l)[pre.length]? = some v := by simp
    have e3 : pre.length + 1 = (pre ++ [v]).length := by simp
    have hb : bindTg (.one x) v (ℓ.set x w) = some (ℓ.set x (some v)) := by
      have : Nat.blt x (ℓ.set x w).length = true := by rw [List.length_set]; exact Nat.ble_eq.mpr hx
      simp only [↓bindTg_q1, bindTg_q1, this, if_true, List.set_set]
    have hv := hi v (List.mem_cons_self ..)
    obtain ⟨w', ih⟩ := compLoop_lstAux inner x i (pre ++ v :: l) F σ hL ℓ hx B l (pre ++ [v]) g (some v) (acc ++ F v) (by simp) (by simpa using h) (by have := hv.1; simp only [List.length_append, List.length_cons] at hB ⊢; omega) (fun u hu => hi u (List.mem_cons_of_mem _ hu))
    refine ⟨w', ?_⟩
    simp only [compLoop_q2, ↓itNext_q2, itNext_q2, hL, e1, hb, hv.2 acc (by omega), oO, oP]
    rw [e3, ih]
    simp
theorem compLoop_lst (inner : Loc → Sto → List AV → Option (Loc × Sto × List AV)) (x i : Nat) (L : List AV) (F : AV → List AV) (σ : Sto) (hL : listOf? σ i = some L)
    (ℓ : Loc) (hx : x < ℓ.length) (hg : L.length < 100000)
    (hi : ∀ v ∈ L, (F v).length ≤ 1 ∧ ∀ acc : List AV, acc.length ≤ L.length → inner (ℓ.set x (some v)) σ acc = some (ℓ.set x (some v), σ, acc ++ F v)) :
    ∃ ℓ', compLoop inner (.one x) (.lst i) gas 0 ℓ σ [] = some (ℓ', σ, L.flatMap F) := by
  have hs : ∃ w, ℓ = ℓ.set x w := ⟨ℓ[x], by simp⟩
  obtain ⟨w, hw⟩ := hs
  obtain ⟨w', h⟩ := compLoop_lstAux inner x i L F σ hL ℓ hx L.length L [] gas w [] rfl hg (by simp) hi
  rw [← hw] at h
  exact ⟨_, h⟩

theorem compL_map (inner : Loc → Sto → List AV → Option (Loc × Sto × List AV)) (x : Nat) (F : AV → List AV) (σ : Sto)
    (ℓ : Loc) (hx : x < ℓ.length) (B : Nat) :
    ∀ (l : List AV) (w : Option AV) (acc : List AV), acc.length + l.length ≤ B →
    (∀ v ∈ l, (F v).length ≤ 1 ∧ ∀ acc : List AV, acc.length ≤ B → inner (ℓ.set x (some v)) σ acc = some (ℓ.set x (some v), σ, acc ++ F v)) →
    ∃ w', compL inner (.one x) l (ℓ.set x w) σ acc = some (ℓ.set x w', σ, acc ++ l.flatMap F)
  | [], w, acc, _, _ => ⟨w, by simp [compL_q1]⟩
  | v :: l, w, acc, hB, hi => by
    have hb : bindTg (.one x) v (ℓ.set x w) = some (ℓ.set x (some v)) := by
      have : Nat.blt x (ℓ.set x w).length = true := by rw [List.length_set]; exact Nat.ble_eq.mpr hx
      simp only [↓bindTg_q1, bindTg_q1, this, if_true, List.set_set]
    have hv := hi v (List.mem_cons_self ..)
    obtain ⟨w', ih⟩ := compL_map inner x F σ ℓ hx B l (some v) (acc ++ F v) (by have := hv.1; simp only [List.length_append, List.length_cons] at hB ⊢; omega) (fun u hu => hi u (List.mem_cons_of_mem _ hu))
    refine ⟨w', ?_⟩
    simp only [compL_q2, hb, hv.2 acc (by omega), oO, oP]
    rw [ih]; simp
/-- a comprehension over given values -/
theorem compLoop_map (inner : Loc → Sto → List AV → Option (Loc × Sto × List AV)) (x : Nat) (L : List AV) (F : AV → List AV) (σ : Sto)
    (ℓ : Loc) (hx : x < ℓ.length) (hg : L.length < 100000)
    (hi : ∀ v ∈ L, (F v).length ≤ 1 ∧ ∀ acc : List AV, acc.length ≤ L.length → inner (ℓ.set x (some v)) σ acc = some (ℓ.set x (some v), σ, acc ++ F v)) :
    ∃ ℓ', compLoop inner (.one x) (.vals L) gas 0 ℓ σ [] = some (ℓ', σ, L.flatMap F) := by
  have hs : ∃ w, ℓ = ℓ.set x w := ⟨ℓ[x], by simp⟩
  obtain ⟨w, hw⟩ := hs
  obtain ⟨w', h⟩ := compL_map inner x F σ ℓ hx L.length L w [] (by simp) hi
  rw [← hw, ← compLoop_vals inner _ L ℓ σ [] hg] at h
  exact ⟨_, h⟩
theorem map_flatMap {α β γ : Type} (f : α → β) (g : β → List γ) : ∀ l : List α, (l.map f).flatMap g = l.flatMap fun x => g (f x)
  | [] => rfl
  | x :: l => by simp only [List.map_cons, List.flatMap_cons, map_flatMap f g l]
theorem flatMap_one {α γ : Type} (g : α → γ) : ∀ l : List α, (l.flatMap fun x => [g x]) = l.map g
  | [] => rfl
  | x :: l => by simp only [List.map_cons, List.flatMap_cons, flatMap_one g l, List.cons_append, List.nil_append]

/-- what follows a statement, and the end of a call -/
noncomputable def seqB (r : Rec) (o : Option (Fl × Loc × Sto)) (rest : List IS) : Option (Fl × Loc × Sto) := oP o fun fl x => match fl with
  | .next => stepB r rest x.1 x.2
  | .brk => some (.brk, x)
  | .ret v => some (.ret v, x)
noncomputable def endC (n : Nat) (o : Option (Fl × Loc × Sto)) : Option (AV × Sto) := oP o fun fl x => oO (flowV fl) fun v => close n v x.2

/-! list places at the end of the store -/
theorem sget0 (σ : Sto) (a : AO) (t : Sto) : (σ ++ a :: t)[σ.length]? = some a := by simp
theorem sget1 (σ : Sto) (a b : AO) (t : Sto) : (σ ++ a :: b :: t)[σ.length + 1]? = some b := by
  rw [List.getElem?_append_right (by omega), show σ.length + 1 - σ.length = 1 by omega]; rfl
theorem lof0 (σ : Sto) (l : List AV) (t : Sto) : listOf? (σ ++ .list l :: t) σ.length = some l := by simp [listOf?]
theorem lof1 (σ : Sto) (a : AO) (l : List AV) (t : Sto) : listOf? (σ ++ a :: .list l :: t) (σ.length + 1) = some l := by
  unfold listOf?; rw [sget1]
theorem sat0 (σ : Sto) (a : AO) (l : List AV) (t : Sto) : setAt (σ ++ a :: t) σ.length l = σ ++ .list l :: t := by simp [setAt]
theorem take0 (σ t : Sto) : (σ ++ t).take σ.length = σ := by simp
theorem take0' (σ : Sto) : σ.take σ.length = σ := by simp
theorem listOf_app {σ : Sto} {i : Nat} {l : List AV} (h : listOf? σ i = some l) (τ : Sto) : listOf? (σ ++ τ) i = some l := by
  unfold listOf? at h ⊢
  cases hh : σ[i]? with
  | none => simp [hh] at h
  | some a =>
    have hi : i < σ.length := by
      rcases Nat.lt_or_ge i σ.length with x | x
      · exact x
      · rw [List.getElem?_eq_none x] at hh; cases hh
    rw [List.getElem?_append_left hi, hh]; rw [hh] at h; exact h
theorem listOf_lt {σ : Sto} {i : Nat} {l : List AV} (h : listOf? σ i = some l) : i < σ.length := by
  unfold listOf? at h
  rcases Nat.lt_or_ge i σ.length with x | x
  · exact x
  · rw [List.getElem?_eq_none x] at h; cases h
theorem asInts_map : ∀ l : List Int, asInts (l.map .int) = some l
  | [] => rfl
  | x :: l => by show oO (asInts (l.map .int)) _ = _; rw [asInts_map l]; rfl
theorem asStrs_map : ∀ l : List (List Nat), asStrs (l.map .str) = some l
  | [] => rfl
  | x :: l => by show oO (asStrs (l.map .str)) _ = _; rw [asStrs_map l]; rfl
theorem cbels_ints (n : Nat) : ∀ l : List Int, bels n (l.map .int) = true
  | [] => rfl
  | x :: l => by simp only [List.map_cons, belsC, belI, cbels_ints n l, Bool.and_self]
theorem cbels_strs (n : Nat) : ∀ l : List (List Nat), bels n (l.map .str) = true
  | [] => rfl
  | x :: l => by simp only [List.map_cons, belsC, belS, cbels_strs n l, Bool.and_self]
end Mine
end
section
set_option linter.unusedSimpArgs false
namespace Mine
open PySem PySem.W PyProof.Rows

noncomputable def escP (pos : Nat) (esc : Bool) : List Nat → List (Int × List Nat)
  | [] => if esc then [((pos : Int) - 1, [92])] else []
  | c :: l => if esc then ((pos : Int), [92, c]) :: escP (pos + 1) false l
      else if c == 92 then escP (pos + 1) true l
      else ((pos : Int), [c]) :: escP (pos + 1) false l
theorem escP_q1 (pos : Nat) (esc : Bool) : escP pos esc ([]) = (if esc then [((pos : Int) - 1, [92])] else []) := rfl
theorem escP_q2 (pos : Nat) (esc : Bool) : escP pos esc (c :: l) = (if esc then ((pos : Int), [92, c]) :: escP (pos + 1) false l
        else if c == 92 then escP (pos + 1) true l
        else ((pos : Int), [c]) :: escP (pos + 1) false l) := rfl
noncomputable def encP (p : Int × List Nat) : AV := .tup [.int p.1, .str p.2]
theorem escGo_eq : ∀ (l : List Nat) (pos : Nat) (esc : Bool), escGo pos esc l = (escP pos esc l).map encP
  | [], pos, esc => by cases esc <;> rfl
  | c :: l, pos, true => by simp only [escGo_q2, escP_q2, if_true, List.map_cons, encP, escGo_eq l]
  | c :: l, pos, false => by
    cases h : (c == 92) <;> simp [escGo_q2, escP_q2, h, encP, escGo_eq l]
theorem escP_len : ∀ (l : List Nat) (pos : Nat) (esc : Bool), (escP pos esc l).length ≤ l.length + 1
  | [], pos, esc => by cases esc <;> simp [escP_q1]
  | c :: l, pos, true => by have := escP_len l (pos + 1) false; simp [escP_q2]; omega
  | c :: l, pos, false => by
    have := escP_len l (pos + 1) false; have := escP_len l (pos + 1) true
    cases h : (c == 92) <;> simp [escP_q2, h] <;> omega

noncomputable def okI (i : Int) : Bool := decide (0 ≤ i) && decide (i ≤ 1000000)
noncomputable def stripLoop (s : List Nat) : List (Int × List Nat) → Int → Option Int → List (List Nat) → Option (Int × List (List Nat))
  | [], i, _, acc => some (i, acc)
  | p :: ps, i, q, acc => if p.2 == [34] then (match q with
      | none => stripLoop s ps i (some p.1) acc
      | some q => if i != q then (if okI i && okI q && Nat.ble acc.length lim then stripLoop s ps (p.1 + 1) none (acc ++ [cut s (some i.toNat) (some q.toNat)]) else none)
          else stripLoop s ps (p.1 + 1) none acc)
    else stripLoop s ps i q acc
theorem stripLoop_q1 (s : List Nat) : stripLoop s ([]) (i) (u1') (acc) = (some (i, acc)) := rfl
theorem stripLoop_q2 (s : List Nat) : stripLoop s (p :: ps) (i) (q) (acc) = (if p.2 == [34] then (match q with
        | none => stripLoop s ps i (some p.1) acc
        | some q => if i != q then (if okI i && okI q && Nat.ble acc.length lim then stripLoop s ps (p.1 + 1) none (acc ++ [cut s (some i.toNat) (some q.toNat)]) else none)
            else stripLoop s ps (p.1 + 1) none acc)
      else stripLoop s ps i q acc) := rfl
noncomputable def stripEnd (s : List Nat) (i : Int) (acc : List (List Nat)) : Option (List (List Nat)) :=
  if decide (i < s.length) then (if okI i && Nat.ble acc.length lim then some (acc ++ [cut s (some i.toNat) none]) else none) else some acc
noncomputable def stripF (s : List Nat) : Option (List Nat) :=
  if !(s.any (· == 34)) then some s
  else if s.all (Nat.blt · 128) && Nat.blt s.length 10000 then
    (match stripLoop s (escP 0 false s) 0 none [] with
    | some (i, acc) => (match stripEnd s i acc with
      | some acc => if Nat.ble (sumLen acc + 0 * acc.length) lim then some (joinS [] acc) else none
      | none => none)
    | none => none)
  else none

noncomputable def bodyS : List IS := [.ifS (.cmp .eq (.var 5) (.lit (.str [34]))) [.ifS (.cmp .is (.var 2) (.lit .none)) [.assign 2 (.var 4)] [.ifS (.cmp .ne (.var 1) (.var 2)) [.expr (.meth .append (.var 3) [(.slice (.var 0) (some (.var 1)) (some (.var 2)))])] [], .assign 1 (.bin .add (.var 4) (.lit (.int 1))), .assign 2 (.lit .none)]] []]
noncomputable def qv : Option Int → AV
  | none => .none
  | some q => .int q

theorem bound_ok {i : Int} (h : okI i = true) : bound? (some (.int i)) = some (some i.toNat) := by
  show (if okI i = true then some (some i.toNat) else none) = _; rw [h]; rfl

theorem bound_none : bound? none = some none := rfl

theorem strip_loop (ft : List FDef) (init : FDef) (n : Nat) (s : List Nat) (hs : s.length < 10000) (σ : Sto) :
    ∀ (ps : List (Int × List Nat)) (i : Int) (q : Option Int) (acc : List (List Nat)) (x4 x5 : Option AV) (i' : Int) (acc' : List (List Nat)),
    stripLoop s ps i q acc = some (i', acc') →
    ∃ y2 y4 y5, forL (ev ft init (n + 8)) (.many [4, 5]) bodyS [] (ps.map encP) [some (.str s), some (.int i), some (qv q), some (.ref σ.length), x4, x5, none, none] (σ ++ [.list (acc.map .str)])
      = some (.next, [some (.str s), some (.int i'), y2, some (.ref σ.length), y4, y5, none, none], σ ++ [.list (acc'.map .str)])
  | [], i, q, acc, x4, x5, i', acc', h => by
    simp only [stripLoop_q1, Option.some.injEq, Prod.mk.injEq] at h
    obtain ⟨rfl, rfl⟩ := h
    exact ⟨_, _, _, rfl⟩
  | p :: ps, i, q, acc, x4, x5, i', acc', h => by
    have hl : Nat.ble s.length lim = true := Nat.ble_eq.mpr (Nat.le_trans (Nat.le_of_lt hs) (by decide))
    (first | rewrite [stripLoop_q2] at h | rewrite [stripLoop_q1] at h)
    cases hp : (p.2 == [34]) with
    | false =>
      simp only [hp, if_false, Bool.false_eq_true] at h
      obtain ⟨y2, y4, y5, ih⟩ := strip_loop ft init n s hs σ ps i q acc (some (.int p.1)) (some (.str p.2)) i' acc' h
      refine ⟨y2, y4, y5, ?_⟩
      rw [List.map_cons, ← ih]
      simp only [forL_q2, encP, bodyS, ↓cEq_q2, cEq_q2, ↓oS_q1, oS_q1, ↓oT_q1, oT_q1, ↓oO_def, ↓oP_def, ↓tK_v3, tK_v3, Option.join_some, ev_e, ev_t, ev_b, stepB_q1, stepB_q2, ↓stepS_q13, stepS_q13, ↓stepE_q1, stepE_q1, ↓stepE_q2, stepE_q2, ↓stepE_q8, stepE_q8, stepT, ↓bindTg_q2, bindTg_q2, setSlots_q1, setSlots_q2, List.getElem?_cons_zero, List.getElem?_cons_succ, List.set_cons_zero, List.set_cons_succ, List.length_cons, List.length_nil, Nat.blt_eq, Nat.reduceAdd, Nat.reduceLT, Nat.zero_add, if_true, if_false, ↓truthV_q1, truthV_q1, Bool.false_eq_true, ↓cmpop_q1, cmpop_q1, hp]
    | true =>
      simp only [hp, if_true] at h
      cases q with
      | none =>
        obtain ⟨y2, y4, y5, ih⟩ := strip_loop ft init n s hs σ ps i (some p.1) acc (some (.int p.1)) (some (.str p.2)) i' acc' h
        refine ⟨y2, y4, y5, ?_⟩
        rw [List.map_cons, ← ih]
        simp only [forL_q2, encP, bodyS, ↓cEq_q2, cEq_q2, ↓cIs_q1, cIs_q1, ↓oS_q1, oS_q1, ↓oT_q1, oT_q1, ↓oO_def, ↓oP_def, ↓tK_v3, tK_v3, Option.join_some, ev_e, ev_t, ev_b, stepB_q1, stepB_q2, ↓stepS_q1, stepS_q1, ↓stepS_q13, stepS_q13, ↓stepE_q1, stepE_q1, ↓stepE_q2, stepE_q2, ↓stepE_q8, stepE_q8, stepT, ↓bindTg_q2, bindTg_q2, setSlots_q1, setSlots_q2, List.getElem?_cons_zero, List.getElem?_cons_succ, List.set_cons_zero, List.set_cons_succ, List.length_cons, List.length_nil, Nat.blt_eq, Nat.reduceAdd, Nat.reduceLT, Nat.zero_add, if_true, ↓truthV_q1, truthV_q1, ↓cmpop_q1, cmpop_q1, ↓cmpop_q7, cmpop_q7, hp, qv, isNoneV]
      | some q =>
        cases hi : (i != q) with
        | false =>
          simp only [hi, if_false, Bool.false_eq_true] at h
          obtain ⟨y2, y4, y5, ih⟩ := strip_loop ft init n s hs σ ps (p.1 + 1) none acc (some (.int p.1)) (some (.str p.2)) i' acc' h
          refine ⟨y2, y4, y5, ?_⟩
          rw [List.map_cons, ← ih]
          simp only [forL_q2, encP, bodyS, ↓bAdd_q1, bAdd_q1, ↓cEq_q2, cEq_q2, ↓cNe_q1, cNe_q1, ↓cIs_q1, cIs_q1, ↓oI_q1, oI_q1, ↓oS_q1, oS_q1, ↓oT_q1, oT_q1, ↓oO_def, ↓oP_def, ↓tK_v3, tK_v3, Option.join_some, ev_e, ev_t, ev_b, stepB_q1, stepB_q2, ↓stepS_q1, stepS_q1, ↓stepS_q13, stepS_q13, ↓stepE_q1, stepE_q1, ↓stepE_q2, stepE_q2, ↓stepE_q3, stepE_q3, ↓stepE_q8, stepE_q8, stepT, ↓bindTg_q2, bindTg_q2, setSlots_q1, setSlots_q2, List.getElem?_cons_zero, List.getElem?_cons_succ, List.set_cons_zero, List.set_cons_succ, List.length_cons, List.length_nil, Nat.blt_eq, Nat.reduceAdd, Nat.reduceLT, Nat.zero_add, if_true, if_false, ↓truthV_q1, truthV_q1, Bool.false_eq_true, ↓cmpop_q1, cmpop_q1, ↓cmpop_q2, cmpop_q2, ↓cmpop_q7, cmpop_q7, hp, qv, isNoneV, hi, ↓binop_q1, binop_q1]
        | true =>
          simp only [hi, if_true] at h
          cases hk : (okI i && okI q && Nat.ble acc.length lim) with
          | false => rw [hk] at h; simp at h
          | true =>
            simp only [hk, if_true] at h
            simp only [Bool.and_eq_true] at hk
            obtain ⟨⟨h1, h2⟩, h3⟩ := hk
            obtain ⟨y2, y4, y5, ih⟩ := strip_loop ft init n s hs σ ps (p.1 + 1) none _ (some (.int p.1)) (some (.str p.2)) i' acc' h
            refine ⟨y2, y4, y5, ?_⟩
            rw [List.map_cons, ← ih]
            have h3' : Nat.ble (acc.map AV.str).length lim = true := by rw [List.length_map]; exact h3
            have h4 : (i == q) = false := by simpa [bne] using hi
            simp only [forL_q2, encP, bodyS, ↓bAdd_q1, bAdd_q1, ↓cEq_q2, cEq_q2, ↓cNe_q1, cNe_q1, ↓cIs_q1, cIs_q1, ↓oI_q1, oI_q1, ↓oS_q1, oS_q1, ↓oR_q1, oR_q1, ↓oT_q1, oT_q1, ↓oOne_q1, oOne_q1, ↓oO_def, ↓oP_def, ↓oN_q1, oN_q1, ↓tK_v3, tK_v3, ↓slicev_q1, slicev_q1, Option.join_some, ev_e, ev_t, ev_b, stepB_q1, stepB_q2, ↓stepS_q1, stepS_q1, ↓stepS_q8, stepS_q8, ↓stepS_q13, stepS_q13, ↓stepE_q1, stepE_q1, ↓stepE_q2, stepE_q2, ↓stepE_q3, stepE_q3, ↓stepE_q8, stepE_q8, ↓stepE_q12, stepE_q12, ↓stepE_q18, stepE_q18, stepT, evEs_q1, evEs_q2, ↓evO_q2, evO_q2, ↓bindTg_q2, bindTg_q2, setSlots_q1, setSlots_q2, List.getElem?_cons_zero, List.getElem?_cons_succ, List.set_cons_zero, List.set_cons_succ, List.length_cons, List.length_nil, Nat.blt_eq, Nat.reduceAdd, Nat.reduceLT, Nat.zero_add, if_true, if_false, ↓truthV_q1, truthV_q1, Bool.false_eq_true, Bool.and_self, ↓cmpop_q1, cmpop_q1, ↓cmpop_q2, cmpop_q2, ↓cmpop_q7, cmpop_q7, hp, qv, isNoneV, hi, ↓binop_q1, binop_q1, sliceop, bound_ok h1, bound_ok h2, ↓hasMeth_q2, hasMeth_q2, lof0, Option.isSome, ↓method_q1, method_q1, belS, h3, sat0, hl, List.length_map, List.map_append, List.map_cons, List.map_nil]

noncomputable def irStrip : FDef := ⟨[0], 8, [.ifS (.cmp .notIn (.lit (.str [34])) (.var 0)) [.ret (.var 0)] [], .assign 1 (.lit (.int 0)), .assign 2 (.lit .none), .assign 3 (.list []), .forE (.many [4, 5]) (.var 0) [.ifS (.cmp .eq (.var 5) (.lit (.str [34]))) [.ifS (.cmp .is (.var 2) (.lit .none)) [.assign 2 (.var 4)] [.ifS (.cmp .ne (.var 1) (.var 2)) [.expr (.meth .append (.var 3) [(.slice (.var 0) (some (.var 1)) (some (.var 2)))])] [], .assign 1 (.bin .add (.var 4) (.lit (.int 1))), .assign 2 (.lit .none)]] []] [], .ifS (.cmp .lt (.var 1) (.bi .len [(.var 0)])) [.expr (.meth .append (.var 3) [(.slice (.var 0) (some (.var 1)) none)])] [], .ret (.meth .join (.lit (.str [])) [(.var 3)])]⟩
theorem strip_call (ft : List FDef) (init : FDef) (k : Nat) (hk : ft[k]? = some irStrip) (n : Nat) (σ : Sto) (s r : List Nat) (h : stripF s = some r) :
    (ev ft init (n + 10)).f k [.str s] σ = some (.str r, σ) := by
  rw [ev_f ft init (n + 9) hk]
  unfold stripF at h
  cases h0 : (s.any (· == 34)) with
  | false =>
    simp only [h0, Bool.not_false, if_true, Option.some.injEq] at h
    subst h
    simp only [callFn, irStrip, bindArgsL, List.replicate_succ, List.replicate_zero, ↓cNotS_q1, cNotS_q1, ↓cNotIn_q1, cNotIn_q1, ↓oO_def, ↓oP_def, ↓tK_v3, tK_v3, ↓flowV_q2, flowV_q2, closeV, Option.join_some, ev_e, ev_t, ev_b, stepB_q2, ↓stepS_q13, stepS_q13, ↓stepS_q14, stepS_q14, ↓stepE_q1, stepE_q1, ↓stepE_q2, stepE_q2, ↓stepE_q8, stepE_q8, stepT, setSlots_q1, setSlots_q2, List.getElem?_cons_zero, List.set_cons_zero, List.length_cons, List.length_nil, Nat.blt_eq, Nat.reduceAdd, Nat.zero_add, if_true, ↓truthV_q1, truthV_q1, Nat.zero_lt_succ, Bool.not_false, ↓cmpop_q10, cmpop_q10, h0, ↓close_v1, close_v1, belS, take0']
  | true =>
    simp only [h0, Bool.not_true, if_false, Bool.false_eq_true] at h
    cases h1 : (s.all (Nat.blt · 128) && Nat.blt s.length 10000) with
    | false => rw [h1] at h; simp at h
    | true =>
      simp only [h1, if_true] at h
      simp only [Bool.and_eq_true] at h1
      obtain ⟨h1, h2⟩ := h1
      have h2' : s.length < 10000 := Nat.ble_eq.mp h2
      cases h3 : stripLoop s (escP 0 false s) 0 none [] with
      | none => rw [h3] at h; simp at h
      | some x =>
        obtain ⟨i, acc⟩ := x
        simp only [h3] at h
        cases h4 : stripEnd s i acc with
        | none => rw [h4] at h; simp at h
        | some acc' =>
          simp only [h4] at h
          cases h5 : Nat.ble (sumLen acc' + 0 * acc'.length) lim with
          | false => rw [h5] at h; simp at h
          | true =>
            simp only [h5, if_true, Option.some.injEq] at h
            subst h
            have h5' : sumLen acc' ≤ lim := by have := Nat.ble_eq.mp h5; omega
            obtain ⟨y2, y4, y5, hl⟩ := strip_loop ft init n s h2' σ (escP 0 false s) 0 none [] none none i acc h3
            have hlen : ((escP 0 false s).map encP).length < 100000 := by
              have := escP_len s 0 false; rw [List.length_map]; omega
            have h1' := List.all_eq_true.mp h1
            have hll : Nat.ble s.length lim = true := Nat.ble_eq.mpr (Nat.le_trans (Nat.le_of_lt h2') (by decide))
            have hlf := forLoop_vals (ev ft init (n + 8)) (.many [4, 5]) bodyS [] ((escP 0 false s).map encP) [some (.str s), some (.int 0), some .none, some (.ref σ.length), none, none, none, none] (σ ++ [.list []]) hlen
            rw [← escGo_eq] at hlf hl
            simp only [callFn, irStrip, bindArgsL, List.replicate_succ, List.replicate_zero, ↓cNotS_q1, cNotS_q1, ↓cNotIn_q1, cNotIn_q1, ↓oS_q1, oS_q1, ↓oO_def, ↓oP_def, ↓tK_v3, tK_v3, Option.join_some, ev_e, ev_t, ev_b, stepB_q1, stepB_q2, ↓stepS_q1, stepS_q1, ↓stepS_q10, stepS_q10, ↓stepS_q13, stepS_q13, ↓stepS_q14, stepS_q14, ↓stepE_q1, stepE_q1, ↓stepE_q2, stepE_q2, ↓stepE_q8, stepE_q8, ↓stepE_q10, stepE_q10, ↓stepE_q17, stepE_q17, ↓stepE_q18, stepE_q18, stepT, evEs_q1, evEs_q2, setSlots_q1, setSlots_q2, List.getElem?_cons_zero, List.set_cons_zero, List.set_cons_succ, List.length_cons, List.length_nil, Nat.blt_eq, Nat.reduceAdd, Nat.reduceLT, Nat.zero_add, if_true, if_false, ↓truthV_q1, truthV_q1, Nat.zero_lt_succ, Bool.false_eq_true, Bool.not_true, ↓cmpop_q3, cmpop_q3, ↓cmpop_q10, cmpop_q10, h0, endComp, belsN, h1]
            simp only [bodyS] at hlf hl
            simp only [List.map_nil, qv] at hl
            rw [hlf, hl]
            unfold stripEnd at h4
            cases h6 : decide (i < s.length) with
            | false =>
              simp only [h6, if_false, Bool.false_eq_true, Option.some.injEq] at h4
              subst h4
              simp only [↓bLen_q1, bLen_q1, ↓oI_q1, oI_q1, ↓oS_q1, oS_q1, ↓oR_q1, oR_q1, ↓oOne_q1, oOne_q1, ↓oO_def, ↓flowV_q2, flowV_q2, closeV, Option.join_some, stepB_q1, List.getElem?_cons_zero, List.getElem?_cons_succ, List.length_nil, Nat.ble_eq, if_true, if_false, ↓truthV_q1, truthV_q1, Bool.false_eq_true, ↓bifn_q1, bifn_q1, hll, h6, ↓hasMeth_q1, hasMeth_q1, ↓method_q5, method_q5, lof0, asStrs_map, h5', ↓close_v1, close_v1, belS, take0, List.length_nil, Nat.zero_mul, Nat.add_zero]
            | true =>
              simp only [h6, if_true] at h4
              cases h7 : (okI i && Nat.ble acc.length lim) with
              | false => rw [h7] at h4; simp at h4
              | true =>
                simp only [h7, if_true, Option.some.injEq] at h4
                subst h4
                simp only [Bool.and_eq_true] at h7
                obtain ⟨h7, h8⟩ := h7
                have e1 := asStrs_map (acc ++ [cut s (some i.toNat) none])
                simp only [List.map_append, List.map_cons, List.map_nil] at e1
                simp only [↓bLen_q1, bLen_q1, ↓oI_q1, oI_q1, ↓oS_q1, oS_q1, ↓oR_q1, oR_q1, ↓oOne_q1, oOne_q1, ↓oO_def, ↓oP_def, ↓oN_q1, oN_q1, ↓flowV_q2, flowV_q2, ↓slicev_q1, slicev_q1, closeV, Option.join_some, ev_e, stepB_q1, stepB_q2, ↓stepS_q8, stepS_q8, ↓stepE_q2, stepE_q2, ↓stepE_q12, stepE_q12, ↓stepE_q18, stepE_q18, evEs_q1, evEs_q2, ↓evO_q1, evO_q1, ↓evO_q2, evO_q2, List.getElem?_cons_zero, List.getElem?_cons_succ, List.length_nil, Nat.ble_eq, if_true, ↓truthV_q1, truthV_q1, Bool.true_and, ↓bifn_q1, bifn_q1, hll, h6, ↓hasMeth_q1, hasMeth_q1, ↓hasMeth_q2, hasMeth_q2, ↓method_q1, method_q1, ↓method_q5, method_q5, lof0, Nat.ble_eq.mp h8, e1, h5', ↓close_v1, close_v1, belS, take0, List.length_nil, Nat.zero_mul, Nat.add_zero, sliceop, bound_ok h7, bound_none, sat0, List.length_map, Option.isSome]

/-! check_parenthesis -/
noncomputable def chkLoop : List (Int × List Nat) → Int → Bool
  | [], d => d == 0
  | p :: ps, d => if p.2 == [40] then chkLoop ps (d + 1) else if p.2 == [41] then (if decide (d - 1 < 0) then false else chkLoop ps (d - 1)) else chkLoop ps d
theorem chkLoop_q1  : chkLoop ([]) (d) = (d == 0) := rfl
theorem chkLoop_q2  : chkLoop (p :: ps) (d) = (if p.2 == [40] then chkLoop ps (d + 1) else if p.2 == [41] then (if decide (d - 1 < 0) then false else chkLoop ps (d - 1)) else chkLoop ps d) := rfl
noncomputable def parF (s : List Nat) : Option Bool := match stripF s with
  | some r => if r.all (Nat.blt · 128) && Nat.blt r.length 10000 then some (chkLoop (escP 0 false r) 0) else none
  | none => none
noncomputable def irCheck (k : Nat) : FDef := ⟨[0], 6, [.assign 0 (.call k [(.var 0)]), .assign 1 (.lit (.int 0)), .forE (.many [2, 3]) (.var 0) [.ifS (.cmp .eq (.var 3) (.lit (.str [40]))) [.aug 1 .add (.lit (.int 1))] [.ifS (.cmp .eq (.var 3) (.lit (.str [41]))) [.aug 1 .sub (.lit (.int 1)), .ifS (.cmp .lt (.var 1) (.lit (.int 0))) [.ret (.lit (.bool false))] []] []]] [], .ret (.cmp .eq (.var 1) (.lit (.int 0)))]⟩
noncomputable def bodyC : List IS := [.ifS (.cmp .eq (.var 3) (.lit (.str [40]))) [.aug 1 .add (.lit (.int 1))] [.ifS (.cmp .eq (.var 3) (.lit (.str [41]))) [.aug 1 .sub (.lit (.int 1)), .ifS (.cmp .lt (.var 1) (.lit (.int 0))) [.ret (.lit (.bool false))] []] []]]

theorem check_loop (ft : List FDef) (init : FDef) (n : Nat) (s : List Nat) (σ : Sto) :
    ∀ (ps : List (Int × List Nat)) (d : Int) (x2 x3 : Option AV),
    (∃ ℓ, forL (ev ft init (n + 8)) (.many [2, 3]) bodyC [] (ps.map encP) [some (.str s), some (.int d), x2, x3, none, none] σ = some (.ret (.bool false), ℓ, σ) ∧ chkLoop ps d = false) ∨
    (∃ y2 y3 e, forL (ev ft init (n + 8)) (.many [2, 3]) bodyC [] (ps.map encP) [some (.str s), some (.int d), x2, x3, none, none] σ = some (.next, [some (.str s), some (.int e), y2, y3, none, none], σ) ∧ chkLoop ps d = (e == 0))
  | [], d, x2, x3 => .inr ⟨_, _, _, rfl, rfl⟩
  | p :: ps, d, x2, x3 => by
    (first | rewrite [chkLoop_q2] | rewrite [chkLoop_q1])
    cases hp : (p.2 == [40]) with
    | true =>
      have ih := check_loop ft init n s σ ps (d + 1) (some (.int p.1)) (some (.str p.2))
      have e : forL (ev ft init (n + 8)) (.many [2, 3]) bodyC [] ((p :: ps).map encP) [some (.str s), some (.int d), x2, x3, none, none] σ = forL (ev ft init (n + 8)) (.many [2, 3]) bodyC [] (ps.map encP) [some (.str s), some (.int (d + 1)), some (.int p.1), some (.str p.2), none, none] σ := by
        simp only [List.map_cons, forL_q2, encP, bodyC, ↓cEq_q2, cEq_q2, ↓oI_q1, oI_q1, ↓oS_q1, oS_q1, ↓oT_q1, oT_q1, ↓oO_def, ↓oP_def, ↓tK_v3, tK_v3, Option.join_some, ev_e, ev_t, ev_b, stepB_q1, stepB_q2, ↓stepS_q7, stepS_q7, ↓stepS_q13, stepS_q13, ↓stepE_q1, stepE_q1, ↓stepE_q2, stepE_q2, ↓stepE_q8, stepE_q8, stepT, ↓bindTg_q2, bindTg_q2, setSlots_q1, setSlots_q2, List.getElem?_cons_zero, List.getElem?_cons_succ, List.set_cons_zero, List.set_cons_succ, List.length_cons, List.length_nil, Nat.blt_eq, Nat.reduceAdd, Nat.reduceLT, Nat.zero_add, if_true, ↓truthV_q1, truthV_q1, ↓cmpop_q1, cmpop_q1, hp, augop]
      rw [e]; exact ih
    | false =>
      cases hq : (p.2 == [41]) with
      | false =>
        have ih := check_loop ft init n s σ ps d (some (.int p.1)) (some (.str p.2))
        have e : forL (ev ft init (n + 8)) (.many [2, 3]) bodyC [] ((p :: ps).map encP) [some (.str s), some (.int d), x2, x3, none, none] σ = forL (ev ft init (n + 8)) (.many [2, 3]) bodyC [] (ps.map encP) [some (.str s), some (.int d), some (.int p.1), some (.str p.2), none, none] σ := by
          simp only [List.map_cons, forL_q2, encP, bodyC, ↓cEq_q2, cEq_q2, ↓oS_q1, oS_q1, ↓oT_q1, oT_q1, ↓oO_def, ↓oP_def, ↓tK_v3, tK_v3, Option.join_some, ev_e, ev_t, ev_b, stepB_q1, stepB_q2, ↓stepS_q13, stepS_q13, ↓stepE_q1, stepE_q1, ↓stepE_q2, stepE_q2, ↓stepE_q8, stepE_q8, stepT, ↓bindTg_q2, bindTg_q2, setSlots_q1, setSlots_q2, List.getElem?_cons_zero, List.getElem?_cons_succ, List.set_cons_zero, List.set_cons_succ, List.length_cons, List.length_nil, Nat.blt_eq, Nat.reduceAdd, Nat.reduceLT, Nat.zero_add, if_true, if_false, ↓truthV_q1, truthV_q1, Bool.false_eq_true, ↓cmpop_q1, cmpop_q1, hp, hq]
        rw [e]; exact ih
      | true =>
        cases hd : decide (d - 1 < 0) with
        | true =>
          refine .inl ⟨[some (.str s), some (.int (d - 1)), some (.int p.1), some (.str p.2), none, none], ?_, rfl⟩
          simp only [List.map_cons, forL_q2, encP, bodyC, ↓cEq_q2, cEq_q2, ↓oI_q1, oI_q1, ↓oS_q1, oS_q1, ↓oT_q1, oT_q1, ↓oO_def, ↓oP_def, ↓tK_v3, tK_v3, Option.join_some, ev_e, ev_t, ev_b, stepB_q2, ↓stepS_q7, stepS_q7, ↓stepS_q13, stepS_q13, ↓stepS_q14, stepS_q14, ↓stepE_q1, stepE_q1, ↓stepE_q2, stepE_q2, ↓stepE_q8, stepE_q8, stepT, ↓bindTg_q2, bindTg_q2, setSlots_q1, setSlots_q2, List.getElem?_cons_zero, List.getElem?_cons_succ, List.set_cons_zero, List.set_cons_succ, List.length_cons, List.length_nil, Nat.blt_eq, Nat.reduceAdd, Nat.reduceLT, Nat.zero_add, if_true, if_false, ↓truthV_q1, truthV_q1, Bool.false_eq_true, ↓cmpop_q1, cmpop_q1, ↓cmpop_q3, cmpop_q3, hp, hq, hd, augop]
        | false =>
          have ih := check_loop ft init n s σ ps (d - 1) (some (.int p.1)) (some (.str p.2))
          have e : forL (ev ft init (n + 8)) (.many [2, 3]) bodyC [] ((p :: ps).map encP) [some (.str s), some (.int d), x2, x3, none, none] σ = forL (ev ft init (n + 8)) (.many [2, 3]) bodyC [] (ps.map encP) [some (.str s), some (.int (d - 1)), some (.int p.1), some (.str p.2), none, none] σ := by
            simp only [List.map_cons, forL_q2, encP, bodyC, ↓cEq_q2, cEq_q2, ↓oI_q1, oI_q1, ↓oS_q1, oS_q1, ↓oT_q1, oT_q1, ↓oO_def, ↓oP_def, ↓tK_v3, tK_v3, Option.join_some, ev_e, ev_t, ev_b, stepB_q1, stepB_q2, ↓stepS_q7, stepS_q7, ↓stepS_q13, stepS_q13, ↓stepE_q1, stepE_q1, ↓stepE_q2, stepE_q2, ↓stepE_q8, stepE_q8, stepT, ↓bindTg_q2, bindTg_q2, setSlots_q1, setSlots_q2, List.getElem?_cons_zero, List.getElem?_cons_succ, List.set_cons_zero, List.set_cons_succ, List.length_cons, List.length_nil, Nat.blt_eq, Nat.reduceAdd, Nat.reduceLT, Nat.zero_add, if_true, if_false, ↓truthV_q1, truthV_q1, Bool.false_eq_true, ↓cmpop_q1, cmpop_q1, ↓cmpop_q3, cmpop_q3, hp, hq, hd, augop]
          rw [e]; exact ih

theorem check_call (ft : List FDef) (init : FDef) (j k : Nat) (hj : ft[j]? = some irStrip) (hk : ft[k]? = some (irCheck j)) (n : Nat) (σ : Sto) (s : List Nat) (b : Bool) (h : parF s = some b) :
    (ev ft init (n + 13)).f k [.str s] σ = some (.bool b, σ) := by
  rw [ev_f ft init (n + 12) hk]
  unfold parF at h
  cases h0 : stripF s with
  | none => rw [h0] at h; cases h
  | some r =>
    simp only [h0] at h
    cases h1 : (r.all (Nat.blt · 128) && Nat.blt r.length 10000) with
    | false => rw [h1] at h; simp at h
    | true =>
      simp only [h1, if_true, Option.some.injEq] at h
      simp only [Bool.and_eq_true] at h1
      obtain ⟨h1, h2⟩ := h1
      have h2' : r.length < 10000 := Nat.ble_eq.mp h2
      have hsc := strip_call ft init j hj n σ s r h0
      have hlen : (escGo 0 false r).length < 100000 := by
        rw [escGo_eq, List.length_map]
        have := escP_len r 0 false; omega
      have hlf := forLoop_vals (ev ft init (n + 11)) (.many [2, 3]) bodyC [] (escGo 0 false r) [some (.str r), some (.int 0), none, none, none, none] σ hlen
      have hl := check_loop ft init (n + 3) r σ (escP 0 false r) 0 none none
      rw [← escGo_eq] at hl
      rw [h] at hl
      have e : callFn (ev ft init (n + 12)) (irCheck j) [.str s] σ = (oP (oP (forL (ev ft init (n + 11)) (.many [2, 3]) bodyC [] (escGo 0 false r) [some (.str r), some (.int 0), none, none, none, none] σ) fun fl x => match fl with
          | .next => stepB (ev ft init (n + 11)) [.ret (.cmp .eq (.var 1) (.lit (.int 0)))] x.1 x.2
          | .brk => some (.brk, x)
          | .ret v => some (.ret v, x)) fun fl x => oO (flowV fl) fun v => close σ.length v x.2) := by
        rw [← hlf]
        simp only [callFn, irCheck, bodyC, bindArgsL, List.replicate_succ, List.replicate_zero, ↓oS_q1, oS_q1, ↓oO_def, ↓oP_def, Option.join_some, ev_e, ev_b, stepB_q1, stepB_q2, ↓stepS_q1, stepS_q1, ↓stepS_q10, stepS_q10, ↓stepS_q14, stepS_q14, ↓stepE_q1, stepE_q1, ↓stepE_q2, stepE_q2, ↓stepE_q8, stepE_q8, ↓stepE_q15, stepE_q15, evEs_q1, evEs_q2, setSlots_q1, setSlots_q2, List.getElem?_cons_zero, List.set_cons_zero, List.set_cons_succ, List.length_cons, List.length_nil, Nat.blt_eq, Nat.reduceAdd, Nat.reduceLT, Nat.zero_add, if_true, Nat.zero_lt_succ, hsc, h1]
        try rfl
      rw [e]
      rcases hl with ⟨ℓ, e1, e2⟩ | ⟨y2, y3, d, e1, e2⟩
      · rw [e1]; subst e2
        simp only [↓oO_def, ↓oP_def, ↓flowV_q2, flowV_q2, closeV, if_true, ↓close_v2, close_v2, belB, take0', if_true]
      · rw [e1, e2]
        simp only [↓cEq_q1, cEq_q1, ↓oI_q1, oI_q1, ↓oO_def, ↓oP_def, ↓flowV_q2, flowV_q2, closeV, Option.join_some, ev_e, stepB_q2, ↓stepS_q14, stepS_q14, ↓stepE_q1, stepE_q1, ↓stepE_q2, stepE_q2, ↓stepE_q8, stepE_q8, List.getElem?_cons_zero, List.getElem?_cons_succ, if_true, ↓cmpop_q1, cmpop_q1, ↓close_v2, close_v2, belB, take0']
end Mine
end
section
set_option linter.unusedSimpArgs false
namespace Mine
open PySem PySem.W PyProof.Rows

/-! Whitespace(text) -/
noncomputable def grow (c : List Int) (b : Nat) : List Int := if Nat.ble c.length b then c ++ List.replicate (b - c.length + 1) 0 else c
noncomputable def initGo : List Nat → List Int → Nat → Nat → Nat → Option (List Int × Nat × Nat × Nat)
  | [], c, b, n, nt => some (c, b, n, nt)
  | ch :: r, c, b, n, nt =>
    if [ch] == [32] then initGo r c (b + 1) (n + 1) nt
    else if [ch] == [9] then
      (if Nat.ble b 500 && Nat.ble c.length 500 then (match (grow c b)[b]? with
        | some v => initGo r ((grow c b).set b (v + 1)) 0 (n + 1) (nt + 1)
        | none => none) else none)
    else some (c, b, n, nt)
theorem initGo_q1  : initGo ([]) (c) (b) (n) (nt) = (some (c, b, n, nt)) := rfl
theorem initGo_q2  : initGo (ch :: r) (c) (b) (n) (nt) = (if [ch] == [32] then initGo r c (b + 1) (n + 1) nt
      else if [ch] == [9] then
        (if Nat.ble b 500 && Nat.ble c.length 500 then (match (grow c b)[b]? with
          | some v => initGo r ((grow c b).set b (v + 1)) 0 (n + 1) (nt + 1)
          | none => none) else none)
      else some (c, b, n, nt)) := rfl
noncomputable def bodyI : List IS := [.ifS (.cmp .eq (.var 8) (.var 2)) [.assign 6 (.bin .add (.var 6) (.lit (.int 1))), .assign 5 (.bin .add (.var 5) (.lit (.int 1)))] [.ifS (.cmp .eq (.var 8) (.var 3)) [.assign 6 (.bin .add (.var 6) (.lit (.int 1))), .assign 7 (.bin .add (.var 7) (.lit (.int 1))), .ifS (.cmp .ge (.var 5) (.bi .len [(.var 4)])) [.assign 4 (.bin .add (.var 4) (.bin .mul (.list [(.lit (.int 0))]) (.bin .add (.bin .sub (.var 5) (.bi .len [(.var 4)])) (.lit (.int 1)))))] [], .assignI (.var 4) (.var 5) (.bin .add (.idx (.var 4) (.var 5)) (.lit (.int 1))), .assign 5 (.lit (.int 0))] [.brk]]]

noncomputable def RI (σ : Sto) (fs : List (Str × AV)) (S : Sto) (p : Nat) (c : List Int) : Prop :=
  S[σ.length]? = some (.ns fs) ∧ S.take σ.length = σ ∧ listOf? S p = some (c.map .int) ∧ σ.length < p
theorem RI.set {σ : Sto} {fs : List (Str × AV)} {S : Sto} {p : Nat} {c : List Int} (h : RI σ fs S p c) (c' : List Int) : RI σ fs (setAt S p (c'.map .int)) p c' := by
  obtain ⟨h1, h2, h3, h4⟩ := h
  refine ⟨?_, ?_, ?_, h4⟩
  · unfold setAt; rw [List.getElem?_set_ne (by omega)]; exact h1
  · unfold setAt; rw [List.take_set, List.set_eq_of_length_le (by rw [List.length_take]; omega)]; exact h2
  · have := listOf_lt h3
    unfold setAt listOf?; rw [List.getElem?_set_self (by omega)]
theorem RI.app {σ : Sto} {fs : List (Str × AV)} {S : Sto} {p : Nat} {c : List Int} (h : RI σ fs S p c) (τ : Sto) (q : Nat) (c' : List Int) (hq : listOf? (S ++ τ) q = some (c'.map .int)) (hl : S.length ≤ q) : RI σ fs (S ++ τ) q c' := by
  obtain ⟨h1, h2, h3, h4⟩ := h
  have hlt := listOf_lt h3
  have hs : σ.length ≤ S.length := by omega
  refine ⟨?_, ?_, hq, by omega⟩
  · rw [List.getElem?_append_left (by omega)]; exact h1
  · rw [List.take_append_of_le_length hs]; exact h2

theorem rep0 (k : Nat) : (List.replicate k [AV.int 0]).flatten = (List.replicate k (0 : Int)).map AV.int := by
  induction k with
  | zero => rfl
  | succ k ih => simp only [List.replicate_succ, List.flatten_cons, ih, List.map_cons, List.cons_append, List.nil_append]

theorem get_map_int (c : List Int) (b : Nat) (v : Int) (h : c[b]? = some v) : (c.map AV.int)[b]? = some (.int v) := by rw [List.getElem?_map, h]; rfl
theorem set_map_int (c : List Int) (b : Nat) (v : Int) : (c.map AV.int).set b (.int v) = (c.set b v).map AV.int := by rw [List.map_set]
theorem normIdx_nat (b n : Nat) (hb : b < n) (hn : n ≤ lim) : normIdx (b : Int) n = some b := by
  have h1 : Nat.ble n lim = true := Nat.ble_eq.mpr hn
  have h2 : decide ((b : Int) < (n : Int)) = true := decide_eq_true (by omega)
  simp only [normIdx, h1, Bool.not_true, Bool.false_eq_true, if_false, h2, if_true]
  simp
theorem get_lt {α : Type} {l : List α} {b : Nat} {v : α} (h : l[b]? = some v) : b < l.length := by
  rcases Nat.lt_or_ge b l.length with x | x
  · exact x
  · rw [List.getElem?_eq_none x] at h; cases h

theorem init_loop (ft : List FDef) (init : FDef) (N : Nat) (s : List Nat) (σ : Sto) (fs : List (Str × AV)) :
    ∀ (chs : List Nat) (c : List Int) (b n nt : Nat) (c' : List Int) (b' n' nt' : Nat), initGo chs c b n nt = some (c', b', n', nt') →
    ∀ (S : Sto) (p : Nat) (x8 : Option AV), RI σ fs S p c →
    ∃ S' p' y8, forL (ev ft init (N + 10)) (.one 8) bodyI [] (chs.map fun c => .str [c]) [some (.self σ.length), some (.str s), some (.str [32]), some (.str [9]), some (.ref p), some (.int b), some (.int n), some (.int nt), x8, none, none, none] S
      = some (.next, [some (.self σ.length), some (.str s), some (.str [32]), some (.str [9]), some (.ref p'), some (.int b'), some (.int n'), some (.int nt'), y8, none, none, none], S') ∧ RI σ fs S' p' c'
  | [], c, b, n, nt, c', b', n', nt', h, S, p, x8, hR => by
    simp only [initGo_q1, Option.some.injEq, Prod.mk.injEq] at h
    obtain ⟨rfl, rfl, rfl, rfl⟩ := h
    exact ⟨S, p, x8, rfl, hR⟩
  | ch :: r, c, b, n, nt, c', b', n', nt', h, S, p, x8, hR => by
    (first | rewrite [initGo_q2] at h | rewrite [initGo_q1] at h)
    cases h1 : ([ch] == [32]) with
    | true =>
      simp only [h1, if_true] at h
      obtain ⟨S', p', y8, e, hR'⟩ := init_loop ft init N s σ fs r c (b + 1) (n + 1) nt c' b' n' nt' h S p (some (.str [ch])) hR
      refine ⟨S', p', y8, ?_, hR'⟩
      rw [← e]
      simp only [List.map_cons, forL_q2, bodyI, ↓bAdd_q1, bAdd_q1, ↓cEq_q2, cEq_q2, ↓oI_q1, oI_q1, ↓oS_q1, oS_q1, ↓oO_def, ↓oP_def, ↓tK_v3, tK_v3, Option.join_some, ev_e, ev_t, ev_b, stepB_q1, stepB_q2, ↓stepS_q1, stepS_q1, ↓stepS_q13, stepS_q13, ↓stepE_q1, stepE_q1, ↓stepE_q2, stepE_q2, ↓stepE_q3, stepE_q3, ↓stepE_q8, stepE_q8, stepT, ↓bindTg_q1, bindTg_q1, List.getElem?_cons_zero, List.getElem?_cons_succ, List.set_cons_zero, List.set_cons_succ, List.length_cons, List.length_nil, Nat.blt_eq, Nat.reduceAdd, Nat.reduceLT, Nat.zero_add, if_true, ↓truthV_q1, truthV_q1, ↓cmpop_q1, cmpop_q1, h1, ↓binop_q1, binop_q1, Int.natCast_add, Int.natCast_one]
    | false =>
      simp only [h1, if_false, Bool.false_eq_true] at h
      cases h2 : ([ch] == [9]) with
      | false =>
        simp only [h2, if_false, Bool.false_eq_true, Option.some.injEq, Prod.mk.injEq] at h
        obtain ⟨rfl, rfl, rfl, rfl⟩ := h
        refine ⟨S, p, some (.str [ch]), ?_, hR⟩
        simp only [List.map_cons, forL_q2, bodyI, ↓cEq_q2, cEq_q2, ↓oS_q1, oS_q1, ↓oO_def, ↓oP_def, ↓tK_v3, tK_v3, Option.join_some, ev_e, ev_t, ev_b, stepB_q2, ↓stepS_q13, stepS_q13, ↓stepS_q15, stepS_q15, ↓stepE_q2, stepE_q2, ↓stepE_q8, stepE_q8, stepT, ↓bindTg_q1, bindTg_q1, List.getElem?_cons_zero, List.getElem?_cons_succ, List.set_cons_zero, List.set_cons_succ, List.length_cons, List.length_nil, Nat.blt_eq, Nat.reduceAdd, Nat.reduceLT, Nat.zero_add, if_true, if_false, ↓truthV_q1, truthV_q1, Bool.false_eq_true, ↓cmpop_q1, cmpop_q1, h1, h2]
      | true =>
        simp only [h2, if_true] at h
        cases h3 : (Nat.ble b 500 && Nat.ble c.length 500) with
        | false => rw [h3] at h; simp at h
        | true =>
          simp only [h3, if_true] at h
          simp only [Bool.and_eq_true] at h3
          have hb := Nat.ble_eq.mp h3.1
          have hc := Nat.ble_eq.mp h3.2
          cases hv : (grow c b)[b]? with
          | none => rw [hv] at h; cases h
          | some v =>
            simp only [hv] at h
            have hcl : c.length ≤ lim := Nat.le_trans hc (by decide)
            have hbl := get_lt hv
            have hR3 := hR.2.2.1
            unfold grow at hv h hbl
            cases h4 : Nat.ble c.length b with
            | true =>
              simp only [h4, if_true] at hv h hbl
              have h4' := Nat.ble_eq.mp h4
              have hge : decide ((c.length : Int) ≤ (b : Int)) = true := decide_eq_true (by omega)
              have hk1 : decide ((-1000 : Int) ≤ (b : Int) - (c.length : Int) + 1) = true := decide_eq_true (by omega)
              have hk2 : decide ((b : Int) - (c.length : Int) + 1 ≤ 1000) = true := decide_eq_true (by omega)
              have hk3 : ((b : Int) - (c.length : Int) + 1).toNat = b - c.length + 1 := by omega
              have hlen : (c ++ List.replicate (b - c.length + 1) 0).length = b + 1 := by simp; omega
              have hl1 : c.length + (b - c.length + 1) ≤ lim := Nat.le_trans (show _ ≤ 502 by omega) (by decide)
              have hl2 : b + 1 ≤ lim := Nat.le_trans (show _ ≤ 502 by omega) (by decide)
              have hb0 : decide ((0 : Int) ≤ (b : Int)) = true := decide_eq_true (by omega)
              have hb1 : decide ((b : Int) < ((b + 1 : Nat) : Int)) = true := decide_eq_true (by omega)
              have hb2 : decide ((b : Int) < (b : Int) + 1) = true := decide_eq_true (by omega)
              have hl3 : Nat.ble (b + 1) lim = true := Nat.ble_eq.mpr hl2
              have hs1 : listOf? (S ++ [AO.list [AV.int 0]]) S.length = some [AV.int 0] := lof0 S _ []
              have hs5 : listOf? (S ++ [AO.list [AV.int 0]]) p = some (c.map .int) := listOf_app hR3 _
              have hs2 : ∀ L : List AV, listOf? (S ++ [AO.list [AV.int 0]] ++ [AO.list L]) (S ++ [AO.list [AV.int 0]]).length = some L := fun L => lof0 _ L []
              have hs3 : ∀ L : List AV, listOf? (S ++ [AO.list [AV.int 0]] ++ [AO.list L]) p = some (c.map .int) := fun L => listOf_app (listOf_app hR3 _) _
              have hs4 : ∀ L M : List AV, listOf? (S ++ [AO.list [AV.int 0]] ++ [AO.list L] ++ [AO.list M]) (S ++ [AO.list [AV.int 0]] ++ [AO.list L]).length = some M := fun L M => lof0 _ M []
              have hrep := rep0 (b - c.length + 1)
              have hni := normIdx_nat b (b + 1) (by omega) hl2
              have hgv := get_map_int _ _ _ hv
              have hR' := (hR.app ([AO.list [AV.int 0]] ++ [AO.list ((List.replicate (b - c.length + 1) (0 : Int)).map .int)] ++ [AO.list ((c ++ List.replicate (b - c.length + 1) 0).map .int)]) (S ++ [AO.list [AV.int 0]] ++ [AO.list ((List.replicate (b - c.length + 1) (0 : Int)).map AV.int)]).length (c ++ List.replicate (b - c.length + 1) 0) (by
                rw [← List.append_assoc, ← List.append_assoc]; exact lof0 _ _ []) (by simp)).set ((c ++ List.replicate (b - c.length + 1) 0).set b (v + 1))
              obtain ⟨S', p', y8, e, hR''⟩ := init_loop ft init N s σ fs r _ 0 (n + 1) (nt + 1) c' b' n' nt' h _ _ (some (.str [ch])) hR'
              refine ⟨S', p', y8, ?_, hR''⟩
              rw [← List.append_assoc, ← List.append_assoc] at e
              rw [← e]
              have hmap : (c.map AV.int) ++ ((List.replicate (b - c.length + 1) (0 : Int)).map AV.int) = (c ++ List.replicate (b - c.length + 1) 0).map AV.int := by rw [List.map_append]
              simp only [List.map_cons, forL_q2, bodyI, ↓bAdd_q1, bAdd_q1, ↓bAdd_q3, bAdd_q3, ↓bMul_q3, bMul_q3, ↓cEq_q2, cEq_q2, ↓bLen_q4, bLen_q4, ↓oI_q1, oI_q1, ↓oS_q1, oS_q1, ↓oR_q1, oR_q1, ↓oOne_q1, oOne_q1, ↓oO_def, ↓oP_def, ↓tK_v3, tK_v3, Option.join_some, ev_e, ev_t, ev_b, stepB_q1, stepB_q2, ↓stepS_q1, stepS_q1, ↓stepS_q6, stepS_q6, ↓stepS_q13, stepS_q13, ↓stepE_q1, stepE_q1, ↓stepE_q2, stepE_q2, ↓stepE_q3, stepE_q3, ↓stepE_q8, stepE_q8, ↓stepE_q10, stepE_q10, ↓stepE_q11, stepE_q11, ↓stepE_q17, stepE_q17, stepT, evEs_q1, evEs_q2, ↓bindTg_q1, bindTg_q1, List.getElem?_cons_zero, List.getElem?_cons_succ, List.set_cons_zero, List.set_cons_succ, List.length_cons, List.length_nil, Nat.blt_eq, Nat.ble_eq, Nat.reduceAdd, Nat.reduceLT, Nat.reduceLeDiff, Nat.zero_add, if_true, if_false, ↓truthV_q1, truthV_q1, Bool.false_eq_true, Bool.true_and, Bool.and_self, ↓cmpop_q1, cmpop_q1, ↓cmpop_q6, cmpop_q6, h1, h2, ↓binop_q1, binop_q1, ↓binop_q2, binop_q2, ↓binop_q3, binop_q3, ↓bifn_q1, bifn_q1, hR3, List.length_map, hcl, hge, endComp, belsN, belsC, belI, hk1, hk2, hk3, hs1, hs2, hs3, hs5, Nat.reduceLeDiff, hrep, List.length_replicate, hl1, hmap, ↓idxop_q1, idxop_q1, hs4, hlen, hni, hgv, hb0, hb2, hl3, set_map_int, Int.toNat_natCast, Int.natCast_add, Int.natCast_one, Int.natCast_zero]
            | false =>
              simp only [h4, if_false, Bool.false_eq_true] at hv h hbl
              have hge : decide ((c.length : Int) ≤ (b : Int)) = false := decide_eq_false (by omega)
              have hb0 : decide ((0 : Int) ≤ (b : Int)) = true := decide_eq_true (by omega)
              have hb1 : decide ((b : Int) < (c.length : Int)) = true := decide_eq_true (by omega)
              have hni := normIdx_nat b c.length hbl hcl
              have hgv := get_map_int _ _ _ hv
              have hR' := hR.set (c.set b (v + 1))
              obtain ⟨S', p', y8, e, hR''⟩ := init_loop ft init N s σ fs r _ 0 (n + 1) (nt + 1) c' b' n' nt' h _ _ (some (.str [ch])) hR'
              refine ⟨S', p', y8, ?_, hR''⟩
              rw [← e]
              simp only [List.map_cons, forL_q2, bodyI, ↓bAdd_q1, bAdd_q1, ↓cEq_q2, cEq_q2, ↓bLen_q4, bLen_q4, ↓oI_q1, oI_q1, ↓oS_q1, oS_q1, ↓oR_q1, oR_q1, ↓oOne_q1, oOne_q1, ↓oO_def, ↓oP_def, ↓tK_v3, tK_v3, Option.join_some, ev_e, ev_t, ev_b, stepB_q1, stepB_q2, ↓stepS_q1, stepS_q1, ↓stepS_q6, stepS_q6, ↓stepS_q13, stepS_q13, ↓stepE_q1, stepE_q1, ↓stepE_q2, stepE_q2, ↓stepE_q3, stepE_q3, ↓stepE_q8, stepE_q8, ↓stepE_q11, stepE_q11, ↓stepE_q17, stepE_q17, stepT, evEs_q1, evEs_q2, ↓bindTg_q1, bindTg_q1, List.getElem?_cons_zero, List.getElem?_cons_succ, List.set_cons_zero, List.set_cons_succ, List.length_cons, List.length_nil, Nat.blt_eq, Nat.ble_eq, Nat.reduceAdd, Nat.reduceLT, Nat.zero_add, if_true, if_false, ↓truthV_q1, truthV_q1, Bool.false_eq_true, Bool.true_and, Bool.and_self, ↓cmpop_q1, cmpop_q1, ↓cmpop_q6, cmpop_q6, h1, h2, ↓binop_q1, binop_q1, ↓bifn_q1, bifn_q1, hR3, List.length_map, hcl, hge, belI, ↓idxop_q1, idxop_q1, hni, hgv, hb0, hb1, set_map_int, Int.toNat_natCast, Int.natCast_add, Int.natCast_one, Int.natCast_zero]

/-- what Whitespace(text) holds -/
noncomputable def wsO (s : List Nat) : Option WS := if s.all (Nat.blt · 128) && Nat.blt s.length 10000 then (match initGo s [] 0 0 0 with
  | some (c, b, n, nt) => if Nat.ble c.length lim then some ⟨s, n, nt, c, b, Nat.ble c.length 1⟩ else none
  | none => none) else none

theorem dfreeze_ok (s : List Nat) (n nt : Int) (c : List Int) (b : Int) (sm : Bool) :
    freeze [(sRaw, .str s), (sN, .int n), (sNt, .int nt), (sNorm, .tup [.tup (c.map .int), .int b]), (sSimple, .bool sm)] = some ⟨s, n, nt, c, b, sm⟩ := by
  have h : freeze [(sRaw, .str s), (sN, .int n), (sNt, .int nt), (sNorm, .tup [.tup (c.map .int), .int b]), (sSimple, .bool sm)] = oO (asInts (c.map .int)) fun cnt => some ⟨s, n, nt, cnt, b, sm⟩ := by rfl
  rw [h, asInts_map]; rfl

theorem new_obj (ft : List FDef) (ini : FDef) (N : Nat) (s : List Nat) (w : WS) (h : wsO s = some w) (σ : Sto) :
    newObj (ev ft ini (N + 14)) L02.ir_init (.str s) σ = some (.inst w, σ) := by
  unfold wsO at h
  cases h1 : (s.all (Nat.blt · 128) && Nat.blt s.length 10000) with
  | false => rw [h1] at h; simp at h
  | true =>
    simp only [h1, if_true] at h
    simp only [Bool.and_eq_true] at h1
    obtain ⟨h1, h2⟩ := h1
    have h2' : s.length < 10000 := Nat.ble_eq.mp h2
    cases h3 : initGo s [] 0 0 0 with
    | none => rw [h3] at h; cases h
    | some x =>
      obtain ⟨c, b, n, nt⟩ := x
      simp only [h3] at h
      cases h4 : Nat.ble c.length lim with
      | false => rw [h4] at h; simp at h
      | true =>
        simp only [h4, if_true, Option.some.injEq] at h
        subst h
        have hR : RI σ [(sRaw, .str s)] (σ ++ [.ns [(sRaw, .str s)], .list []]) (σ.length + 1) [] := ⟨sget0 _ _ _, by simp, lof1 _ _ _ _, by omega⟩
        obtain ⟨S', p', y8, e, hR'⟩ := init_loop ft ini (N + 3) s σ [(sRaw, .str s)] s [] 0 0 0 c b n nt h3 _ _ none hR
        have hlf := forLoop_vals (ev ft ini (N + 13)) (.one 8) bodyI [] (s.map fun c => .str [c]) [some (.self σ.length), some (.str s), some (.str [32]), some (.str [9]), some (.ref (σ.length + 1)), some (.int 0), some (.int 0), some (.int 0), none, none, none, none] (σ ++ [.ns [(sRaw, .str s)], .list []]) (by rw [List.length_map]; omega)
        obtain ⟨r1, r2, r3, r4⟩ := hR'
        have hS : σ.length < S'.length := Nat.lt_trans r4 (listOf_lt r3)
        have hg : ∀ a : AO, (S'.set σ.length a)[σ.length]? = some a := fun a => List.getElem?_set_self hS
        have hp : ∀ a : AO, listOf? (S'.set σ.length a) p' = some (c.map .int) := by
          intro a; unfold listOf? at r3 ⊢; rw [List.getElem?_set_ne (by omega)]; exact r3
        have ht : ∀ a : AO, (S'.set σ.length a).take σ.length = σ := by
          intro a; rw [List.take_set, List.set_eq_of_length_le (by rw [List.length_take]; omega)]; exact r2
        have hle : decide ((c.length : Int) ≤ 1) = Nat.ble c.length 1 := by
          cases hh : Nat.ble c.length 1 with
          | true => exact decide_eq_true (by have := Nat.ble_eq.mp hh; omega)
          | false => exact decide_eq_false (fun hx => by have : Nat.ble c.length 1 = true := Nat.ble_eq.mpr (by omega); rw [hh] at this; cases this)
        have hcl := Nat.ble_eq.mp h4
        have k1 : List.lookup (fkName .n) [(sRaw, AV.str s)] = none := rfl
        have k2 : List.lookup (fkName .nt) [(sRaw, AV.str s), (fkName .n, AV.int n)] = none := rfl
        have k3 : List.lookup (fkName .norm) [(sRaw, AV.str s), (fkName .n, AV.int n), (fkName .nt, AV.int nt)] = none := rfl
        have k4 : ∀ v : AV, List.lookup (fkName .simple) [(sRaw, AV.str s), (fkName .n, AV.int n), (fkName .nt, AV.int nt), (fkName .norm, v)] = none := fun _ => rfl
        have k5 : ∀ v : AV, List.lookup sRaw [(sRaw, v)] = some v := fun _ => rfl
        have k0 : List.lookup sRaw ([] : List (Str × AV)) = none := rfl
        have hset : ∀ a : AO, (σ ++ [AO.ns []]).set σ.length a = σ ++ [a] := by intro a; simp
        have hf := dfreeze_ok s n nt c b (Nat.ble c.length 1)
        have hlen2 : ∀ a : AO, (σ ++ [a]).length = σ.length + 1 := by intro a; simp
        have happ : ∀ a b : AO, σ ++ [a] ++ [b] = σ ++ [a, b] := by intro a b; simp
        have hfr : fkName .raw = sRaw := rfl
        have hw : (Nat.blt 2 12 && Nat.blt 3 12) = true := rfl
        simp only [bodyI, Nat.add_assoc, Nat.reduceAdd, Int.natCast_zero] at hlf e
        simp only [newObj, hw, L02.ir_init, bindArgsL, List.replicate_succ, List.replicate_zero, ↓bLen_q4, bLen_q4, ↓oI_q1, oI_q1, ↓oR_q1, oR_q1, ↓oOne_q1, oOne_q1, ↓oO_def, ↓oP_def, ↓oSelf_q1, oSelf_q1, ↓attrV_q2, attrV_q2, nsOf?, ↓itK_v9, itK_v9, ↓evItK_q3, evItK_q3, ↓itVal_q1, itVal_q1, isNext_n, Option.isNone_none, Option.join_some, ev_e, ev_b, stepB_q1, stepB_q2, ↓stepS_q1, stepS_q1, ↓stepS_q3, stepS_q3, ↓stepS_q4, stepS_q4, ↓stepS_q5, stepS_q5, ↓stepS_q9, stepS_q9, ↓stepE_q1, stepE_q1, ↓stepE_q2, stepE_q2, ↓stepE_q8, stepE_q8, ↓stepE_q9, stepE_q9, ↓stepE_q10, stepE_q10, ↓stepE_q17, stepE_q17, ↓stepE_q20, stepE_q20, ↓stepE_q21, stepE_q21, ↓stepE_q22, stepE_q22, evEs_q1, evEs_q2, setSlots_q1, setSlots_q2, setAll_q1, setAll_q2, List.getElem?_cons_zero, List.getElem?_cons_succ, List.set_cons_zero, List.set_cons_succ, List.length_cons, List.length_nil, Nat.blt_eq, Nat.ble_eq, Nat.reduceAdd, Nat.reduceLT, Nat.reduceLeDiff, Nat.zero_add, if_true, Nat.zero_lt_succ, List.nil_append, List.cons_append, Bool.true_and, Bool.and_self, belB, belI, belS, belT, sget0, k0, hset, endComp, belsN, belsC, hlen2, happ, hfr, k5, evIt, h1, hlf, e, r1, k1, k2, k3, k4, hg, hp, ht, ↓bifn_q1, bifn_q1, ↓bifn_q6, bifn_q6, hcl, List.length_map, cbels_ints, ↓cmpop_q4, cmpop_q4, List.set_set, Nat.reduceLeDiff]
        rw [hle, show fkName .n = sN from rfl, show fkName .nt = sNt from rfl, show fkName .norm = sNorm from rfl, show fkName .simple = sSimple from rfl, hf]
end Mine
end
section
set_option linter.unusedSimpArgs false
namespace Mine
open PySem PySem.W PyProof.Rows

theorem drangeL_len : ∀ (c : Nat) (a : Int), (rangeL a c).length = c
  | 0, _ => rfl
  | c + 1, a => by simp only [rangeL_q2, List.length_cons, drangeL_len c]

/-! indent_level -/
noncomputable def indGo (cnt : List Int) (ts : Int) : Nat → Int → Int → Option Int
  | 0, _, il => some il
  | k + 1, i, il => match normIdx i cnt.length with
    | some p => (match cnt[p]? with
      | some v => if small (Int.fdiv i ts) && small v then indGo cnt ts k (i + 1) (il + Int.fdiv i ts * v) else none
      | none => none)
    | none => none
theorem indGo_q1 (cnt : List Int) (ts : Int) : indGo cnt ts (0) (u1') (il) = (some il) := rfl
theorem indGo_q2 (cnt : List Int) (ts : Int) : indGo cnt ts (k + 1) (i) (il) = (match normIdx i cnt.length with
      | some p => (match cnt[p]? with
        | some v => if small (Int.fdiv i ts) && small v then indGo cnt ts k (i + 1) (il + Int.fdiv i ts * v) else none
        | none => none)
      | none => none) := rfl
noncomputable def indO (w : WS) (ts : Int) : Option Int :=
  if !(ts == 0) && Nat.blt ts.natAbs 1073741824 && Nat.blt w.cnt.length 10000 && decide (0 ≤ ts) && small ts && small w.cnt.length then
    (match indGo w.cnt ts ((w.cnt.length : Int) - ts).toNat ts 0 with
    | some il => if small (il + w.nt) then some (w.b + ts * (il + w.nt)) else none
    | none => none) else none
noncomputable def bodyN : List IS := [.assign 4 (.bin .add (.var 4) (.bin .mul (.bin .fdiv (.var 5) (.var 1)) (.idx (.var 2) (.var 5))))]

theorem indent_loop (ft : List FDef) (init : FDef) (n : Nat) (w : WS) (ts : Int) (hz : (ts == 0) = false) (hb : ts.natAbs < 1073741824) (hl : w.cnt.length ≤ lim) (x3 : Option AV) (σ : Sto) :
    ∀ (k : Nat) (i il r : Int) (x5 : Option AV), indGo w.cnt ts k i il = some r →
    ∃ y5, forL (ev ft init (n + 8)) (.one 5) bodyN [] (rangeL i k) [some (.inst w), some (.int ts), some (.tup (w.cnt.map .int)), x3, some (.int il), x5, none, none] σ
      = some (.next, [some (.inst w), some (.int ts), some (.tup (w.cnt.map .int)), x3, some (.int r), y5, none, none], σ)
  | 0, i, il, r, x5, h => by
    simp only [indGo_q1, Option.some.injEq] at h
    subst h
    exact ⟨x5, rfl⟩
  | k + 1, i, il, r, x5, h => by
    (first | rewrite [indGo_q2] at h | rewrite [indGo_q1] at h)
    cases h1 : normIdx i w.cnt.length with
    | none => rw [h1] at h; cases h
    | some p =>
      simp only [h1] at h
      cases h2 : w.cnt[p]? with
      | none => rw [h2] at h; cases h
      | some v =>
        simp only [h2] at h
        cases h3 : (small (Int.fdiv i ts) && small v) with
        | false => rw [h3] at h; simp at h
        | true =>
          simp only [h3, if_true] at h
          obtain ⟨y5, ih⟩ := indent_loop ft init n w ts hz hb hl x3 σ k (i + 1) _ r (some (.int i)) h
          refine ⟨y5, ?_⟩
          have hg := get_map_int _ _ _ h2
          rw [rangeL_q2, ← ih]
          simp only [forL_q2, bodyN, ↓bAdd_q1, bAdd_q1, ↓bMul_q1, bMul_q1, ↓oI_q1, oI_q1, ↓oO_def, ↓oP_def, Option.join_some, ev_e, ev_b, stepB_q1, stepB_q2, ↓stepS_q1, stepS_q1, ↓stepE_q2, stepE_q2, ↓stepE_q3, stepE_q3, ↓stepE_q11, stepE_q11, ↓bindTg_q1, bindTg_q1, List.getElem?_cons_zero, List.getElem?_cons_succ, List.set_cons_zero, List.set_cons_succ, List.length_cons, List.length_nil, Nat.blt_eq, Nat.reduceAdd, Nat.reduceLT, Nat.zero_add, if_true, if_false, Bool.false_eq_true, ↓binop_q1, binop_q1, ↓binop_q3, binop_q3, ↓binop_q4, binop_q4, hz, hb, ↓idxop_q4, idxop_q4, List.length_map, h1, hg, h3]

theorem indent_call (n : Nat) (w : WS) (ts r : Int) (h : indO w ts = some r) (σ : Sto) :
    (ev L02.ftab L02.ir_init (n + 10)).f 1 [.inst w, .int ts] σ = some (.int r, σ) := by
  have hf : L02.ftab[1]? = some L02.ir_indent_level := rfl
  rw [ev_f _ _ _ hf]
  unfold indO at h
  cases h1 : (!(ts == 0) && Nat.blt ts.natAbs 1073741824 && Nat.blt w.cnt.length 10000 && decide (0 ≤ ts) && small ts && small w.cnt.length) with
  | false => rw [h1] at h; simp at h
  | true =>
    simp only [h1, if_true] at h
    simp only [Bool.and_eq_true, Bool.not_eq_true'] at h1
    obtain ⟨⟨⟨⟨⟨hz, hb⟩, hl⟩, hr⟩, hs1⟩, hs2⟩ := h1
    have hb' : ts.natAbs < 1073741824 := Nat.ble_eq.mp hb
    have hl' : w.cnt.length < 10000 := Nat.ble_eq.mp hl
    have hll : w.cnt.length ≤ lim := Nat.le_trans (Nat.le_of_lt hl') (by decide)
    cases h2 : indGo w.cnt ts ((w.cnt.length : Int) - ts).toNat ts 0 with
    | none => rw [h2] at h; cases h
    | some il =>
      simp only [h2] at h
      cases h3 : small (il + w.nt) with
      | false => rw [h3] at h; simp at h
      | true =>
        simp only [h3, if_true, Option.some.injEq] at h
        subst h
        obtain ⟨y5, e⟩ := indent_loop L02.ftab L02.ir_init n w ts hz hb' hll (some (.int w.b)) σ _ ts 0 il none h2
        have hr' := of_decide_eq_true hr
        have hrr : decide ((w.cnt.length : Int) - ts ≤ 1000000) = true := decide_eq_true (by omega)
        have hlf := forLoop_vals (ev L02.ftab L02.ir_init (n + 8)) (.one 5) bodyN [] (rangeL ts ((w.cnt.length : Int) - ts).toNat) [some (.inst w), some (.int ts), some (.tup (w.cnt.map .int)), some (.int w.b), some (.int 0), none, none, none] σ (by rw [drangeL_len]; omega)
        simp only [bodyN] at hlf e
        simp only [callFn, L02.ir_indent_level, bindArgsL, List.replicate_succ, List.replicate_zero, ↓bAdd_q1, bAdd_q1, ↓bMul_q1, bMul_q1, ↓bLen_q2, bLen_q2, ↓oI_q1, oI_q1, ↓oT_q1, oT_q1, ↓oOne_q1, oOne_q1, ↓oO_def, ↓oP_def, ↓attrV_q1, attrV_q1, ↓itK_q2, itK_q2, ↓evItK_q2, evItK_q2, ↓flowV_q2, flowV_q2, closeV, Option.join_some, ev_e, ev_b, stepB_q2, ↓stepS_q1, stepS_q1, ↓stepS_q2, stepS_q2, ↓stepS_q9, stepS_q9, ↓stepS_q14, stepS_q14, ↓stepE_q1, stepE_q1, ↓stepE_q2, stepE_q2, ↓stepE_q3, stepE_q3, ↓stepE_q17, stepE_q17, ↓stepE_q20, stepE_q20, evEs_q1, evEs_q2, setSlots_q1, setSlots_q2, List.getElem?_cons_zero, List.getElem?_cons_succ, List.set_cons_zero, List.set_cons_succ, List.length_cons, List.length_nil, Nat.blt_eq, Nat.ble_eq, Nat.reduceAdd, Nat.reduceLT, Nat.zero_add, if_true, Nat.zero_lt_succ, Bool.and_self, ↓wsField_q3, wsField_q3, ↓wsField_q4, wsField_q4, normV, evIt, ↓bifn_q1, bifn_q1, List.length_map, hll, hs1, hs2, hrr, hlf, e, ↓binop_q1, binop_q1, ↓binop_q3, binop_q3, h3, ↓close_v0, close_v0, belI, take0']

/-! longest_run_of_spaces -/
noncomputable def lonW (w : WS) : Int := if decide ((w.cnt.length : Int) - 1 < w.b) then w.b else (w.cnt.length : Int) - 1
theorem longest_call (n : Nat) (w : WS) (hl : w.cnt.length ≤ lim) (σ : Sto) :
    (ev L02.ftab L02.ir_init (n + 10)).f 0 [.inst w] σ = some (.int (lonW w), σ) := by
  have hf : L02.ftab[0]? = some L02.ir_longest_run_of_spaces := rfl
  rw [ev_f _ _ _ hf]
  simp only [callFn, L02.ir_longest_run_of_spaces, bindArgsL, List.replicate_succ, List.replicate_zero, ↓bLen_q2, bLen_q2, ↓bMax_q2, bMax_q2, ↓oI_q1, oI_q1, ↓oT_q1, oT_q1, ↓oOne_q1, oOne_q1, ↓oO_def, ↓oP_def, ↓attrV_q1, attrV_q1, ↓flowV_q2, flowV_q2, closeV, Option.join_some, ev_e, ev_b, stepB_q2, ↓stepS_q2, stepS_q2, ↓stepS_q14, stepS_q14, ↓stepE_q1, stepE_q1, ↓stepE_q2, stepE_q2, ↓stepE_q3, stepE_q3, ↓stepE_q17, stepE_q17, ↓stepE_q20, stepE_q20, evEs_q1, evEs_q2, setSlots_q1, setSlots_q2, List.getElem?_cons_zero, List.getElem?_cons_succ, List.set_cons_zero, List.set_cons_succ, List.length_cons, List.length_nil, Nat.blt_eq, Nat.ble_eq, Nat.reduceAdd, Nat.reduceLT, Nat.zero_add, if_true, Nat.zero_lt_succ, ↓wsField_q4, wsField_q4, normV, ↓bifn_q1, bifn_q1, ↓bifn_q3, bifn_q3, List.length_map, hl, ↓binop_q2, binop_q2, ↓close_v0, close_v0, belI, take0', lonW]

/-! equal -/
noncomputable def eqO (a b : WS) : Option Bool := eqL [.tup (a.cnt.map .int), .int a.b] [.tup (b.cnt.map .int), .int b.b]
theorem equal_call (n : Nat) (a b : WS) (c : Bool) (h : eqO a b = some c) (σ : Sto) :
    (ev L02.ftab L02.ir_init (n + 10)).f 2 [.inst a, .inst b] σ = some (.bool c, σ) := by
  have hf : L02.ftab[2]? = some L02.ir_equal := rfl
  rw [ev_f _ _ _ hf]
  unfold eqO at h
  simp only [callFn, L02.ir_equal, bindArgsL, List.replicate_succ, List.replicate_zero, ↓cEq_q4, cEq_q4, ↓oT_q1, oT_q1, ↓oO_def, ↓oP_def, ↓attrV_q1, attrV_q1, ↓flowV_q2, flowV_q2, closeV, Option.join_some, ev_e, ev_b, stepB_q2, ↓stepS_q14, stepS_q14, ↓stepE_q2, stepE_q2, ↓stepE_q8, stepE_q8, ↓stepE_q20, stepE_q20, setSlots_q1, setSlots_q2, List.getElem?_cons_zero, List.getElem?_cons_succ, List.set_cons_zero, List.set_cons_succ, List.length_cons, List.length_nil, Nat.blt_eq, Nat.reduceAdd, Nat.reduceLT, Nat.zero_add, if_true, Nat.zero_lt_succ, ↓wsField_q4, wsField_q4, normV, ↓cmpop_q1, cmpop_q1, h, ↓close_v2, close_v2, belB, take0']

/-! less -/
noncomputable def lessGo (a b : WS) : Nat → Int → Option Bool
  | 0, _ => some true
  | k + 1, i => match indO a i with
    | some x => (match indO b i with
      | some y => if decide (y ≤ x) then some false else lessGo a b k (i + 1)
      | none => none)
    | none => none
theorem lessGo_q1 (a b : WS) : lessGo a b (0) (u1') = (some true) := rfl
theorem lessGo_q2 (a b : WS) : lessGo a b (k + 1) (i) = (match indO a i with
      | some x => (match indO b i with
        | some y => if decide (y ≤ x) then some false else lessGo a b k (i + 1)
        | none => none)
      | none => none) := rfl
noncomputable def lessO (a b : WS) : Option Bool :=
  if decide (b.n ≤ a.n) then some false
  else if a.simple && b.simple then some (decide (a.nt ≤ b.nt))
  else
    let m := (if decide (lonW a < lonW b) then lonW b else lonW a) + 1
    if Nat.ble a.cnt.length 1000 && Nat.ble b.cnt.length 1000 && small (m + 1) && decide (m ≤ 10000) then lessGo a b (m + 1 - 2).toNat 2 else none
noncomputable def bodyLs : List IS := [.ifS (.cmp .ge (.umeth 1 (.var 0) [(.var 3)]) (.umeth 1 (.var 1) [(.var 3)])) [.ret (.lit (.bool false))] []]
theorem less_loop (n : Nat) (a b : WS) (σ : Sto) (x2 : Option AV) :
    ∀ (k : Nat) (i : Int) (r : Bool) (x3 : Option AV), lessGo a b k i = some r →
    (r = true ∧ ∃ y3, forL (ev L02.ftab L02.ir_init (n + 14)) (.one 3) bodyLs [] (rangeL i k) [some (.inst a), some (.inst b), x2, x3, none, none] σ = some (.next, [some (.inst a), some (.inst b), x2, y3, none, none], σ)) ∨
    (r = false ∧ ∃ ℓ, forL (ev L02.ftab L02.ir_init (n + 14)) (.one 3) bodyLs [] (rangeL i k) [some (.inst a), some (.inst b), x2, x3, none, none] σ = some (.ret (.bool false), ℓ, σ))
  | 0, i, r, x3, h => by
    simp only [lessGo_q1, Option.some.injEq] at h
    exact .inl ⟨h.symm, x3, rfl⟩
  | k + 1, i, r, x3, h => by
    (first | rewrite [lessGo_q2] at h | rewrite [lessGo_q1] at h)
    cases h1 : indO a i with
    | none => rw [h1] at h; cases h
    | some x =>
      simp only [h1] at h
      cases h2 : indO b i with
      | none => rw [h2] at h; cases h
      | some y =>
        simp only [h2] at h
        have e1 := indent_call n a i x h1 σ
        have e2 := indent_call n b i y h2 σ
        cases h3 : decide (y ≤ x) with
        | true =>
          simp only [h3, if_true, Option.some.injEq] at h
          refine .inr ⟨h.symm, [some (.inst a), some (.inst b), x2, some (.int i), none, none], ?_⟩
          simp only [rangeL_q2, forL_q2, bodyLs, ↓oI_q1, oI_q1, ↓oO_def, ↓oP_def, ↓oW_q1, oW_q1, ↓tK_v3, tK_v3, Option.join_some, ev_e, ev_t, ev_b, stepB_q2, ↓stepS_q13, stepS_q13, ↓stepS_q14, stepS_q14, ↓stepE_q1, stepE_q1, ↓stepE_q2, stepE_q2, ↓stepE_q8, stepE_q8, ↓stepE_q19, stepE_q19, stepT, evEs_q1, evEs_q2, ↓bindTg_q1, bindTg_q1, List.getElem?_cons_zero, List.getElem?_cons_succ, List.set_cons_zero, List.set_cons_succ, List.length_cons, List.length_nil, Nat.blt_eq, Nat.reduceAdd, Nat.reduceLT, Nat.zero_add, if_true, ↓truthV_q1, truthV_q1, e1, e2, ↓cmpop_q6, cmpop_q6, h3]
        | false =>
          simp only [h3, if_false, Bool.false_eq_true] at h
          have ih := less_loop n a b σ x2 k (i + 1) r (some (.int i)) h
          have e : forL (ev L02.ftab L02.ir_init (n + 14)) (.one 3) bodyLs [] (rangeL i (k + 1)) [some (.inst a), some (.inst b), x2, x3, none, none] σ = forL (ev L02.ftab L02.ir_init (n + 14)) (.one 3) bodyLs [] (rangeL (i + 1) k) [some (.inst a), some (.inst b), x2, some (.int i), none, none] σ := by
            simp only [rangeL_q2, forL_q2, bodyLs, ↓oI_q1, oI_q1, ↓oO_def, ↓oP_def, ↓oW_q1, oW_q1, ↓tK_v3, tK_v3, Option.join_some, ev_e, ev_t, ev_b, stepB_q1, stepB_q2, ↓stepS_q13, stepS_q13, ↓stepE_q2, stepE_q2, ↓stepE_q8, stepE_q8, ↓stepE_q19, stepE_q19, stepT, evEs_q1, evEs_q2, ↓bindTg_q1, bindTg_q1, List.getElem?_cons_zero, List.getElem?_cons_succ, List.set_cons_zero, List.set_cons_succ, List.length_cons, List.length_nil, Nat.blt_eq, Nat.reduceAdd, Nat.reduceLT, Nat.zero_add, if_true, if_false, ↓truthV_q1, truthV_q1, Bool.false_eq_true, e1, e2, ↓cmpop_q6, cmpop_q6, h3]
          rw [e]; exact ih
theorem less_call (n : Nat) (a b : WS) (c : Bool) (h : lessO a b = some c) (σ : Sto) :
    (ev L02.ftab L02.ir_init (n + 16)).f 3 [.inst a, .inst b] σ = some (.bool c, σ) := by
  have hf : L02.ftab[3]? = some L02.ir_less := rfl
  rw [ev_f _ _ _ hf]
  unfold lessO at h
  cases h1 : decide (b.n ≤ a.n) with
  | true =>
    simp only [h1, if_true, Option.some.injEq] at h
    subst h
    simp only [callFn, L02.ir_less, bindArgsL, List.replicate_succ, List.replicate_zero, ↓oI_q1, oI_q1, ↓oO_def, ↓oP_def, ↓attrV_q1, attrV_q1, ↓tK_v3, tK_v3, ↓flowV_q2, flowV_q2, closeV, Option.join_some, ev_e, ev_t, ev_b, stepB_q2, ↓stepS_q13, stepS_q13, ↓stepS_q14, stepS_q14, ↓stepE_q1, stepE_q1, ↓stepE_q2, stepE_q2, ↓stepE_q8, stepE_q8, ↓stepE_q20, stepE_q20, stepT, setSlots_q1, setSlots_q2, List.getElem?_cons_zero, List.getElem?_cons_succ, List.set_cons_zero, List.set_cons_succ, List.length_cons, List.length_nil, Nat.blt_eq, Nat.reduceAdd, Nat.reduceLT, Nat.zero_add, if_true, ↓truthV_q1, truthV_q1, Nat.zero_lt_succ, ↓wsField_q2, wsField_q2, ↓cmpop_q6, cmpop_q6, h1, ↓close_v2, close_v2, belB, take0']
  | false =>
    simp only [h1, if_false, Bool.false_eq_true] at h
    cases h2 : a.simple && b.simple with
    | true =>
      simp only [h2, if_true, Option.some.injEq] at h
      subst h
      simp only [Bool.and_eq_true] at h2
      simp only [callFn, L02.ir_less, bindArgsL, List.replicate_succ, List.replicate_zero, ↓oI_q1, oI_q1, ↓oO_def, ↓oP_def, ↓attrV_q1, attrV_q1, ↓tK_q2, tK_q2, ↓tK_v3, tK_v3, ↓tK_v10, tK_v10, ↓flowV_q2, flowV_q2, closeV, Option.join_some, ev_e, ev_t, ev_b, stepB_q1, stepB_q2, ↓stepS_q13, stepS_q13, ↓stepS_q14, stepS_q14, ↓stepE_q2, stepE_q2, ↓stepE_q8, stepE_q8, ↓stepE_q20, stepE_q20, stepT, setSlots_q1, setSlots_q2, List.getElem?_cons_zero, List.getElem?_cons_succ, List.set_cons_zero, List.set_cons_succ, List.length_cons, List.length_nil, Nat.blt_eq, Nat.reduceAdd, Nat.reduceLT, Nat.zero_add, if_true, if_false, ↓truthV_q1, truthV_q1, Nat.zero_lt_succ, Bool.false_eq_true, ↓wsField_q2, wsField_q2, ↓wsField_q3, wsField_q3, ↓wsField_q5, wsField_q5, ↓cmpop_q4, cmpop_q4, ↓cmpop_q6, cmpop_q6, h1, h2.1, h2.2, ↓close_v2, close_v2, belB, take0']
    | false =>
      simp only [h2, if_false, Bool.false_eq_true] at h
      cases h3 : (Nat.ble a.cnt.length 1000 && Nat.ble b.cnt.length 1000 && small ((if decide (lonW a < lonW b) = true then lonW b else lonW a) + 1 + 1) && decide ((if decide (lonW a < lonW b) = true then lonW b else lonW a) + 1 ≤ 10000)) with
      | false => rw [h3] at h; simp at h
      | true =>
        simp only [h3, if_true] at h
        simp only [Bool.and_eq_true] at h3
        obtain ⟨⟨⟨ha, hb⟩, hs⟩, hm⟩ := h3
        have la := longest_call (n + 1) a (Nat.le_trans (Nat.ble_eq.mp ha) (by decide)) σ
        have lb := longest_call (n + 1) b (Nat.le_trans (Nat.ble_eq.mp hb) (by decide)) σ
        simp only [Nat.add_assoc, Nat.reduceAdd] at la lb
        have hm' := of_decide_eq_true hm
        generalize hM : (if decide (lonW a < lonW b) = true then lonW b else lonW a) + 1 = M at h hs hm'
        have hs2 : small 2 = true := rfl
        have hr : decide (M + 1 - 2 ≤ 1000000) = true := decide_eq_true (by omega)
        have hlf := forLoop_vals (ev L02.ftab L02.ir_init (n + 14)) (.one 3) bodyLs [] (rangeL 2 (M + 1 - 2).toNat) [some (.inst a), some (.inst b), some (.int M), none, none, none] σ (by rw [drangeL_len]; omega)
        have hl := less_loop n a b σ (some (.int M)) _ 2 c none h
        have e : callFn (ev L02.ftab L02.ir_init (n + 15)) L02.ir_less [.inst a, .inst b] σ = endC σ.length (seqB (ev L02.ftab L02.ir_init (n + 14)) (forL (ev L02.ftab L02.ir_init (n + 14)) (.one 3) bodyLs [] (rangeL 2 (M + 1 - 2).toNat) [some (.inst a), some (.inst b), some (.int M), none, none, none] σ) [.ret (.lit (.bool true))]) := by
          rw [← hlf]
          cases hsa : a.simple with
          | false =>
            simp only [callFn, L02.ir_less, bodyLs, bindArgsL, List.replicate_succ, List.replicate_zero, ↓bAdd_q1, bAdd_q1, ↓bMax_q2, bMax_q2, ↓oI_q1, oI_q1, ↓oO_def, ↓oP_def, ↓oW_q1, oW_q1, ↓attrV_q1, attrV_q1, ↓itK_q2, itK_q2, ↓evItK_q2, evItK_q2, ↓tK_q2, tK_q2, ↓tK_v3, tK_v3, ↓tK_v10, tK_v10, Option.join_some, ev_e, ev_t, ev_b, stepB_q1, stepB_q2, ↓stepS_q1, stepS_q1, ↓stepS_q9, stepS_q9, ↓stepS_q13, stepS_q13, ↓stepS_q14, stepS_q14, ↓stepE_q1, stepE_q1, ↓stepE_q2, stepE_q2, ↓stepE_q3, stepE_q3, ↓stepE_q8, stepE_q8, ↓stepE_q17, stepE_q17, ↓stepE_q19, stepE_q19, ↓stepE_q20, stepE_q20, stepT, evEs_q1, evEs_q2, setSlots_q1, setSlots_q2, List.getElem?_cons_zero, List.getElem?_cons_succ, List.set_cons_zero, List.set_cons_succ, List.length_cons, List.length_nil, Nat.blt_eq, Nat.reduceAdd, Nat.reduceLT, Nat.zero_add, if_true, if_false, ↓truthV_q1, truthV_q1, Nat.zero_lt_succ, Bool.false_eq_true, Bool.and_self, ↓wsField_q2, wsField_q2, ↓wsField_q5, wsField_q5, ↓cmpop_q6, cmpop_q6, h1, hsa, la, lb, ↓bifn_q3, bifn_q3, ↓binop_q1, binop_q1, hM, hs, hs2, hr, evIt]
            try rfl
          | true =>
            have hsb : b.simple = false := by rw [hsa] at h2; simpa using h2
            simp only [callFn, L02.ir_less, bodyLs, bindArgsL, List.replicate_succ, List.replicate_zero, ↓bAdd_q1, bAdd_q1, ↓bMax_q2, bMax_q2, ↓oI_q1, oI_q1, ↓oO_def, ↓oP_def, ↓oW_q1, oW_q1, ↓attrV_q1, attrV_q1, ↓itK_q2, itK_q2, ↓evItK_q2, evItK_q2, ↓tK_q2, tK_q2, ↓tK_v3, tK_v3, ↓tK_v10, tK_v10, Option.join_some, ev_e, ev_t, ev_b, stepB_q1, stepB_q2, ↓stepS_q1, stepS_q1, ↓stepS_q9, stepS_q9, ↓stepS_q13, stepS_q13, ↓stepS_q14, stepS_q14, ↓stepE_q1, stepE_q1, ↓stepE_q2, stepE_q2, ↓stepE_q3, stepE_q3, ↓stepE_q8, stepE_q8, ↓stepE_q17, stepE_q17, ↓stepE_q19, stepE_q19, ↓stepE_q20, stepE_q20, stepT, evEs_q1, evEs_q2, setSlots_q1, setSlots_q2, List.getElem?_cons_zero, List.getElem?_cons_succ, List.set_cons_zero, List.set_cons_succ, List.length_cons, List.length_nil, Nat.blt_eq, Nat.reduceAdd, Nat.reduceLT, Nat.zero_add, if_true, if_false, ↓truthV_q1, truthV_q1, Nat.zero_lt_succ, Bool.false_eq_true, Bool.and_self, ↓wsField_q2, wsField_q2, ↓wsField_q5, wsField_q5, ↓cmpop_q6, cmpop_q6, h1, hsa, hsb, la, lb, ↓bifn_q3, bifn_q3, ↓binop_q1, binop_q1, hM, hs, hs2, hr, evIt]
            try rfl
        rw [e]
        rcases hl with ⟨rfl, y3, e1⟩ | ⟨rfl, ℓ, e1⟩
        · rw [e1]
          simp only [endC, seqB, ↓oO_def, ↓oP_def, ↓flowV_q2, flowV_q2, closeV, ev_e, stepB_q2, ↓stepS_q14, stepS_q14, ↓stepE_q1, stepE_q1, if_true, ↓close_v2, close_v2, belB, take0']
        · rw [e1]
          simp only [endC, seqB, ↓oO_def, ↓oP_def, ↓flowV_q2, flowV_q2, closeV, if_true, ↓close_v2, close_v2, belB, take0', if_true]
end Mine
end
section
set_option linter.unusedSimpArgs false
namespace Mine
open PySem PySem.W PyProof.Rows

theorem dfmod_ok (x : Int) (k : Nat) : ∃ a : Nat, Int.fmod x ((k : Int) + 1) = (a : Int) ∧ a ≤ k := by
  have h1 : (0 : Int) < (k : Int) + 1 := by omega
  have h2 := Int.fmod_nonneg_of_pos x h1
  have h3 := Int.fmod_lt_of_pos x h1
  exact ⟨(Int.fmod x ((k : Int) + 1)).toNat, by omega, by omega⟩

noncomputable def natV (d : Nat) : AV := .int (d : Int)
/-- each depth at most one more than the one ahead of it -/
noncomputable def chainD : Nat → List Nat → Prop
  | _, [] => True
  | d, e :: r => e ≤ d + 1 ∧ chainD e r
noncomputable def bodyD : List IS := [.expr (.meth .append (.var 1) [(.bin .mod (.var 2) (.bin .add (.idx (.var 1) (.neg (.lit (.int 1)))) (.lit (.int 2))))])]

theorem forLoop_lst_cons (r : Rec) (tg : Tg) (body els : List IS) (i g k : Nat) (ℓ : Loc) (σ : Sto) (L : List AV) (v : AV) (hL : listOf? σ i = some L) (hv : L[k]? = some v) :
    forLoop r tg (.lst i) body els (g + 1) k ℓ σ = oO (bindTg tg v ℓ) fun ℓ => oP (r.b body ℓ σ) fun fl x => match fl with
        | .next => forLoop r tg (.lst i) body els g (k + 1) x.1 x.2
        | .brk => some (.next, x)
        | .ret v => some (.ret v, x) := by
  simp only [forLoop_q2, ↓itNext_q2, itNext_q2, hL, hv, oO_s]
  try rfl
theorem forLoop_lst_nil (r : Rec) (tg : Tg) (body els : List IS) (i g k : Nat) (ℓ : Loc) (σ : Sto) (L : List AV) (hL : listOf? σ i = some L) (hk : L.length ≤ k) :
    forLoop r tg (.lst i) body els (g + 1) k ℓ σ = r.b els ℓ σ := by
  have hv : L[k]? = none := List.getElem?_eq_none hk
  simp only [forLoop_q2, ↓itNext_q2, itNext_q2, hL, hv, oO_s]

theorem dep_loop (n : Nat) (σ : Sto) (i : Nat) (L : List Int) (hL : listOf? σ i = some (L.map .int)) (hl : L.length ≤ 100) :
    ∀ (suf preL : List Int) (g : Nat) (pre : List Nat) (d : Nat) (x2 : Option AV), L = preL ++ suf → suf.length < g → pre.length = preL.length →
    ∃ r, chainD d r ∧ r.length = suf.length ∧ ∃ y2, forLoop (ev L02.ftab L02.ir_init (n + 8)) (.one 2) (.lst i) bodyD [] g preL.length [some (.ref i), some (.ref σ.length), x2] (σ ++ [.list ((pre ++ [d]).map natV)])
      = some (.next, [some (.ref i), some (.ref σ.length), y2], σ ++ [.list ((pre ++ d :: r).map natV)])
  | [], preL, g + 1, pre, d, x2, e, hg, hp => by
    have h1 := forLoop_lst_nil (ev L02.ftab L02.ir_init (n + 8)) (.one 2) bodyD [] i g preL.length [some (.ref i), some (.ref σ.length), x2] (σ ++ [.list ((pre ++ [d]).map natV)]) _ (listOf_app hL _) (by subst e; simp)
    exact ⟨[], trivial, rfl, x2, by rw [h1]; rfl⟩
  | x :: suf, preL, g + 1, pre, d, x2, e, hg, hp => by
    have hv : (L.map AV.int)[preL.length]? = some (.int x) := by subst e; simp
    have h1 := forLoop_lst_cons (ev L02.ftab L02.ir_init (n + 8)) (.one 2) bodyD [] i g preL.length [some (.ref i), some (.ref σ.length), x2] (σ ++ [.list ((pre ++ [d]).map natV)]) _ _ (listOf_app hL _) hv
    obtain ⟨a, ha, ha'⟩ := dfmod_ok x (d + 1)
    have ha2 : Int.fmod x ((d : Int) + 2) = (a : Int) := by
      have e0 : (d : Int) + 2 = ((d + 1 : Nat) : Int) + 1 := by omega
      rw [e0]; exact ha
    obtain ⟨r, hr, hrl, y2, ih⟩ := dep_loop n σ i L hL hl suf (preL ++ [x]) g (pre ++ [d]) a (some (.int x)) (by subst e; simp) (by simpa using hg) (by simp [hp])
    refine ⟨a :: r, ⟨ha', hr⟩, by simp [hrl], y2, ?_⟩
    have hpl : (pre ++ [d]).length ≤ 100 := by subst e; simp at hl ⊢; omega
    have hpl2 : (pre ++ [d]).length ≤ lim := Nat.le_trans hpl (by decide)
    have hpl3 : Nat.ble (pre ++ [d]).length lim = true := Nat.ble_eq.mpr hpl2
    have hn : normIdx (-1) (pre ++ [d]).length = some pre.length := by
      have h0 : decide ((0 : Int) ≤ -1) = false := rfl
      have h2 : decide ((0 : Int) ≤ -1 + ((pre ++ [d]).length : Int)) = true := decide_eq_true (by simp; omega)
      simp only [normIdx, hpl3, Bool.not_true, Bool.false_eq_true, if_false, h0, h2, if_true, Option.some.injEq]
      simp; omega
    have hg2 : ((pre ++ [d]).map natV)[pre.length]? = some (.int (d : Int)) := by simp [natV]
    have hz : (((d : Int) + 2) == 0) = false := by
      cases hh : (((d : Int) + 2) == 0) with
      | false => rfl
      | true => rw [beq_iff_eq] at hh; omega
    have hm : (pre ++ [d]).map natV ++ [AV.int (a : Int)] = (pre ++ [d] ++ [a]).map natV := by simp [natV]
    have e4 : preL.length + 1 = (preL ++ [x]).length := by simp
    have e5 : pre ++ d :: a :: r = pre ++ [d] ++ a :: r := by simp
    rw [h1, e5, ← ih, e4]
    simp only [bodyD, ↓bAdd_q1, bAdd_q1, ↓oI_q1, oI_q1, ↓oR_q1, oR_q1, ↓oOne_q1, oOne_q1, ↓oO_def, ↓oP_def, ↓oN_q1, oN_q1, Option.join_some, ev_e, ev_b, stepB_q1, stepB_q2, ↓stepS_q8, stepS_q8, ↓stepE_q1, stepE_q1, ↓stepE_q2, stepE_q2, ↓stepE_q3, stepE_q3, ↓stepE_q4, stepE_q4, ↓stepE_q11, stepE_q11, ↓stepE_q18, stepE_q18, evEs_q1, evEs_q2, ↓bindTg_q1, bindTg_q1, List.getElem?_cons_zero, List.getElem?_cons_succ, List.set_cons_zero, List.set_cons_succ, List.length_cons, List.length_nil, Nat.blt_eq, Nat.reduceAdd, Nat.reduceLT, Nat.zero_add, if_true, if_false, Bool.false_eq_true, Bool.and_self, ↓hasMeth_q2, hasMeth_q2, lof0, Option.isSome, ↓idxop_q1, idxop_q1, List.length_map, hn, hg2, ↓binop_q1, binop_q1, ↓binop_q5, binop_q5, hz, ha2, ↓method_q1, method_q1, belI, hpl3, sat0, hm]

theorem dep_call (n : Nat) (σ : Sto) (i : Nat) (L : List Int) (hL : listOf? σ i = some (L.map .int)) (hl : L.length ≤ 100) :
    ∃ r, chainD 0 r ∧ r.length = L.length ∧ (ev L02.ftab L02.ir_init (n + 10)).f 7 [.ref i] σ = some (.ref σ.length, σ ++ [.list ((0 :: r).map natV)]) := by
  have hf : L02.ftab[7]? = some L02.ir_law_depths := rfl
  obtain ⟨r, hr, hrl, y2, e⟩ := dep_loop n σ i L hL hl L [] gas [] 0 none rfl (Nat.lt_of_le_of_lt hl (by decide)) rfl
  refine ⟨r, hr, hrl, ?_⟩
  rw [ev_f _ _ _ hf]
  have hb : bels σ.length ((0 :: r).map natV) = true := by
    have := cbels_ints σ.length ((0 :: r).map (fun d : Nat => (d : Int)))
    rw [List.map_map] at this; exact this
  have h0 : ([0] : List Nat).map natV = [AV.int 0] := rfl
  have hap := listOf_app hL [AO.list [AV.int 0]]
  simp only [bodyD, List.nil_append, List.length_nil] at e
  rw [h0] at e
  simp only [callFn, L02.ir_law_depths, bindArgsL, List.replicate_succ, List.replicate_zero, ↓oO_def, ↓oP_def, ↓itK_v1, itK_v1, ↓evItK_q3, evItK_q3, ↓itVal_q2, itVal_q2, ↓flowV_q2, flowV_q2, Option.join_some, ev_e, ev_b, stepB_q2, ↓stepS_q1, stepS_q1, ↓stepS_q9, stepS_q9, ↓stepS_q14, stepS_q14, ↓stepE_q1, stepE_q1, ↓stepE_q2, stepE_q2, ↓stepE_q10, stepE_q10, evEs_q1, evEs_q2, setSlots_q1, setSlots_q2, List.getElem?_cons_zero, List.getElem?_cons_succ, List.set_cons_zero, List.set_cons_succ, List.length_cons, List.length_nil, Nat.blt_eq, Nat.reduceAdd, Nat.reduceLT, Nat.zero_add, if_true, if_false, Nat.zero_lt_succ, Bool.and_self, endComp, belsN, belsC, belI, evIt, hap, Option.isSome, e, ↓close_q1, close_q1, Nat.lt_irrefl, lof0, hb, take0]

/-! the lead -/
noncomputable def leadGo (s0 s1 : List Nat) (p : Nat) : Nat → Nat → List (List Nat)
  | 0, _ => []
  | c + 1, k => (if (p + k) % 2 == 0 then s0 else s1) :: leadGo s0 s1 p c (k + 1)
theorem leadGo_q1 (s0 s1 : List Nat) (p : Nat) : leadGo s0 s1 p (0) (u1') = ([]) := rfl
theorem leadGo_q2 (s0 s1 : List Nat) (p : Nat) : leadGo s0 s1 p (c + 1) (k) = ((if (p + k) % 2 == 0 then s0 else s1) :: leadGo s0 s1 p c (k + 1)) := rfl
noncomputable def leadL (s0 s1 : List Nat) (p d : Nat) : List Nat := joinS [] (leadGo s0 s1 p d 0)
noncomputable def eltLead : IE := .idx (.var 2) (.bin .mod (.bin .add (.var 3) (.var 1)) (.lit (.int 2)))
theorem leadGo_len (s0 s1 : List Nat) (p : Nat) : ∀ c k, (leadGo s0 s1 p c k).length = c
  | 0, _ => rfl
  | c + 1, k => by simp only [leadGo_q2, List.length_cons, leadGo_len s0 s1 p c]
theorem leadGo_sum (s0 s1 : List Nat) (p : Nat) (h0 : s0.length ≤ 10) (h1 : s1.length ≤ 10) : ∀ c k, sumLen (leadGo s0 s1 p c k) ≤ 10 * c
  | 0, _ => Nat.le_refl _
  | c + 1, k => by
    have := leadGo_sum s0 s1 p h0 h1 c (k + 1)
    simp only [leadGo_q2, sumLen_q2]
    cases ((p + k) % 2 == 0) <;> simp <;> omega
theorem lead_comp (n : Nat) (σ : Sto) (i : Nat) (s0 s1 : List Nat) (hL : listOf? σ i = some [.str s0, .str s1]) (t : Int) (p : Nat) (ht : Int.fmod t 2 = (p : Int)) :
    ∀ (c k : Nat) (w : Option AV) (acc : List (List Nat)), acc.length + c ≤ 1000 →
    ∃ w', compL (innerElt (ev L02.ftab L02.ir_init (n + 8)) [] eltLead) (.one 1) (rangeL k c) [none, w, some (.ref i), some (.int t)] σ (acc.map .str)
      = some ([none, w', some (.ref i), some (.int t)], σ, (acc ++ leadGo s0 s1 p c k).map .str)
  | 0, k, w, acc, _ => ⟨w, by simp [compL_q1, leadGo_q1, rangeL_q1]⟩
  | c + 1, k, w, acc, h => by
    obtain ⟨w', ih⟩ := lead_comp n σ i s0 s1 hL t p ht c (k + 1) (some (.int k)) (acc ++ [if (p + k) % 2 == 0 then s0 else s1]) (by simp only [List.length_append, List.length_cons, List.length_nil] at h ⊢; omega)
    refine ⟨w', ?_⟩
    have ha : acc.length ≤ lim := Nat.le_trans (show acc.length ≤ 1000 by omega) (by decide)
    have hk1 : ((k : Nat) : Int) + 1 = ((k + 1 : Nat) : Int) := by omega
    have hz : ((2 : Int) == 0) = false := by decide
    obtain ⟨q, hq, hq'⟩ := dfmod_ok (t + k) 1
    have hq2 : Int.fmod (t + k) 2 = (q : Int) := hq
    have hqp : (p + k) % 2 = q := by
      rw [Int.fmod_eq_emod_of_nonneg _ (by omega)] at ht hq2
      omega
    have hN : normIdx (q : Int) 2 = some q := by
      have : q = 0 ∨ q = 1 := by omega
      rcases this with rfl | rfl <;> rfl
    have hg : ([.str s0, .str s1] : List AV)[q]? = some (.str (if q == 0 then s0 else s1)) := by
      have : q = 0 ∨ q = 1 := by omega
      rcases this with rfl | rfl <;> rfl
    have e5 : acc ++ leadGo s0 s1 p (c + 1) k = acc ++ [if (p + k) % 2 == 0 then s0 else s1] ++ leadGo s0 s1 p c (k + 1) := by simp [leadGo_q2]
    rw [e5, ← ih]
    simp only [rangeL_q2, hk1, compL_q2, innerElt, eltLead, evIfs_q1, ↓bAdd_q1, bAdd_q1, ↓oI_q1, oI_q1, ↓oO_def, ↓oP_def, Option.join_some, ev_e, ↓stepE_q1, stepE_q1, ↓stepE_q2, stepE_q2, ↓stepE_q3, stepE_q3, ↓stepE_q11, stepE_q11, ↓bindTg_q1, bindTg_q1, List.getElem?_cons_zero, List.getElem?_cons_succ, List.set_cons_zero, List.set_cons_succ, List.length_cons, List.length_nil, Nat.blt_eq, Nat.ble_eq, Nat.reduceAdd, Nat.reduceLT, Nat.zero_add, if_true, if_false, Bool.false_eq_true, ↓binop_q1, binop_q1, ↓binop_q5, binop_q5, hz, hq2, ↓idxop_q1, idxop_q1, hL, hN, hg, List.length_map, ha, List.map_append, List.map_cons, List.map_nil, hqp]

theorem lead_call (n : Nat) (σ : Sto) (i : Nat) (s0 s1 : List Nat) (h0 : s0.length ≤ 10) (h1 : s1.length ≤ 10) (hL : listOf? σ i = some [.str s0, .str s1]) (t : Int) (p : Nat) (ht : Int.fmod t 2 = (p : Int)) (d : Nat) (hd : d ≤ 100) :
    (ev L02.ftab L02.ir_init (n + 13)).f 8 [.ref i, .int t, .int d] σ = some (.str (leadL s0 s1 p d), σ) := by
  have hf : L02.ftab[8]? = some L02.ir_law_lead := rfl
  rw [ev_f _ _ _ hf]
  obtain ⟨w', e⟩ := lead_comp (n + 1) σ i s0 s1 hL t p ht d 0 none [] (by simp; omega)
  have hcl := compLoop_vals (innerElt (ev L02.ftab L02.ir_init (n + 9)) [] eltLead) (.one 1) (rangeL 0 d) [none, none, some (.ref i), some (.int t)] σ [] (by rw [drangeL_len]; omega)
  have hi : impLoc [none, none, some 0, some 1] [some (.ref i), some (.int t), some (.int d), none] = [none, none, some (.ref i), some (.int t)] := rfl
  have hs : small (d : Int) = true := Nat.ble_eq.mpr (by rw [Int.natAbs_natCast]; exact Nat.le_trans (Nat.succ_le_succ hd) (by decide))
  have hm1 : decide ((d : Int) ≤ 1000000) = true := decide_eq_true (by omega)
  have hsum : sumLen (leadGo s0 s1 p d 0) ≤ lim := Nat.le_trans (leadGo_sum s0 s1 p h0 h1 d 0) (Nat.le_trans (show _ ≤ 1000 by omega) (by decide))
  simp only [List.map_nil, List.nil_append, Int.natCast_zero, eltLead, Nat.add_assoc, Nat.reduceAdd] at e hcl
  simp only [callFn, L02.ir_law_lead, bindArgsL, List.replicate_succ, List.replicate_zero, ↓oI_q1, oI_q1, ↓oS_q1, oS_q1, ↓oR_q1, oR_q1, ↓oOne_q1, oOne_q1, ↓oO_def, ↓oP_def, ↓itK_q1, itK_q1, ↓evItK_q1, evItK_q1, ↓flowV_q2, flowV_q2, closeV, Option.join_some, ev_e, ev_b, stepB_q2, ↓stepS_q14, stepS_q14, ↓stepE_q1, stepE_q1, ↓stepE_q2, stepE_q2, ↓stepE_q13, stepE_q13, ↓stepE_q18, stepE_q18, evEs_q1, evEs_q2, setSlots_q1, setSlots_q2, List.getElem?_cons_zero, List.getElem?_cons_succ, List.set_cons_zero, List.set_cons_succ, List.length_cons, List.length_nil, Nat.blt_eq, Nat.ble_eq, Nat.reduceAdd, Nat.reduceLT, Nat.zero_add, if_true, Nat.zero_lt_succ, Bool.and_self, evIt, hs, hm1, Int.toNat_natCast, hi, hcl, e, endComp, cbels_strs, ↓hasMeth_q1, hasMeth_q1, ↓method_q5, method_q5, lof0, asStrs_map, List.length_nil, Nat.zero_mul, Nat.add_zero, hsum, ↓close_v1, close_v1, belS, take0, leadL]
end Mine
end
section
set_option linter.unusedSimpArgs false
namespace Mine
open PySem PySem.W PyProof.Rows

noncomputable def nf : Nat → Nat → List Nat
  | 0, _ => []
  | c + 1, k => k :: nf c (k + 1)
theorem nf_q1  : nf (0) (u1') = ([]) := rfl
theorem nf_q2  : nf (c + 1) (k) = (k :: nf c (k + 1)) := rfl
theorem rangeL_nf : ∀ c k : Nat, rangeL k c = (nf c k).map natV
  | 0, _ => rfl
  | c + 1, k => by
    have e : ((k : Nat) : Int) + 1 = ((k + 1 : Nat) : Int) := by omega
    simp only [rangeL_q2, nf_q2, List.map_cons, e, rangeL_nf c (k + 1), natV]
theorem nf_mem : ∀ {c k x : Nat}, x ∈ nf c k → k ≤ x ∧ x < k + c
  | 0, _, _, h => by cases h
  | c + 1, k, x, h => by
    simp only [nf_q2, List.mem_cons] at h
    rcases h with rfl | h
    · omega
    · have := nf_mem h; omega
theorem nf_len : ∀ c k : Nat, (nf c k).length = c
  | 0, _ => rfl
  | c + 1, k => by simp only [nf_q2, List.length_cons, nf_len c]
theorem nf_get : ∀ (c k i : Nat), i < c → (nf c k)[i]? = some (k + i)
  | 0, _, _, h => by omega
  | c + 1, k, 0, _ => rfl
  | c + 1, k, i + 1, h => by
    simp only [nf_q2, List.getElem?_cons_succ]
    rw [nf_get c (k + 1) i (by omega)]
    congr 1; omega
theorem sat1 (σ : Sto) (a b : AO) (l : List AV) (t : Sto) : setAt (σ ++ a :: b :: t) (σ.length + 1) l = σ ++ a :: .list l :: t := by
  unfold setAt; rw [List.set_append_right _ _ (by omega), show σ.length + 1 - σ.length = 1 by omega]; rfl

/-- one line's sign at one depth -/
noncomputable def sign (k d : Nat) : List (List Nat) := if d == k then [[40]] else if decide (0 < k) && d == k - 1 then [[41]] else []
noncomputable def rowIn (k : Nat) (ds : List Nat) : List (List Nat) := ds.flatMap (sign k)
noncomputable def rowAll (ks ds : List Nat) : List (List Nat) := ks.flatMap fun k => rowIn k ds
noncomputable def bodyW : List IS := [.ifS (.umeth 2 (.var 5) [(.idx (.var 3) (.var 2))]) [.expr (.meth .append (.var 4) [(.lit (.str [40]))])] [.ifS (.andE (.cmp .gt (.var 2) (.lit (.int 0))) (.umeth 2 (.var 5) [(.idx (.var 3) (.bin .sub (.var 2) (.lit (.int 1))))])) [.expr (.meth .append (.var 4) [(.lit (.str [41]))])] []]]

theorem sign_len (k d : Nat) : (sign k d).length ≤ 1 := by
  unfold sign
  split
  · exact Nat.le_refl _
  · split
    · exact Nat.le_refl _
    · exact Nat.zero_le _
theorem rowIn_len (k : Nat) : ∀ ds : List Nat, (rowIn k ds).length ≤ ds.length
  | [] => Nat.le_refl _
  | d :: ds => by
    have := rowIn_len k ds; have := sign_len k d
    simp only [rowIn, List.flatMap_cons, List.length_append, List.length_cons] at *; omega

theorem row_in (n : Nat) (σ : Sto) (i j : Nat) (zs : List (WS × Nat)) (hL : listOf? σ i = some (zs.map fun z => .inst z.1)) (lv : Nat → WS)
    (hE : ∀ z ∈ zs, ∀ k, k < 8 → eqO z.1 (lv k) = some (z.2 == k)) (k : Nat) (hk : k < 8) :
    ∀ (suf pre : List (WS × Nat)) (g : Nat) (acc : List (List Nat)) (x5 : Option AV), zs = pre ++ suf → suf.length < g → acc.length + suf.length ≤ 1000 →
    ∃ y5, forLoop (ev L02.ftab L02.ir_init (n + 16)) (.one 5) (.lst i) bodyW [] g pre.length [some (.ref i), some (.ref j), some (natV k), some (.ref σ.length), some (.ref (σ.length + 1)), x5, none] (σ ++ [.list ((nf 8 0).map fun k => .inst (lv k)), .list (acc.map .str)])
      = some (.next, [some (.ref i), some (.ref j), some (natV k), some (.ref σ.length), some (.ref (σ.length + 1)), y5, none], σ ++ [.list ((nf 8 0).map fun k => .inst (lv k)), .list ((acc ++ rowIn k (suf.map (·.2))).map .str)])
  | [], pre, g + 1, acc, x5, e, hg, ha => by
    refine ⟨x5, ?_⟩
    rw [forLoop_lst_nil _ _ _ _ i g pre.length _ _ _ (listOf_app hL _) (by subst e; simp)]
    simp only [rowIn, List.map_nil, List.flatMap_nil, List.append_nil]
    rfl
  | z :: suf, pre, g + 1, acc, x5, e, hg, ha => by
    have hv : (zs.map fun z => AV.inst z.1)[pre.length]? = some (.inst z.1) := by subst e; simp
    have hz := hE z (by subst e; simp)
    have hal : Nat.ble acc.length lim = true := Nat.ble_eq.mpr (Nat.le_trans (show _ ≤ 1000 by simp at ha; omega) (by decide))
    have e1 := equal_call (n + 3) z.1 (lv k) _ (hz k hk)
    have hni : normIdx (k : Int) 8 = some k := normIdx_nat k 8 hk (by decide)
    have hgl : ((nf 8 0).map fun k => AV.inst (lv k))[k]? = some (.inst (lv k)) := by rw [List.getElem?_map, nf_get 8 0 k hk, Nat.zero_add]; rfl
    have hll : ((nf 8 0).map fun k => AV.inst (lv k)).length = 8 := by rw [List.length_map, nf_len]
    have ep : pre.length + 1 = (pre ++ [z]).length := by simp
    have hlen : ∀ c : List Nat, (acc ++ [c]).length + suf.length ≤ 1000 := by intro c; simp only [List.length_append, List.length_cons, List.length_nil] at ha ⊢; omega
    simp only [Nat.add_assoc, Nat.reduceAdd] at e1
    cases hd : (z.2 == k) with
    | true =>
      obtain ⟨y5, ih⟩ := row_in n σ i j zs hL lv hE k hk suf (pre ++ [z]) g (acc ++ [[40]]) (some (.inst z.1)) (by subst e; simp) (by simpa using hg) (hlen _)
      refine ⟨y5, ?_⟩
      rw [forLoop_lst_cons _ _ _ _ i g pre.length _ _ _ _ (listOf_app hL _) hv]
      have er : acc ++ rowIn k ((z :: suf).map (·.2)) = acc ++ [[40]] ++ rowIn k (suf.map (·.2)) := by
        simp only [rowIn, List.map_cons, List.flatMap_cons, sign, hd, if_true, List.append_assoc]
      rw [er, ← ih, ep]
      rw [hd] at e1
      simp only [bodyW, ↓oI_q1, oI_q1, ↓oR_q1, oR_q1, ↓oOne_q1, oOne_q1, ↓oO_def, ↓oP_def, ↓oW_q1, oW_q1, ↓oN_q1, oN_q1, ↓tK_v9, tK_v9, Option.join_some, ev_e, ev_t, ev_b, stepB_q1, stepB_q2, ↓stepS_q8, stepS_q8, ↓stepS_q13, stepS_q13, ↓stepE_q1, stepE_q1, ↓stepE_q2, stepE_q2, ↓stepE_q11, stepE_q11, ↓stepE_q18, stepE_q18, ↓stepE_q19, stepE_q19, stepT, evEs_q1, evEs_q2, ↓bindTg_q1, bindTg_q1, List.getElem?_cons_zero, List.getElem?_cons_succ, List.set_cons_zero, List.set_cons_succ, List.length_cons, List.length_nil, Nat.blt_eq, Nat.reduceAdd, Nat.reduceLT, Nat.zero_add, if_true, ↓truthV_q1, truthV_q1, Bool.and_self, natV, ↓idxop_q1, idxop_q1, lof0, lof1, hll, hni, hgl, e1, ↓hasMeth_q2, hasMeth_q2, Option.isSome, ↓method_q1, method_q1, belS, List.length_map, hal, sat1, List.map_append, List.map_cons, List.map_nil]
    | false =>
      rw [hd] at e1
      cases hk0 : decide ((0 : Int) < (k : Int)) with
      | false =>
        have hk0' : decide (0 < k) = false := decide_eq_false (by have := of_decide_eq_false hk0; omega)
        obtain ⟨y5, ih⟩ := row_in n σ i j zs hL lv hE k hk suf (pre ++ [z]) g acc (some (.inst z.1)) (by subst e; simp) (by simpa using hg) (by simp at ha; omega)
        refine ⟨y5, ?_⟩
        rw [forLoop_lst_cons _ _ _ _ i g pre.length _ _ _ _ (listOf_app hL _) hv]
        have er : acc ++ rowIn k ((z :: suf).map (·.2)) = acc ++ rowIn k (suf.map (·.2)) := by
          simp only [rowIn, List.map_cons, List.flatMap_cons, sign, hd, hk0', if_false, Bool.false_eq_true, Bool.false_and, List.nil_append]
        rw [er, ← ih, ep]
        simp only [bodyW, ↓oI_q1, oI_q1, ↓oO_def, ↓oP_def, ↓oW_q1, oW_q1, ↓tK_q2, tK_q2, ↓tK_v3, tK_v3, ↓tK_v9, tK_v9, Option.join_some, ev_e, ev_t, ev_b, stepB_q1, stepB_q2, ↓stepS_q13, stepS_q13, ↓stepE_q1, stepE_q1, ↓stepE_q2, stepE_q2, ↓stepE_q3, stepE_q3, ↓stepE_q8, stepE_q8, ↓stepE_q11, stepE_q11, ↓stepE_q19, stepE_q19, stepT, evEs_q1, evEs_q2, ↓bindTg_q1, bindTg_q1, List.getElem?_cons_zero, List.getElem?_cons_succ, List.set_cons_zero, List.set_cons_succ, List.length_cons, List.length_nil, Nat.blt_eq, Nat.reduceAdd, Nat.reduceLT, Nat.zero_add, if_true, if_false, ↓truthV_q1, truthV_q1, Bool.false_eq_true, natV, ↓idxop_q1, idxop_q1, lof0, hll, hni, hgl, e1, ↓cmpop_q5, cmpop_q5, hk0]
      | true =>
        have hk1 := of_decide_eq_true hk0
        have hk0' : decide (0 < k) = true := decide_eq_true (by omega)
        have hk2 : (k : Int) - 1 = ((k - 1 : Nat) : Int) := by omega
        have hni2 : normIdx ((k - 1 : Nat) : Int) 8 = some (k - 1) := normIdx_nat (k - 1) 8 (by omega) (by decide)
        have hgl2 : ((nf 8 0).map fun k => AV.inst (lv k))[k - 1]? = some (.inst (lv (k - 1))) := by rw [List.getElem?_map, nf_get 8 0 (k - 1) (by omega), Nat.zero_add]; rfl
        have e2 := equal_call (n + 1) z.1 (lv (k - 1)) _ (hz (k - 1) (by omega))
        simp only [Nat.add_assoc, Nat.reduceAdd] at e2
        cases hd2 : (z.2 == k - 1) with
        | true =>
          rw [hd2] at e2
          obtain ⟨y5, ih⟩ := row_in n σ i j zs hL lv hE k hk suf (pre ++ [z]) g (acc ++ [[41]]) (some (.inst z.1)) (by subst e; simp) (by simpa using hg) (hlen _)
          refine ⟨y5, ?_⟩
          rw [forLoop_lst_cons _ _ _ _ i g pre.length _ _ _ _ (listOf_app hL _) hv]
          have er : acc ++ rowIn k ((z :: suf).map (·.2)) = acc ++ [[41]] ++ rowIn k (suf.map (·.2)) := by
            simp only [rowIn, List.map_cons, List.flatMap_cons, sign, hd, hd2, hk0', if_false, Bool.false_eq_true, Bool.true_and, if_true, List.append_assoc]
          rw [er, ← ih, ep]
          simp only [bodyW, ↓oI_q1, oI_q1, ↓oR_q1, oR_q1, ↓oOne_q1, oOne_q1, ↓oO_def, ↓oP_def, ↓oW_q1, oW_q1, ↓oN_q1, oN_q1, ↓tK_q2, tK_q2, ↓tK_v3, tK_v3, ↓tK_v9, tK_v9, Option.join_some, ev_e, ev_t, ev_b, stepB_q1, stepB_q2, ↓stepS_q8, stepS_q8, ↓stepS_q13, stepS_q13, ↓stepE_q1, stepE_q1, ↓stepE_q2, stepE_q2, ↓stepE_q3, stepE_q3, ↓stepE_q8, stepE_q8, ↓stepE_q11, stepE_q11, ↓stepE_q18, stepE_q18, ↓stepE_q19, stepE_q19, stepT, evEs_q1, evEs_q2, ↓bindTg_q1, bindTg_q1, List.getElem?_cons_zero, List.getElem?_cons_succ, List.set_cons_zero, List.set_cons_succ, List.length_cons, List.length_nil, Nat.blt_eq, Nat.reduceAdd, Nat.reduceLT, Nat.zero_add, if_true, if_false, ↓truthV_q1, truthV_q1, Bool.false_eq_true, Bool.and_self, natV, ↓idxop_q1, idxop_q1, lof0, lof1, hll, hni, hgl, e1, ↓cmpop_q5, cmpop_q5, hk0, ↓binop_q2, binop_q2, hk2, hni2, hgl2, e2, ↓hasMeth_q2, hasMeth_q2, Option.isSome, ↓method_q1, method_q1, belS, List.length_map, hal, sat1, List.map_append, List.map_cons, List.map_nil]
        | false =>
          rw [hd2] at e2
          obtain ⟨y5, ih⟩ := row_in n σ i j zs hL lv hE k hk suf (pre ++ [z]) g acc (some (.inst z.1)) (by subst e; simp) (by simpa using hg) (by simp at ha; omega)
          refine ⟨y5, ?_⟩
          rw [forLoop_lst_cons _ _ _ _ i g pre.length _ _ _ _ (listOf_app hL _) hv]
          have er : acc ++ rowIn k ((z :: suf).map (·.2)) = acc ++ rowIn k (suf.map (·.2)) := by
            simp only [rowIn, List.map_cons, List.flatMap_cons, sign, hd, hd2, hk0', if_false, Bool.false_eq_true, Bool.true_and, List.nil_append]
          rw [er, ← ih, ep]
          simp only [bodyW, ↓oI_q1, oI_q1, ↓oO_def, ↓oP_def, ↓oW_q1, oW_q1, ↓tK_q2, tK_q2, ↓tK_v3, tK_v3, ↓tK_v9, tK_v9, Option.join_some, ev_e, ev_t, ev_b, stepB_q1, stepB_q2, ↓stepS_q13, stepS_q13, ↓stepE_q1, stepE_q1, ↓stepE_q2, stepE_q2, ↓stepE_q3, stepE_q3, ↓stepE_q8, stepE_q8, ↓stepE_q11, stepE_q11, ↓stepE_q19, stepE_q19, stepT, evEs_q1, evEs_q2, ↓bindTg_q1, bindTg_q1, List.getElem?_cons_zero, List.getElem?_cons_succ, List.set_cons_zero, List.set_cons_succ, List.length_cons, List.length_nil, Nat.blt_eq, Nat.reduceAdd, Nat.reduceLT, Nat.zero_add, if_true, if_false, ↓truthV_q1, truthV_q1, Bool.false_eq_true, natV, ↓idxop_q1, idxop_q1, lof0, hll, hni, hgl, e1, ↓cmpop_q5, cmpop_q5, hk0, ↓binop_q2, binop_q2, hk2, hni2, hgl2, e2]
end Mine
end
section
set_option linter.unusedSimpArgs false
namespace Mine
open PySem PySem.W PyProof.Rows

theorem row_out (n : Nat) (σ : Sto) (i j : Nat) (zs : List (WS × Nat)) (hL : listOf? σ i = some (zs.map fun z => .inst z.1)) (hzl : zs.length ≤ 100) (lv : Nat → WS)
    (hE : ∀ z ∈ zs, ∀ k, k < 8 → eqO z.1 (lv k) = some (z.2 == k)) :
    ∀ (c k : Nat) (acc : List (List Nat)) (x2 x5 : Option AV), k + c ≤ 8 → acc.length + c * 100 ≤ 1000 →
    ∃ y2 y5, forL (ev L02.ftab L02.ir_init (n + 18)) (.one 2) [.forS (.one 5) (.var 0) bodyW []] [] (rangeL k c) [some (.ref i), some (.ref j), x2, some (.ref σ.length), some (.ref (σ.length + 1)), x5, none] (σ ++ [.list ((nf 8 0).map fun k => .inst (lv k)), .list (acc.map .str)])
      = some (.next, [some (.ref i), some (.ref j), y2, some (.ref σ.length), some (.ref (σ.length + 1)), y5, none], σ ++ [.list ((nf 8 0).map fun k => .inst (lv k)), .list ((acc ++ rowAll (nf c k) (zs.map (·.2))).map .str)])
  | 0, k, acc, x2, x5, hk, ha => ⟨x2, x5, by simp only [rangeL_q1, forL_q1, rowAll, nf_q1, nf_q2, List.flatMap_nil, List.append_nil]; rfl⟩
  | c + 1, k, acc, x2, x5, hk, ha => by
    obtain ⟨y5, h1⟩ := row_in (n + 1) σ i j zs hL lv hE k (by omega) zs [] gas acc x5 rfl (by unfold gas; omega) (by omega)
    have hl := rowIn_len k (zs.map (·.2))
    rw [List.length_map] at hl
    obtain ⟨y2, y5', ih⟩ := row_out n σ i j zs hL hzl lv hE c (k + 1) (acc ++ rowIn k (zs.map (·.2))) (some (natV k)) y5 (by omega) (by rw [List.length_append]; omega)
    refine ⟨y2, y5', ?_⟩
    have er : acc ++ rowAll (nf (c + 1) k) (zs.map (·.2)) = acc ++ rowIn k (zs.map (·.2)) ++ rowAll (nf c (k + 1)) (zs.map (·.2)) := by
      simp only [rowAll, nf_q2, List.flatMap_cons, List.append_assoc]
    have hls : (listOf? (σ ++ [AO.list ((nf 8 0).map fun k => .inst (lv k)), .list (acc.map .str)]) i).isSome = true := by rw [listOf_app hL]; rfl
    have ek : ((k : Nat) : Int) + 1 = ((k + 1 : Nat) : Int) := by omega
    rw [er, ← ih]
    simp only [natV, List.length_nil, Nat.add_assoc, Nat.reduceAdd] at h1
    simp only [rangeL_q2, forL_q2, ↓oO_def, ↓oP_def, ↓itK_v1, itK_v1, ↓evItK_q3, evItK_q3, ↓itVal_q2, itVal_q2, Option.join_some, ev_e, ev_b, stepB_q1, stepB_q2, ↓stepS_q9, stepS_q9, ↓stepE_q2, stepE_q2, ↓bindTg_q1, bindTg_q1, List.getElem?_cons_zero, List.set_cons_zero, List.set_cons_succ, List.length_cons, List.length_nil, Nat.blt_eq, Nat.reduceAdd, Nat.reduceLT, Nat.zero_add, if_true, evIt, hls, h1, ek, natV]
end Mine
end
section
set_option linter.unusedSimpArgs false
namespace Mine
open PySem PySem.W PyProof.Rows

noncomputable def lvF (lv : Nat → WS) : AV → List AV
  | .int k => [.inst (lv k.toNat)]
  | _ => []
theorem lvF_q1 (lv : Nat → WS) : lvF lv (.int k) = ([.inst (lv k.toNat)]) := rfl
theorem row_levels (n : Nat) (σ : Sto) (j : Nat) (s0 : List Nat) (S : List AV) (hS : listOf? σ j = some (.str s0 :: S)) (hS2 : S.length = 1) (hs : s0.length ≤ 1000) (lv : Nat → WS) (hw : ∀ k, k < 8 → wsO (List.replicate k s0).flatten = some (lv k)) :
    ∃ ℓ', compLoop (innerElt (ev L02.ftab L02.ir_init (n + 17)) [] (.cls (.bin .mul (.idx (.var 3) (.lit (.int 0))) (.var 1)))) (.one 1) (.vals (rangeL 0 8)) gas 0 [none, none, none, some (.ref j)] σ [] = some (ℓ', σ, (nf 8 0).map fun k => .inst (lv k)) := by
  have e0 : (rangeL 0 8 : List AV) = (nf 8 0).map natV := rangeL_nf 8 0
  obtain ⟨ℓ', h⟩ := compLoop_map (innerElt (ev L02.ftab L02.ir_init (n + 17)) [] (.cls (.bin .mul (.idx (.var 3) (.lit (.int 0))) (.var 1)))) 1 (rangeL 0 8) (lvF lv) σ [none, none, none, some (.ref j)] (by show 1 < 4; decide) (by rw [e0, List.length_map, nf_len]; decide) (by
    intro v hv
    rw [e0] at hv
    obtain ⟨k, hk, rfl⟩ := List.mem_map.mp hv
    have hk8 : k < 8 := by have := (nf_mem hk).2; omega
    refine ⟨Nat.le_refl _, fun acc ha => ?_⟩
    have hl : Nat.ble acc.length lim = true := Nat.ble_eq.mpr (Nat.le_trans ha (by rw [e0, List.length_map, nf_len]; decide))
    have hn := new_obj L02.ftab L02.ir_init (n + 2) _ _ (hw k hk8) σ
    have h1 : (decide (-1000 ≤ ((k : Nat) : Int)) && decide (((k : Nat) : Int) ≤ 1000) && Nat.ble s0.length 1000) = true := by
      simp only [Bool.and_eq_true, decide_eq_true_eq, Nat.ble_eq]
      exact ⟨⟨by omega, by omega⟩, hs⟩
    have hni : normIdx (0 : Int) (S.length + 1) = some 0 := by rw [hS2]; rfl
    simp only [Nat.add_assoc, Nat.reduceAdd] at hn
    simp only [innerElt, evIfs_q1, natV, ↓bMul_q2, bMul_q2, ↓oI_q1, oI_q1, ↓oO_def, ↓oP_def, Option.join_some, ev_e, ↓stepE_q1, stepE_q1, ↓stepE_q2, stepE_q2, ↓stepE_q3, stepE_q3, ↓stepE_q11, stepE_q11, ↓stepE_q16, stepE_q16, List.getElem?_cons_zero, List.getElem?_cons_succ, List.set_cons_zero, List.set_cons_succ, List.length_cons, if_true, ↓idxop_q1, idxop_q1, hS, hni, ↓binop_q3, binop_q3, h1, Int.toNat_natCast, hn, hl, ↓lvF_q1, lvF_q1])
  refine ⟨ℓ', h.trans ?_⟩
  have e : (rangeL 0 8).flatMap (lvF lv) = (nf 8 0).map fun k => .inst (lv k) := by
    rw [e0, map_flatMap]
    exact flatMap_one _ _
  rw [e]

theorem joinS_nil : ∀ l : List (List Nat), joinS [] l = l.flatten
  | [] => rfl
  | [x] => by simp [joinS_q2]
  | x :: y :: r => by rw [joinS_q3, joinS_nil (y :: r)]; rfl

theorem sumLen_le {l : List (List Nat)} (h : ∀ x ∈ l, x.length ≤ 1) : sumLen l ≤ l.length := by
  induction l with
  | nil => exact Nat.le_refl _
  | cons x l ih =>
    have h1 := h x List.mem_cons_self
    have h2 := ih fun y hy => h y (List.mem_cons_of_mem _ hy)
    show x.length + sumLen l ≤ l.length + 1
    omega
theorem sign_one (k d : Nat) : ∀ x ∈ sign k d, x.length ≤ 1 := by
  intro x hx
  unfold sign at hx
  split at hx
  · rw [List.mem_singleton.mp hx]; exact Nat.le_refl _
  · split at hx
    · rw [List.mem_singleton.mp hx]; exact Nat.le_refl _
    · cases hx
theorem rowAll_one (ks ds : List Nat) : ∀ x ∈ rowAll ks ds, x.length ≤ 1 := by
  intro x hx
  obtain ⟨k, _, hx⟩ := List.mem_flatMap.mp hx
  obtain ⟨d, _, hx⟩ := List.mem_flatMap.mp hx
  exact sign_one k d x hx
theorem rowAll_len : ∀ (ks ds : List Nat), (rowAll ks ds).length ≤ ks.length * ds.length
  | [], ds => by simp [rowAll]
  | k :: ks, ds => by
    have h1 := rowAll_len ks ds
    have h2 := rowIn_len k ds
    simp only [rowAll, List.flatMap_cons, List.length_append, List.length_cons] at h1 ⊢
    rw [Nat.succ_mul]; omega

theorem row_call (n : Nat) (σ : Sto) (i j : Nat) (s0 : List Nat) (S : List AV) (zs : List (WS × Nat)) (hL : listOf? σ i = some (zs.map fun z => .inst z.1)) (hzl : zs.length ≤ 100) (hS : listOf? σ j = some (.str s0 :: S)) (hS2 : S.length = 1) (hs : s0.length ≤ 1000)
    (lv : Nat → WS) (hw : ∀ k, k < 8 → wsO (List.replicate k s0).flatten = some (lv k)) (hE : ∀ z ∈ zs, ∀ k, k < 8 → eqO z.1 (lv k) = some (z.2 == k)) :
    (ev L02.ftab L02.ir_init (n + 20)).f 9 [.ref i, .ref j] σ = some (.str (rowAll (nf 8 0) (zs.map (·.2))).flatten, σ) := by
  have hf : L02.ftab[9]? = some L02.ir_law_row := rfl
  rw [ev_f _ _ _ hf]
  obtain ⟨ℓ1, h1⟩ := row_levels n σ j s0 S hS hS2 hs lv hw
  obtain ⟨y2, y5, h2⟩ := row_out n σ i j zs hL hzl lv hE 8 0 [] none none (by omega) (by simp)
  have hlf := forLoop_vals (ev L02.ftab L02.ir_init (n + 18)) (.one 2) [.forS (.one 5) (.var 0) bodyW []] [] (rangeL 0 8) [some (.ref i), some (.ref j), none, some (.ref σ.length), some (.ref (σ.length + 1)), none, none] (σ ++ [.list ((nf 8 0).map fun k => .inst (lv k)), .list []]) (by rw [drangeL_len]; decide)
  have hb1 : ∀ m, bels m ((nf 8 0).map fun k => AV.inst (lv k)) = true := fun m => rfl
  have hlen2 : ∀ a : AO, (σ ++ [a]).length = σ.length + 1 := by intro a; simp
  have happ : ∀ a b : AO, σ ++ [a] ++ [b] = σ ++ [a, b] := by intro a b; simp
  have hm : small 8 = true := rfl
  have hsum : Nat.ble (sumLen (rowAll (nf 8 0) (zs.map (·.2))) + 0 * (rowAll (nf 8 0) (zs.map (·.2))).length) lim = true := by
    have := sumLen_le (rowAll_one (nf 8 0) (zs.map (·.2)))
    have h3 := rowAll_len (nf 8 0) (zs.map (·.2))
    rw [nf_len, List.length_map] at h3
    refine Nat.ble_eq.mpr (Nat.le_trans (show _ ≤ 800 by omega) (by decide))
  simp only [List.nil_append, List.map_nil, Int.natCast_zero, bodyW] at h2
  simp only [bodyW] at hlf
  simp only [callFn, L02.ir_law_row, bindArgsL, List.replicate_succ, List.replicate_zero, ↓oI_q1, oI_q1, ↓oS_q1, oS_q1, ↓oR_q1, oR_q1, ↓oOne_q1, oOne_q1, ↓oO_def, ↓oP_def, ↓itK_q1, itK_q1, ↓evItK_q1, evItK_q1, ↓flowV_q2, flowV_q2, closeV, Option.join_some, ev_e, ev_b, stepB_q2, ↓stepS_q1, stepS_q1, ↓stepS_q9, stepS_q9, ↓stepS_q14, stepS_q14, ↓stepE_q1, stepE_q1, ↓stepE_q2, stepE_q2, ↓stepE_q10, stepE_q10, ↓stepE_q13, stepE_q13, ↓stepE_q18, stepE_q18, evEs_q1, evEs_q2, setSlots_q1, setSlots_q2, List.getElem?_cons_zero, List.getElem?_cons_succ, List.set_cons_zero, List.set_cons_succ, List.length_cons, List.length_nil, Nat.blt_eq, Nat.reduceAdd, Nat.reduceLT, Nat.zero_add, if_true, Nat.zero_lt_succ, Bool.and_self, evIt, hm, decide_true, impLoc, List.map_cons, List.map_nil, endComp, belsN, hlen2, happ, hb1, Int.reduceToNat, Int.reduceLE, h1, hlf, h2, ↓hasMeth_q1, hasMeth_q1, ↓method_q5, method_q5, lof1, asStrs_map, joinS_nil, hsum, ↓close_v1, close_v1, belS, take0]
end Mine
end
section
set_option linter.unusedSimpArgs false
namespace Mine
open PySem PySem.W PyProof.Rows

noncomputable def modE2 : IE := .bin .mod (.var 1) (.lit (.int 1000000))
noncomputable def mods2 (l : List Int) : List Int := l.map fun x => Int.fmod x 1000000
theorem comp_mod2 (n : Nat) (σ : Sto) (i : Nat) (l : List Int) (hL : listOf? σ i = some (l.map .int)) (hl : l.length ≤ 100) :
    ∃ ℓ', compLoop (innerElt (ev L02.ftab L02.ir_init (n + 8)) [] modE2) (.one 1) (.lst i) gas 0 [none, none] σ [] = some (ℓ', σ, (mods2 l).map .int) := by
  obtain ⟨ℓ', e⟩ := compLoop_lst (innerElt (ev L02.ftab L02.ir_init (n + 8)) [] modE2) 1 i (l.map .int) (fun v => match v with | .int x => [.int (Int.fmod x 1000000)] | _ => []) σ hL [none, none] (by decide) (by rw [List.length_map]; omega) (by
    intro v hv
    rw [List.mem_map] at hv
    obtain ⟨x, _, rfl⟩ := hv
    refine ⟨by simp, ?_⟩
    intro acc ha
    have ha' : acc.length ≤ lim := by rw [List.length_map] at ha; exact Nat.le_trans (Nat.le_trans ha hl) (by decide)
    have hz : ((1000000 : Int) == 0) = false := by decide
    simp only [innerElt, modE2, evIfs_q1, ↓oI_q1, oI_q1, ↓oO_def, ↓oP_def, Option.join_some, ev_e, ↓stepE_q1, stepE_q1, ↓stepE_q2, stepE_q2, ↓stepE_q3, stepE_q3, List.getElem?_cons_zero, List.getElem?_cons_succ, List.set_cons_zero, List.set_cons_succ, Nat.ble_eq, if_true, if_false, Bool.false_eq_true, ↓binop_q5, binop_q5, hz, ha'])
  refine ⟨ℓ', ?_⟩
  rw [e, map_flatMap, flatMap_one, mods2, List.map_map]
  try rfl
noncomputable def divE7 : IE := .bin .fdiv (.var 1) (.lit (.int 7))
theorem comp_div7 (n : Nat) (σ : Sto) (i : Nat) (l : List Int) (hL : listOf? σ i = some (l.map .int)) (hl : l.length ≤ 100) :
    ∃ ℓ', compLoop (innerElt (ev L02.ftab L02.ir_init (n + 8)) [] divE7) (.one 1) (.lst i) gas 0 [none, none] σ [] = some (ℓ', σ, (l.map fun x => Int.fdiv x 7).map .int) := by
  obtain ⟨ℓ', e⟩ := compLoop_lst (innerElt (ev L02.ftab L02.ir_init (n + 8)) [] divE7) 1 i (l.map .int) (fun v => match v with | .int x => [.int (Int.fdiv x 7)] | _ => []) σ hL [none, none] (by decide) (by rw [List.length_map]; omega) (by
    intro v hv
    rw [List.mem_map] at hv
    obtain ⟨x, _, rfl⟩ := hv
    refine ⟨by simp, ?_⟩
    intro acc ha
    have ha' : acc.length ≤ lim := by rw [List.length_map] at ha; exact Nat.le_trans (Nat.le_trans ha hl) (by decide)
    have hz : ((7 : Int) == 0) = false := by decide
    have hs : Nat.blt (Int.natAbs 7) 1073741824 = true := rfl
    simp only [innerElt, divE7, evIfs_q1, ↓oI_q1, oI_q1, ↓oO_def, ↓oP_def, Option.join_some, ev_e, ↓stepE_q1, stepE_q1, ↓stepE_q2, stepE_q2, ↓stepE_q3, stepE_q3, List.getElem?_cons_zero, List.getElem?_cons_succ, List.set_cons_zero, List.set_cons_succ, Nat.ble_eq, if_true, if_false, Bool.false_eq_true, ↓binop_q4, binop_q4, hz, hs, ha'])
  refine ⟨ℓ', ?_⟩
  rw [e, map_flatMap, flatMap_one, List.map_map]
  try rfl

noncomputable def base6 : List Int := [1, 2, 1, 0, 1, 2]
noncomputable def front (l : List Int) : List Int := l.take 6
noncomputable def picks (l : List Int) : List Int := front l ++ base6.drop (front l).length
noncomputable def tot2 (l : List Int) : Int := sumI (mods2 (front l))
theorem front_len (l : List Int) : (front l).length ≤ 6 := by unfold front; rw [List.length_take]; omega
theorem picks_len (l : List Int) : (picks l).length = 6 := by
  have := front_len l
  unfold picks base6; rw [List.length_append, List.length_drop]; simp only [List.length_cons, List.length_nil]; omega

noncomputable def sA0 : List IS := L02.ir_law.body.take 3
theorem law_a0 (n : Nat) (l : List Int) (hl : l.length ≤ 63) :
    stepB (ev L02.ftab L02.ir_init (n + 20)) sA0 (some (.frz l) :: List.replicate 32 none) [] = some (.next, some (.frz l) :: some (.ref 0) :: some (.ref 3) :: some (.int (tot2 l)) :: List.replicate 29 none,
      [.list ((front l).map .int), .list (base6.map .int), .list ((base6.drop (front l).length).map .int), .list ((picks l).map .int), .list ((mods2 (front l)).map .int)]) := by
  have hfl := front_len l
  obtain ⟨ℓ', e⟩ := comp_mod2 (n + 10) [.list ((front l).map .int), .list (base6.map .int), .list ((base6.drop (front l).length).map .int), .list ((picks l).map .int)] 0 (front l) rfl (by omega)
  simp only [modE2, Nat.add_assoc, Nat.reduceAdd] at e
  have hll : l.length ≤ lim := Nat.le_trans hl (by decide)
  have hb : bound? (some (.int 6)) = some (some 6) := rfl
  have hc : cut l none (some 6) = front l := by simp [cut, front]
  have hi : ∀ x, impLoc [none, none] x = [none, none] := fun _ => rfl
  have hfl2 : (front l).length ≤ lim := Nat.le_trans hfl (by decide)
  have hbk : bound? (some (.int ((front l).length : Int))) = some (some (front l).length) := by
    show (if decide ((0 : Int) ≤ ((front l).length : Int)) && decide (((front l).length : Int) ≤ 1000000) then some (some ((front l).length : Int).toNat) else none) = _
    rw [decide_eq_true (by omega), decide_eq_true (by omega)]; simp
  have hc2 : cut (base6.map AV.int) (some (front l).length) none = (base6.drop (front l).length).map .int := by simp [cut, List.map_drop]
  have hbase : ([AV.int 1, AV.int 2, AV.int 1, AV.int 0, AV.int 1, AV.int 2] : List AV) = base6.map .int := rfl
  have h6 : base6.length ≤ lim := by decide
  have hsum : ((front l).length + (base6.length - (front l).length)) ≤ lim := by
    have : base6.length = 6 := rfl
    rw [this]; exact Nat.le_trans (show _ ≤ 6 by omega) (by decide)
  have hpk : List.map AV.int (front l) ++ (base6.drop (front l).length).map AV.int = (picks l).map .int := by rw [← List.map_append]; rfl
  simp only [sA0, L02.ir_law, List.take, List.replicate_succ, List.replicate_zero, ↓bAdd_q3, bAdd_q3, ↓bLen_q4, bLen_q4, ↓oR_q1, oR_q1, ↓oOne_q1, oOne_q1, ↓oO_def, ↓oP_def, ↓itK_v1, itK_v1, ↓evItK_q3, evItK_q3, ↓itVal_q2, itVal_q2, ↓slicev_q2, slicev_q2, ↓slicev_q3, slicev_q3, Option.join_some, ev_e, stepB_q1, stepB_q2, ↓stepS_q1, stepS_q1, ↓stepE_q1, stepE_q1, ↓stepE_q2, stepE_q2, ↓stepE_q3, stepE_q3, ↓stepE_q10, stepE_q10, ↓stepE_q12, stepE_q12, ↓stepE_q13, stepE_q13, ↓stepE_q17, stepE_q17, evEs_q1, evEs_q2, ↓evO_q1, evO_q1, ↓evO_q2, evO_q2, List.getElem?_cons_zero, List.getElem?_cons_succ, List.set_cons_zero, List.set_cons_succ, List.length_cons, List.length_nil, Nat.blt_eq, Nat.ble_eq, Nat.reduceAdd, Nat.reduceLT, Nat.zero_add, if_true, List.nil_append, List.cons_append, evIt, sliceop, bound_none, hb, hll, hc, hi, Option.isSome, endComp, cbels_ints, listOf?, hbase, ↓bifn_q1, bifn_q1, ↓bifn_q2, bifn_q2, List.length_map, hfl2, hbk, h6, hc2, ↓binop_q1, binop_q1, hsum, List.length_drop, hpk, e, asInts_map, tot2]
end Mine
end
section
set_option linter.unusedSimpArgs false
namespace Mine
open PySem PySem.W PyProof.Rows

noncomputable def stepsK : Nat → List Nat × List Nat
  | 0 => ([9, 32, 9], [32, 9, 9])
  | 1 => ([32], [32])
  | 2 => ([32, 32, 9, 9], [9, 32, 32, 9])
  | _ => ([9], [9])
noncomputable def dressK : Nat → List Nat
  | 0 => []
  | 1 => [92, 41]
  | 2 => [34, 41, 34]
  | _ => [92, 92]
noncomputable def stC (k : Nat) : AO := .list [.str (stepsK k).1, .str (stepsK k).2]
noncomputable def dressD : List AV := [.str [], .str [92, 41], .str [34, 41, 34], .str [92, 92]]
noncomputable def tauA : Sto := [stC 0, stC 1, stC 2, stC 3, .list [.ref 5, .ref 6, .ref 7, .ref 8], .list dressD]

theorem kap_get (σ : Sto) (hσ : σ.length = 5) (k : Nat) (h : k ≤ 3) : normIdx (k : Int) 4 = some k ∧ ([.ref 5, .ref 6, .ref 7, .ref 8] : List AV)[k]? = some (.ref (5 + k)) ∧ dressD[k]? = some (.str (dressK k)) ∧ listOf? (σ ++ tauA) (5 + k) = some [.str (stepsK k).1, .str (stepsK k).2] := by
  have hl : listOf? (σ ++ tauA) (5 + k) = listOf? tauA k := by
    unfold listOf?
    rw [List.getElem?_append_right (by omega), hσ, show 5 + k - 5 = k by omega]
    try rfl
  rw [hl]
  match k, h with
  | 0, _ => exact ⟨rfl, rfl, rfl, rfl⟩
  | 1, _ => exact ⟨rfl, rfl, rfl, rfl⟩
  | 2, _ => exact ⟨rfl, rfl, rfl, rfl⟩
  | 3, _ => exact ⟨rfl, rfl, rfl, rfl⟩

noncomputable def sA1 : List IS := (L02.ir_law.body.drop 3).take 2
theorem law_a1 (n : Nat) (σ : Sto) (hσ : σ.length = 5) (v0 v1 v2 : Option AV) (t : Int) :
    ∃ κ δ : Nat, κ ≤ 3 ∧ δ ≤ 3 ∧ Int.fmod t 4 = (κ : Int) ∧ listOf? (σ ++ tauA) (5 + κ) = some [.str (stepsK κ).1, .str (stepsK κ).2] ∧
    stepB (ev L02.ftab L02.ir_init (n + 20)) sA1 (v0 :: v1 :: v2 :: some (.int t) :: List.replicate 29 none) σ
      = some (.next, v0 :: v1 :: v2 :: some (.int t) :: some (.ref (5 + κ)) :: some (.str (dressK δ)) :: List.replicate 27 none, σ ++ tauA) := by
  obtain ⟨κ, hκ, hκ3⟩ := dfmod_ok t 3
  obtain ⟨δ, hδ, hδ3⟩ := dfmod_ok (Int.fdiv t 4) 3
  have hκ' : Int.fmod t 4 = (κ : Int) := hκ
  have hδ' : Int.fmod (Int.fdiv t 4) 4 = (δ : Int) := hδ
  obtain ⟨a1, a2, _, a4⟩ := kap_get σ hσ κ hκ3
  obtain ⟨b1, _, b3, _⟩ := kap_get σ hσ δ hδ3
  refine ⟨κ, δ, hκ3, hδ3, hκ', a4, ?_⟩
  have hz : ((4 : Int) == 0) = false := by decide
  have hs : Nat.blt (Int.natAbs 4) 1073741824 = true := rfl
  have hb2 : ∀ (m : Nat) (s t : List Nat), bels m [.str s, .str t] = true := fun _ _ _ => rfl
  have hb4 : bels 9 [.ref 5, .ref 6, .ref 7, .ref 8] = true := rfl
  have hbd : ∀ m, bels m dressD = true := fun _ => rfl
  have hd : ([.str [], .str [92, 41], .str [34, 41, 34], .str [92, 92]] : List AV) = dressD := rfl
  have hdl : dressD.length = 4 := rfl
  have c0 : AO.list [.str [9, 32, 9], .str [32, 9, 9]] = stC 0 := rfl
  have c1 : AO.list [.str [32], .str [32]] = stC 1 := rfl
  have c2 : AO.list [.str [32, 32, 9, 9], .str [9, 32, 32, 9]] = stC 2 := rfl
  have c3 : AO.list [.str [9], .str [9]] = stC 3 := rfl
  have h9 : listOf? (σ ++ [stC 0, stC 1, stC 2, stC 3, .list [.ref 5, .ref 6, .ref 7, .ref 8]]) 9 = some [.ref 5, .ref 6, .ref 7, .ref 8] := by
    unfold listOf?
    rw [List.getElem?_append_right (by omega), hσ]; rfl
  have h10 : listOf? (σ ++ [stC 0, stC 1, stC 2, stC 3, .list [.ref 5, .ref 6, .ref 7, .ref 8], .list dressD]) 10 = some dressD := by
    unfold listOf?
    rw [List.getElem?_append_right (by omega), hσ]; rfl
  simp only [sA1, L02.ir_law, List.take, List.drop, List.replicate_succ, List.replicate_zero, ↓oI_q1, oI_q1, ↓oO_def, ↓oP_def, Option.join_some, ev_e, stepB_q1, stepB_q2, ↓stepS_q1, stepS_q1, ↓stepE_q1, stepE_q1, ↓stepE_q2, stepE_q2, ↓stepE_q3, stepE_q3, ↓stepE_q10, stepE_q10, ↓stepE_q11, stepE_q11, evEs_q1, evEs_q2, List.getElem?_cons_zero, List.getElem?_cons_succ, List.set_cons_zero, List.set_cons_succ, List.length_cons, List.length_nil, Nat.blt_eq, Nat.reduceAdd, Nat.reduceLT, Nat.zero_add, if_true, if_false, List.nil_append, List.cons_append, Bool.false_eq_true, endComp, hb2, List.length_append, hσ, List.append_assoc, c0, c1, c2, c3, hb4, ↓binop_q4, binop_q4, ↓binop_q5, binop_q5, hz, hs, hκ', hδ', ↓idxop_q1, idxop_q1, h9, a1, a2, hd, hbd, h10, hdl, b1, b3, tauA]
end Mine
end
section
set_option linter.unusedSimpArgs false
namespace Mine
open PySem PySem.W PyProof.Rows

noncomputable def turn6 (L : List Int) : List Int := L.map fun x => Int.fdiv x 7
noncomputable def tauB (r : List Nat) (L : List Int) : Sto := [.list ((0 :: r).map natV), .list [.int 0], .list ((turn6 L).map .int), .list ((0 :: turn6 L).map .int)]
noncomputable def sA2 : List IS := (L02.ir_law.body.drop 5).take 2
theorem law_a2 (n : Nat) (σ : Sto) (hσ : σ.length = 11) (L : List Int) (hL : listOf? σ 3 = some (L.map .int)) (hl : L.length = 6) (v0 v1 v3 v4 v5 : Option AV) :
    ∃ r, chainD 0 r ∧ r.length = 6 ∧
    stepB (ev L02.ftab L02.ir_init (n + 20)) sA2 (v0 :: v1 :: some (.ref 3) :: v3 :: v4 :: v5 :: List.replicate 27 none) σ
      = some (.next, v0 :: v1 :: some (.ref 3) :: v3 :: v4 :: v5 :: some (.ref 11) :: some (.ref 14) :: List.replicate 25 none, σ ++ tauB r L) := by
  obtain ⟨r, hr, hrl, e⟩ := dep_call (n + 9) σ 3 L hL (by omega)
  refine ⟨r, hr, hrl.trans hl, ?_⟩
  obtain ⟨ℓ', e2⟩ := comp_div7 (n + 10) (σ ++ [.list ((0 :: r).map natV), .list [.int 0]]) 3 L (listOf_app hL _) (by omega)
  simp only [divE7, Nat.add_assoc, Nat.reduceAdd] at e e2
  have hi : ∀ x, impLoc [none, none] x = [none, none] := fun _ => rfl
  have hap : (listOf? (σ ++ [.list ((0 :: r).map natV), .list [.int 0]]) 3).isSome = true := by rw [listOf_app hL]; rfl
  have hb0 : ∀ m : Nat, bels m [.int 0] = true := fun _ => rfl
  have h12 : listOf? (σ ++ [.list ((0 :: r).map natV), .list [.int 0], .list ((turn6 L).map .int)]) 12 = some [.int 0] := by
    unfold listOf?; rw [List.getElem?_append_right (by omega), hσ]; rfl
  have h13 : listOf? (σ ++ [.list ((0 :: r).map natV), .list [.int 0], .list ((turn6 L).map .int)]) 13 = some ((turn6 L).map .int) := by
    unfold listOf?; rw [List.getElem?_append_right (by omega), hσ]; rfl
  have hlen : 1 + (turn6 L).length ≤ lim := by
    unfold turn6; rw [List.length_map, hl]; decide
  have ht : L.map (fun x => Int.fdiv x 7) = turn6 L := rfl
  have hadd : [AV.int 0] ++ (turn6 L).map .int = (0 :: turn6 L).map .int := rfl
  rw [ht] at e2
  simp only [sA2, L02.ir_law, List.take, List.drop, List.replicate_succ, List.replicate_zero, ↓bAdd_q3, bAdd_q3, ↓oR_q1, oR_q1, ↓oO_def, ↓oP_def, ↓itK_v1, itK_v1, ↓evItK_q3, evItK_q3, ↓itVal_q2, itVal_q2, Option.join_some, ev_e, stepB_q1, stepB_q2, ↓stepS_q1, stepS_q1, ↓stepE_q1, stepE_q1, ↓stepE_q2, stepE_q2, ↓stepE_q3, stepE_q3, ↓stepE_q10, stepE_q10, ↓stepE_q13, stepE_q13, ↓stepE_q15, stepE_q15, evEs_q1, evEs_q2, List.getElem?_cons_zero, List.getElem?_cons_succ, List.set_cons_zero, List.set_cons_succ, List.length_cons, List.length_nil, Nat.blt_eq, Nat.ble_eq, Nat.reduceAdd, Nat.reduceLT, Nat.zero_add, if_true, List.nil_append, List.cons_append, e, endComp, hb0, hi, evIt, hap, e2, cbels_ints, List.length_append, hσ, List.append_assoc, ↓binop_q1, binop_q1, h12, h13, List.length_map, hlen, tauB]
  try rfl
end Mine
end
section
set_option linter.unusedSimpArgs false
namespace Mine
open PySem PySem.W PyProof.Rows

/-! the classes of the lines, by kind and depth -/
noncomputable def ofIG (raw : List Nat) : Option (List Int × Nat × Nat × Nat) → WS
  | some (c, b, n, nt) => ⟨raw, n, nt, c, b, Nat.ble c.length 1⟩
  | none => ⟨raw, 0, 0, [], 0, false⟩
noncomputable def canL (κ d : Nat) : List Nat := leadL (stepsK κ).1 (stepsK κ).2 0 d
noncomputable def cW (κ d : Nat) (raw : List Nat) : WS := ofIG raw (initGo (canL κ d) [] 0 0 0)
noncomputable def asK : Nat → List Nat
  | 0 => [9, 9, 32]
  | 1 => [9]
  | 2 => [9, 9, 32, 32]
  | _ => [32]
noncomputable def aW (κ d : Nat) (raw : List Nat) : WS := ofIG raw (initGo (canL κ d ++ asK κ) [] 0 0 0)
noncomputable def wW (κ d : Nat) (raw : List Nat) : WS := ofIG raw (initGo (List.replicate ((canL κ d).length + 1) 32) [] 0 0 0)
noncomputable def tailX : List Nat := [120, 9, 32]

theorem ws_line : ∀ (κ : Fin 4) (p : Fin 2) (d : Fin 8), wsO (leadL (stepsK κ).1 (stepsK κ).2 p d ++ tailX) = some (cW κ d (leadL (stepsK κ).1 (stepsK κ).2 p d ++ tailX)) := by decide +kernel
theorem ws_level : ∀ (κ : Fin 4) (d : Fin 8), wsO (List.replicate d (stepsK κ).1).flatten = some (cW κ d (List.replicate d (stepsK κ).1).flatten) := by decide +kernel
theorem ws_deep : ∀ (κ : Fin 4) (p : Fin 2) (d : Fin 8), wsO ((stepsK κ).2 ++ leadL (stepsK κ).1 (stepsK κ).2 p d ++ tailX) = some (cW κ (d + 1) ((stepsK κ).2 ++ leadL (stepsK κ).1 (stepsK κ).2 p d ++ tailX)) := by decide +kernel
theorem ws_aside : ∀ (κ : Fin 4) (p : Fin 2) (d : Fin 8), wsO (leadL (stepsK κ).1 (stepsK κ).2 p d ++ asK κ ++ tailX) = some (aW κ d (leadL (stepsK κ).1 (stepsK κ).2 p d ++ asK κ ++ tailX)) := by decide +kernel
theorem ws_wide : ∀ (κ : Fin 4) (p : Fin 2) (d : Fin 8), wsO (List.replicate ((leadL (stepsK κ).1 (stepsK κ).2 p d).length + 1) 32 ++ tailX) = some (wW κ d (List.replicate ((leadL (stepsK κ).1 (stepsK κ).2 p d).length + 1) 32 ++ tailX)) := by decide +kernel

theorem eq_line : ∀ (κ : Fin 4) (d e : Fin 9), eqO (cW κ d []) (cW κ e []) = some ((d : Nat) == e) := by decide +kernel
theorem eq_aside : ∀ (κ : Fin 4) (d e : Fin 8), eqO (cW κ d []) (aW κ e []) = some false := by decide +kernel
theorem less_line : ∀ (κ : Fin 4) (d e : Fin 8), lessO (cW κ d []) (cW κ e []) = some (decide ((d : Nat) < e)) := by decide +kernel
theorem less_wide : ∀ (κ : Fin 4) (d : Fin 8), lessO (cW κ d []) (wW κ d []) = some ((d : Nat) == 0 || (κ : Nat) == 1) := by decide +kernel
theorem raw_eq (κ d e : Nat) (r s : List Nat) : eqO (cW κ d r) (cW κ e s) = eqO (cW κ d []) (cW κ e []) := by
  unfold cW
  generalize initGo (canL κ d) [] 0 0 0 = a
  generalize initGo (canL κ e) [] 0 0 0 = b
  cases a <;> cases b <;> rfl
end Mine
end
section
set_option linter.unusedSimpArgs false
namespace Mine
open PySem PySem.W PyProof.Rows

/-! comprehensions that walk cells, each turn leaving cells behind -/
noncomputable def junk (j : List AO) : Nat → List AO
  | 0 => []
  | k + 1 => junk j k ++ j
theorem junk_q1 (j : List AO) : junk j (0) = ([]) := rfl
theorem junk_q2 (j : List AO) : junk j (k + 1) = (junk j k ++ j) := rfl
theorem junk_nil : ∀ k, junk [] k = []
  | 0 => rfl
  | k + 1 => by rw [junk_q2, junk_nil k]; rfl
theorem comp_cellsA (inner : Loc → Sto → List AV → Option (Loc × Sto × List AV)) (j : List AO) (G F : Nat → AV) (σ : Sto) (i m : Nat) (hL : listOf? σ i = some ((nf m 0).map G)) (ℓ : Loc) (hx : 1 < ℓ.length)
    (h : ∀ k, k < m → ∀ acc : List AV, acc.length ≤ m → inner (ℓ.set 1 (some (G k))) (σ ++ junk j k) acc = some (ℓ.set 1 (some (G k)), σ ++ junk j (k + 1), acc ++ [F k])) :
    ∀ (c k g : Nat) (w : Option AV) (acc : List AV), k + c = m → c < g → acc.length = k →
    ∃ w', compLoop inner (.one 1) (.lst i) g k (ℓ.set 1 w) (σ ++ junk j k) acc = some (ℓ.set 1 w', σ ++ junk j m, acc ++ (nf c k).map F)
  | 0, k, g + 1, w, acc, hk, _, ha => by
    have hn : ((nf m 0).map G)[k]? = none := List.getElem?_eq_none (by rw [List.length_map, nf_len]; omega)
    refine ⟨w, ?_⟩
    simp only [compLoop_q2, ↓itNext_q2, itNext_q2, listOf_app hL, hn, oO, nf_q1, List.map_nil, List.append_nil]
    rw [show k = m by omega]
  | c + 1, k, g + 1, w, acc, hk, hg, ha => by
    have hn : ((nf m 0).map G)[k]? = some (G k) := by rw [List.getElem?_map, nf_get m 0 k (by omega), Nat.zero_add]; rfl
    have hb : bindTg (.one 1) (G k) (ℓ.set 1 w) = some (ℓ.set 1 (some (G k))) := by
      have : Nat.blt 1 (ℓ.set 1 w).length = true := by rw [List.length_set]; exact Nat.ble_eq.mpr hx
      simp only [↓bindTg_q1, bindTg_q1, this, if_true, List.set_set]
    obtain ⟨w', ih⟩ := comp_cellsA inner j G F σ i m hL ℓ hx h c (k + 1) g (some (G k)) (acc ++ [F k]) (by omega) (by omega) (by rw [List.length_append, ha]; rfl)
    refine ⟨w', ?_⟩
    simp only [compLoop_q2, ↓itNext_q2, itNext_q2, listOf_app hL, hn, oO, oP, hb, h k (by omega) acc (by omega)]
    rw [ih, nf_q2, List.map_cons, List.append_assoc, List.cons_append, List.nil_append]
theorem comp_cells (inner : Loc → Sto → List AV → Option (Loc × Sto × List AV)) (j : List AO) (G F : Nat → AV) (σ : Sto) (i m : Nat) (hm : m < 100000) (hL : listOf? σ i = some ((nf m 0).map G)) (ℓ : Loc) (hx : 1 < ℓ.length)
    (h : ∀ k, k < m → ∀ acc : List AV, acc.length ≤ m → inner (ℓ.set 1 (some (G k))) (σ ++ junk j k) acc = some (ℓ.set 1 (some (G k)), σ ++ junk j (k + 1), acc ++ [F k])) :
    ∃ ℓ', compLoop inner (.one 1) (.lst i) gas 0 ℓ σ [] = some (ℓ', σ ++ junk j m, (nf m 0).map F) := by
  obtain ⟨w', e⟩ := comp_cellsA inner j G F σ i m hL ℓ hx h m 0 gas ℓ[1] [] (by omega) hm rfl
  have hs : ℓ.set 1 ℓ[1] = ℓ := by simp
  simp only [hs, junk_q1, List.append_nil, List.nil_append] at e
  exact ⟨_, e⟩
theorem comp_same (inner : Loc → Sto → List AV → Option (Loc × Sto × List AV)) (G F : Nat → AV) (σ : Sto) (i m : Nat) (hm : m < 100000) (hL : listOf? σ i = some ((nf m 0).map G)) (ℓ : Loc) (hx : 1 < ℓ.length)
    (h : ∀ k, k < m → ∀ acc : List AV, acc.length ≤ m → inner (ℓ.set 1 (some (G k))) σ acc = some (ℓ.set 1 (some (G k)), σ, acc ++ [F k])) :
    ∃ ℓ', compLoop inner (.one 1) (.lst i) gas 0 ℓ σ [] = some (ℓ', σ, (nf m 0).map F) := by
  have := comp_cells inner [] G F σ i m hm hL ℓ hx
  simp only [junk_nil, List.append_nil] at this
  exact this h
theorem comp_rng (inner : Loc → Sto → List AV → Option (Loc × Sto × List AV)) (F : Nat → AV) (σ : Sto) (m : Nat) (hm : m < 100000) (ℓ : Loc) (hx : 1 < ℓ.length)
    (h : ∀ k, k < m → ∀ acc : List AV, acc.length ≤ m → inner (ℓ.set 1 (some (natV k))) σ acc = some (ℓ.set 1 (some (natV k)), σ, acc ++ [F k])) :
    ∃ ℓ', compLoop inner (.one 1) (.vals (rangeL 0 m)) gas 0 ℓ σ [] = some (ℓ', σ, (nf m 0).map F) := by
  have e0 : (rangeL 0 m : List AV) = (nf m 0).map natV := rangeL_nf m 0
  obtain ⟨ℓ', e⟩ := compLoop_map inner 1 (rangeL 0 m) (fun v => match v with | .int k => [F k.toNat] | _ => []) σ ℓ hx (by rw [e0, List.length_map, nf_len]; exact hm) (by
    intro v hv
    rw [e0] at hv
    obtain ⟨k, hk, rfl⟩ := List.mem_map.mp hv
    refine ⟨Nat.le_refl _, fun acc ha => ?_⟩
    rw [e0, List.length_map, nf_len] at ha
    have := h k (by have := (nf_mem hk).2; omega) acc ha
    simpa [natV] using this)
  refine ⟨ℓ', e.trans ?_⟩
  rw [e0, map_flatMap]
  have : ((nf m 0).flatMap fun x => (match natV x with | .int k => [F k.toNat] | _ => [])) = (nf m 0).map F := flatMap_one (fun x => F x) _
  rw [this]

/-! the leads and the lines -/
noncomputable def par (t : Int) : Nat := (Int.fmod t 2).toNat
theorem par_ok (t : Int) : Int.fmod t 2 = (par t : Int) ∧ par t < 2 := by
  obtain ⟨a, h, h2⟩ := dfmod_ok t 1
  have h' : Int.fmod t 2 = (a : Int) := h
  unfold par
  rw [h']
  exact ⟨by simp, by simp; omega⟩
noncomputable def eltQ : IE := .call 8 [(.var 4), (.idx (.var 5) (.var 1)), (.idx (.var 3) (.var 1))]
theorem comp_leads (n : Nat) (σ : Sto) (i a b : Nat) (s0 s1 : List Nat) (h0 : s0.length ≤ 10) (h1 : s1.length ≤ 10) (hS : listOf? σ i = some [.str s0, .str s1]) (D : Nat → Nat) (T : Nat → Int) (hD : listOf? σ a = some ((nf 7 0).map fun k => natV (D k))) (hT : listOf? σ b = some ((nf 7 0).map fun k => .int (T k)))
    (hd : ∀ k, k < 7 → D k ≤ 100) :
    ∃ ℓ', compLoop (innerElt (ev L02.ftab L02.ir_init (n + 16)) [] eltQ) (.one 1) (.vals (rangeL 0 7)) gas 0 [none, none, none, some (.ref a), some (.ref i), some (.ref b)] σ [] = some (ℓ', σ, (nf 7 0).map fun k => .str (leadL s0 s1 (par (T k)) (D k))) := by
  refine comp_rng _ _ σ 7 (by decide) _ (by show 1 < 6; decide) fun k hk acc ha => ?_
  have e := lead_call (n + 2) σ i s0 s1 h0 h1 hS (T k) (par (T k)) (par_ok (T k)).1 (D k) (hd k hk)
  have hl : Nat.ble acc.length lim = true := Nat.ble_eq.mpr (Nat.le_trans ha (by decide))
  have hn : normIdx (k : Int) 7 = some k := normIdx_nat k 7 hk (by decide)
  have g1 : ((nf 7 0).map fun k => natV (D k))[k]? = some (natV (D k)) := by rw [List.getElem?_map, nf_get 7 0 k hk, Nat.zero_add]; rfl
  have g2 : ((nf 7 0).map fun k => AV.int (T k))[k]? = some (.int (T k)) := by rw [List.getElem?_map, nf_get 7 0 k hk, Nat.zero_add]; rfl
  have l1 : ((nf 7 0).map fun k => natV (D k)).length = 7 := by rw [List.length_map, nf_len]
  have l2 : ((nf 7 0).map fun k => AV.int (T k)).length = 7 := by rw [List.length_map, nf_len]
  simp only [Nat.add_assoc, Nat.reduceAdd] at e
  have g1' : ((nf 7 0).map fun k => AV.int (D k : Int))[k]? = some (.int (D k : Int)) := g1
  have l1' : ((nf 7 0).map fun k => AV.int (D k : Int)).length = 7 := l1
  have hD' : listOf? σ a = some ((nf 7 0).map fun k => AV.int (D k : Int)) := hD
  simp only [innerElt, evIfs_q1, eltQ, natV, ↓oI_q1, oI_q1, ↓oO_def, ↓oP_def, Option.join_some, ev_e, ↓stepE_q2, stepE_q2, ↓stepE_q11, stepE_q11, ↓stepE_q15, stepE_q15, evEs_q1, evEs_q2, List.getElem?_cons_zero, List.getElem?_cons_succ, List.set_cons_zero, List.set_cons_succ, if_true, ↓idxop_q1, idxop_q1, hT, hD', l1', l2, hn, g1', g2, e, hl]
end Mine
end
section
set_option linter.unusedSimpArgs false
namespace Mine
open PySem PySem.W PyProof.Rows

noncomputable def eltLn : IE := .cls (.bin .add (.var 1) (.lit (.str [120, 9, 32])))
theorem comp_lines (n : Nat) (σ : Sto) (i : Nat) (ld : Nat → List Nat) (w : Nat → WS) (hL : listOf? σ i = some ((nf 7 0).map fun k => .str (ld k))) (hl : ∀ k, k < 7 → (ld k).length ≤ 200) (hw : ∀ k, k < 7 → wsO (ld k ++ tailX) = some (w k)) :
    ∃ ℓ', compLoop (innerElt (ev L02.ftab L02.ir_init (n + 17)) [] eltLn) (.one 1) (.lst i) gas 0 [none, none, none] σ [] = some (ℓ', σ, (nf 7 0).map fun k => .inst (w k)) := by
  refine comp_same _ _ _ σ i 7 (by decide) hL _ (by show 1 < 3; decide) fun k hk acc ha => ?_
  have hn := new_obj L02.ftab L02.ir_init (n + 2) _ _ (hw k hk) σ
  have hal : Nat.ble acc.length lim = true := Nat.ble_eq.mpr (Nat.le_trans ha (by decide))
  have hs : Nat.ble ((ld k).length + 3) lim = true := Nat.ble_eq.mpr (Nat.le_trans (show _ ≤ 203 by have := hl k hk; omega) (by decide))
  simp only [Nat.add_assoc, Nat.reduceAdd, tailX] at hn
  simp only [innerElt, evIfs_q1, eltLn, ↓bAdd_q2, bAdd_q2, ↓oS_q1, oS_q1, ↓oO_def, ↓oP_def, Option.join_some, ev_e, ↓stepE_q1, stepE_q1, ↓stepE_q2, stepE_q2, ↓stepE_q3, stepE_q3, ↓stepE_q16, stepE_q16, List.getElem?_cons_zero, List.getElem?_cons_succ, List.set_cons_zero, List.set_cons_succ, List.length_cons, List.length_nil, Nat.reduceAdd, Nat.zero_add, if_true, ↓binop_q1, binop_q1, hs, hn, hal]

noncomputable def eltDp : IE := .cls (.bin .add (.bin .add (.idx (.var 3) (.lit (.int 1))) (.var 1)) (.lit (.str [120, 9, 32])))
theorem comp_deep (n : Nat) (σ : Sto) (i b : Nat) (s0 s1 : List Nat) (h1 : s1.length ≤ 10) (hS : listOf? σ b = some [.str s0, .str s1]) (ld : Nat → List Nat) (w : Nat → WS) (hL : listOf? σ i = some ((nf 7 0).map fun k => .str (ld k))) (hl : ∀ k, k < 7 → (ld k).length ≤ 200) (hw : ∀ k, k < 7 → wsO (s1 ++ ld k ++ tailX) = some (w k)) :
    ∃ ℓ', compLoop (innerElt (ev L02.ftab L02.ir_init (n + 17)) [] eltDp) (.one 1) (.lst i) gas 0 [none, none, none, some (.ref b)] σ [] = some (ℓ', σ, (nf 7 0).map fun k => .inst (w k)) := by
  refine comp_same _ _ _ σ i 7 (by decide) hL _ (by show 1 < 4; decide) fun k hk acc ha => ?_
  have hn := new_obj L02.ftab L02.ir_init (n + 2) _ _ (hw k hk) σ
  have hal : Nat.ble acc.length lim = true := Nat.ble_eq.mpr (Nat.le_trans ha (by decide))
  have hs1 : Nat.ble (s1.length + (ld k).length) lim = true := Nat.ble_eq.mpr (Nat.le_trans (show _ ≤ 213 by have := hl k hk; omega) (by decide))
  have hs2 : Nat.ble (s1.length + (ld k).length + 3) lim = true := Nat.ble_eq.mpr (Nat.le_trans (show _ ≤ 213 by have := hl k hk; omega) (by decide))
  have hni : normIdx (1 : Int) 2 = some 1 := rfl
  simp only [Nat.add_assoc, Nat.reduceAdd, tailX] at hn hs2
  simp only [innerElt, evIfs_q1, eltDp, ↓bAdd_q2, bAdd_q2, ↓oI_q1, oI_q1, ↓oS_q1, oS_q1, ↓oO_def, ↓oP_def, Option.join_some, ev_e, ↓stepE_q1, stepE_q1, ↓stepE_q2, stepE_q2, ↓stepE_q3, stepE_q3, ↓stepE_q11, stepE_q11, ↓stepE_q16, stepE_q16, List.getElem?_cons_zero, List.getElem?_cons_succ, List.set_cons_zero, List.set_cons_succ, List.length_cons, List.length_nil, Nat.reduceAdd, Nat.zero_add, if_true, ↓idxop_q1, idxop_q1, hS, hni, ↓binop_q1, binop_q1, hs1, hs2, List.length_append, Nat.add_assoc, hn, hal]

noncomputable def eltWd : IE := .cls (.bin .add (.bin .mul (.lit (.str [32])) (.bin .add (.bi .len [(.var 1)]) (.lit (.int 1)))) (.lit (.str [120, 9, 32])))
theorem rep32 : ∀ k : Nat, (List.replicate k [32]).flatten = List.replicate k 32
  | 0 => rfl
  | k + 1 => by rw [List.replicate_succ, List.flatten_cons, rep32 k]; rfl
theorem comp_wide (n : Nat) (σ : Sto) (i : Nat) (ld : Nat → List Nat) (w : Nat → WS) (hL : listOf? σ i = some ((nf 7 0).map fun k => .str (ld k))) (hl : ∀ k, k < 7 → (ld k).length ≤ 200) (hw : ∀ k, k < 7 → wsO (List.replicate ((ld k).length + 1) 32 ++ tailX) = some (w k)) :
    ∃ ℓ', compLoop (innerElt (ev L02.ftab L02.ir_init (n + 17)) [] eltWd) (.one 1) (.lst i) gas 0 [none, none, none, none] σ [] = some (ℓ', σ, (nf 7 0).map fun k => .inst (w k)) := by
  refine comp_same _ _ _ σ i 7 (by decide) hL _ (by show 1 < 4; decide) fun k hk acc ha => ?_
  have hn := new_obj L02.ftab L02.ir_init (n + 2) _ _ (hw k hk) σ
  have hlk := hl k hk
  have hal : Nat.ble acc.length lim = true := Nat.ble_eq.mpr (Nat.le_trans ha (by decide))
  have hs0 : Nat.ble (ld k).length lim = true := Nat.ble_eq.mpr (Nat.le_trans hlk (by decide))
  have hm : (decide (-1000 ≤ (((ld k).length : Nat) : Int) + 1) && decide ((((ld k).length : Nat) : Int) + 1 ≤ 1000) && Nat.ble 1 1000) = true := by
    simp only [Bool.and_eq_true, decide_eq_true_eq]
    exact ⟨⟨by omega, by omega⟩, rfl⟩
  have ht : ((((ld k).length : Nat) : Int) + 1).toNat = (ld k).length + 1 := by omega
  have hs2 : Nat.ble ((ld k).length + 1 + 3) lim = true := Nat.ble_eq.mpr (Nat.le_trans (show _ ≤ 213 by omega) (by decide))
  have hls : (List.replicate ((ld k).length + 1) (32 : Nat)).length = (ld k).length + 1 := List.length_replicate
  simp only [Nat.add_assoc, Nat.reduceAdd, tailX] at hn hs2
  simp only [innerElt, evIfs_q1, eltWd, ↓bAdd_q1, bAdd_q1, ↓bAdd_q2, bAdd_q2, ↓bMul_q2, bMul_q2, ↓bLen_q1, bLen_q1, ↓oI_q1, oI_q1, ↓oS_q1, oS_q1, ↓oOne_q1, oOne_q1, ↓oO_def, ↓oP_def, Option.join_some, ev_e, ↓stepE_q1, stepE_q1, ↓stepE_q2, stepE_q2, ↓stepE_q3, stepE_q3, ↓stepE_q16, stepE_q16, ↓stepE_q17, stepE_q17, evEs_q1, evEs_q2, List.getElem?_cons_zero, List.getElem?_cons_succ, List.set_cons_zero, List.set_cons_succ, List.length_cons, List.length_nil, Nat.reduceAdd, Nat.zero_add, if_true, ↓binop_q1, binop_q1, ↓binop_q3, binop_q3, ↓bifn_q1, bifn_q1, hs0, hm, ht, rep32, hls, Nat.add_assoc, hs2, hn, hal]

noncomputable def asD : List AV := [.str [9, 9, 32], .str [9], .str [9, 9, 32, 32], .str [32]]
theorem asD_get (k : Nat) (h : k ≤ 3) : normIdx (k : Int) 4 = some k ∧ asD[k]? = some (.str (asK k)) ∧ (asK k).length ≤ 10 := by
  match k, h with
  | 0, _ => exact ⟨rfl, rfl, by decide⟩
  | 1, _ => exact ⟨rfl, rfl, by decide⟩
  | 2, _ => exact ⟨rfl, rfl, by decide⟩
  | 3, _ => exact ⟨rfl, rfl, by decide⟩
noncomputable def eltAs : IE := .cls (.bin .add (.bin .add (.var 1) (.idx (.list [(.lit (.str [9, 9, 32])), (.lit (.str [9])), (.lit (.str [9, 9, 32, 32])), (.lit (.str [32]))]) (.bin .mod (.var 3) (.lit (.int 4))))) (.lit (.str [120, 9, 32])))
theorem comp_aside (n : Nat) (σ : Sto) (i : Nat) (t : Int) (κ : Nat) (hκ : κ ≤ 3) (ht : Int.fmod t 4 = (κ : Int)) (ld : Nat → List Nat) (w : Nat → WS) (hL : listOf? σ i = some ((nf 7 0).map fun k => .str (ld k))) (hl : ∀ k, k < 7 → (ld k).length ≤ 200) (hw : ∀ k, k < 7 → wsO (ld k ++ asK κ ++ tailX) = some (w k)) :
    ∃ ℓ', compLoop (innerElt (ev L02.ftab L02.ir_init (n + 17)) [] eltAs) (.one 1) (.lst i) gas 0 [none, none, none, some (.int t)] σ [] = some (ℓ', σ ++ junk [.list asD] 7, (nf 7 0).map fun k => .inst (w k)) := by
  refine comp_cells _ _ _ _ σ i 7 (by decide) hL _ (by show 1 < 4; decide) fun k hk acc ha => ?_
  have hn := new_obj L02.ftab L02.ir_init (n + 2) _ _ (hw k hk) (σ ++ junk [.list asD] k ++ [.list asD])
  have hlk := hl k hk
  obtain ⟨a1, a2, a3⟩ := asD_get κ hκ
  have hal : Nat.ble acc.length lim = true := Nat.ble_eq.mpr (Nat.le_trans ha (by decide))
  have hb : ∀ m, bels m asD = true := fun _ => rfl
  have hd : ([.str [9, 9, 32], .str [9], .str [9, 9, 32, 32], .str [32]] : List AV) = asD := rfl
  have hdl : asD.length = 4 := rfl
  have hz : ((4 : Int) == 0) = false := by decide
  have hg : listOf? (σ ++ junk [.list asD] k ++ [.list asD]) (σ ++ junk [.list asD] k).length = some asD := lof0 _ _ _
  have hs1 : Nat.ble ((ld k).length + (asK κ).length) lim = true := Nat.ble_eq.mpr (Nat.le_trans (show _ ≤ 213 by omega) (by decide))
  have hs2 : Nat.ble ((ld k).length + (asK κ).length + 3) lim = true := Nat.ble_eq.mpr (Nat.le_trans (show _ ≤ 213 by omega) (by decide))
  have hj : σ ++ junk [.list asD] (k + 1) = σ ++ junk [.list asD] k ++ [.list asD] := by rw [junk_q2, List.append_assoc]
  rw [hj]
  generalize σ ++ junk [.list asD] k = σk at hn hg
  simp only [Nat.add_assoc, Nat.reduceAdd, tailX] at hn hs2
  simp only [innerElt, evIfs_q1, eltAs, ↓bAdd_q2, bAdd_q2, ↓oI_q1, oI_q1, ↓oS_q1, oS_q1, ↓oO_def, ↓oP_def, Option.join_some, ev_e, ↓stepE_q1, stepE_q1, ↓stepE_q2, stepE_q2, ↓stepE_q3, stepE_q3, ↓stepE_q10, stepE_q10, ↓stepE_q11, stepE_q11, ↓stepE_q16, stepE_q16, evEs_q1, evEs_q2, List.getElem?_cons_zero, List.getElem?_cons_succ, List.set_cons_zero, List.set_cons_succ, List.length_cons, List.length_nil, Nat.reduceAdd, Nat.zero_add, if_true, if_false, Bool.false_eq_true, endComp, hd, hb, ↓idxop_q1, idxop_q1, hg, ↓binop_q1, binop_q1, ↓binop_q5, binop_q5, hz, ht, hdl, a1, a2, hs1, List.length_append, Nat.add_assoc, hs2, hn, hal]
end Mine
end
section
set_option linter.unusedSimpArgs false
namespace Mine
open PySem PySem.W PyProof.Rows

noncomputable def instL (w : Nat → WS) : List AV := (nf 7 0).map fun k => .inst (w k)
noncomputable def strL (w : Nat → List Nat) : List AV := (nf 7 0).map fun k => .str (w k)
noncomputable def tauC (ld : Nat → List Nat) (ln dp as wd : Nat → WS) : Sto := .list (strL ld) :: .list (instL ln) :: .list (instL dp) :: (junk [.list asD] 7 ++ [.list (instL as), .list (instL wd)])
noncomputable def sB : List IS := (L02.ir_law.body.drop 7).take 6
theorem law_b (n : Nat) (σ : Sto) (hσ : σ.length = 15) (i : Nat) (s0 s1 : List Nat) (h0 : s0.length ≤ 10) (h1 : s1.length ≤ 10) (hS : listOf? σ i = some [.str s0, .str s1]) (D : Nat → Nat) (T : Nat → Int) (hD : listOf? σ 11 = some ((nf 7 0).map fun k => natV (D k))) (hT : listOf? σ 14 = some ((nf 7 0).map fun k => .int (T k)))
    (hd : ∀ k, k < 7 → D k ≤ 10) (t : Int) (κ : Nat) (hκ : κ ≤ 3) (ht : Int.fmod t 4 = (κ : Int)) (ld : Nat → List Nat) (hld : ld = fun k => leadL s0 s1 (par (T k)) (D k)) (hl : ∀ k, k < 7 → (ld k).length ≤ 200)
    (ln dp as wd : Nat → WS) (w1 : ∀ k, k < 7 → wsO (ld k ++ tailX) = some (ln k)) (w2 : ∀ k, k < 7 → wsO (s1 ++ ld k ++ tailX) = some (dp k)) (w3 : ∀ k, k < 7 → wsO (ld k ++ asK κ ++ tailX) = some (as k)) (w4 : ∀ k, k < 7 → wsO (List.replicate ((ld k).length + 1) 32 ++ tailX) = some (wd k))
    (v0 v1 v2 v5 : Option AV) :
    stepB (ev L02.ftab L02.ir_init (n + 25)) sB (v0 :: v1 :: v2 :: some (.int t) :: some (.ref i) :: v5 :: some (.ref 11) :: some (.ref 14) :: List.replicate 25 none) σ
      = some (.next, v0 :: v1 :: v2 :: some (.int t) :: some (.ref i) :: v5 :: some (.ref 11) :: some (.ref 14) :: none :: some (.ref 15) :: some (.ref 16) :: some (.ref 17) :: some (.ref 25) :: some (.ref 26) :: some (.int 0) :: List.replicate 18 none, σ ++ tauC ld ln dp as wd) := by
  obtain ⟨_, e1⟩ := comp_leads (n + 8) σ i 11 14 s0 s1 h0 h1 hS D T hD hT (fun k hk => Nat.le_trans (hd k hk) (by decide))
  have h15 : ∀ τ, listOf? (σ ++ .list (strL ld) :: τ) 15 = some (strL ld) := fun τ => by have := lof0 σ (strL ld) τ; rwa [hσ] at this
  have hb1 : ∀ m, bels m (strL ld) = true := fun _ => rfl
  have hb2 : ∀ m w, bels m (instL w) = true := fun _ _ => rfl
  have hleads : ((nf 7 0).map fun k => AV.str (leadL s0 s1 (par (T k)) (D k))) = strL ld := by rw [hld]; rfl
  obtain ⟨_, e2⟩ := comp_lines (n + 7) (σ ++ [.list (strL ld)]) 15 ld ln (h15 _) hl w1
  obtain ⟨_, e3⟩ := comp_deep (n + 7) (σ ++ [.list (strL ld), .list (instL ln)]) 15 i s0 s1 h1 (listOf_app hS _) ld dp (h15 _) hl w2
  obtain ⟨_, e4⟩ := comp_aside (n + 7) (σ ++ [.list (strL ld), .list (instL ln), .list (instL dp)]) 15 t κ hκ ht ld as (h15 _) hl w3
  obtain ⟨_, e5⟩ := comp_wide (n + 7) (σ ++ .list (strL ld) :: .list (instL ln) :: .list (instL dp) :: (junk [.list asD] 7 ++ [.list (instL as)])) 15 ld wd (h15 _) hl w4
  have hm : small 7 = true := rfl
  have hjl : (junk [.list asD] 7).length = 7 := rfl
  have hI : ∀ τ, (listOf? (σ ++ .list (strL ld) :: τ) 15).isSome = true := fun τ => by rw [h15]; rfl
  have d1 : ∀ w, ((nf 7 0).map fun k => AV.inst (w k)) = instL w := fun _ => rfl
  simp only [eltQ, eltLn, eltDp, eltAs, eltWd, hleads, Nat.add_assoc, Nat.reduceAdd, d1, List.append_assoc, List.cons_append, List.nil_append] at e1 e2 e3 e4 e5
  simp only [sB, L02.ir_law, List.take, List.drop, List.replicate_succ, List.replicate_zero, ↓oI_q1, oI_q1, ↓oO_def, ↓oP_def, ↓itK_q1, itK_q1, ↓itK_v1, itK_v1, ↓evItK_q1, evItK_q1, ↓evItK_q3, evItK_q3, ↓itVal_q2, itVal_q2, Option.join_some, ev_e, stepB_q1, stepB_q2, ↓stepS_q1, stepS_q1, ↓stepE_q1, stepE_q1, ↓stepE_q2, stepE_q2, ↓stepE_q13, stepE_q13, List.getElem?_cons_zero, List.getElem?_cons_succ, List.set_cons_zero, List.set_cons_succ, List.length_cons, List.length_nil, Nat.blt_eq, Nat.reduceAdd, Nat.reduceLT, Nat.zero_add, if_true, List.nil_append, List.cons_append, Bool.and_self, evIt, hm, impLoc, List.map_cons, List.map_nil, Int.reduceToNat, Int.reduceLE, decide_true, e1, endComp, hb1, hb2, List.length_append, hσ, hI, e2, e3, e4, e5, List.append_assoc, hjl, tauC]
  try rfl
end Mine
end
section
set_option linter.unusedSimpArgs false
namespace Mine
open PySem PySem.W PyProof.Rows

noncomputable def depL (D : Nat → Nat) : List AV := (nf 7 0).map fun k => natV (D k)
/-- what the law's objects answer -/
structure Facts2 (κ : Nat) (D : Nat → Nat) (ln dp as wd : Nat → WS) : Prop where
  less : ∀ j k, j < 7 → k < 7 → lessO (ln j) (ln k) = some (decide (D j < D k))
  eq : ∀ j k, j < 7 → k < 7 → eqO (ln j) (ln k) = some (D j == D k)
  deep : ∀ j k, j < 7 → k < 7 → eqO (ln j) (dp k) = some (D j == D k + 1)
  aside : ∀ j k, j < 7 → k < 7 → eqO (ln j) (as k) = some false
  wide : ∀ j, j < 7 → lessO (ln j) (wd j) = some (D j == 0 || κ == 1)
structure Cells2 (σ : Sto) (D : Nat → Nat) (ln dp as wd : Nat → WS) : Prop where
  c11 : listOf? σ 11 = some (depL D)
  c16 : listOf? σ 16 = some (instL ln)
  c17 : listOf? σ 17 = some (instL dp)
  c25 : listOf? σ 25 = some (instL as)
  c26 : listOf? σ 26 = some (instL wd)
theorem inst_get (w : Nat → WS) (k : Nat) (h : k < 7) : (instL w)[k]? = some (.inst (w k)) := by unfold instL; rw [List.getElem?_map, nf_get 7 0 k h, Nat.zero_add]; rfl
theorem inst_len (w : Nat → WS) : (instL w).length = 7 := by unfold instL; rw [List.length_map, nf_len]
theorem dep_get (D : Nat → Nat) (k : Nat) (h : k < 7) : (depL D)[k]? = some (.int (D k : Int)) := by unfold depL; rw [List.getElem?_map, nf_get 7 0 k h, Nat.zero_add]; rfl
theorem dep_len (D : Nat → Nat) : (depL D).length = 7 := by unfold depL; rw [List.length_map, nf_len]

noncomputable def pc (D : Nat → Nat) (j k : Nat) : Nat := if decide (j < k) && ([0, 1] : List Int).any (· == ((D j : Int) - (D k : Int))) then 1 else 0
noncomputable def pcIn (D : Nat → Nat) (j : Nat) : Nat → Nat → Nat → Nat
  | 0, _, p => p
  | c + 1, k, p => pcIn D j c (k + 1) (p + pc D j k)
theorem pcIn_q2 (D : Nat → Nat) (j : Nat) : pcIn D j (c + 1) (k) (p) = (pcIn D j c (k + 1) (p + pc D j k)) := rfl
noncomputable def bodyP : List IS := [.ifS (.cmp .isNot (.umeth 3 (.idx (.var 10) (.var 15)) [(.idx (.var 10) (.var 8))]) (.cmp .lt (.idx (.var 6) (.var 15)) (.idx (.var 6) (.var 8)))) [.ret (.lit (.bool false))] [], .ifS (.cmp .isNot (.umeth 2 (.idx (.var 10) (.var 15)) [(.idx (.var 10) (.var 8))]) (.cmp .eq (.idx (.var 6) (.var 15)) (.idx (.var 6) (.var 8)))) [.ret (.lit (.bool false))] [], .ifS (.cmp .isNot (.umeth 2 (.idx (.var 10) (.var 15)) [(.idx (.var 11) (.var 8))]) (.cmp .eq (.idx (.var 6) (.var 15)) (.bin .add (.idx (.var 6) (.var 8)) (.lit (.int 1))))) [.ret (.lit (.bool false))] [], .ifS (.cmp .isNot (.umeth 2 (.idx (.var 10) (.var 15)) [(.idx (.var 12) (.var 8))]) (.lit (.bool false))) [.ret (.lit (.bool false))] [], .ifS (.andE (.cmp .lt (.var 15) (.var 8)) (.cmp .inn (.bin .sub (.idx (.var 6) (.var 15)) (.idx (.var 6) (.var 8))) (.tup [(.lit (.int 0)), (.lit (.int 1))]))) [.aug 14 .add (.lit (.int 1))] []]

theorem pair_in (n : Nat) (σ : Sto) (κ : Nat) (D : Nat → Nat) (ln dp as wd : Nat → WS) (C : Cells2 σ D ln dp as wd) (H : Facts2 κ D ln dp as wd) (v0 v1 v2 v3 v4 v5 v7 v9 : Option AV) (j : Nat) (hj : j < 7) :
    ∀ (c k p : Nat) (x8 : Option AV), k + c ≤ 7 →
    ∃ y8, forL (ev L02.ftab L02.ir_init (n + 20)) (.one 8) bodyP [] (rangeL k c) (v0 :: v1 :: v2 :: v3 :: v4 :: v5 :: some (.ref 11) :: v7 :: x8 :: v9 :: some (.ref 16) :: some (.ref 17) :: some (.ref 25) :: some (.ref 26) :: some (.int p) :: some (natV j) :: List.replicate 17 none) σ
      = some (.next, v0 :: v1 :: v2 :: v3 :: v4 :: v5 :: some (.ref 11) :: v7 :: y8 :: v9 :: some (.ref 16) :: some (.ref 17) :: some (.ref 25) :: some (.ref 26) :: some (.int (pcIn D j c k p)) :: some (natV j) :: List.replicate 17 none, σ)
  | 0, k, p, x8, _ => ⟨x8, rfl⟩
  | c + 1, k, p, x8, hk => by
    have hk7 : k < 7 := by omega
    obtain ⟨y8, ih⟩ := pair_in n σ κ D ln dp as wd C H v0 v1 v2 v3 v4 v5 v7 v9 j hj c (k + 1) (p + pc D j k) (some (natV k)) (by omega)
    refine ⟨y8, ?_⟩
    have e1 := less_call n (ln j) (ln k) _ (H.less j k hj hk7) σ
    have e2 := equal_call (n + 6) (ln j) (ln k) _ (H.eq j k hj hk7) σ
    have e3 := equal_call (n + 6) (ln j) (dp k) _ (H.deep j k hj hk7) σ
    have e4 := equal_call (n + 6) (ln j) (as k) _ (H.aside j k hj hk7) σ
    have n1 : normIdx (j : Int) 7 = some j := normIdx_nat j 7 hj (by decide)
    have n2 : normIdx (k : Int) 7 = some k := normIdx_nat k 7 hk7 (by decide)
    have hlt : decide ((D j : Int) < (D k : Int)) = decide (D j < D k) := decide_eq_decide.mpr Int.ofNat_lt
    have heq : ((D j : Int) == (D k : Int)) = (D j == D k) := by
      rw [Bool.eq_iff_iff, beq_iff_eq, beq_iff_eq]; omega
    have heq1 : ((D j : Int) == (D k : Int) + 1) = (D j == D k + 1) := by
      rw [Bool.eq_iff_iff, beq_iff_eq, beq_iff_eq]; omega
    have hjk : decide ((j : Int) < (k : Int)) = decide (j < k) := decide_eq_decide.mpr Int.ofNat_lt
    have ek : ((k : Nat) : Int) + 1 = ((k + 1 : Nat) : Int) := by omega
    have ep : ((p : Nat) : Int) + 1 = ((p + 1 : Nat) : Int) := by omega
    have hai : asInts [.int 0, .int 1] = some [0, 1] := rfl
    simp only [Nat.add_assoc, Nat.reduceAdd] at e1 e2 e3 e4
    rw [pcIn_q2, ← ih]
    unfold pc
    cases hlt2 : decide (j < k) with
    | false =>
      simp only [rangeL_q2, forL_q2, bodyP, natV, List.replicate_succ, List.replicate_zero, ↓bAdd_q1, bAdd_q1, ↓cEq_q1, cEq_q1, cIn, ↓oI_q1, oI_q1, ↓oB_q1, oB_q1, ↓oO_def, ↓oP_def, ↓oW_q1, oW_q1, ↓tK_q2, tK_q2, ↓tK_v3, tK_v3, Option.join_some, ev_e, ev_t, ev_b, stepB_q1, stepB_q2, ↓stepS_q13, stepS_q13, ↓stepE_q1, stepE_q1, ↓stepE_q2, stepE_q2, ↓stepE_q3, stepE_q3, ↓stepE_q8, stepE_q8, ↓stepE_q9, stepE_q9, ↓stepE_q11, stepE_q11, ↓stepE_q19, stepE_q19, stepT, evEs_q1, evEs_q2, ↓bindTg_q1, bindTg_q1, List.getElem?_cons_zero, List.getElem?_cons_succ, List.set_cons_zero, List.set_cons_succ, List.length_cons, List.length_nil, Nat.blt_eq, Nat.reduceAdd, Nat.reduceLT, Nat.zero_add, if_true, if_false, ↓truthV_q1, truthV_q1, Bool.false_eq_true, ↓idxop_q1, idxop_q1, C.c11, C.c16, C.c17, C.c25, inst_len, inst_get, dep_len, dep_get, hj, hk7, n1, n2, e1, e2, e3, e4, ↓cmpop_q1, cmpop_q1, ↓cmpop_q3, cmpop_q3, ↓cmpop_q8, cmpop_q8, ↓cmpop_q9, cmpop_q9, ↓binop_q1, binop_q1, ↓binop_q2, binop_q2, hlt, heq, heq1, hjk, hlt2, bne_self_eq_false, ek, Bool.false_and, Nat.add_zero]
    | true =>
      cases hany : ([0, 1] : List Int).any (· == ((D j : Int) - (D k : Int))) with
      | false =>
        simp only [rangeL_q2, forL_q2, bodyP, natV, List.replicate_succ, List.replicate_zero, ↓bAdd_q1, bAdd_q1, ↓cEq_q1, cEq_q1, cIn, ↓oI_q1, oI_q1, ↓oB_q1, oB_q1, ↓oO_def, ↓oP_def, ↓oW_q1, oW_q1, ↓tK_q2, tK_q2, ↓tK_v3, tK_v3, Option.join_some, ev_e, ev_t, ev_b, stepB_q1, stepB_q2, ↓stepS_q13, stepS_q13, ↓stepE_q1, stepE_q1, ↓stepE_q2, stepE_q2, ↓stepE_q3, stepE_q3, ↓stepE_q8, stepE_q8, ↓stepE_q9, stepE_q9, ↓stepE_q11, stepE_q11, ↓stepE_q19, stepE_q19, stepT, evEs_q1, evEs_q2, ↓bindTg_q1, bindTg_q1, List.getElem?_cons_zero, List.getElem?_cons_succ, List.set_cons_zero, List.set_cons_succ, List.length_cons, List.length_nil, Nat.blt_eq, Nat.reduceAdd, Nat.reduceLT, Nat.zero_add, if_true, if_false, ↓truthV_q1, truthV_q1, Bool.false_eq_true, Bool.true_and, ↓idxop_q1, idxop_q1, C.c11, C.c16, C.c17, C.c25, inst_len, inst_get, dep_len, dep_get, hj, hk7, n1, n2, e1, e2, e3, e4, ↓cmpop_q1, cmpop_q1, ↓cmpop_q3, cmpop_q3, ↓cmpop_q8, cmpop_q8, ↓cmpop_q9, cmpop_q9, ↓binop_q1, binop_q1, ↓binop_q2, binop_q2, hlt, heq, heq1, hjk, hlt2, bne_self_eq_false, ek, hai, hany, Nat.add_zero]
      | true =>
        simp only [rangeL_q2, forL_q2, bodyP, natV, List.replicate_succ, List.replicate_zero, ↓bAdd_q1, bAdd_q1, ↓cEq_q1, cEq_q1, cIn, ↓oI_q1, oI_q1, ↓oB_q1, oB_q1, ↓oO_def, ↓oP_def, ↓oW_q1, oW_q1, ↓tK_q2, tK_q2, ↓tK_v3, tK_v3, Option.join_some, ev_e, ev_t, ev_b, stepB_q1, stepB_q2, ↓stepS_q7, stepS_q7, ↓stepS_q13, stepS_q13, ↓stepE_q1, stepE_q1, ↓stepE_q2, stepE_q2, ↓stepE_q3, stepE_q3, ↓stepE_q8, stepE_q8, ↓stepE_q9, stepE_q9, ↓stepE_q11, stepE_q11, ↓stepE_q19, stepE_q19, stepT, evEs_q1, evEs_q2, ↓bindTg_q1, bindTg_q1, List.getElem?_cons_zero, List.getElem?_cons_succ, List.set_cons_zero, List.set_cons_succ, List.length_cons, List.length_nil, Nat.blt_eq, Nat.reduceAdd, Nat.reduceLT, Nat.zero_add, if_true, if_false, ↓truthV_q1, truthV_q1, Bool.false_eq_true, Bool.and_self, ↓idxop_q1, idxop_q1, C.c11, C.c16, C.c17, C.c25, inst_len, inst_get, dep_len, dep_get, hj, hk7, n1, n2, e1, e2, e3, e4, ↓cmpop_q1, cmpop_q1, ↓cmpop_q3, cmpop_q3, ↓cmpop_q8, cmpop_q8, ↓cmpop_q9, cmpop_q9, ↓binop_q1, binop_q1, ↓binop_q2, binop_q2, hlt, heq, heq1, hjk, hlt2, bne_self_eq_false, ek, hai, hany, augop, ep]
end Mine
end
section
set_option linter.unusedSimpArgs false
namespace Mine
open PySem PySem.W PyProof.Rows

noncomputable def pcAll (D : Nat → Nat) : Nat → Nat → Nat → Nat
  | 0, _, p => p
  | c + 1, j, p => pcAll D c (j + 1) (pcIn D j 7 0 p)
theorem pcAll_q2 (D : Nat → Nat) : pcAll D (c + 1) (j) (p) = (pcAll D c (j + 1) (pcIn D j 7 0 p)) := rfl
noncomputable def bodyO : List IS := [.ifS (.cmp .isNot (.umeth 3 (.idx (.var 10) (.var 15)) [(.idx (.var 13) (.var 15))]) (.orE (.cmp .eq (.idx (.var 6) (.var 15)) (.lit (.int 0))) (.cmp .eq (.bin .mod (.var 3) (.lit (.int 4))) (.lit (.int 1))))) [.ret (.lit (.bool false))] [], .forS (.one 8) (.rng1 (.lit (.int 7))) bodyP []]
theorem pair_out (n : Nat) (σ : Sto) (κ : Nat) (t : Int) (ht : Int.fmod t 4 = (κ : Int)) (D : Nat → Nat) (ln dp as wd : Nat → WS) (C : Cells2 σ D ln dp as wd) (H : Facts2 κ D ln dp as wd) (v0 v1 v2 v4 v5 v7 v9 : Option AV) :
    ∀ (c j p : Nat) (x8 x15 : Option AV), j + c ≤ 7 →
    ∃ y8 y15, forL (ev L02.ftab L02.ir_init (n + 22)) (.one 15) bodyO [] (rangeL j c) (v0 :: v1 :: v2 :: some (.int t) :: v4 :: v5 :: some (.ref 11) :: v7 :: x8 :: v9 :: some (.ref 16) :: some (.ref 17) :: some (.ref 25) :: some (.ref 26) :: some (.int p) :: x15 :: List.replicate 17 none) σ
      = some (.next, v0 :: v1 :: v2 :: some (.int t) :: v4 :: v5 :: some (.ref 11) :: v7 :: y8 :: v9 :: some (.ref 16) :: some (.ref 17) :: some (.ref 25) :: some (.ref 26) :: some (.int (pcAll D c j p)) :: y15 :: List.replicate 17 none, σ)
  | 0, j, p, x8, x15, _ => ⟨x8, x15, rfl⟩
  | c + 1, j, p, x8, x15, hj => by
    have hj7 : j < 7 := by omega
    obtain ⟨y8, h1⟩ := pair_in (n + 1) σ κ D ln dp as wd C H v0 v1 v2 (some (.int t)) v4 v5 v7 v9 j hj7 7 0 p x8 (by omega)
    obtain ⟨z8, z15, ih⟩ := pair_out n σ κ t ht D ln dp as wd C H v0 v1 v2 v4 v5 v7 v9 c (j + 1) (pcIn D j 7 0 p) y8 (some (natV j)) (by omega)
    refine ⟨z8, z15, ?_⟩
    have e5 := less_call (n + 2) (ln j) (wd j) _ (H.wide j hj7) σ
    have hlf := forLoop_vals (ev L02.ftab L02.ir_init (n + 21)) (.one 8) bodyP [] (rangeL 0 7) (v0 :: v1 :: v2 :: some (.int t) :: v4 :: v5 :: some (.ref 11) :: v7 :: x8 :: v9 :: some (.ref 16) :: some (.ref 17) :: some (.ref 25) :: some (.ref 26) :: some (.int p) :: some (natV j) :: List.replicate 17 none) σ (by rw [drangeL_len]; decide)
    have n1 : normIdx (j : Int) 7 = some j := normIdx_nat j 7 hj7 (by decide)
    have heq0 : ((D j : Int) == 0) = (D j == 0) := by
      rw [Bool.eq_iff_iff, beq_iff_eq, beq_iff_eq]; omega
    have hκ1 : ((κ : Int) == 1) = (κ == 1) := by
      rw [Bool.eq_iff_iff, beq_iff_eq, beq_iff_eq]; omega
    have hz : ((4 : Int) == 0) = false := by decide
    have hm : small 7 = true := rfl
    have ek : ((j : Nat) : Int) + 1 = ((j + 1 : Nat) : Int) := by omega
    have hr : rangeL (j : Int) (c + 1) = .int (j : Int) :: rangeL ((j : Int) + 1) c := rfl
    simp only [Nat.add_assoc, Nat.reduceAdd] at e5 h1
    simp only [Int.natCast_zero] at h1
    rw [pcAll_q2, ← ih]
    simp only [bodyP, natV, List.replicate_succ, List.replicate_zero] at hlf h1
    cases hb : (D j == 0) with
    | true =>
      rw [hb] at e5
      simp only [hr, forL_q2, bodyO, bodyP, natV, List.replicate_succ, List.replicate_zero, ↓cEq_q1, cEq_q1, ↓oI_q1, oI_q1, ↓oB_q1, oB_q1, ↓oO_def, ↓oP_def, ↓oW_q1, oW_q1, orV, ↓itK_q1, itK_q1, ↓evItK_q1, evItK_q1, ↓tK_v3, tK_v3, Option.join_some, ev_e, ev_t, ev_b, stepB_q1, stepB_q2, ↓stepS_q9, stepS_q9, ↓stepS_q13, stepS_q13, ↓stepE_q1, stepE_q1, ↓stepE_q2, stepE_q2, ↓stepE_q3, stepE_q3, ↓stepE_q6, stepE_q6, ↓stepE_q8, stepE_q8, ↓stepE_q11, stepE_q11, ↓stepE_q19, stepE_q19, stepT, evEs_q1, evEs_q2, ↓bindTg_q1, bindTg_q1, List.getElem?_cons_zero, List.getElem?_cons_succ, List.set_cons_zero, List.set_cons_succ, List.length_cons, List.length_nil, Nat.blt_eq, Nat.reduceAdd, Nat.reduceLT, Nat.zero_add, if_true, if_false, ↓truthV_q1, truthV_q1, Bool.false_eq_true, Bool.and_self, ↓idxop_q1, idxop_q1, C.c11, C.c16, C.c26, inst_len, inst_get, dep_len, dep_get, hj7, n1, e5, ↓cmpop_q1, cmpop_q1, ↓cmpop_q8, cmpop_q8, ↓binop_q5, binop_q5, heq0, hb, Bool.true_or, bne_self_eq_false, evIt, hm, Int.reduceLE, decide_true, Int.reduceToNat, hlf, h1, ek, beq_self_eq_true]
    | false =>
      rw [hb] at e5
      simp only [hr, forL_q2, bodyO, bodyP, natV, List.replicate_succ, List.replicate_zero, ↓cEq_q1, cEq_q1, ↓oI_q1, oI_q1, ↓oB_q1, oB_q1, ↓oO_def, ↓oP_def, ↓oW_q1, oW_q1, orV, ↓itK_q1, itK_q1, ↓evItK_q1, evItK_q1, ↓tK_v3, tK_v3, Option.join_some, ev_e, ev_t, ev_b, stepB_q1, stepB_q2, ↓stepS_q9, stepS_q9, ↓stepS_q13, stepS_q13, ↓stepE_q1, stepE_q1, ↓stepE_q2, stepE_q2, ↓stepE_q3, stepE_q3, ↓stepE_q6, stepE_q6, ↓stepE_q8, stepE_q8, ↓stepE_q11, stepE_q11, ↓stepE_q19, stepE_q19, stepT, evEs_q1, evEs_q2, ↓bindTg_q1, bindTg_q1, List.getElem?_cons_zero, List.getElem?_cons_succ, List.set_cons_zero, List.set_cons_succ, List.length_cons, List.length_nil, Nat.blt_eq, Nat.reduceAdd, Nat.reduceLT, Nat.zero_add, if_true, if_false, ↓truthV_q1, truthV_q1, Bool.false_eq_true, Bool.and_self, ↓idxop_q1, idxop_q1, C.c11, C.c16, C.c26, inst_len, inst_get, dep_len, dep_get, hj7, n1, e5, ↓cmpop_q1, cmpop_q1, ↓cmpop_q8, cmpop_q8, ↓binop_q5, binop_q5, heq0, hb, Bool.false_or, bne_self_eq_false, evIt, hm, Int.reduceLE, decide_true, Int.reduceToNat, hlf, h1, ek, hz, ht, hκ1, beq_iff_eq, Bool.false_eq_true]
end Mine
end
section
set_option linter.unusedSimpArgs false
namespace Mine
open PySem PySem.W PyProof.Rows

noncomputable def dsOf (D : Nat → Nat) : List Nat := (nf 7 0).map D
noncomputable def rowS (D : Nat → Nat) : List Nat := (rowAll (nf 8 0) (dsOf D)).flatten
noncomputable def sC : List IS := (L02.ir_law.body.drop 13).take 2
theorem law_c (n : Nat) (σ : Sto) (κ : Nat) (t : Int) (ht : Int.fmod t 4 = (κ : Int)) (D : Nat → Nat) (ln dp as wd : Nat → WS) (C : Cells2 σ D ln dp as wd) (H : Facts2 κ D ln dp as wd)
    (i : Nat) (s0 : List Nat) (S : List AV) (hS : listOf? σ i = some (.str s0 :: S)) (hS2 : S.length = 1) (hs : s0.length ≤ 1000) (lv : Nat → WS) (hw : ∀ k, k < 8 → wsO (List.replicate k s0).flatten = some (lv k)) (hE : ∀ j, j < 7 → ∀ k, k < 8 → eqO (ln j) (lv k) = some (D j == k))
    (v0 v1 v2 v5 v7 v9 : Option AV) :
    ∃ y8 y15, stepB (ev L02.ftab L02.ir_init (n + 25)) sC (v0 :: v1 :: v2 :: some (.int t) :: some (.ref i) :: v5 :: some (.ref 11) :: v7 :: none :: v9 :: some (.ref 16) :: some (.ref 17) :: some (.ref 25) :: some (.ref 26) :: some (.int 0) :: List.replicate 18 none) σ
      = some (.next, v0 :: v1 :: v2 :: some (.int t) :: some (.ref i) :: v5 :: some (.ref 11) :: v7 :: y8 :: v9 :: some (.ref 16) :: some (.ref 17) :: some (.ref 25) :: some (.ref 26) :: some (.int (pcAll D 7 0 0)) :: y15 :: some (.str (rowS D)) :: List.replicate 16 none, σ) := by
  obtain ⟨y8, y15, h1⟩ := pair_out (n + 3) σ κ t ht D ln dp as wd C H v0 v1 v2 (some (.ref i)) v5 v7 v9 7 0 0 none none (by omega)
  refine ⟨y8, y15, ?_⟩
  have hlf := forLoop_vals (ev L02.ftab L02.ir_init (n + 25)) (.one 15) bodyO [] (rangeL 0 7) (v0 :: v1 :: v2 :: some (.int t) :: some (.ref i) :: v5 :: some (.ref 11) :: v7 :: none :: v9 :: some (.ref 16) :: some (.ref 17) :: some (.ref 25) :: some (.ref 26) :: some (.int 0) :: List.replicate 18 none) σ (by rw [drangeL_len]; decide)
  have h2 := row_call (n + 4) σ 16 i s0 S ((nf 7 0).map fun k => (ln k, D k)) (by rw [List.map_map]; exact C.c16) (by rw [List.length_map, nf_len]; decide) hS hS2 hs lv hw (by
    intro z hz k hk
    obtain ⟨j, hj, rfl⟩ := List.mem_map.mp hz
    exact hE j (by have := (nf_mem hj).2; omega) k hk)
  have h3 : (rowAll (nf 8 0) (((nf 7 0).map fun k => (ln k, D k)).map (·.2))).flatten = rowS D := by rw [List.map_map]; rfl
  rw [h3] at h2
  have hm : small 7 = true := rfl
  simp only [Nat.add_assoc, Nat.reduceAdd, List.replicate_succ, List.replicate_zero, Int.natCast_zero, bodyO, bodyP] at h1 h2 hlf
  simp only [sC, L02.ir_law, List.take, List.drop, List.replicate_succ, List.replicate_zero, ↓oI_q1, oI_q1, ↓oO_def, ↓oP_def, ↓itK_q1, itK_q1, ↓evItK_q1, evItK_q1, Option.join_some, ev_e, stepB_q1, stepB_q2, ↓stepS_q1, stepS_q1, ↓stepS_q9, stepS_q9, ↓stepE_q1, stepE_q1, ↓stepE_q2, stepE_q2, ↓stepE_q15, stepE_q15, evEs_q1, evEs_q2, List.getElem?_cons_zero, List.getElem?_cons_succ, List.set_cons_zero, List.set_cons_succ, List.length_cons, List.length_nil, Nat.blt_eq, Nat.reduceAdd, Nat.reduceLT, Nat.zero_add, if_true, Bool.and_self, evIt, hm, Int.reduceLE, decide_true, Int.reduceToNat, hlf, h1, h2]
  try rfl
end Mine
end
section
set_option linter.unusedSimpArgs false
namespace Mine
open PySem PySem.W PyProof.Rows

noncomputable def sg (s : List Nat) : List (List Nat) := s.map fun c => [c]
theorem sg_str (s : List Nat) : (s.map fun c => AV.str [c]) = (sg s).map .str := by unfold sg; rw [List.map_map]; rfl
theorem sg_len (s : List Nat) : (sg s).length = s.length := List.length_map _
theorem sg_sum : ∀ s : List Nat, sumLen (sg s) = s.length
  | [] => rfl
  | c :: s => by show 1 + sumLen (sg s) = s.length + 1; rw [sg_sum s]; omega
theorem sg_fit (s dress : List Nat) (h : s.length ≤ 100) (hd : dress.length ≤ 10) : Nat.ble (sumLen (sg s) + dress.length * (sg s).length) lim = true := by
  rw [sg_sum, sg_len]
  have : dress.length * s.length ≤ 10 * 100 := Nat.mul_le_mul hd h
  exact Nat.ble_eq.mpr (Nat.le_trans (show _ ≤ 1100 by omega) (by decide))

noncomputable def sD : List IS := (L02.ir_law.body.drop 15).take 3
theorem law_d (n : Nat) (σ : Sto) (row dress : List Nat) (hr : row.length ≤ 100) (hd : dress.length ≤ 10) (p1 : parF (joinS dress (sg row)) = some true) (p2 : parF (joinS dress (sg (row.drop 1 ++ row.take 1))) = some false) (p3 : parF (joinS dress (sg (row.take 13))) = some false)
    (v0 v1 v2 v3 v4 v6 v7 v8 v9 v10 v11 v12 v13 v14 v15 : Option AV) (vs : List (Option AV)) :
    stepB (ev L02.ftab L02.ir_init (n + 25)) sD (v0 :: v1 :: v2 :: v3 :: v4 :: some (.str dress) :: v6 :: v7 :: v8 :: v9 :: v10 :: v11 :: v12 :: v13 :: v14 :: v15 :: some (.str row) :: vs) σ
      = some (.next, v0 :: v1 :: v2 :: v3 :: v4 :: some (.str dress) :: v6 :: v7 :: v8 :: v9 :: v10 :: v11 :: v12 :: v13 :: v14 :: v15 :: some (.str row) :: vs, σ ++ [.list ((sg row).map .str), .list ((sg (row.drop 1 ++ row.take 1)).map .str), .list ((sg (row.take 13)).map .str)]) := by
  have q1 := fun σ => check_call L02.ftab L02.ir_init 5 6 rfl rfl (n + 9) σ _ _ p1
  have q2 := fun σ => check_call L02.ftab L02.ir_init 5 6 rfl rfl (n + 9) σ _ _ p2
  have q3 := fun σ => check_call L02.ftab L02.ir_init 5 6 rfl rfl (n + 9) σ _ _ p3
  have r2 : (row.drop 1 ++ row.take 1).length ≤ 100 := by rw [List.length_append, List.length_drop, List.length_take]; omega
  have r3 : (row.take 13).length ≤ 100 := by rw [List.length_take]; omega
  have f1 := sg_fit row dress hr hd
  have f2 := sg_fit _ dress r2 hd
  have f3 := sg_fit _ dress r3 hd
  have lm : ∀ {m : Nat}, m ≤ 100 → Nat.ble m lim = true := fun h => Nat.ble_eq.mpr (Nat.le_trans h (by decide))
  have g1 := lm hr
  have g2 := lm r2
  have g3 := lm r3
  have g4 : Nat.ble ((row.drop 1).length + (row.take 1).length) lim = true := by rw [← List.length_append]; exact g2
  have b1 : bound? (some (.int 1)) = some (some 1) := rfl
  have b13 : bound? (some (.int 13)) = some (some 13) := rfl
  have c1 : cut row (some 1) none = row.drop 1 := by simp [cut]
  have c2 : cut row none (some 1) = row.take 1 := by simp [cut]
  have c3 : cut row none (some 13) = row.take 13 := by simp [cut]
  have l0 : ∀ (σ : Sto) (L : List AV), listOf? (σ ++ [.list L]) σ.length = some L := fun σ L => lof0 σ L []
  have l1 : ∀ (a : AO) (L : List AV), listOf? (σ ++ [a, .list L]) (σ ++ [a]).length = some L := fun a L => by have := lof0 (σ ++ [a]) L []; rwa [List.append_assoc] at this
  have l2 : ∀ (a b : AO) (L : List AV), listOf? (σ ++ [a, b, .list L]) (σ ++ [a, b]).length = some L := fun a b L => by have := lof0 (σ ++ [a, b]) L []; rwa [List.append_assoc] at this
  simp only [Nat.ble_eq] at g1 g2 g3 g4 f1 f2 f3
  simp only [Nat.add_assoc, Nat.reduceAdd] at q1 q2 q3
  have e : sD = [.ifS (.cmp .isNot (.call 6 [(.meth .join (.var 5) [(.bi .list [(.var 16)])])]) (.lit (.bool true))) [.ret (.lit (.bool false))] [], .ifS (.cmp .isNot (.call 6 [(.meth .join (.var 5) [(.bi .list [(.bin .add (.slice (.var 16) (some (.lit (.int 1))) none) (.slice (.var 16) none (some (.lit (.int 1)))))])])]) (.lit (.bool false))) [.ret (.lit (.bool false))] [], .ifS (.cmp .isNot (.call 6 [(.meth .join (.var 5) [(.bi .list [(.slice (.var 16) none (some (.lit (.int 13))))])])]) (.lit (.bool false))) [.ret (.lit (.bool false))] []] := rfl
  simp only [e, ↓bAdd_q2, bAdd_q2, ↓oS_q1, oS_q1, ↓oR_q1, oR_q1, ↓oB_q1, oB_q1, ↓oOne_q1, oOne_q1, ↓oO_def, ↓oP_def, ↓tK_v3, tK_v3, ↓slicev_q1, slicev_q1, Option.join_some, ev_e, ev_t, ev_b, stepB_q1, stepB_q2, ↓stepS_q13, stepS_q13, ↓stepE_q1, stepE_q1, ↓stepE_q2, stepE_q2, ↓stepE_q3, stepE_q3, ↓stepE_q8, stepE_q8, ↓stepE_q12, stepE_q12, ↓stepE_q15, stepE_q15, ↓stepE_q17, stepE_q17, ↓stepE_q18, stepE_q18, stepT, evEs_q1, evEs_q2, ↓evO_q1, evO_q1, ↓evO_q2, evO_q2, List.getElem?_cons_zero, List.getElem?_cons_succ, Nat.ble_eq, if_true, if_false, ↓truthV_q1, truthV_q1, List.nil_append, List.cons_append, Bool.false_eq_true, ↓hasMeth_q1, hasMeth_q1, ↓bifn_q7, bifn_q7, g1, sg_str, ↓method_q5, method_q5, l0, asStrs_map, f1, q1, ↓cmpop_q8, cmpop_q8, bne_self_eq_false, sliceop, bound_none, b1, b13, c1, c2, c3, ↓binop_q1, binop_q1, g4, g2, g3, f2, f3, q2, q3, List.append_assoc, l1, l2]
end Mine
end
section
set_option linter.unusedSimpArgs false
namespace Mine
open PySem PySem.W PyProof.Rows

theorem comp_rngF (inner : Loc → Sto → List AV → Option (Loc × Sto × List AV)) (F : Nat → List AV) (σ : Sto) (m : Nat) (hm : m < 100000) (ℓ : Loc) (hx : 1 < ℓ.length)
    (h : ∀ k, k < m → (F k).length ≤ 1 ∧ ∀ acc : List AV, acc.length ≤ m → inner (ℓ.set 1 (some (natV k))) σ acc = some (ℓ.set 1 (some (natV k)), σ, acc ++ F k)) :
    ∃ ℓ', compLoop inner (.one 1) (.vals (rangeL 0 m)) gas 0 ℓ σ [] = some (ℓ', σ, (nf m 0).flatMap F) := by
  have e0 : (rangeL 0 m : List AV) = (nf m 0).map natV := rangeL_nf m 0
  obtain ⟨ℓ', e⟩ := compLoop_map inner 1 (rangeL 0 m) (fun v => match v with | .int k => F k.toNat | _ => []) σ ℓ hx (by rw [e0, List.length_map, nf_len]; exact hm) (by
    intro v hv
    rw [e0] at hv
    obtain ⟨k, hk, rfl⟩ := List.mem_map.mp hv
    have hk' : k < m := by have := (nf_mem hk).2; omega
    refine ⟨by simpa [natV] using (h k hk').1, fun acc ha => ?_⟩
    rw [e0, List.length_map, nf_len] at ha
    have := (h k hk').2 acc ha
    simpa [natV] using this)
  refine ⟨ℓ', e.trans ?_⟩
  rw [e0, map_flatMap]
  rfl
theorem flat_int (f : Nat → List Int) : ∀ l : List Nat, (l.flatMap fun k => (f k).map AV.int) = (l.flatMap f).map .int
  | [] => rfl
  | x :: l => by rw [List.flatMap_cons, List.flatMap_cons, List.map_append, flat_int f l]

/-! the places of a sign -/
noncomputable def pick (row : List Nat) (z : Nat) (f : Nat → Int) (k : Nat) : List Int := match row[k]? with
  | some c => if [c] == [z] then [f k] else []
  | none => []
theorem pick_len (row : List Nat) (z : Nat) (f : Nat → Int) (k : Nat) : (pick row z f k).length ≤ 1 := by
  unfold pick
  cases row[k]? with
  | none => exact Nat.zero_le _
  | some c => dsimp only; split <;> simp
noncomputable def picked (row : List Nat) (z : Nat) (f : Nat → Int) : List Int := (nf 14 0).flatMap (pick row z f)
/-- a comprehension over the places of a sign -/
theorem comp_pick (n : Nat) (σ : Sto) (row : List Nat) (hr : row.length = 14) (z : Nat) (f : Nat → Int) (elt : IE)
    (he : ∀ k : Nat, k < 14 → (ev L02.ftab L02.ir_init (n + 10)).e elt [none, some (.int (k : Int)), some (.str row)] σ = some (.int (f k), σ)) :
    ∃ ℓ', compLoop (innerElt (ev L02.ftab L02.ir_init (n + 10)) [(.cmp .eq (.idx (.var 2) (.var 1)) (.lit (.str [z])))] elt) (.one 1) (.vals (rangeL 0 14)) gas 0 [none, none, some (.str row)] σ [] = some (ℓ', σ, (picked row z f).map .int) := by
  obtain ⟨ℓ', e⟩ := comp_rngF (innerElt (ev L02.ftab L02.ir_init (n + 10)) [(.cmp .eq (.idx (.var 2) (.var 1)) (.lit (.str [z])))] elt) (fun k => (pick row z f k).map .int) σ 14 (by decide) [none, none, some (.str row)] (by show 1 < 3; decide) (by
    intro k hk
    refine ⟨by rw [List.length_map]; exact pick_len row z f k, fun acc ha => ?_⟩
    have hn : normIdx (k : Int) 14 = some k := normIdx_nat k 14 hk (by decide)
    have hg : row[k]? = some (row[k]'(by omega)) := List.getElem?_eq_getElem _
    have hal : Nat.ble acc.length lim = true := Nat.ble_eq.mpr (Nat.le_trans ha (by decide))
    have ht : evIfs (ev L02.ftab L02.ir_init (n + 10)) [(.cmp .eq (.idx (.var 2) (.var 1)) (.lit (.str [z])))] [none, some (natV k), some (.str row)] σ = some (([row[k]'(by omega)] == [z]), σ) := by
      cases hc : ([row[k]'(by omega)] == [z]) <;> simp only [evIfs_q1, evIfs_q2, natV, ↓cEq_q2, cEq_q2, ↓oI_q1, oI_q1, ↓oS_q1, oS_q1, ↓oO_def, ↓oP_def, ↓tK_v3, tK_v3, Option.join_some, ev_e, ev_t, ↓stepE_q1, stepE_q1, ↓stepE_q2, stepE_q2, ↓stepE_q8, stepE_q8, ↓stepE_q11, stepE_q11, stepT, List.getElem?_cons_zero, List.getElem?_cons_succ, if_true, if_false, ↓truthV_q1, truthV_q1, Bool.false_eq_true, ↓idxop_q2, idxop_q2, hr, hn, hg, ↓cmpop_q1, cmpop_q1, hc]
    show innerElt _ _ _ [none, some (natV k), some (.str row)] σ acc = some ([none, some (natV k), some (.str row)], σ, acc ++ _)
    unfold innerElt
    rw [ht, oP_s]
    unfold pick
    rw [hg]
    dsimp only
    cases hc : ([row[k]'(by omega)] == [z]) with
    | false => simp only [Bool.false_eq_true, if_false, List.map_nil, List.append_nil]
    | true =>
      simp only [if_true, natV]
      rw [he k hk, oP_s, hal]
      simp only [if_true, List.map_cons, List.map_nil])
  refine ⟨ℓ', e.trans ?_⟩
  rw [flat_int]; rfl
end Mine
end
section
set_option linter.unusedSimpArgs false
namespace Mine
open PySem PySem.W PyProof.Rows

noncomputable def balF (row : List Nat) (k : Nat) : Int := (countS 40 (row.take k) : Int) - (countS 41 (row.take k) : Int)
noncomputable def eltBal : IE := .bin .sub (.meth .count (.slice (.var 2) none (some (.var 1))) [(.lit (.str [40]))]) (.meth .count (.slice (.var 2) none (some (.var 1))) [(.lit (.str [41]))])
theorem bal_elt (n : Nat) (σ : Sto) (row : List Nat) (hr : row.length = 14) (k : Nat) (hk : k < 14) :
    (ev L02.ftab L02.ir_init (n + 10)).e eltBal [none, some (.int (k : Int)), some (.str row)] σ = some (.int (balF row k), σ) := by
  have hb : bound? (some (.int (k : Int))) = some (some k) := by
    show (if decide ((0 : Int) ≤ (k : Int)) && decide ((k : Int) ≤ 1000000) then some (some (k : Int).toNat) else none) = _
    rw [decide_eq_true (by omega), decide_eq_true (by omega)]; simp
  have hc : cut row none (some k) = row.take k := by simp [cut]
  have hl : (14 : Nat) ≤ lim := by decide
  simp only [eltBal, ↓mCount_q2, mCount_q2, ↓oI_q1, oI_q1, ↓oS_q1, oS_q1, ↓oOne_q1, oOne_q1, ↓oO_def, ↓oP_def, ↓slicev_q1, slicev_q1, Option.join_some, ev_e, ↓stepE_q1, stepE_q1, ↓stepE_q2, stepE_q2, ↓stepE_q3, stepE_q3, ↓stepE_q12, stepE_q12, ↓stepE_q18, stepE_q18, evEs_q1, evEs_q2, ↓evO_q1, evO_q1, ↓evO_q2, evO_q2, List.getElem?_cons_zero, List.getElem?_cons_succ, Nat.ble_eq, if_true, sliceop, bound_none, hb, hr, hl, hc, ↓hasMeth_q1, hasMeth_q1, ↓method_q4, method_q4, ↓binop_q2, binop_q2, balF]
noncomputable def eltPow : IE := .bin .pow (.lit (.int 2)) (.var 1)
theorem pow_elt (n : Nat) (σ : Sto) (row : List Nat) (k : Nat) (hk : k < 14) :
    (ev L02.ftab L02.ir_init (n + 10)).e eltPow [none, some (.int (k : Int)), some (.str row)] σ = some (.int ((2 : Int) ^ k), σ) := by
  have h1 : (small 2 && decide ((0 : Int) ≤ (k : Int)) && decide ((k : Int) ≤ 1000)) = true := by
    rw [decide_eq_true (by omega), decide_eq_true (by omega)]; rfl
  simp only [eltPow, ↓oI_q1, oI_q1, ↓oO_def, ↓oP_def, Option.join_some, ev_e, ↓stepE_q1, stepE_q1, ↓stepE_q2, stepE_q2, ↓stepE_q3, stepE_q3, List.getElem?_cons_zero, List.getElem?_cons_succ, if_true, ↓binop_q6, binop_q6, h1, Int.toNat_natCast]
theorem var_elt (n : Nat) (σ : Sto) (row : List Nat) (k : Nat) :
    (ev L02.ftab L02.ir_init (n + 10)).e (.var 1) [none, some (.int (k : Int)), some (.str row)] σ = some (.int (k : Int), σ) := by
  simp only [↓oO_def, Option.join_some, ev_e, ↓stepE_q2, stepE_q2, List.getElem?_cons_zero, List.getElem?_cons_succ]

noncomputable def dI (D : Nat → Nat) : List Int := (dsOf D).map fun d : Nat => (d : Int)
theorem depL_int (D : Nat → Nat) : depL D = (dI D).map .int := by unfold depL dI dsOf; rw [List.map_map, List.map_map]; rfl
noncomputable def mxD (D : Nat → Nat) : Int := maxL (D 0) ((nf 6 1).map fun k : Nat => (D k : Int))
theorem mx_ok (D : Nat → Nat) (σ : Sto) : max1 (dI D) σ = some (.int (mxD D), σ) := rfl
noncomputable def cnts (D : Nat → Nat) (M : Nat) : List Int := (nf (M + 1) 0).map fun k : Nat => ((countI (k : Int) (dI D) : Nat) : Int)
noncomputable def closes (row : List Nat) : List Int := picked row 41 fun k => (k : Int)

noncomputable def sE : List IS := (L02.ir_law.body.drop 18).take 4
theorem law_e (n : Nat) (σ : Sto) (row : List Nat) (hr : row.length = 14) (D : Nat → Nat) (h11 : listOf? σ 11 = some (depL D)) (P : Nat) (hP : sumI (picked row 40 (balF row)) = (P : Int)) (M : Nat) (hM : mxD D = (M : Int)) (hM7 : M ≤ 100)
    (v0 v1 v2 v3 v4 v5 v7 v8 v9 v10 v11 v12 v13 v15 : Option AV) :
    stepB (ev L02.ftab L02.ir_init (n + 25)) sE (v0 :: v1 :: v2 :: v3 :: v4 :: v5 :: some (.ref 11) :: v7 :: v8 :: v9 :: v10 :: v11 :: v12 :: v13 :: some (.int P) :: v15 :: some (.str row) :: List.replicate 16 none) σ
      = some (.next, v0 :: v1 :: v2 :: v3 :: v4 :: v5 :: some (.ref 11) :: v7 :: v8 :: v9 :: v10 :: v11 :: v12 :: v13 :: some (.int P) :: v15 :: some (.str row) :: some (.ref (σ.length + 1)) :: some (.ref (σ.length + 2)) :: some (.ref (σ.length + 3)) :: List.replicate 13 none,
        σ ++ [.list ((picked row 40 (balF row)).map .int), .list ((closes row).map .int), .list ((cnts D M).map .int), .list []]) := by
  obtain ⟨_, e1⟩ := comp_pick (n + 11) σ row hr 40 (balF row) eltBal (fun k hk => bal_elt (n + 11) σ row hr k hk)
  obtain ⟨_, e2⟩ := comp_pick (n + 14) (σ ++ [.list ((picked row 40 (balF row)).map .int)]) row hr 41 (fun k => (k : Int)) (.var 1) (fun k hk => var_elt (n + 14) _ row k)
  have h11' := fun τ => listOf_app h11 τ
  obtain ⟨_, e3⟩ := comp_rng (innerElt (ev L02.ftab L02.ir_init (n + 24)) [] (.meth .count (.var 2) [(.var 1)])) (fun k : Nat => .int ((countI (k : Int) (dI D) : Nat) : Int)) (σ ++ [.list ((picked row 40 (balF row)).map .int), .list ((closes row).map .int)]) (M + 1) (by omega) [none, none, some (.ref 11)] (by show 1 < 3; decide) (by
    intro k hk acc ha
    have hal : Nat.ble acc.length lim = true := Nat.ble_eq.mpr (Nat.le_trans ha (Nat.le_trans (show _ ≤ 101 by omega) (by decide)))
    have hI : asInts (depL D) = some (dI D) := by rw [depL_int, asInts_map]
    simp only [innerElt, evIfs_q1, natV, ↓mCount_q1, mCount_q1, ↓oI_q1, oI_q1, ↓oOne_q1, oOne_q1, ↓oO_def, ↓oP_def, Option.join_some, ev_e, ↓stepE_q2, stepE_q2, ↓stepE_q18, stepE_q18, evEs_q1, evEs_q2, List.getElem?_cons_zero, List.getElem?_cons_succ, List.set_cons_zero, List.set_cons_succ, if_true, ↓hasMeth_q2, hasMeth_q2, h11', Option.isSome, ↓method_q4, method_q4, hI, hal])
  have hcn : ((nf (M + 1) 0).map fun k : Nat => AV.int ((countI (k : Int) (dI D) : Nat) : Int)) = (cnts D M).map .int := by unfold cnts; rw [List.map_map]; rfl
  have hI : asInts (depL D) = some (dI D) := by rw [depL_int, asInts_map]
  have hm : small 14 = true := rfl
  have hsM : small ((M : Int) + 1) = true := Nat.ble_eq.mpr (Nat.le_trans (show ((M : Int) + 1).natAbs + 1 ≤ 102 by omega) (by decide))
  have hM1 : decide ((M : Int) + 1 ≤ 1000000) = true := decide_eq_true (by omega)
  have htM : ((M : Int) + 1).toNat = M + 1 := by omega
  have l0 : listOf? (σ ++ [.list ((picked row 40 (balF row)).map .int)]) σ.length = some ((picked row 40 (balF row)).map .int) := lof0 _ _ _
  simp only [eltBal, Nat.add_assoc, Nat.reduceAdd, hcn] at e1 e2 e3
  have hcl : picked row 41 (fun k => (k : Int)) = closes row := rfl
  rw [hcl] at e2
  have hsE : sE = [.ifS (.cmp .ne (.bi .sum [(.comp [none, none, some 16] (.bin .sub (.meth .count (.slice (.var 2) none (some (.var 1))) [(.lit (.str [40]))]) (.meth .count (.slice (.var 2) none (some (.var 1))) [(.lit (.str [41]))])) (.one 1) (.rng1 (.lit (.int 14))) [(.cmp .eq (.idx (.var 2) (.var 1)) (.lit (.str [40])))])]) (.var 14)) [.ret (.lit (.bool false))] [], .assign 17 (.comp [none, none, some 16] (.var 1) (.one 1) (.rng1 (.lit (.int 14))) [(.cmp .eq (.idx (.var 2) (.var 1)) (.lit (.str [41])))]), .assign 18 (.comp [none, none, some 6] (.meth .count (.var 2) [(.var 1)]) (.one 1) (.rng1 (.bin .add (.bi .max [(.var 6)]) (.lit (.int 1)))) []), .assign 19 (.list [])] := rfl
  simp only [hsE, List.replicate_succ, List.replicate_zero, ↓bAdd_q1, bAdd_q1, ↓cNe_q1, cNe_q1, ↓bMax_q1, bMax_q1, ↓oI_q1, oI_q1, ↓oR_q1, oR_q1, ↓oOne_q1, oOne_q1, ↓oO_def, ↓oP_def, ↓itK_q1, itK_q1, ↓evItK_q1, evItK_q1, ↓tK_v3, tK_v3, Option.join_some, ev_e, ev_t, ev_b, stepB_q1, stepB_q2, ↓stepS_q1, stepS_q1, ↓stepS_q13, stepS_q13, ↓stepE_q1, stepE_q1, ↓stepE_q2, stepE_q2, ↓stepE_q3, stepE_q3, ↓stepE_q8, stepE_q8, ↓stepE_q10, stepE_q10, ↓stepE_q13, stepE_q13, ↓stepE_q17, stepE_q17, stepT, evEs_q1, evEs_q2, List.getElem?_cons_zero, List.getElem?_cons_succ, List.set_cons_zero, List.set_cons_succ, List.length_cons, List.length_nil, Nat.blt_eq, Nat.reduceAdd, Nat.reduceLT, Nat.zero_add, if_true, if_false, ↓truthV_q1, truthV_q1, List.nil_append, List.cons_append, Bool.false_eq_true, Bool.and_self, evIt, hm, Int.reduceLE, decide_true, Int.reduceToNat, impLoc, List.map_cons, List.map_nil, e1, endComp, cbels_ints, ↓bifn_q2, bifn_q2, ↓bifn_q3, bifn_q3, l0, asInts_map, hP, ↓cmpop_q2, cmpop_q2, bne_self_eq_false, e2, List.append_assoc, List.length_append, h11', hI, mx_ok, hM, ↓binop_q1, binop_q1, hsM, hM1, htM, e3, belsN]
end Mine
end
section
set_option linter.unusedSimpArgs false
namespace Mine
open PySem PySem.W PyProof.Rows

noncomputable def okC (c : Int) : Bool := !(c == 0) && !(c == 127)
theorem grp_at : ∀ (cs : List Int) (o : Option Int) (k : Nat) (r : List Int), cs.all okC = true → grpGo o (cs ++ 127 :: r) k = some cs[k]?
  | [], o, k, r, _ => by simp [grpGo_q2]
  | c :: cs, o, k, r, h => by
    rw [List.all_cons, Bool.and_eq_true] at h
    obtain ⟨h1, h2⟩ := h
    simp only [okC, Bool.and_eq_true, Bool.not_eq_true'] at h1
    rw [List.cons_append]
    (first | rewrite [grpGo_q2] | rewrite [grpGo_q1])
    rw [h1.1, h1.2, if_neg (by decide), if_neg (by decide)]
    cases k with
    | zero => rfl
    | succ k => rw [List.getElem?_cons_succ]; exact grp_at cs (some c) k r h2

noncomputable def stepOk (row : List Nat) (cl told : List Int) (size : Int) : Bool := !(sumI told == 7) && match normIdx (sumI told) cl.length with
  | some p => (match cl[p]? with
    | some q => decide (0 ≤ q) && decide (q ≤ 1000000) && ((countS 40 (row.take q.toNat) : Int) == sumI told + size)
    | none => false)
  | none => false
noncomputable def allOk (row : List Nat) (cl : List Int) : List Int → List Int → Bool
  | _, [] => true
  | told, c :: cs => stepOk row cl told c && allOk row cl (told ++ [c]) cs
theorem allOk_q2 (row : List Nat) (cl : List Int) : allOk row cl (told) (c :: cs) = (stepOk row cl told c && allOk row cl (told ++ [c]) cs) := rfl
noncomputable def bodyG : List IS := [.assign 21 (.bi .sum [(.var 19)]), .ifS (.orE (.cmp .eq (.var 21) (.lit (.int 7))) (.cmp .ne (.meth .count (.slice (.var 16) none (some (.idx (.var 17) (.var 21)))) [(.lit (.str [40]))]) (.bin .add (.var 21) (.var 20)))) [.ret (.lit (.bool false))] [], .expr (.meth .append (.var 19) [(.var 20)])]
/-- the store while the sizes are told -/
structure Told (S₀ S : Sto) (r : Nat) (told : List Int) : Prop where
  now : listOf? S r = some (told.map .int)
  len : S.length = S₀.length
  rest : ∀ i, i ≠ r → listOf? S i = listOf? S₀ i
  tk : ∀ N, N ≤ r → S.take N = S₀.take N
theorem Told.add {S₀ S : Sto} {r : Nat} {told : List Int} (h : Told S₀ S r told) (L : List Int) : Told S₀ (setAt S r (L.map .int)) r L := by
  have hr := listOf_lt h.now
  refine ⟨?_, ?_, fun i hi => ?_, fun N hN => ?_⟩
  · unfold setAt listOf?; rw [List.getElem?_set_self hr]
  · unfold setAt; rw [List.length_set]; exact h.len
  · rw [← h.rest i hi]; unfold setAt listOf?; rw [List.getElem?_set_ne (Ne.symm hi)]
  · rw [← h.tk N hN]; unfold setAt; rw [List.take_set, List.set_eq_of_length_le (by rw [List.length_take]; omega)]

theorem told_loop (n : Nat) (row : List Nat) (hr : row.length ≤ 100) (cl L : List Int) (hL : L.all okC = true) (S₀ : Sto) (r c : Nat) (hcr : c ≠ r) (hc : listOf? S₀ c = some (cl.map .int)) (hll : L.length ≤ 100)
    (v0 v1 v2 v3 v4 v5 v6 v7 v8 v9 v10 v11 v12 v13 v14 v15 v18 : Option AV) (vs : List (Option AV)) :
    ∀ (rest told : List Int) (g : Nat) (S : Sto) (x20 x21 : Option AV), L = told ++ rest → rest.length < g → allOk row cl told rest = true → Told S₀ S r told →
    ∃ S' y20 y21, Told S₀ S' r L ∧ forLoop (ev L02.ftab L02.ir_init (n + 22)) (.one 20) (.grp (L ++ [127, 3])) bodyG [] g told.length (v0 :: v1 :: v2 :: v3 :: v4 :: v5 :: v6 :: v7 :: v8 :: v9 :: v10 :: v11 :: v12 :: v13 :: v14 :: v15 :: some (.str row) :: some (.ref c) :: v18 :: some (.ref r) :: x20 :: x21 :: vs) S
      = some (.next, v0 :: v1 :: v2 :: v3 :: v4 :: v5 :: v6 :: v7 :: v8 :: v9 :: v10 :: v11 :: v12 :: v13 :: v14 :: v15 :: some (.str row) :: some (.ref c) :: v18 :: some (.ref r) :: y20 :: y21 :: vs, S')
  | [], told, g + 1, S, x20, x21, e, _, _, hT => by
    rw [List.append_nil] at e
    subst e
    refine ⟨S, x20, x21, hT, ?_⟩
    have hn : L[L.length]? = none := List.getElem?_eq_none (Nat.le_refl _)
    have hg : itNext (.grp (L ++ [127, 3])) L.length S = some none := by
      unfold itNext
      rw [show (L ++ [127, 3] : List Int) = L ++ 127 :: [3] from rfl]
      dsimp only
      rw [grp_at L none L.length [3] hL, hn]
    simp only [forLoop_q2, hg, oO_s]
    rfl
  | size :: rest, told, g + 1, S, x20, x21, e, hg, hok, hT => by
    rw [allOk_q2, Bool.and_eq_true] at hok
    obtain ⟨hs, hok⟩ := hok
    obtain ⟨S', y20, y21, hT', ih⟩ := told_loop n row hr cl L hL S₀ r c hcr hc hll v0 v1 v2 v3 v4 v5 v6 v7 v8 v9 v10 v11 v12 v13 v14 v15 v18 vs rest (told ++ [size]) g (setAt S r ((told ++ [size]).map .int)) (some (.int size)) (some (.int (sumI told))) (by rw [e, List.append_assoc]; rfl) (by simpa using hg) hok (hT.add _)
    refine ⟨S', y20, y21, hT', ?_⟩
    have hn : L[told.length]? = some size := by rw [e]; simp
    have hg : itNext (.grp (L ++ [127, 3])) told.length S = some (some (.int size)) := by
      unfold itNext
      rw [show (L ++ [127, 3] : List Int) = L ++ 127 :: [3] from rfl]
      dsimp only
      rw [grp_at L none told.length [3] hL, hn]
    unfold stepOk at hs
    rw [Bool.and_eq_true, Bool.not_eq_true'] at hs
    obtain ⟨h7, hs⟩ := hs
    cases hp : normIdx (sumI told) cl.length with
    | none => rw [hp] at hs; cases hs
    | some p =>
      rw [hp] at hs
      dsimp only at hs
      cases hq : cl[p]? with
      | none => rw [hq] at hs; cases hs
      | some q =>
        rw [hq] at hs
        dsimp only at hs
        rw [Bool.and_eq_true] at hs
        obtain ⟨hq1, hq2⟩ := hs
        have hb : bound? (some (.int q)) = some (some q.toNat) := by
          show (if decide (0 ≤ q) && decide (q ≤ 1000000) then some (some q.toNat) else none) = _
          rw [hq1]; rfl
        have hcut : cut row none (some q.toNat) = row.take q.toNat := by simp [cut]
        have hcc : listOf? S c = some (cl.map .int) := (hT.rest c hcr).trans hc
        have hne : ((countS 40 (row.take q.toNat) : Int) != sumI told + size) = false := by rw [bne, hq2]; rfl
        have hgi : (cl.map AV.int)[p]? = some (.int q) := by rw [List.getElem?_map, hq]; rfl
        have hrl : row.length ≤ lim := Nat.le_trans hr (by decide)
        have htl : told.length ≤ lim := by
          have : told.length ≤ L.length := by rw [e, List.length_append]; omega
          exact Nat.le_trans (Nat.le_trans this hll) (by decide)
        have el : told.length + 1 = (told ++ [size]).length := by simp
        have ea : told.map AV.int ++ [.int size] = (told ++ [size]).map .int := by simp
        rw [← ih]
        simp only [forLoop_q2, hg, bodyG, ↓bAdd_q1, bAdd_q1, ↓cEq_q1, cEq_q1, ↓cNe_q1, cNe_q1, ↓mCount_q2, mCount_q2, ↓oI_q1, oI_q1, ↓oS_q1, oS_q1, ↓oR_q1, oR_q1, ↓oOne_q1, oOne_q1, ↓oO_def, ↓oP_def, ↓oN_q1, oN_q1, ↓tK_q3, tK_q3, ↓tK_v3, tK_v3, ↓slicev_q1, slicev_q1, Option.join_some, ev_e, ev_t, ev_b, stepB_q1, stepB_q2, ↓stepS_q1, stepS_q1, ↓stepS_q8, stepS_q8, ↓stepS_q13, stepS_q13, ↓stepE_q1, stepE_q1, ↓stepE_q2, stepE_q2, ↓stepE_q3, stepE_q3, ↓stepE_q8, stepE_q8, ↓stepE_q11, stepE_q11, ↓stepE_q12, stepE_q12, ↓stepE_q17, stepE_q17, ↓stepE_q18, stepE_q18, stepT, evEs_q1, evEs_q2, ↓evO_q1, evO_q1, ↓evO_q2, evO_q2, ↓bindTg_q1, bindTg_q1, List.getElem?_cons_zero, List.getElem?_cons_succ, List.set_cons_zero, List.set_cons_succ, List.length_cons, Nat.blt_eq, Nat.ble_eq, if_true, if_false, ↓truthV_q1, truthV_q1, Nat.zero_lt_succ, Nat.lt_add_left_iff_pos, Bool.false_eq_true, Bool.true_and, ↓bifn_q2, bifn_q2, hT.now, asInts_map, ↓cmpop_q1, cmpop_q1, ↓cmpop_q2, cmpop_q2, h7, Bool.false_eq_true, sliceop, bound_none, ↓idxop_q1, idxop_q1, hcc, List.length_map, hp, hgi, hb, hrl, hcut, ↓hasMeth_q1, hasMeth_q1, ↓hasMeth_q2, hasMeth_q2, ↓method_q1, method_q1, ↓method_q4, method_q4, ↓binop_q1, binop_q1, hne, Option.isSome, belI, htl, ea, el]
        try rfl
end Mine
end
section
set_option linter.unusedSimpArgs false
namespace Mine
open PySem PySem.W PyProof.Rows

theorem mapO_int : ∀ l : List Int, mapO (toPy 3) (l.map AV.int) = some (l.map PyData.int)
  | [] => rfl
  | x :: l => by
    show oO (mapO (toPy 3) (l.map AV.int)) _ = _
    rw [mapO_int l]; rfl
theorem eqv_ints : ∀ l : List Int, PyData.eqvAll (l.map PyData.int) (l.map PyData.int) = true
  | [] => by simp [PyData.eqvAll]
  | x :: l => by rw [List.map_cons, PyData.eqvAll, eqv_ints l]; simp [PyData.eqv]
theorem eqL_self (l : List Int) : eqL (l.map AV.int) (l.map AV.int) = some true := by
  unfold eqL
  rw [mapO_int, oO_s, oO_s, eqv_ints]

theorem take1 (σ : Sto) (a b : AO) : (σ ++ [a, b]).take (σ.length + 1) = σ ++ [a] := by
  have : (σ ++ [a, b]) = (σ ++ [a]) ++ [b] := by simp
  rw [this, List.take_append_of_le_length (by simp), List.take_of_length_le (by simp)]

noncomputable def sF : List IS := (L02.ir_law.body.drop 22).take 2
theorem law_f (n : Nat) (σ : Sto) (row : List Nat) (hr : row.length ≤ 100) (cl cs : List Int) (hcs : cs.all okC = true) (hne : headZero (cs ++ [127, 3]) = false) (hcl : cs.length ≤ 100) (q r c : Nat) (hqr : q ≠ r) (hcr : c ≠ r) (hq : listOf? σ q = some (cs.map .int)) (h0 : listOf? σ r = some []) (hc : listOf? σ c = some (cl.map .int))
    (hok : allOk row cl [] cs = true) (v0 v1 v2 v3 v4 v5 v6 v7 v8 v9 v10 v11 v12 v13 v14 v15 : Option AV) :
    ∃ S' y20 y21, Told (σ ++ [.list [.int 127, .int 3]]) S' r cs ∧ stepB (ev L02.ftab L02.ir_init (n + 25)) sF (v0 :: v1 :: v2 :: v3 :: v4 :: v5 :: v6 :: v7 :: v8 :: v9 :: v10 :: v11 :: v12 :: v13 :: v14 :: v15 :: some (.str row) :: some (.ref c) :: some (.ref q) :: some (.ref r) :: List.replicate 13 none) σ
      = some (.next, v0 :: v1 :: v2 :: v3 :: v4 :: v5 :: v6 :: v7 :: v8 :: v9 :: v10 :: v11 :: v12 :: v13 :: v14 :: v15 :: some (.str row) :: some (.ref c) :: some (.ref q) :: some (.ref r) :: y20 :: y21 :: List.replicate 11 none, S') := by
  have T0 : Told (σ ++ [.list [.int 127, .int 3]]) (σ ++ [.list [.int 127, .int 3]]) r [] := ⟨listOf_app h0 _, rfl, fun _ _ => rfl, fun _ _ => rfl⟩
  obtain ⟨S', y20, y21, hT, e⟩ := told_loop (n + 3) row hr cl cs hcs (σ ++ [.list [.int 127, .int 3]]) r c hcr (listOf_app hc _) hcl v0 v1 v2 v3 v4 v5 v6 v7 v8 v9 v10 v11 v12 v13 v14 v15 (some (.ref q)) (List.replicate 11 none) cs [] gas (σ ++ [.list [.int 127, .int 3]]) none none rfl (Nat.lt_of_le_of_lt hcl (by decide)) hok T0
  refine ⟨S', y20, y21, hT, ?_⟩
  have hq' : listOf? (σ ++ [.list [.int 127, .int 3]]) q = some (cs.map .int) := listOf_app hq _
  have hqS : listOf? S' q = some (cs.map .int) := (hT.rest q hqr).trans hq'
  have hb : ∀ m : Nat, bels m [.int 127, .int 3] = true := fun _ => rfl
  have l0 : listOf? (σ ++ [.list [.int 127, .int 3]]) σ.length = some [.int 127, .int 3] := lof0 _ _ _
  have hlen : cs.length + 2 ≤ lim := Nat.le_trans (show _ ≤ 102 by omega) (by decide)
  have ha : cs.map AV.int ++ [.int 127, .int 3] = (cs ++ [127, 3]).map .int := by simp
  have l1 : listOf? (σ ++ [.list [.int 127, .int 3], .list ((cs ++ [127, 3]).map .int)]) (σ.length + 1) = some ((cs ++ [127, 3]).map .int) := lof1 _ _ _ _
  have hl2 : (σ ++ [AO.list [.int 127, .int 3], AO.list ((cs ++ [127, 3]).map .int)]).length = σ.length + 2 := by simp
  have hl1 : (σ ++ [AO.list [.int 127, .int 3]]).length = σ.length + 1 := by simp
  have hble : Nat.ble σ.length (σ.length + 1) = true := Nat.ble_eq.mpr (by omega)
  have hsF : sF = [.forG (.one 20) (.bin .add (.var 18) (.list [(.lit (.int 127)), (.lit (.int 3))])) bodyG [], .ifS (.cmp .ne (.var 19) (.var 18)) [.ret (.lit (.bool false))] []] := rfl
  simp only [Nat.add_assoc, Nat.reduceAdd, List.length_nil, bodyG, List.replicate_succ, List.replicate_zero] at e
  simp only [hsF, bodyG, List.replicate_succ, List.replicate_zero, ↓bAdd_q3, bAdd_q3, ↓cNe_q3, cNe_q3, ↓oR_q1, oR_q1, ↓oO_def, ↓oP_def, ↓tK_v3, tK_v3, Option.join_some, ev_e, ev_t, ev_b, stepB_q1, stepB_q2, ↓stepS_q11, stepS_q11, ↓stepS_q13, stepS_q13, ↓stepE_q1, stepE_q1, ↓stepE_q2, stepE_q2, ↓stepE_q3, stepE_q3, ↓stepE_q8, stepE_q8, ↓stepE_q10, stepE_q10, stepT, evEs_q1, evEs_q2, List.getElem?_cons_zero, List.getElem?_cons_succ, List.length_cons, List.length_nil, Nat.ble_eq, Nat.reduceAdd, Nat.zero_add, if_true, if_false, ↓truthV_q1, truthV_q1, List.nil_append, List.cons_append, Bool.false_eq_true, Bool.and_self, Bool.not_true, endComp, hb, ↓binop_q1, binop_q1, hq', l0, List.length_map, hlen, ha, List.append_assoc, hl1, hl2, Nat.add_assoc, Nat.reduceAdd, hble, beq_self_eq_true, l1, asInts_map, hne, take1, e, ↓cmpop_q2, cmpop_q2, hT.now, hqS, eqL_self]
end Mine
end
section
set_option linter.unusedSimpArgs false
namespace Mine
open PySem PySem.W PyProof.Rows

theorem hex_ok (a : Int) (h : (decide (0 ≤ a) && decide (a < 1048576)) = true) (σ : Sto) : bifn .hex [.int a] σ = some (.str (hexText a.toNat), σ) := by
  simp only [↓bifn_q5, bifn_q5, ↓oOne_q1, oOne_q1, ↓oI_q1, oI_q1, h, if_true]
theorem pr_add (n : Nat) (b : Int) (nm : List Nat) (hhex : ∀ σ : Sto, bifn .hex [.int b] σ = some (.str (hexText b.toNat), σ)) (hnm : (flagName b).getD (hexText b.toNat) = nm) (σ : Sto) (acc : List (List Nat)) (hal : acc.length ≤ lim) (v0 v2 : Option AV) (vs : List (Option AV)) :
    stepS (ev L02.ftab L02.ir_init (n + 12)) (.expr (.meth .append (.var 1) [(.dget (.var 3) (.bi .hex [(.var 3)]))])) (v0 :: some (.ref σ.length) :: v2 :: some (.int b) :: vs) (σ ++ [.list (acc.map .str)]) = some (.next, v0 :: some (.ref σ.length) :: v2 :: some (.int b) :: vs, σ ++ [.list ((acc ++ [nm]).map .str)]) := by
  have ea : acc.map AV.str ++ [.str nm] = (acc ++ [nm]).map .str := by simp
  simp only [↓oI_q1, oI_q1, ↓oS_q1, oS_q1, ↓oR_q1, oR_q1, ↓oOne_q1, oOne_q1, ↓oO_def, ↓oP_def, ↓oN_q1, oN_q1, Option.join_some, ev_e, ↓stepS_q8, stepS_q8, ↓stepE_q2, stepE_q2, ↓stepE_q17, stepE_q17, ↓stepE_q18, stepE_q18, ↓stepE_q23, stepE_q23, evEs_q1, evEs_q2, List.getElem?_cons_zero, List.getElem?_cons_succ, Nat.ble_eq, if_true, Bool.true_and, ↓hasMeth_q2, hasMeth_q2, lof0, Option.isSome, hhex, hnm, ↓method_q1, method_q1, belS, List.length_map, hal, ea, sat0]
noncomputable def prTail : List IS := [.aug 0 .xor (.var 3), .ifS (.notE (.var 0)) [.brk] []]
theorem pr_stop (n : Nat) (f b : Int) (v1 v2 : Option AV) (vs : List (Option AV)) (σ : Sto) (h4 : (Builtin.bitXor f b != 0) = false) :
    stepB (ev L02.ftab L02.ir_init (n + 12)) prTail (some (.int f) :: v1 :: v2 :: some (.int b) :: vs) σ = some (.brk, some (.int (Builtin.bitXor f b)) :: v1 :: v2 :: some (.int b) :: vs, σ) := by
  simp only [prTail, ↓oI_q1, oI_q1, ↓oO_def, ↓oP_def, ↓tK_q1, tK_q1, ↓tK_v1, tK_v1, Option.join_some, ev_e, ev_t, ev_b, stepB_q2, ↓stepS_q7, stepS_q7, ↓stepS_q13, stepS_q13, ↓stepS_q15, stepS_q15, ↓stepE_q2, stepE_q2, stepT, List.getElem?_cons_zero, List.getElem?_cons_succ, List.set_cons_zero, if_true, ↓truthV_q2, truthV_q2, Bool.not_false, augop, h4]
theorem pr_on (n : Nat) (f b : Int) (v1 v2 : Option AV) (vs : List (Option AV)) (σ : Sto) (h4 : (Builtin.bitXor f b != 0) = true) :
    stepB (ev L02.ftab L02.ir_init (n + 12)) prTail (some (.int f) :: v1 :: v2 :: some (.int b) :: vs) σ = some (.next, some (.int (Builtin.bitXor f b)) :: v1 :: v2 :: some (.int b) :: vs, σ) := by
  simp only [prTail, ↓oI_q1, oI_q1, ↓oO_def, ↓oP_def, ↓tK_q1, tK_q1, ↓tK_v1, tK_v1, Option.join_some, ev_e, ev_t, ev_b, stepB_q1, stepB_q2, ↓stepS_q7, stepS_q7, ↓stepS_q13, stepS_q13, ↓stepE_q2, stepE_q2, stepT, List.getElem?_cons_zero, List.getElem?_cons_succ, List.set_cons_zero, if_false, ↓truthV_q2, truthV_q2, Bool.false_eq_true, Bool.not_true, augop, h4]
noncomputable def prIn : List IS := .expr (.meth .append (.var 1) [(.dget (.var 3) (.bi .hex [(.var 3)]))]) :: prTail
noncomputable def bodyPr (B : List IS) : List IS := [.assign 3 (.bin .shl (.lit (.int 1)) (.var 2)), .ifS (.bin .band (.var 0) (.var 3)) B []]
/-- what a turn does -/
theorem pr_turn (n : Nat) (B els : List IS) (i c : Nat) (hi : i ≤ 100) (b f : Int) (hb : (1 : Int) * 2 ^ i = b) (v1 x2 x3 x4 x5 x6 : Option AV) (σ : Sto) :
    forL (ev L02.ftab L02.ir_init (n + 15)) (.one 2) (bodyPr B) els (rangeL i (c + 1)) [some (.int f), v1, x2, x3, x4, x5, x6] σ =
      if Builtin.bitAnd f b != 0 then (oP (stepB (ev L02.ftab L02.ir_init (n + 13)) B [some (.int f), v1, some (.int i), some (.int b), x4, x5, x6] σ) fun fl x => match fl with
        | .next => forL (ev L02.ftab L02.ir_init (n + 15)) (.one 2) (bodyPr B) els (rangeL (i + 1 : Nat) c) x.1 x.2
        | .brk => some (.next, x)
        | .ret v => some (.ret v, x))
      else forL (ev L02.ftab L02.ir_init (n + 15)) (.one 2) (bodyPr B) els (rangeL (i + 1 : Nat) c) [some (.int f), v1, some (.int i), some (.int b), x4, x5, x6] σ := by
  have h1 : (small 1 && decide ((0 : Int) ≤ (i : Int)) && decide ((i : Int) ≤ 1000)) = true := by
    rw [decide_eq_true (by omega), decide_eq_true (by omega)]; rfl
  have hr : rangeL (i : Int) (c + 1) = .int (i : Int) :: rangeL ((i : Int) + 1) c := rfl
  have ek : ((i : Nat) : Int) + 1 = ((i + 1 : Nat) : Int) := by omega
  cases h2 : (Builtin.bitAnd f b != 0) with
  | false => simp only [hr, forL_q2, bodyPr, ↓oI_q1, oI_q1, ↓oO_def, ↓oP_def, ↓tK_v2, tK_v2, Option.join_some, ev_e, ev_t, ev_b, stepB_q1, stepB_q2, ↓stepS_q1, stepS_q1, ↓stepS_q13, stepS_q13, ↓stepE_q1, stepE_q1, ↓stepE_q2, stepE_q2, ↓stepE_q3, stepE_q3, stepT, ↓bindTg_q1, bindTg_q1, List.getElem?_cons_zero, List.getElem?_cons_succ, List.set_cons_zero, List.set_cons_succ, List.length_cons, List.length_nil, Nat.blt_eq, Nat.reduceAdd, Nat.reduceLT, Nat.zero_add, if_true, if_false, ↓truthV_q2, truthV_q2, Bool.false_eq_true, ↓binop_q7, binop_q7, ↓binop_q8, binop_q8, h1, Int.toNat_natCast, hb, h2, ek]
  | true =>
    simp only [hr, forL_q2, bodyPr, ↓oI_q1, oI_q1, ↓oO_def, ↓oP_def, ↓tK_v2, tK_v2, Option.join_some, ev_e, ev_t, ev_b, stepB_q1, stepB_q2, ↓stepS_q1, stepS_q1, ↓stepS_q13, stepS_q13, ↓stepE_q1, stepE_q1, ↓stepE_q2, stepE_q2, ↓stepE_q3, stepE_q3, stepT, ↓bindTg_q1, bindTg_q1, List.getElem?_cons_zero, List.getElem?_cons_succ, List.set_cons_zero, List.set_cons_succ, List.length_cons, List.length_nil, Nat.blt_eq, Nat.reduceAdd, Nat.reduceLT, Nat.zero_add, if_true, ↓truthV_q2, truthV_q2, ↓binop_q7, binop_q7, ↓binop_q8, binop_q8, h1, Int.toNat_natCast, hb, h2, ek]
    cases stepB (ev L02.ftab L02.ir_init (n + 13)) B [some (.int f), v1, some (.int i), some (.int b), x4, x5, x6] σ with
    | none => rfl
    | some x => cases x with | mk fl x => cases fl <;> rfl

noncomputable def pw (i : Nat) : Int := 1 * 2 ^ i
noncomputable def nmF (i : Nat) : List Nat := (flagName (pw i)).getD (hexText (pw i).toNat)
noncomputable def prGo : Nat → Nat → Int → List (List Nat) → Option (List (List Nat))
  | 0, _, _, _ => none
  | c + 1, i, f, acc => if Builtin.bitAnd f (pw i) != 0 then (if decide (0 ≤ pw i) && decide (pw i < 1048576) then (if Builtin.bitXor f (pw i) != 0 then prGo c (i + 1) (Builtin.bitXor f (pw i)) (acc ++ [nmF i]) else some (acc ++ [nmF i])) else none) else prGo c (i + 1) f acc
theorem prGo_q1  : prGo (0) (u1') (u2') (u3') = (none) := rfl
theorem prGo_q2  : prGo (c + 1) (i) (f) (acc) = (if Builtin.bitAnd f (pw i) != 0 then (if decide (0 ≤ pw i) && decide (pw i < 1048576) then (if Builtin.bitXor f (pw i) != 0 then prGo c (i + 1) (Builtin.bitXor f (pw i)) (acc ++ [nmF i]) else some (acc ++ [nmF i])) else none) else prGo c (i + 1) f acc) := rfl
theorem pr_loop (n : Nat) (σ : Sto) (els : List IS) :
    ∀ (c i : Nat) (f : Int) (acc out : List (List Nat)) (x2 x3 : Option AV), i + c ≤ 100 → acc.length + c ≤ 100 → prGo c i f acc = some out →
    ∃ f' y2 y3, forL (ev L02.ftab L02.ir_init (n + 15)) (.one 2) (bodyPr prIn) els (rangeL i c) [some (.int f), some (.ref σ.length), x2, x3, none, none, none] (σ ++ [.list (acc.map .str)])
      = some (.next, [some (.int f'), some (.ref σ.length), y2, y3, none, none, none], σ ++ [.list (out.map .str)]) := by
  intro c
  induction c with
  | zero => intro i f acc out x2 x3 hi ha h; cases h
  | succ c IH =>
    intro i f acc out x2 x3 hi ha h
    have hnm : (flagName (pw i)).getD (hexText (pw i).toNat) = nmF i := rfl
    have ht := fun x2 x3 σ' => pr_turn n prIn els i c (by omega) (pw i) f rfl (some (.ref σ.length)) x2 x3 none none none σ'
    (first | rewrite [prGo_q2] at h | rewrite [prGo_q1] at h)
    generalize pw i = b at hnm h ht
    have hal : acc.length ≤ lim := Nat.le_trans (show _ ≤ 100 by omega) (by decide)
    cases h2 : (Builtin.bitAnd f b != 0) with
    | false =>
      rw [h2, if_neg (by decide)] at h
      obtain ⟨f', y2, y3, ih⟩ := IH (i + 1) f acc out (some (.int (i : Int))) (some (.int b)) (by omega) (by omega) h
      exact ⟨f', y2, y3, by rw [ht, h2, if_neg (by decide), ih]⟩
    | true =>
      rw [h2, if_pos rfl] at h
      cases h3 : (decide (0 ≤ b) && decide (b < 1048576)) with
      | false => rw [h3] at h; cases h
      | true =>
        rw [h3, if_pos rfl] at h
        have ha1 := pr_add (n + 1) b (nmF i) (hex_ok b h3) hnm σ acc hal (some (.int f)) (some (.int i)) [none, none, none]
        cases h4 : (Builtin.bitXor f b != 0) with
        | true =>
          rw [h4, if_pos rfl] at h
          obtain ⟨f', y2, y3, ih⟩ := IH (i + 1) (Builtin.bitXor f b) (acc ++ [nmF i]) out (some (.int (i : Int))) (some (.int b)) (by omega) (by rw [List.length_append]; simp only [List.length_cons, List.length_nil]; omega) h
          refine ⟨f', y2, y3, ?_⟩
          have hB : stepB (ev L02.ftab L02.ir_init (n + 13)) prIn [some (.int f), some (.ref σ.length), some (.int i), some (.int b), none, none, none] (σ ++ [.list (acc.map .str)]) = some (.next, [some (.int (Builtin.bitXor f b)), some (.ref σ.length), some (.int i), some (.int b), none, none, none], σ ++ [.list ((acc ++ [nmF i]).map .str)]) := by
            show oP (stepS (ev L02.ftab L02.ir_init (n + 13)) _ _ _) _ = _
            rw [ha1]
            exact pr_on (n + 1) f b _ _ _ _ h4
          rw [ht, h2, if_pos rfl, hB]
          exact ih
        | false =>
          rw [h4, if_neg (by decide)] at h
          cases h
          refine ⟨Builtin.bitXor f b, some (.int (i : Int)), some (.int b), ?_⟩
          have hB : stepB (ev L02.ftab L02.ir_init (n + 13)) prIn [some (.int f), some (.ref σ.length), some (.int i), some (.int b), none, none, none] (σ ++ [.list (acc.map .str)]) = some (.brk, [some (.int (Builtin.bitXor f b)), some (.ref σ.length), some (.int i), some (.int b), none, none, none], σ ++ [.list ((acc ++ [nmF i]).map .str)]) := by
            show oP (stepS (ev L02.ftab L02.ir_init (n + 13)) _ _ _) _ = _
            rw [ha1]
            exact pr_stop (n + 1) f b _ _ _ _ h4
          rw [ht, h2, if_pos rfl, hB]
          rfl
theorem pretty_call (n : Nat) (σ : Sto) (f : Int) (out : List (List Nat)) (h : prGo 32 0 f [] = some out) (hfit : Nat.ble (sumLen out + 2 * out.length) lim = true) :
    (ev L02.ftab L02.ir_init (n + 17)).f 4 [.int f] σ = some (.str (joinS [44, 32] out), σ) := by
  have hf : L02.ftab[4]? = some L02.ir_pretty_flags := rfl
  rw [ev_f _ _ _ hf]
  obtain ⟨f', y2, y3, e⟩ := pr_loop n σ [.expr (.meth .append (.var 1) [(.bi .hex [(.var 0)])])] 32 0 f [] out none none (by omega) (by simp) h
  have hlf := forLoop_vals (ev L02.ftab L02.ir_init (n + 15)) (.one 2) (bodyPr prIn) [.expr (.meth .append (.var 1) [(.bi .hex [(.var 0)])])] (rangeL 0 32) [some (.int f), some (.ref σ.length), none, none, none, none, none] (σ ++ [.list []]) (by rw [drangeL_len]; decide)
  have hm : small 32 = true := rfl
  simp only [List.map_nil, Int.natCast_zero, bodyPr, prIn, prTail] at e hlf
  simp only [Nat.ble_eq] at hfit
  simp only [callFn, L02.ir_pretty_flags, bindArgsL, List.replicate_succ, List.replicate_zero, ↓oI_q1, oI_q1, ↓oS_q1, oS_q1, ↓oR_q1, oR_q1, ↓oOne_q1, oOne_q1, ↓oO_def, ↓oP_def, ↓itK_q1, itK_q1, ↓evItK_q1, evItK_q1, ↓flowV_q2, flowV_q2, closeV, Option.join_some, ev_e, ev_b, stepB_q2, ↓stepS_q1, stepS_q1, ↓stepS_q9, stepS_q9, ↓stepS_q14, stepS_q14, ↓stepE_q1, stepE_q1, ↓stepE_q2, stepE_q2, ↓stepE_q10, stepE_q10, ↓stepE_q18, stepE_q18, evEs_q1, evEs_q2, setSlots_q1, setSlots_q2, List.getElem?_cons_zero, List.getElem?_cons_succ, List.set_cons_zero, List.set_cons_succ, List.length_cons, List.length_nil, Nat.blt_eq, Nat.ble_eq, Nat.reduceAdd, Nat.reduceLT, Nat.zero_add, if_true, Nat.zero_lt_succ, Bool.and_self, endComp, belsN, evIt, hm, Int.reduceLE, decide_true, Int.reduceToNat, hlf, e, ↓hasMeth_q1, hasMeth_q1, ↓method_q5, method_q5, lof0, asStrs_map, hfit, ↓close_v1, close_v1, belS, take0]
end Mine
end
section
set_option linter.unusedSimpArgs false
namespace Mine
open PySem PySem.W PyProof.Rows

noncomputable def nmsR : List (List Nat) := [[79, 80, 84, 73, 77, 73, 90, 69, 68], [78, 69, 87, 76, 79, 67, 65, 76, 83], [86, 65, 82, 65, 82, 71, 83], [86, 65, 82, 75, 69, 89, 87, 79, 82, 68, 83], [78, 69, 83, 84, 69, 68], [71, 69, 78, 69, 82, 65, 84, 79, 82], [78, 79, 70, 82, 69, 69], [67, 79, 82, 79, 85, 84, 73, 78, 69], [73, 84, 69, 82, 65, 66, 76, 69, 95, 67, 79, 82, 79, 85, 84, 73, 78, 69], [65, 83, 89, 78, 67, 95, 71, 69, 78, 69, 82, 65, 84, 79, 82], [48, 120, 52, 48, 48], [48, 120, 56, 48, 48], [48, 120, 49, 48, 48, 48], [48, 120, 50, 48, 48, 48]]
theorem index_any {w : List Nat} : ∀ {l : List (List Nat)} {k : Nat}, indexS w l = some k → l.any (· == w) = true
  | [], _, h => by cases h
  | x :: l, k, h => by
    (first | rewrite [indexS_q2] at h | rewrite [indexS_q1] at h)
    cases hx : (x == w) with
    | true => rw [List.any_cons, hx]; rfl
    | false =>
      rw [hx, if_neg (by decide)] at h
      cases hi : indexS w l with
      | none => rw [hi] at h; cases h
      | some j => rw [List.any_cons, hx, index_any hi]; rfl
noncomputable def rdGo (nms : List (List Nat)) : List (List Nat) → Int → List Int → Option (List Int)
  | [], _, op => some op
  | w :: ws, last, op => match indexS w nms with
    | some k => if decide ((k : Int) ≤ last) then none else rdGo nms ws (k : Int) (op ++ [(k : Int)])
    | none => none
theorem rdGo_q1 (nms : List (List Nat)) : rdGo nms ([]) (u1') (op) = (some op) := rfl
theorem rdGo_q2 (nms : List (List Nat)) : rdGo nms (w :: ws) (last) (op) = (match indexS w nms with
      | some k => if decide ((k : Int) ≤ last) then none else rdGo nms ws (k : Int) (op ++ [(k : Int)])
      | none => none) := rfl
noncomputable def bodyRd : List IS := [.ifS (.orE (.cmp .notIn (.var 4) (.var 1)) (.cmp .le (.meth .index (.var 1) [(.var 4)]) (.var 3))) [.ret (.list [])] [], .assign 3 (.meth .index (.var 1) [(.var 4)]), .expr (.meth .append (.var 2) [(.var 3)])]
theorem word_loop (n : Nat) (nms W : List (List Nat)) (hnl : nms.length ≤ 100) (hWl : W.length ≤ 100) (S₀ : Sto) (a b c : Nat) (hab : a ≠ b) (hcb : c ≠ b) (ha : listOf? S₀ a = some (nms.map .str)) (hc : listOf? S₀ c = some (W.map .str)) (v0 : Option AV) (vs : List (Option AV)) :
    ∀ (rest pre : List (List Nat)) (g : Nat) (S : Sto) (last : Int) (op out : List Int) (x4 : Option AV), W = pre ++ rest → rest.length < g → op.length + rest.length ≤ 100 → rdGo nms rest last op = some out → Told S₀ S b op →
    ∃ S' y3 y4, Told S₀ S' b out ∧ forLoop (ev L02.ftab L02.ir_init (n + 15)) (.one 4) (.lst c) bodyRd [] g pre.length (v0 :: some (.ref a) :: some (.ref b) :: some (.int last) :: x4 :: vs) S
      = some (.next, v0 :: some (.ref a) :: some (.ref b) :: y3 :: y4 :: vs, S')
  | [], pre, g + 1, S, last, op, out, x4, e, _, _, h, hT => by
    cases h
    refine ⟨S, some (.int last), x4, hT, ?_⟩
    rw [forLoop_lst_nil _ _ _ _ c g pre.length _ _ _ ((hT.rest c hcb).trans hc) (by subst e; simp)]
    rfl
  | w :: rest, pre, g + 1, S, last, op, out, x4, e, hg, hol, h, hT => by
    (first | rewrite [rdGo_q2] at h | rewrite [rdGo_q1] at h)
    cases hi : indexS w nms with
    | none => rw [hi] at h; cases h
    | some k =>
      rw [hi] at h
      dsimp only at h
      cases hle : decide ((k : Int) ≤ last) with
      | true => rw [hle] at h; cases h
      | false =>
        rw [hle, if_neg (by decide)] at h
        obtain ⟨S', y3, y4, hT', ih⟩ := word_loop n nms W hnl hWl S₀ a b c hab hcb ha hc v0 vs rest (pre ++ [w]) g (setAt S b ((op ++ [(k : Int)]).map .int)) (k : Int) (op ++ [(k : Int)]) out (some (.str w)) (by rw [e, List.append_assoc]; rfl) (by simpa using hg) (by simp only [List.length_append, List.length_cons, List.length_nil] at hol ⊢; omega) h (hT.add _)
        refine ⟨S', y3, y4, hT', ?_⟩
        have hv : (W.map AV.str)[pre.length]? = some (.str w) := by subst e; simp
        have haS : listOf? S a = some (nms.map .str) := (hT.rest a hab).trans ha
        have hany := index_any hi
        have hnl' : nms.length ≤ lim := Nat.le_trans hnl (by decide)
        have hol' : op.length ≤ lim := Nat.le_trans (show _ ≤ 100 by omega) (by decide)
        have eo : op.map AV.int ++ [.int (k : Int)] = (op ++ [(k : Int)]).map .int := by simp
        have ep : pre.length + 1 = (pre ++ [w]).length := by simp
        rw [forLoop_lst_cons _ _ _ _ c g pre.length _ _ _ _ ((hT.rest c hcb).trans hc) hv, ← ih]
        simp only [bodyRd, ↓cNotS_q2, cNotS_q2, ↓cNotIn_q1, cNotIn_q1, ↓oI_q1, oI_q1, ↓oS_q1, oS_q1, ↓oR_q1, oR_q1, ↓oOne_q1, oOne_q1, ↓oO_def, ↓oP_def, ↓oN_q1, oN_q1, ↓tK_q3, tK_q3, ↓tK_v3, tK_v3, Option.join_some, ev_e, ev_t, ev_b, stepB_q1, stepB_q2, ↓stepS_q1, stepS_q1, ↓stepS_q8, stepS_q8, ↓stepS_q13, stepS_q13, ↓stepE_q2, stepE_q2, ↓stepE_q8, stepE_q8, ↓stepE_q18, stepE_q18, stepT, evEs_q1, evEs_q2, ↓bindTg_q1, bindTg_q1, List.getElem?_cons_zero, List.getElem?_cons_succ, List.set_cons_zero, List.set_cons_succ, List.length_cons, Nat.blt_eq, Nat.ble_eq, if_true, if_false, ↓truthV_q1, truthV_q1, Nat.zero_lt_succ, Nat.lt_add_left_iff_pos, Bool.false_eq_true, Bool.true_and, Bool.not_true, ↓cmpop_q4, cmpop_q4, ↓cmpop_q10, cmpop_q10, haS, asStrs_map, hany, Bool.not_true, ↓hasMeth_q2, hasMeth_q2, Option.isSome, ↓method_q1, method_q1, ↓method_q3, method_q3, hi, List.length_map, hnl', hle, hT.now, belI, hol', eo, ep]
end Mine
end
section
set_option linter.unusedSimpArgs false
namespace Mine
open PySem PySem.W PyProof.Rows

noncomputable def skip1 (op : List Int) : Nat → Int → Option Int
  | 0, _ => none
  | f + 1, p => if op.any (· == p) then skip1 op f (p + 1) else some p
theorem skip1_q1 (op : List Int) : skip1 op (0) (u1') = (none) := rfl
theorem skip1_q2 (op : List Int) : skip1 op (f + 1) (p) = (if op.any (· == p) then skip1 op f (p + 1) else some p) := rfl
theorem while1 (n : Nat) (op : List Int) (b : Nat) (S : Sto) (hb : listOf? S b = some (op.map .int)) (v0 v1 v3 v4 : Option AV) (vs : List (Option AV)) :
    ∀ (f g : Nat) (p p' : Int), f ≤ g → skip1 op f p = some p' →
    whileLoop (ev L02.ftab L02.ir_init (n + 10)) (.cmp .inn (.var 5) (.var 2)) [.aug 5 .add (.lit (.int 1))] g (v0 :: v1 :: some (.ref b) :: v3 :: v4 :: some (.int p) :: vs) S
      = some (.next, v0 :: v1 :: some (.ref b) :: v3 :: v4 :: some (.int p') :: vs, S)
  | 0, _, _, _, _, h => by cases h
  | f + 1, 0, _, _, hf, _ => by omega
  | f + 1, g + 1, p, p', hf, h => by
    (first | rewrite [skip1_q2] at h | rewrite [skip1_q1] at h)
    cases hc : op.any (· == p) with
    | false =>
      rw [hc, if_neg (by decide)] at h
      cases h
      simp only [whileLoop_q2, cIn, ↓oI_q1, oI_q1, ↓oO_def, ↓oP_def, ↓tK_v3, tK_v3, Option.join_some, ev_e, ev_t, ev_b, stepB_q1, stepB_q2, ↓stepS_q7, stepS_q7, ↓stepE_q1, stepE_q1, ↓stepE_q2, stepE_q2, ↓stepE_q8, stepE_q8, stepT, List.getElem?_cons_zero, List.getElem?_cons_succ, List.set_cons_zero, List.set_cons_succ, if_false, ↓truthV_q1, truthV_q1, Bool.false_eq_true, ↓cmpop_q9, cmpop_q9, hb, asInts_map, hc]
    | true =>
      rw [hc, if_pos rfl] at h
      rw [← while1 n op b S hb v0 v1 v3 v4 vs f g (p + 1) p' (by omega) h]
      conv => lhs; (first | rw [whileLoop_q2] | rw [whileLoop_q1])
      simp only [cIn, ↓oI_q1, oI_q1, ↓oO_def, ↓oP_def, ↓tK_v3, tK_v3, Option.join_some, ev_e, ev_t, ev_b, stepB_q1, stepB_q2, ↓stepS_q7, stepS_q7, ↓stepE_q1, stepE_q1, ↓stepE_q2, stepE_q2, ↓stepE_q8, stepE_q8, stepT, List.getElem?_cons_zero, List.getElem?_cons_succ, List.set_cons_zero, List.set_cons_succ, if_true, ↓truthV_q1, truthV_q1, ↓cmpop_q9, cmpop_q9, hb, asInts_map, hc, augop]

noncomputable def skip2 (op : List Int) (d : Int) : Nat → Int → List Int → Option (Int × List Int)
  | 0, _, _ => none
  | f + 1, p, gr => if op.any (· == p) then (if Nat.ble gr.length 100 then skip2 op d f (p + 1) (gr ++ [d]) else none) else some (p, gr)
theorem skip2_q1 (op : List Int) (d : Int) : skip2 op d (0) (u1') (u2') = (none) := rfl
theorem skip2_q2 (op : List Int) (d : Int) : skip2 op d (f + 1) (p) (gr) = (if op.any (· == p) then (if Nat.ble gr.length 100 then skip2 op d f (p + 1) (gr ++ [d]) else none) else some (p, gr)) := rfl
noncomputable def bodyW2 : List IS := [.expr (.meth .append (.var 8) [(.var 7)]), .aug 5 .add (.lit (.int 1))]
theorem while2 (n : Nat) (op : List Int) (d : Int) (b e : Nat) (hbe : b ≠ e) (S₀ : Sto) (hb : listOf? S₀ b = some (op.map .int)) (v0 v1 v3 v4 v6 : Option AV) (vs : List (Option AV)) :
    ∀ (f g : Nat) (p p' : Int) (gr out : List Int) (S : Sto), f ≤ g → skip2 op d f p gr = some (p', out) → Told S₀ S e gr →
    ∃ S', Told S₀ S' e out ∧ whileLoop (ev L02.ftab L02.ir_init (n + 10)) (.cmp .inn (.var 5) (.var 2)) bodyW2 g (v0 :: v1 :: some (.ref b) :: v3 :: v4 :: some (.int p) :: v6 :: some (.int d) :: some (.ref e) :: vs) S
      = some (.next, v0 :: v1 :: some (.ref b) :: v3 :: v4 :: some (.int p') :: v6 :: some (.int d) :: some (.ref e) :: vs, S')
  | 0, _, _, _, _, _, _, _, h, _ => by cases h
  | f + 1, 0, _, _, _, _, _, hf, _, _ => by omega
  | f + 1, g + 1, p, p', gr, out, S, hf, h, hT => by
    have hbS : listOf? S b = some (op.map .int) := (hT.rest b hbe).trans hb
    (first | rewrite [skip2_q2] at h | rewrite [skip2_q1] at h)
    cases hc : op.any (· == p) with
    | false =>
      rw [hc, if_neg (by decide)] at h
      cases h
      refine ⟨S, hT, ?_⟩
      simp only [whileLoop_q2, cIn, ↓oI_q1, oI_q1, ↓oO_def, ↓oP_def, ↓tK_v3, tK_v3, Option.join_some, ev_e, ev_t, ev_b, ↓stepE_q2, stepE_q2, ↓stepE_q8, stepE_q8, stepT, List.getElem?_cons_zero, List.getElem?_cons_succ, if_false, ↓truthV_q1, truthV_q1, Bool.false_eq_true, ↓cmpop_q9, cmpop_q9, hbS, asInts_map, hc]
    | true =>
      rw [hc, if_pos rfl] at h
      cases hl : Nat.ble gr.length 100 with
      | false => rw [hl] at h; cases h
      | true =>
        rw [hl, if_pos rfl] at h
        obtain ⟨S', hT', ih⟩ := while2 n op d b e hbe S₀ hb v0 v1 v3 v4 v6 vs f g (p + 1) p' (gr ++ [d]) out (setAt S e ((gr ++ [d]).map .int)) (by omega) h (hT.add _)
        refine ⟨S', hT', ?_⟩
        have hgl : gr.length ≤ lim := Nat.le_trans (Nat.ble_eq.mp hl) (by decide)
        have eg : gr.map AV.int ++ [.int d] = (gr ++ [d]).map .int := by simp
        rw [← ih]
        conv => lhs; (first | rw [whileLoop_q2] | rw [whileLoop_q1])
        simp only [bodyW2, cIn, ↓oI_q1, oI_q1, ↓oR_q1, oR_q1, ↓oOne_q1, oOne_q1, ↓oO_def, ↓oP_def, ↓oN_q1, oN_q1, ↓tK_v3, tK_v3, Option.join_some, ev_e, ev_t, ev_b, stepB_q1, stepB_q2, ↓stepS_q7, stepS_q7, ↓stepS_q8, stepS_q8, ↓stepE_q1, stepE_q1, ↓stepE_q2, stepE_q2, ↓stepE_q8, stepE_q8, ↓stepE_q18, stepE_q18, stepT, evEs_q1, evEs_q2, List.getElem?_cons_zero, List.getElem?_cons_succ, List.set_cons_zero, List.set_cons_succ, Nat.ble_eq, if_true, ↓truthV_q1, truthV_q1, Bool.true_and, ↓cmpop_q9, cmpop_q9, hbS, asInts_map, hc, ↓hasMeth_q2, hasMeth_q2, hT.now, Option.isSome, ↓method_q1, method_q1, belI, List.length_map, hgl, eg, augop]

noncomputable def rdIn (op : List Int) (d : Int) : List Int → Int → List Int → Option (Int × List Int)
  | [], p, gr => some (p, gr)
  | x :: xs, p, gr => if Nat.ble gr.length 100 then (if x == d - 1 then (match skip2 op d 50 (p + 1) (gr ++ [x]) with
    | some (p', gr') => rdIn op d xs p' gr'
    | none => none) else rdIn op d xs p (gr ++ [x])) else none
theorem rdIn_q1 (op : List Int) (d : Int) : rdIn op d ([]) (p) (gr) = (some (p, gr)) := rfl
theorem rdIn_q2 (op : List Int) (d : Int) : rdIn op d (x :: xs) (p) (gr) = (if Nat.ble gr.length 100 then (if x == d - 1 then (match skip2 op d 50 (p + 1) (gr ++ [x]) with
      | some (p', gr') => rdIn op d xs p' gr'
      | none => none) else rdIn op d xs p (gr ++ [x])) else none) := rfl
noncomputable def bodyI9 : List IS := [.expr (.meth .append (.var 8) [(.var 9)]), .ifS (.cmp .eq (.var 9) (.bin .sub (.var 7) (.lit (.int 1)))) [.aug 5 .add (.lit (.int 1)), .whileS (.cmp .inn (.var 5) (.var 2)) bodyW2] []]
theorem inner9 (n : Nat) (op : List Int) (d : Int) (b e i6 : Nat) (hbe : b ≠ e) (hie : i6 ≠ e) (S₀ : Sto) (hb : listOf? S₀ b = some (op.map .int)) (L : List Int) (hi : listOf? S₀ i6 = some (L.map .int)) (v0 v1 v3 v4 : Option AV) (vs : List (Option AV)) :
    ∀ (rest pre : List Int) (g : Nat) (p p' : Int) (gr out : List Int) (S : Sto) (x9 : Option AV), L = pre ++ rest → rest.length < g → rdIn op d rest p gr = some (p', out) → Told S₀ S e gr →
    ∃ S' y9, Told S₀ S' e out ∧ forLoop (ev L02.ftab L02.ir_init (n + 15)) (.one 9) (.lst i6) bodyI9 [] g pre.length (v0 :: v1 :: some (.ref b) :: v3 :: v4 :: some (.int p) :: some (.ref i6) :: some (.int d) :: some (.ref e) :: x9 :: vs) S
      = some (.next, v0 :: v1 :: some (.ref b) :: v3 :: v4 :: some (.int p') :: some (.ref i6) :: some (.int d) :: some (.ref e) :: y9 :: vs, S')
  | [], pre, g + 1, p, p', gr, out, S, x9, e', _, h, hT => by
    cases h
    refine ⟨S, x9, hT, ?_⟩
    rw [forLoop_lst_nil _ _ _ _ i6 g pre.length _ _ _ ((hT.rest i6 hie).trans hi) (by subst e'; simp)]
    rfl
  | x :: rest, pre, g + 1, p, p', gr, out, S, x9, e', hg, h, hT => by
    have hv : (L.map AV.int)[pre.length]? = some (.int x) := by subst e'; simp
    have ep : pre.length + 1 = (pre ++ [x]).length := by simp
    have eg : gr.map AV.int ++ [.int x] = (gr ++ [x]).map .int := by simp
    (first | rewrite [rdIn_q2] at h | rewrite [rdIn_q1] at h)
    cases hl : Nat.ble gr.length 100 with
    | false => rw [hl] at h; cases h
    | true =>
      rw [hl, if_pos rfl] at h
      have hgl : gr.length ≤ lim := Nat.le_trans (Nat.ble_eq.mp hl) (by decide)
      have hT1 := hT.add (gr ++ [x])
      cases hx : (x == d - 1) with
      | false =>
        rw [hx, if_neg (by decide)] at h
        obtain ⟨S', y9, hT', ih⟩ := inner9 n op d b e i6 hbe hie S₀ hb L hi v0 v1 v3 v4 vs rest (pre ++ [x]) g p p' (gr ++ [x]) out _ (some (.int x)) (by rw [e', List.append_assoc]; rfl) (by simpa using hg) h hT1
        refine ⟨S', y9, hT', ?_⟩
        rw [forLoop_lst_cons _ _ _ _ i6 g pre.length _ _ _ _ ((hT.rest i6 hie).trans hi) hv, ← ih]
        simp only [bodyI9, ↓cEq_q1, cEq_q1, ↓oI_q1, oI_q1, ↓oR_q1, oR_q1, ↓oOne_q1, oOne_q1, ↓oO_def, ↓oP_def, ↓oN_q1, oN_q1, ↓tK_v3, tK_v3, Option.join_some, ev_e, ev_t, ev_b, stepB_q1, stepB_q2, ↓stepS_q8, stepS_q8, ↓stepS_q13, stepS_q13, ↓stepE_q1, stepE_q1, ↓stepE_q2, stepE_q2, ↓stepE_q3, stepE_q3, ↓stepE_q8, stepE_q8, ↓stepE_q18, stepE_q18, stepT, evEs_q1, evEs_q2, ↓bindTg_q1, bindTg_q1, List.getElem?_cons_zero, List.getElem?_cons_succ, List.set_cons_zero, List.set_cons_succ, List.length_cons, Nat.blt_eq, Nat.ble_eq, if_true, if_false, ↓truthV_q1, truthV_q1, Nat.zero_lt_succ, Nat.lt_add_left_iff_pos, Bool.false_eq_true, Bool.true_and, ↓hasMeth_q2, hasMeth_q2, hT.now, Option.isSome, ↓method_q1, method_q1, belI, List.length_map, hgl, eg, ↓cmpop_q1, cmpop_q1, ↓binop_q2, binop_q2, hx, ep]
      | true =>
        rw [hx, if_pos rfl] at h
        cases hs : skip2 op d 50 (p + 1) (gr ++ [x]) with
        | none => rw [hs] at h; cases h
        | some pr =>
          obtain ⟨p1, g1⟩ := pr
          rw [hs] at h
          dsimp only at h
          obtain ⟨S1, hT2, hw⟩ := while2 (n + 3) op d b e hbe S₀ hb v0 v1 v3 v4 (some (.ref i6)) (some (.int x) :: vs) 50 gas (p + 1) p1 (gr ++ [x]) g1 _ (by decide) hs hT1
          obtain ⟨S', y9, hT', ih⟩ := inner9 n op d b e i6 hbe hie S₀ hb L hi v0 v1 v3 v4 vs rest (pre ++ [x]) g p1 p' g1 out S1 (some (.int x)) (by rw [e', List.append_assoc]; rfl) (by simpa using hg) h hT2
          refine ⟨S', y9, hT', ?_⟩
          simp only [Nat.add_assoc, Nat.reduceAdd, bodyW2] at hw
          rw [forLoop_lst_cons _ _ _ _ i6 g pre.length _ _ _ _ ((hT.rest i6 hie).trans hi) hv, ← ih]
          simp only [bodyI9, bodyW2, ↓cEq_q1, cEq_q1, ↓oI_q1, oI_q1, ↓oR_q1, oR_q1, ↓oOne_q1, oOne_q1, ↓oO_def, ↓oP_def, ↓oN_q1, oN_q1, ↓tK_v3, tK_v3, Option.join_some, ev_e, ev_t, ev_b, stepB_q1, stepB_q2, ↓stepS_q7, stepS_q7, ↓stepS_q8, stepS_q8, ↓stepS_q12, stepS_q12, ↓stepS_q13, stepS_q13, ↓stepE_q1, stepE_q1, ↓stepE_q2, stepE_q2, ↓stepE_q3, stepE_q3, ↓stepE_q8, stepE_q8, ↓stepE_q18, stepE_q18, stepT, evEs_q1, evEs_q2, ↓bindTg_q1, bindTg_q1, List.getElem?_cons_zero, List.getElem?_cons_succ, List.set_cons_zero, List.set_cons_succ, List.length_cons, Nat.blt_eq, Nat.ble_eq, if_true, ↓truthV_q1, truthV_q1, Nat.zero_lt_succ, Nat.lt_add_left_iff_pos, Bool.true_and, ↓hasMeth_q2, hasMeth_q2, hT.now, Option.isSome, ↓method_q1, method_q1, belI, List.length_map, hgl, eg, ↓cmpop_q1, cmpop_q1, ↓binop_q2, binop_q2, hx, augop, hw, ep]
end Mine
end
section
set_option linter.unusedSimpArgs false
namespace Mine
open PySem PySem.W PyProof.Rows

noncomputable def rdOut (op : List Int) : Nat → Int → List Int → Int → Option (List Int)
  | 0, _, L, _ => some L
  | c + 1, d, L, p => if Nat.ble L.length 100 then (match rdIn op d L p [] with
    | some (p', out) => rdOut op c (d + 1) out p'
    | none => none) else none
theorem rdOut_q1 (op : List Int) : rdOut op (0) (u1') (L) (u2') = (some L) := rfl
theorem rdOut_q2 (op : List Int) : rdOut op (c + 1) (d) (L) (p) = (if Nat.ble L.length 100 then (match rdIn op d L p [] with
      | some (p', out) => rdOut op c (d + 1) out p'
      | none => none) else none) := rfl
noncomputable def bodyD7 : List IS := [.assign 8 (.list []), .forS (.one 9) (.var 6) bodyI9 [], .assign 6 (.var 8)]
theorem outer7 (n : Nat) (op : List Int) (b N : Nat) (v0 v1 v3 v4 : Option AV) (vs : List (Option AV)) :
    ∀ (c : Nat) (d : Int) (L out : List Int) (p : Int) (S : Sto) (i6 : Nat) (x7 x8 x9 : Option AV), rdOut op c d L p = some out → listOf? S b = some (op.map .int) → listOf? S i6 = some (L.map .int) → N ≤ i6 →
    ∃ S' j p' y7 y8 y9, listOf? S' j = some (out.map .int) ∧ N ≤ j ∧ S'.take N = S.take N ∧
      forL (ev L02.ftab L02.ir_init (n + 17)) (.one 7) bodyD7 [] (rangeL d c) (v0 :: v1 :: some (.ref b) :: v3 :: v4 :: some (.int p) :: some (.ref i6) :: x7 :: x8 :: x9 :: vs) S
        = some (.next, v0 :: v1 :: some (.ref b) :: v3 :: v4 :: some (.int p') :: some (.ref j) :: y7 :: y8 :: y9 :: vs, S')
  | 0, d, L, out, p, S, i6, x7, x8, x9, h, hb, hi, hN => by
    cases h
    exact ⟨S, i6, p, x7, x8, x9, hi, hN, rfl, rfl⟩
  | c + 1, d, L, out, p, S, i6, x7, x8, x9, h, hb, hi, hN => by
    (first | rewrite [rdOut_q2] at h | rewrite [rdOut_q1] at h)
    cases hl : Nat.ble L.length 100 with
    | false => rw [hl] at h; cases h
    | true =>
      rw [hl, if_pos rfl] at h
      cases hr : rdIn op d L p [] with
      | none => rw [hr] at h; cases h
      | some pr =>
        obtain ⟨p1, o1⟩ := pr
        rw [hr] at h
        dsimp only at h
        have hib := listOf_lt hi
        have hbb := listOf_lt hb
        have hb1 := listOf_app hb [AO.list []]
        have hi1 := listOf_app hi [AO.list []]
        have T0 : Told (S ++ [AO.list []]) (S ++ [AO.list []]) S.length [] := ⟨lof0 S [] [], rfl, fun _ _ => rfl, fun _ _ => rfl⟩
        obtain ⟨S1, y9, hT, e1⟩ := inner9 (n + 1) op d b S.length i6 (by omega) (by omega) (S ++ [AO.list []]) hb1 L hi1 v0 v1 v3 v4 vs L [] gas p p1 [] o1 _ x9 rfl (Nat.lt_of_le_of_lt (Nat.ble_eq.mp hl) (by decide)) hr T0
        obtain ⟨S', j, p', z7, z8, z9, h1, h2, h3, h4⟩ := outer7 n op b N v0 v1 v3 v4 vs c (d + 1) o1 out p1 S1 S.length (some (.int d)) (some (.ref S.length)) y9 h ((hT.rest b (by omega)).trans hb1) hT.now (by omega)
        refine ⟨S', j, p', z7, z8, z9, h1, h2, ?_, ?_⟩
        · rw [h3, hT.tk N (by omega), List.take_append_of_le_length (by omega)]
        · have hr2 : rangeL d (c + 1) = .int d :: rangeL (d + 1) c := rfl
          have hI : (listOf? (S ++ [AO.list []]) i6).isSome = true := by rw [hi1]; rfl
          simp only [Nat.add_assoc, Nat.reduceAdd, List.length_nil, bodyI9, bodyW2] at e1
          rw [← h4]
          simp only [hr2, forL_q2, bodyD7, bodyI9, bodyW2, ↓oO_def, ↓oP_def, ↓itK_v1, itK_v1, ↓evItK_q3, evItK_q3, ↓itVal_q2, itVal_q2, Option.join_some, ev_e, ev_b, stepB_q1, stepB_q2, ↓stepS_q1, stepS_q1, ↓stepS_q9, stepS_q9, ↓stepE_q2, stepE_q2, ↓stepE_q10, stepE_q10, evEs_q1, ↓bindTg_q1, bindTg_q1, List.getElem?_cons_zero, List.getElem?_cons_succ, List.set_cons_zero, List.set_cons_succ, List.length_cons, Nat.blt_eq, if_true, Nat.zero_lt_succ, Nat.lt_add_left_iff_pos, endComp, belsN, evIt, hI, e1]

theorem rep0i : ∀ k : Nat, (List.replicate k [AV.int 0]).flatten = (List.replicate k (0 : Int)).map .int
  | 0 => rfl
  | k + 1 => by rw [List.replicate_succ, List.flatten_cons, rep0i k, List.replicate_succ, List.map_cons]; rfl
theorem read_call (n : Nat) (σ : Sto) (s : List Nat) (hs : Nat.ble s.length lim = true) (ws : List (List Nat)) (hws : splitS [44, 32] (s.length + 1) [] s = ws) (hwl : ws.length ≤ 100) (op : List Int) (hop : rdGo nmsR ws (-1) [] = some op) (p : Int) (hp : skip1 op 50 0 = some p) (hp0 : 0 ≤ p) (hp1 : p ≤ 100)
    (out : List Int) (hout : rdOut op 7 1 (List.replicate p.toNat 0) p = some out) :
    (ev L02.ftab L02.ir_init (n + 20)).f 10 [.str s] σ = some (.ref σ.length, σ ++ [.list (out.map .int)]) := by
  have hf : L02.ftab[10]? = some L02.ir_law_read := rfl
  rw [ev_f _ _ _ hf]
  have T0 : Told (σ ++ [.list (nmsR.map .str), .list [], .list (ws.map .str)]) (σ ++ [.list (nmsR.map .str), .list [], .list (ws.map .str)]) (σ.length + 1) [] := ⟨lof1 _ _ _ _, rfl, fun _ _ => rfl, fun _ _ => rfl⟩
  have hc : listOf? (σ ++ [.list (nmsR.map AV.str), .list [], .list (ws.map .str)]) (σ.length + 2) = some (ws.map .str) := by
    unfold listOf?; rw [List.getElem?_append_right (by omega), show σ.length + 2 - σ.length = 2 by omega]; rfl
  obtain ⟨S1, y3, y4, hT1, e1⟩ := word_loop (n + 3) nmsR ws (by decide) hwl _ σ.length (σ.length + 1) (σ.length + 2) (by omega) (by omega) (lof0 _ _ _) hc (some (.str s)) (List.replicate 6 none) ws [] gas _ (-1) [] op none rfl (Nat.lt_of_le_of_lt hwl (by decide)) (by simpa using hwl) hop T0
  have e2 := while1 (n + 8) op (σ.length + 1) S1 hT1.now (some (.str s)) (some (.ref σ.length)) y3 y4 (List.replicate 5 none) 50 gas 0 p (by decide) hp
  have hl1 : S1.length = σ.length + 3 := by rw [hT1.len]; simp
  have hb2 : listOf? (S1 ++ [.list [.int 0], .list ((List.replicate p.toNat (0 : Int)).map .int)]) (σ.length + 1) = some (op.map .int) := listOf_app hT1.now _
  have hi2 : listOf? (S1 ++ [.list [.int 0], .list ((List.replicate p.toNat (0 : Int)).map .int)]) (S1.length + 1) = some ((List.replicate p.toNat (0 : Int)).map .int) := lof1 _ _ _ _
  obtain ⟨S2, j, p', y7, y8, y9, h1, h2, h3, e3⟩ := outer7 (n + 1) op (σ.length + 1) σ.length (some (.str s)) (some (.ref σ.length)) y3 y4 [none] 7 1 _ out p _ (S1.length + 1) none none none hout hb2 hi2 (by omega)
  have htk : S2.take σ.length = σ := by
    rw [h3, List.take_append_of_le_length (by omega), hT1.tk _ (by omega)]; simp
  have hlf := forLoop_vals (ev L02.ftab L02.ir_init (n + 18)) (.one 7) bodyD7 [] (rangeL 1 7) (some (.str s) :: some (.ref σ.length) :: some (.ref (σ.length + 1)) :: y3 :: y4 :: some (.int p) :: some (.ref (S1.length + 1)) :: none :: none :: none :: [none]) (S1 ++ [.list [.int 0], .list ((List.replicate p.toNat (0 : Int)).map .int)]) (by rw [drangeL_len]; decide)
  have hn : ([.str [79, 80, 84, 73, 77, 73, 90, 69, 68], .str [78, 69, 87, 76, 79, 67, 65, 76, 83], .str [86, 65, 82, 65, 82, 71, 83], .str [86, 65, 82, 75, 69, 89, 87, 79, 82, 68, 83], .str [78, 69, 83, 84, 69, 68], .str [71, 69, 78, 69, 82, 65, 84, 79, 82], .str [78, 79, 70, 82, 69, 69], .str [67, 79, 82, 79, 85, 84, 73, 78, 69], .str [73, 84, 69, 82, 65, 66, 76, 69, 95, 67, 79, 82, 79, 85, 84, 73, 78, 69], .str [65, 83, 89, 78, 67, 95, 71, 69, 78, 69, 82, 65, 84, 79, 82], .str [48, 120, 52, 48, 48], .str [48, 120, 56, 48, 48], .str [48, 120, 49, 48, 48, 48], .str [48, 120, 50, 48, 48, 48]] : List AV) = nmsR.map .str := rfl
  have hbn : ∀ m, bels m (nmsR.map AV.str) = true := fun m => cbels_strs m _
  have ht : (([44, 32] : List Nat).isEmpty || !([44, 32] : List Nat).all fun x => Nat.blt x 256) = false := rfl
  have hm1 : small 1 = true := rfl
  have hm8 : small 8 = true := rfl
  have hI : (listOf? (σ ++ [AO.list (nmsR.map AV.str), .list [], .list (ws.map .str)]) (σ.length + 2)).isSome = true := by rw [hc]; rfl
  have hpc : (decide (-1000 ≤ p) && decide (p ≤ 1000) && Nat.ble 1 1000) = true := by
    rw [decide_eq_true (by omega), decide_eq_true (by omega)]; rfl
  have l3 : listOf? (S1 ++ [.list [AV.int 0]]) S1.length = some [.int 0] := lof0 _ _ _
  have hnb : Nat.blt j σ.length = false := by
    cases hx : Nat.blt j σ.length with
    | false => rfl
    | true => rw [Nat.blt_eq] at hx; omega
  have hbo : bels σ.length (out.map AV.int) = true := cbels_ints _ _
  have hL2 : (σ ++ [AO.list (nmsR.map AV.str)]).length = σ.length + 1 := by simp
  have hL3 : (σ ++ [AO.list (nmsR.map AV.str), .list []]).length = σ.length + 2 := by simp
  have hS1L : (S1 ++ [AO.list [AV.int 0]]).length = S1.length + 1 := by simp
  simp only [Nat.add_assoc, Nat.reduceAdd, List.length_nil, bodyRd, bodyD7, bodyI9, bodyW2, List.replicate_succ, List.replicate_zero] at e1 e2 e3 hlf
  simp only [Nat.ble_eq] at hs
  simp only [callFn, L02.ir_law_read, bindArgsL, List.replicate_succ, List.replicate_zero, ↓bMul_q3, bMul_q3, ↓oI_q1, oI_q1, ↓oS_q1, oS_q1, ↓oOne_q1, oOne_q1, ↓oO_def, ↓oP_def, ↓itK_q2, itK_q2, ↓itK_v7, itK_v7, ↓evItK_q2, evItK_q2, ↓evItK_q3, evItK_q3, ↓itVal_q2, itVal_q2, ↓flowV_q2, flowV_q2, Option.join_some, ev_e, ev_b, stepB_q2, ↓stepS_q1, stepS_q1, ↓stepS_q9, stepS_q9, ↓stepS_q12, stepS_q12, ↓stepS_q14, stepS_q14, ↓stepE_q1, stepE_q1, ↓stepE_q2, stepE_q2, ↓stepE_q3, stepE_q3, ↓stepE_q4, stepE_q4, ↓stepE_q10, stepE_q10, ↓stepE_q18, stepE_q18, evEs_q1, evEs_q2, setSlots_q1, setSlots_q2, List.getElem?_cons_zero, List.getElem?_cons_succ, List.set_cons_zero, List.set_cons_succ, List.length_cons, List.length_nil, Nat.blt_eq, Nat.ble_eq, Nat.reduceAdd, Nat.reduceLT, Nat.zero_add, if_true, if_false, Nat.zero_lt_succ, List.nil_append, List.cons_append, Bool.false_eq_true, Bool.and_self, endComp, hn, hbn, belsN, belsC, belI, hL2, evIt, ↓hasMeth_q1, hasMeth_q1, ↓method_q6, method_q6, ht, hs, hws, List.append_assoc, hL3, hI, Int.reduceNeg, e1, e2, ↓binop_q3, binop_q3, l3, hpc, rep0i, hS1L, hm1, hm8, Int.reduceSub, Int.reduceLE, decide_true, Int.reduceToNat, hlf, e3, ↓close_q1, close_q1, hnb, h1, hbo, htk]
end Mine
end
section
set_option linter.unusedSimpArgs false
namespace Mine
open PySem PySem.W PyProof.Rows

noncomputable def flagsOf (row : List Nat) : Int := sumI (picked row 40 fun k => (2 : Int) ^ k)
noncomputable def sG : List IS := L02.ir_law.body.drop 24
theorem law_g (n : Nat) (S : Sto) (row : List Nat) (hr : row.length = 14) (D : Nat → Nat) (h11 : listOf? S 11 = some (depL D)) (outp : List (List Nat)) (hpr : prGo 32 0 (flagsOf row) [] = some outp) (hfit : Nat.ble (sumLen outp + 2 * outp.length) lim = true)
    (hs : Nat.ble (joinS [44, 32] outp).length lim = true) (ws : List (List Nat)) (hws : splitS [44, 32] ((joinS [44, 32] outp).length + 1) [] (joinS [44, 32] outp) = ws) (hwl : ws.length ≤ 100) (op : List Int) (hop : rdGo nmsR ws (-1) [] = some op) (p : Int) (hp : skip1 op 50 0 = some p) (hp0 : 0 ≤ p) (hp1 : p ≤ 100)
    (hout : rdOut op 7 1 (List.replicate p.toNat 0) p = some (dI D))
    (v0 v1 v2 v3 v4 v5 v7 v8 v9 v10 v11 v12 v13 v14 v15 : Option AV) (vs : List (Option AV)) :
    ∃ S', stepB (ev L02.ftab L02.ir_init (n + 25)) sG (v0 :: v1 :: v2 :: v3 :: v4 :: v5 :: some (.ref 11) :: v7 :: v8 :: v9 :: v10 :: v11 :: v12 :: v13 :: v14 :: v15 :: some (.str row) :: vs) S
      = some (.ret (.bool true), v0 :: v1 :: v2 :: v3 :: v4 :: v5 :: some (.ref 11) :: v7 :: v8 :: v9 :: v10 :: v11 :: v12 :: v13 :: v14 :: v15 :: some (.str row) :: vs, S') := by
  obtain ⟨_, e1⟩ := comp_pick (n + 10) S row hr 40 (fun k => (2 : Int) ^ k) eltPow (fun k hk => pow_elt (n + 10) S row k hk)
  have hpc := fun σ => pretty_call (n + 5) σ (flagsOf row) outp hpr hfit
  have hrc := fun σ => read_call (n + 3) σ _ hs ws hws hwl op hop p hp hp0 hp1 (dI D) hout
  have hm : small 14 = true := rfl
  have l0 : ∀ (σ : Sto) (L : List AV), listOf? (σ ++ [.list L]) σ.length = some L := fun σ L => lof0 σ L []
  have h11a : ∀ τ, listOf? (S ++ τ) 11 = some (depL D) := fun τ => listOf_app h11 τ
  have l1 : ∀ (a : AO) (L : List AV), listOf? (S ++ [a, .list L]) (S ++ [a]).length = some L := fun a L => by have := lof0 (S ++ [a]) L []; rwa [List.append_assoc] at this
  have heq : eqL ((dI D).map .int) (depL D) = some true := by rw [depL_int]; exact eqL_self _
  have hsum : sumI (picked row 40 fun k => (2 : Int) ^ k) = flagsOf row := rfl
  refine ⟨S ++ [.list ((picked row 40 fun k => (2 : Int) ^ k).map .int), .list ((dI D).map .int)], ?_⟩
  simp only [eltPow, Nat.add_assoc, Nat.reduceAdd] at e1 hpc hrc
  have hsG : sG = [.ret (.cmp .eq (.call 10 [(.call 4 [(.bi .sum [(.comp [none, none, some 16] (.bin .pow (.lit (.int 2)) (.var 1)) (.one 1) (.rng1 (.lit (.int 14))) [(.cmp .eq (.idx (.var 2) (.var 1)) (.lit (.str [40])))])])])]) (.var 6))] := rfl
  simp only [hsG, ↓cEq_q3, cEq_q3, ↓oI_q1, oI_q1, ↓oR_q1, oR_q1, ↓oOne_q1, oOne_q1, ↓oO_def, ↓oP_def, ↓itK_q1, itK_q1, ↓evItK_q1, evItK_q1, Option.join_some, ev_e, stepB_q2, ↓stepS_q14, stepS_q14, ↓stepE_q1, stepE_q1, ↓stepE_q2, stepE_q2, ↓stepE_q8, stepE_q8, ↓stepE_q13, stepE_q13, ↓stepE_q15, stepE_q15, ↓stepE_q17, stepE_q17, evEs_q1, evEs_q2, List.getElem?_cons_zero, List.getElem?_cons_succ, if_true, List.nil_append, List.cons_append, Bool.and_self, evIt, hm, Int.reduceLE, decide_true, Int.reduceToNat, impLoc, List.map_cons, List.map_nil, e1, endComp, cbels_ints, ↓bifn_q2, bifn_q2, l0, asInts_map, hsum, hpc, hrc, List.append_assoc, ↓cmpop_q1, cmpop_q1, l1, h11a, heq]
end Mine
end
section
set_option linter.unusedSimpArgs false
namespace Mine
open PySem PySem.W PyProof.Rows

theorem lessGo_raw (a b : WS) (r s : List Nat) : ∀ (k : Nat) (i : Int), lessGo { a with raw := r } { b with raw := s } k i = lessGo a b k i
  | 0, _ => rfl
  | k + 1, i => by
    have h1 : indO { a with raw := r } i = indO a i := rfl
    have h2 : indO { b with raw := s } i = indO b i := rfl
    simp only [lessGo_q2, h1, h2, lessGo_raw a b r s k (i + 1)]
theorem lessO_raw (a b : WS) (r s : List Nat) : lessO { a with raw := r } { b with raw := s } = lessO a b := by
  unfold lessO
  dsimp only
  rw [lessGo_raw]
  rfl
theorem eqO_raw (a b : WS) (r s : List Nat) : eqO { a with raw := r } { b with raw := s } = eqO a b := rfl
theorem ofIG_raw (r : List Nat) (o : Option (List Int × Nat × Nat × Nat)) : ofIG r o = { ofIG [] o with raw := r } := by
  cases o with
  | none => rfl
  | some x => obtain ⟨c, b, n, nt⟩ := x; rfl
theorem cW_raw (κ d : Nat) (r : List Nat) : cW κ d r = { cW κ d [] with raw := r } := ofIG_raw _ _
theorem aW_raw (κ d : Nat) (r : List Nat) : aW κ d r = { aW κ d [] with raw := r } := ofIG_raw _ _
theorem wW_raw (κ d : Nat) (r : List Nat) : wW κ d r = { wW κ d [] with raw := r } := ofIG_raw _ _

theorem facts2 (κ : Nat) (hκ : κ ≤ 3) (D : Nat → Nat) (hD : ∀ k, k < 7 → D k ≤ 6) (r1 r2 r3 r4 : Nat → List Nat) :
    Facts2 κ D (fun k => cW κ (D k) (r1 k)) (fun k => cW κ (D k + 1) (r2 k)) (fun k => aW κ (D k) (r3 k)) (fun k => wW κ (D k) (r4 k)) where
  less := fun j k hj hk => by
    rw [cW_raw, cW_raw κ (D k), lessO_raw]
    exact less_line ⟨κ, by omega⟩ ⟨D j, by have := hD j hj; omega⟩ ⟨D k, by have := hD k hk; omega⟩
  eq := fun j k hj hk => by
    rw [cW_raw, cW_raw κ (D k), eqO_raw]
    exact eq_line ⟨κ, by omega⟩ ⟨D j, by have := hD j hj; omega⟩ ⟨D k, by have := hD k hk; omega⟩
  deep := fun j k hj hk => by
    rw [cW_raw, cW_raw κ (D k + 1), eqO_raw]
    exact eq_line ⟨κ, by omega⟩ ⟨D j, by have := hD j hj; omega⟩ ⟨D k + 1, by have := hD k hk; omega⟩
  aside := fun j k hj hk => by
    rw [cW_raw, aW_raw, eqO_raw]
    exact eq_aside ⟨κ, by omega⟩ ⟨D j, by have := hD j hj; omega⟩ ⟨D k, by have := hD k hk; omega⟩
  wide := fun j hj => by
    rw [cW_raw, wW_raw, lessO_raw]
    exact less_wide ⟨κ, by omega⟩ ⟨D j, by have := hD j hj; omega⟩

/-! all depth sequences -/
noncomputable def genD : Nat → Nat → List (List Nat)
  | 0, _ => [[]]
  | c + 1, d => (nf (d + 2) 0).flatMap fun e => (genD c e).map (e :: ·)
theorem mem_nf : ∀ {c k x : Nat}, k ≤ x → x < k + c → x ∈ nf c k
  | 0, _, _, _, _ => by omega
  | c + 1, k, x, h1, h2 => by
    rw [nf_q2, List.mem_cons]
    rcases Nat.lt_or_ge k x with h | h
    · exact .inr (mem_nf (by omega) (by omega))
    · exact .inl (by omega)
theorem mem_gen : ∀ {r : List Nat} {d : Nat}, chainD d r → r ∈ genD r.length d
  | [], _, _ => List.mem_singleton.mpr rfl
  | e :: r, d, ⟨h1, h2⟩ => List.mem_flatMap.mpr ⟨e, mem_nf (Nat.zero_le _) (by omega), List.mem_map.mpr ⟨r, mem_gen h2, rfl⟩⟩

noncomputable def dOf (r : List Nat) (k : Nat) : Nat := (0 :: r).getD k 0
/-- the list evaluated first -/
noncomputable def force {α : Type} : List α → (List α → Bool) → Bool
  | [], k => k []
  | x :: l, k => force l fun l' => k (x :: l')
theorem force_eq {α : Type} : ∀ (l : List α) (k : List α → Bool), force l k = k l
  | [], _ => rfl
  | x :: l, k => force_eq l _
noncomputable def chk1 (dress row : List Nat) (b : Bool) : Bool := force (joinS dress (sg row)) fun s => parF s == some b
noncomputable def chk3 (row : List Nat) (δ : Nat) : Bool := chk1 (dressK δ) row true && chk1 (dressK δ) (row.drop 1 ++ row.take 1) false && chk1 (dressK δ) (row.take 13) false
noncomputable def chkRead (dI : List Int) (s : List Nat) : Bool := Nat.ble s.length lim && force (splitS [44, 32] (s.length + 1) [] s) fun ws => Nat.ble ws.length 100 && match rdGo nmsR ws (-1) [] with
  | some op => force op fun op => (match skip1 op 50 0 with
    | some p => decide (0 ≤ p) && decide (p ≤ 100) && (rdOut op 7 1 (List.replicate p.toNat 0) p == some dI)
    | none => false)
  | none => false
noncomputable def chkFl (dI : List Int) (f : Int) : Bool := match prGo 32 0 f [] with
  | some outp => Nat.ble (sumLen outp + 2 * outp.length) lim && force (joinS [44, 32] outp) fun s => chkRead dI s
  | none => false
noncomputable def chkCnt (D : Nat → Nat) (row : List Nat) (M : Nat) : Bool := (mxD D == (M : Int)) && Nat.ble M 50 && force (cnts D M) fun cs => cs.all okC && !headZero (cs ++ [127, 3]) && force (closes row) fun cl => allOk row cl [] cs
noncomputable def chkRow (D : Nat → Nat) (row : List Nat) : Bool := (row.length == 14) && chk3 row 0 && chk3 row 1 && chk3 row 2 && chk3 row 3 && (sumI (picked row 40 (balF row)) == (pcAll D 7 0 0 : Int)) && chkCnt D row (mxD D).toNat && chkFl (dI D) (flagsOf row)
noncomputable def goodR (r : List Nat) : Bool := r.all (Nat.ble · 6) && force (rowS (dOf r)) fun row => chkRow (dOf r) row
theorem good1 : goodR [1, 2, 1, 0, 1, 2] = true := by kernel_rfl!
end Mine
end
section
set_option linter.unusedSimpArgs false
namespace Mine
open PySem PySem.W PyProof.Rows

theorem stepB_app2 (r : Rec) : ∀ (a b : List IS) (ℓ : Loc) (σ : Sto), stepB r (a ++ b) ℓ σ = seqB r (stepB r a ℓ σ) b
  | [], _, _, _ => rfl
  | s :: a, b, ℓ, σ => by
    have ih := stepB_app2 r a b
    show (oP (stepS r s ℓ σ) _) = oP (oP (stepS r s ℓ σ) _) _
    cases stepS r s ℓ σ with
    | none => rfl
    | some x =>
      obtain ⟨fl, x⟩ := x
      cases fl with
      | next => exact ih x.1 x.2
      | brk => rfl
      | ret v => rfl
theorem andG {a b : Bool} (h : (a && b) = true) : a = true ∧ b = true := Bool.and_eq_true_iff.mp h
theorem list7 {α : Type} (x d : α) : ∀ r : List α, r.length = 6 → x :: r = (nf 7 0).map fun k => (x :: r).getD k d
  | [_, _, _, _, _, _], _ => rfl
theorem flat_len : ∀ l : List (List Nat), l.flatten.length = sumLen l
  | [] => rfl
  | x :: l => by rw [List.flatten_cons, List.length_append, flat_len l]; rfl
theorem leadL_len (s0 s1 : List Nat) (p d : Nat) (h0 : s0.length ≤ 10) (h1 : s1.length ≤ 10) : (leadL s0 s1 p d).length ≤ 10 * d := by
  unfold leadL
  rw [joinS_nil, flat_len]
  exact leadGo_sum s0 s1 p h0 h1 d 0
theorem steps_len (κ : Nat) : (stepsK κ).1.length ≤ 10 ∧ (stepsK κ).2.length ≤ 10 := by
  match κ with
  | 0 => exact ⟨by decide, by decide⟩
  | 1 => exact ⟨by decide, by decide⟩
  | 2 => exact ⟨by decide, by decide⟩
  | _ + 3 => exact ⟨show ([9] : List Nat).length ≤ 10 by decide, show ([9] : List Nat).length ≤ 10 by decide⟩
theorem dress_len (δ : Nat) : (dressK δ).length ≤ 10 := by
  match δ with
  | 0 => decide
  | 1 => decide
  | 2 => decide
  | _ + 3 => exact show ([92, 92] : List Nat).length ≤ 10 by decide

/-- what the finite check tells -/
structure Good (r row dress : List Nat) : Prop where
  le6 : ∀ k, k < 7 → dOf r k ≤ 6
  len : row.length = 14
  p1 : parF (joinS dress (sg row)) = some true
  p2 : parF (joinS dress (sg (row.drop 1 ++ row.take 1))) = some false
  p3 : parF (joinS dress (sg (row.take 13))) = some false
  sum : sumI (picked row 40 (balF row)) = ((pcAll (dOf r) 7 0 0 : Nat) : Int)
  mx : mxD (dOf r) = ((mxD (dOf r)).toNat : Int)
  mxle : (mxD (dOf r)).toNat ≤ 50
  okc : (cnts (dOf r) (mxD (dOf r)).toNat).all okC = true
  hz : headZero (cnts (dOf r) (mxD (dOf r)).toNat ++ [127, 3]) = false
  all : allOk row (closes row) [] (cnts (dOf r) (mxD (dOf r)).toNat) = true
  rd : ∃ outp op p, prGo 32 0 (flagsOf row) [] = some outp ∧ Nat.ble (sumLen outp + 2 * outp.length) lim = true ∧ Nat.ble (joinS [44, 32] outp).length lim = true ∧ (splitS [44, 32] ((joinS [44, 32] outp).length + 1) [] (joinS [44, 32] outp)).length ≤ 100 ∧
    rdGo nmsR (splitS [44, 32] ((joinS [44, 32] outp).length + 1) [] (joinS [44, 32] outp)) (-1) [] = some op ∧ skip1 op 50 0 = some p ∧ 0 ≤ p ∧ p ≤ 100 ∧ rdOut op 7 1 (List.replicate p.toNat 0) p = some (dI (dOf r))

theorem chk1_ok {dress row : List Nat} {b : Bool} (h : chk1 dress row b = true) : parF (joinS dress (sg row)) = some b := by
  unfold chk1 at h
  rw [force_eq] at h
  exact eq_of_beq h
theorem chk3_ok {row : List Nat} {δ : Nat} (h : chk3 row δ = true) : parF (joinS (dressK δ) (sg row)) = some true ∧ parF (joinS (dressK δ) (sg (row.drop 1 ++ row.take 1))) = some false ∧ parF (joinS (dressK δ) (sg (row.take 13))) = some false := by
  unfold chk3 at h
  obtain ⟨h, h3⟩ := andG h
  obtain ⟨h1, h2⟩ := andG h
  exact ⟨chk1_ok h1, chk1_ok h2, chk1_ok h3⟩
theorem good_row {r : List Nat} (hl : r.length = 6) (h : goodR r = true) (δ : Nat) (hδ : δ ≤ 3) : Good r (rowS (dOf r)) (dressK δ) := by
  unfold goodR at h
  obtain ⟨ha, h⟩ := andG h
  rw [force_eq] at h
  unfold chkRow at h
  obtain ⟨h, h8⟩ := andG h
  obtain ⟨h, h7⟩ := andG h
  obtain ⟨h, h6⟩ := andG h
  obtain ⟨h, h5⟩ := andG h
  obtain ⟨h, h4⟩ := andG h
  obtain ⟨h, h3⟩ := andG h
  obtain ⟨h1, h2⟩ := andG h
  have hc : chk3 (rowS (dOf r)) δ = true := by
    have : δ = 0 ∨ δ = 1 ∨ δ = 2 ∨ δ = 3 := by omega
    rcases this with rfl | rfl | rfl | rfl
    · exact h2
    · exact h3
    · exact h4
    · exact h5
  obtain ⟨q1, q2, q3⟩ := chk3_ok hc
  unfold chkCnt at h7
  obtain ⟨h7, m3⟩ := andG h7
  obtain ⟨m1, m2⟩ := andG h7
  rw [force_eq] at m3
  obtain ⟨m3, m5⟩ := andG m3
  obtain ⟨m3, m4⟩ := andG m3
  rw [force_eq] at m5
  refine ⟨fun k hk => ?_, eq_of_beq h1, q1, q2, q3, eq_of_beq h6, eq_of_beq m1, Nat.ble_eq.mp m2, m3, by simpa using m4, m5, ?_⟩
  · have hle := List.all_eq_true.mp ha
    unfold dOf
    cases k with
    | zero => exact Nat.zero_le _
    | succ k =>
      have hk' : k < r.length := by omega
      rw [List.getD_cons_succ, List.getD_eq_getElem?_getD, List.getElem?_eq_getElem hk']
      exact Nat.ble_eq.mp (hle _ (List.getElem_mem hk'))
  · unfold chkFl at h8
    cases e1 : prGo 32 0 (flagsOf (rowS (dOf r))) [] with
    | none => rw [e1] at h8; cases h8
    | some outp =>
      rw [e1] at h8
      dsimp only at h8
      obtain ⟨f1, h8⟩ := andG h8
      rw [force_eq] at h8
      unfold chkRead at h8
      obtain ⟨f2, h8⟩ := andG h8
      rw [force_eq] at h8
      obtain ⟨f3, h8⟩ := andG h8
      cases e2 : rdGo nmsR (splitS [44, 32] ((joinS [44, 32] outp).length + 1) [] (joinS [44, 32] outp)) (-1) [] with
      | none => rw [e2] at h8; cases h8
      | some op =>
        rw [e2] at h8
        dsimp only at h8
        rw [force_eq] at h8
        cases e3 : skip1 op 50 0 with
        | none => rw [e3] at h8; cases h8
        | some p =>
          rw [e3] at h8
          dsimp only at h8
          obtain ⟨h8, f6⟩ := andG h8
          obtain ⟨f4, f5⟩ := andG h8
          exact ⟨outp, op, p, rfl, f1, f2, Nat.ble_eq.mp f3, e2, e3, of_decide_eq_true f4, of_decide_eq_true f5, eq_of_beq f6⟩
end Mine
end
section
set_option linter.unusedSimpArgs false
namespace Mine
open PySem PySem.W PyProof.Rows

theorem step_seq {r : Rec} {a b : List IS} {ℓ ℓ' : Loc} {σ σ' : Sto} {res : Option (Fl × Loc × Sto)} (h1 : stepB r a ℓ σ = some (.next, ℓ', σ')) (h2 : stepB r b ℓ' σ' = res) : stepB r (a ++ b) ℓ σ = res := by
  rw [stepB_app2, h1]; exact h2
theorem cells2 (σ : Sto) (hσ : σ.length = 15) (D : Nat → Nat) (h : listOf? σ 11 = some (depL D)) (ld : Nat → List Nat) (ln dp as wd : Nat → WS) : Cells2 (σ ++ tauC ld ln dp as wd) D ln dp as wd := by
  have at' : ∀ (k : Nat) (L : List AV), (tauC ld ln dp as wd)[k]? = some (.list L) → listOf? (σ ++ tauC ld ln dp as wd) (15 + k) = some L := fun k L hk => by
    unfold listOf?
    rw [List.getElem?_append_right (by omega), hσ, show 15 + k - 15 = k by omega, hk]
  exact ⟨listOf_app h _, at' 1 _ rfl, at' 2 _ rfl, at' 10 _ rfl, at' 11 _ rfl⟩

theorem run02_of (hgood : ∀ {r : List Nat}, chainD 0 r → r.length = 6 → goodR r = true) (l : List Int) (hl : l.length ≤ 63) : ∃ σ', (ev L02.ftab L02.ir_init 40).f 11 [.frz l] [] = some (.bool true, σ') := by
  have e0 := law_a0 18 l hl
  generalize hσ5 : ([.list ((front l).map .int), .list (base6.map .int), .list ((base6.drop (front l).length).map .int), .list ((picks l).map .int), .list ((mods2 (front l)).map .int)] : Sto) = σ5 at e0
  have l5 : σ5.length = 5 := by rw [← hσ5]; rfl
  have hpk : listOf? σ5 3 = some ((picks l).map .int) := by rw [← hσ5]; rfl
  obtain ⟨κ, δ, hκ, hδ, ht, hS, e1⟩ := law_a1 18 σ5 l5 (some (.frz l)) (some (.ref 0)) (some (.ref 3)) (tot2 l)
  have l11 : (σ5 ++ tauA).length = 11 := by rw [List.length_append, l5]; rfl
  obtain ⟨r, hr, hrl, e2⟩ := law_a2 18 (σ5 ++ tauA) l11 (picks l) (listOf_app hpk _) (picks_len l) (some (.frz l)) (some (.ref 0)) (some (.int (tot2 l))) (some (.ref (5 + κ))) (some (.str (dressK δ)))
  have htl : (turn6 (picks l)).length = 6 := by unfold turn6; rw [List.length_map]; exact picks_len l
  have hg := good_row hrl (hgood hr hrl) δ hδ
  have l15 : (σ5 ++ tauA ++ tauB r (picks l)).length = 15 := by rw [List.length_append, l11]; rfl
  have hS15 : listOf? (σ5 ++ tauA ++ tauB r (picks l)) (5 + κ) = some [.str (stepsK κ).1, .str (stepsK κ).2] := listOf_app hS _
  have hD : listOf? (σ5 ++ tauA ++ tauB r (picks l)) 11 = some (depL (dOf r)) := by
    have h1 : listOf? (σ5 ++ tauA ++ tauB r (picks l)) 11 = some ((0 :: r).map natV) := by
      have := lof0 (σ5 ++ tauA) ((0 :: r).map natV) [.list [.int 0], .list ((turn6 (picks l)).map .int), .list ((0 :: turn6 (picks l)).map .int)]
      rw [l11] at this; exact this
    rw [h1, list7 0 0 r hrl, List.map_map]; rfl
  have hT : listOf? (σ5 ++ tauA ++ tauB r (picks l)) 14 = some ((nf 7 0).map fun k => .int ((0 :: turn6 (picks l)).getD k 0)) := by
    have h1 : listOf? (σ5 ++ tauA ++ tauB r (picks l)) 14 = some ((0 :: turn6 (picks l)).map .int) := by
      unfold listOf?; rw [List.getElem?_append_right (by omega), l11]; rfl
    rw [h1, list7 0 0 (turn6 (picks l)) htl, List.map_map]; rfl
  obtain ⟨T, hT2⟩ : ∃ T : Nat → Int, listOf? (σ5 ++ tauA ++ tauB r (picks l)) 14 = some ((nf 7 0).map fun k => .int (T k)) := ⟨fun k => (0 :: turn6 (picks l)).getD k 0, hT⟩
  clear hT
  generalize hσ15 : σ5 ++ tauA ++ tauB r (picks l) = σ15 at e2 l15 hS15 hD hT2
  obtain ⟨hs0, hs1⟩ := steps_len κ
  generalize hld : (fun k : Nat => leadL (stepsK κ).1 (stepsK κ).2 (par (T k)) (dOf r k)) = ld
  have hldk : ∀ k, ld k = leadL (stepsK κ).1 (stepsK κ).2 (par (T k)) (dOf r k) := fun k => by rw [← hld]
  have hlen : ∀ k, k < 7 → (ld k).length ≤ 200 := fun k hk => by
    rw [hldk]
    have := leadL_len (stepsK κ).1 (stepsK κ).2 (par (T k)) (dOf r k) hs0 hs1
    have := hg.le6 k hk
    omega
  have e3 := law_b 13 σ15 l15 (5 + κ) (stepsK κ).1 (stepsK κ).2 hs0 hs1 hS15 (dOf r) T hD hT2 (fun k hk => Nat.le_trans (hg.le6 k hk) (by decide)) (tot2 l) κ hκ ht ld hld.symm hlen
    (fun k => cW κ (dOf r k) (ld k ++ tailX)) (fun k => cW κ (dOf r k + 1) ((stepsK κ).2 ++ ld k ++ tailX)) (fun k => aW κ (dOf r k) (ld k ++ asK κ ++ tailX)) (fun k => wW κ (dOf r k) (List.replicate ((ld k).length + 1) 32 ++ tailX))
    (fun k hk => by rw [hldk]; exact ws_line ⟨κ, by omega⟩ ⟨par (T k), (par_ok _).2⟩ ⟨dOf r k, by have := hg.le6 k hk; omega⟩)
    (fun k hk => by rw [hldk]; exact ws_deep ⟨κ, by omega⟩ ⟨par (T k), (par_ok _).2⟩ ⟨dOf r k, by have := hg.le6 k hk; omega⟩)
    (fun k hk => by rw [hldk]; exact ws_aside ⟨κ, by omega⟩ ⟨par (T k), (par_ok _).2⟩ ⟨dOf r k, by have := hg.le6 k hk; omega⟩)
    (fun k hk => by rw [hldk]; exact ws_wide ⟨κ, by omega⟩ ⟨par (T k), (par_ok _).2⟩ ⟨dOf r k, by have := hg.le6 k hk; omega⟩)
    (some (.frz l)) (some (.ref 0)) (some (.ref 3)) (some (.str (dressK δ)))
  have H := facts2 κ hκ (dOf r) hg.le6 (fun k => ld k ++ tailX) (fun k => (stepsK κ).2 ++ ld k ++ tailX) (fun k => ld k ++ asK κ ++ tailX) (fun k => List.replicate ((ld k).length + 1) 32 ++ tailX)
  generalize hln : (fun k : Nat => cW κ (dOf r k) (ld k ++ tailX)) = ln at e3 H
  generalize (fun k : Nat => cW κ (dOf r k + 1) ((stepsK κ).2 ++ ld k ++ tailX)) = dp at e3 H
  generalize (fun k : Nat => aW κ (dOf r k) (ld k ++ asK κ ++ tailX)) = as at e3 H
  generalize (fun k : Nat => wW κ (dOf r k) (List.replicate ((ld k).length + 1) 32 ++ tailX)) = wd at e3 H
  have C := cells2 σ15 l15 (dOf r) hD ld ln dp as wd
  have l27 : (σ15 ++ tauC ld ln dp as wd).length = 27 := by rw [List.length_append, l15]; rfl
  have hS27 := listOf_app hS15 (tauC ld ln dp as wd)
  generalize σ15 ++ tauC ld ln dp as wd = σ27 at e3 C l27 hS27
  obtain ⟨y8, y15, e4⟩ := law_c 13 σ27 κ (tot2 l) ht (dOf r) ln dp as wd C H (5 + κ) (stepsK κ).1 [.str (stepsK κ).2] hS27 rfl (Nat.le_trans hs0 (by decide)) (fun k => cW κ k (List.replicate k (stepsK κ).1).flatten)
    (fun k hk => ws_level ⟨κ, by omega⟩ ⟨k, hk⟩) (fun j hj k hk => by
      rw [← hln]
      dsimp only
      rw [cW_raw, cW_raw κ k, eqO_raw]
      exact eq_line ⟨κ, by omega⟩ ⟨dOf r j, by have := hg.le6 j hj; omega⟩ ⟨k, by omega⟩)
    (some (.frz l)) (some (.ref 0)) (some (.ref 3)) (some (.str (dressK δ))) (some (.ref 14)) (some (.ref 15))
  generalize hrow : rowS (dOf r) = row at e4 hg
  have h100 : row.length ≤ 100 := by rw [hg.len]; decide
  have e5 := law_d 13 σ27 row (dressK δ) h100 (dress_len δ) hg.p1 hg.p2 hg.p3 (some (.frz l)) (some (.ref 0)) (some (.ref 3)) (some (.int (tot2 l))) (some (.ref (5 + κ))) (some (.ref 11)) (some (.ref 14)) y8 (some (.ref 15)) (some (.ref 16)) (some (.ref 17)) (some (.ref 25)) (some (.ref 26)) (some (.int ((pcAll (dOf r) 7 0 0 : Nat) : Int))) y15 (List.replicate 16 none)
  have h11a : listOf? (σ27 ++ [AO.list ((sg row).map .str), AO.list ((sg (row.drop 1 ++ row.take 1)).map .str), AO.list ((sg (row.take 13)).map .str)]) 11 = some (depL (dOf r)) := listOf_app C.c11 _
  have l30 : (σ27 ++ [AO.list ((sg row).map .str), AO.list ((sg (row.drop 1 ++ row.take 1)).map .str), AO.list ((sg (row.take 13)).map .str)]).length = 30 := by rw [List.length_append, l27]; rfl
  generalize σ27 ++ [AO.list ((sg row).map .str), AO.list ((sg (row.drop 1 ++ row.take 1)).map .str), AO.list ((sg (row.take 13)).map .str)] = σ30 at e5 h11a l30
  have e6 := law_e 13 σ30 row hg.len (dOf r) h11a _ hg.sum (mxD (dOf r)).toNat hg.mx (Nat.le_trans hg.mxle (by decide)) (some (.frz l)) (some (.ref 0)) (some (.ref 3)) (some (.int (tot2 l))) (some (.ref (5 + κ))) (some (.str (dressK δ))) (some (.ref 14)) y8 (some (.ref 15)) (some (.ref 16)) (some (.ref 17)) (some (.ref 25)) (some (.ref 26)) y15
  have at30 : ∀ (k : Nat) (L : List AV), ([AO.list ((picked row 40 (balF row)).map .int), AO.list ((closes row).map .int), AO.list ((cnts (dOf r) (mxD (dOf r)).toNat).map .int), AO.list []] : Sto)[k]? = some (.list L) → listOf? (σ30 ++ [AO.list ((picked row 40 (balF row)).map .int), AO.list ((closes row).map .int), AO.list ((cnts (dOf r) (mxD (dOf r)).toNat).map .int), AO.list []]) (σ30.length + k) = some L := fun k L hk => by
    unfold listOf?
    rw [List.getElem?_append_right (by omega), show σ30.length + k - σ30.length = k by omega, hk]
  have hcl := at30 1 _ rfl
  have hcs := at30 2 _ rfl
  have hto := at30 3 _ rfl
  have h11b := listOf_app h11a [AO.list ((picked row 40 (balF row)).map .int), AO.list ((closes row).map .int), AO.list ((cnts (dOf r) (mxD (dOf r)).toNat).map .int), AO.list []]
  generalize σ30 ++ [AO.list ((picked row 40 (balF row)).map .int), AO.list ((closes row).map .int), AO.list ((cnts (dOf r) (mxD (dOf r)).toNat).map .int), AO.list []] = σ34 at e6 hcl hcs hto h11b
  have hcn : (cnts (dOf r) (mxD (dOf r)).toNat).length ≤ 100 := by
    unfold cnts; rw [List.length_map, nf_len]; have := hg.mxle; omega
  obtain ⟨S', y20, y21, hTold, e7⟩ := law_f 13 σ34 row h100 (closes row) _ hg.okc hg.hz hcn (σ30.length + 2) (σ30.length + 3) (σ30.length + 1) (by omega) (by omega) hcs hto hcl hg.all (some (.frz l)) (some (.ref 0)) (some (.ref 3)) (some (.int (tot2 l))) (some (.ref (5 + κ))) (some (.str (dressK δ))) (some (.ref 11)) (some (.ref 14)) y8 (some (.ref 15)) (some (.ref 16)) (some (.ref 17)) (some (.ref 25)) (some (.ref 26)) (some (.int ((pcAll (dOf r) 7 0 0 : Nat) : Int))) y15
  have h11c : listOf? S' 11 = some (depL (dOf r)) := (hTold.rest 11 (by omega)).trans (listOf_app h11b _)
  obtain ⟨outp, op, p, q1, q2, q3, q4, q5, q6, q7, q8, q9⟩ := hg.rd
  obtain ⟨S'', e8⟩ := law_g 13 S' row hg.len (dOf r) h11c outp q1 q2 q3 _ rfl q4 op q5 p q6 q7 q8 q9 (some (.frz l)) (some (.ref 0)) (some (.ref 3)) (some (.int (tot2 l))) (some (.ref (5 + κ))) (some (.str (dressK δ))) (some (.ref 14)) y8 (some (.ref 15)) (some (.ref 16)) (some (.ref 17)) (some (.ref 25)) (some (.ref 26)) (some (.int ((pcAll (dOf r) 7 0 0 : Nat) : Int))) y15 (some (.ref (σ30.length + 1)) :: some (.ref (σ30.length + 2)) :: some (.ref (σ30.length + 3)) :: y20 :: y21 :: List.replicate 11 none)
  have hf : L02.ftab[11]? = some L02.ir_law := rfl
  have hb : L02.ir_law.body = sA0 ++ (sA1 ++ (sA2 ++ (sB ++ (sC ++ (sD ++ (sE ++ (sF ++ sG))))))) := rfl
  have hba : bindArgsL L02.ir_law [.frz l] = some (some (.frz l) :: List.replicate 32 none) := rfl
  refine ⟨S''.take 0, ?_⟩
  rw [ev_f _ _ 39 hf]
  unfold callFn
  rw [hba]
  have hh := step_seq e0 (step_seq e1 (step_seq e2 (step_seq e3 (step_seq e4 (step_seq e5 (step_seq e6 (step_seq e7 e8)))))))
  rw [← hb] at hh
  have hh' : (ev L02.ftab L02.ir_init 39).b L02.ir_law.body (some (.frz l) :: List.replicate 32 none) [] = _ := hh
  show oP ((ev L02.ftab L02.ir_init 39).b L02.ir_law.body (some (.frz l) :: List.replicate 32 none) []) _ = _
  rw [hh']
  rfl
end Mine
end
section
namespace Mine
open PySem PySem.W PyProof.Rows
theorem good_0_0_0_0 : (genD 2 0).all (fun s => goodR (0 :: 0 :: 0 :: 0 :: s)) = true := by decide +kernel
theorem good_0_0_0_1 : (genD 2 1).all (fun s => goodR (0 :: 0 :: 0 :: 1 :: s)) = true := by decide +kernel
theorem good_0_0_1_0 : (genD 2 0).all (fun s => goodR (0 :: 0 :: 1 :: 0 :: s)) = true := by decide +kernel
theorem good_0_0_1_1 : (genD 2 1).all (fun s => goodR (0 :: 0 :: 1 :: 1 :: s)) = true := by decide +kernel
theorem good_0_0_1_2 : (genD 2 2).all (fun s => goodR (0 :: 0 :: 1 :: 2 :: s)) = true := by decide +kernel
theorem good_0_1_0_0 : (genD 2 0).all (fun s => goodR (0 :: 1 :: 0 :: 0 :: s)) = true := by decide +kernel
theorem good_0_1_0_1 : (genD 2 1).all (fun s => goodR (0 :: 1 :: 0 :: 1 :: s)) = true := by decide +kernel
theorem good_0_1_1_0 : (genD 2 0).all (fun s => goodR (0 :: 1 :: 1 :: 0 :: s)) = true := by decide +kernel
theorem good_0_1_1_1 : (genD 2 1).all (fun s => goodR (0 :: 1 :: 1 :: 1 :: s)) = true := by decide +kernel
theorem good_0_1_1_2 : (genD 2 2).all (fun s => goodR (0 :: 1 :: 1 :: 2 :: s)) = true := by decide +kernel
theorem good_0_1_2_0 : (genD 2 0).all (fun s => goodR (0 :: 1 :: 2 :: 0 :: s)) = true := by decide +kernel
theorem good_0_1_2_1 : (genD 2 1).all (fun s => goodR (0 :: 1 :: 2 :: 1 :: s)) = true := by decide +kernel
theorem good_0_1_2_2 : (genD 2 2).all (fun s => goodR (0 :: 1 :: 2 :: 2 :: s)) = true := by decide +kernel
theorem good_0_1_2_3 : (genD 2 3).all (fun s => goodR (0 :: 1 :: 2 :: 3 :: s)) = true := by decide +kernel
theorem good_1_0_0_0 : (genD 2 0).all (fun s => goodR (1 :: 0 :: 0 :: 0 :: s)) = true := by decide +kernel
theorem good_1_0_0_1 : (genD 2 1).all (fun s => goodR (1 :: 0 :: 0 :: 1 :: s)) = true := by decide +kernel
theorem good_1_0_1_0 : (genD 2 0).all (fun s => goodR (1 :: 0 :: 1 :: 0 :: s)) = true := by decide +kernel
theorem good_1_0_1_1 : (genD 2 1).all (fun s => goodR (1 :: 0 :: 1 :: 1 :: s)) = true := by decide +kernel
theorem good_1_0_1_2 : (genD 2 2).all (fun s => goodR (1 :: 0 :: 1 :: 2 :: s)) = true := by decide +kernel
theorem good_1_1_0_0 : (genD 2 0).all (fun s => goodR (1 :: 1 :: 0 :: 0 :: s)) = true := by decide +kernel
theorem good_1_1_0_1 : (genD 2 1).all (fun s => goodR (1 :: 1 :: 0 :: 1 :: s)) = true := by decide +kernel
theorem good_1_1_1_0 : (genD 2 0).all (fun s => goodR (1 :: 1 :: 1 :: 0 :: s)) = true := by decide +kernel
theorem good_1_1_1_1 : (genD 2 1).all (fun s => goodR (1 :: 1 :: 1 :: 1 :: s)) = true := by decide +kernel
theorem good_1_1_1_2 : (genD 2 2).all (fun s => goodR (1 :: 1 :: 1 :: 2 :: s)) = true := by decide +kernel
theorem good_1_1_2_0 : (genD 2 0).all (fun s => goodR (1 :: 1 :: 2 :: 0 :: s)) = true := by decide +kernel
theorem good_1_1_2_1 : (genD 2 1).all (fun s => goodR (1 :: 1 :: 2 :: 1 :: s)) = true := by decide +kernel
theorem good_1_1_2_2 : (genD 2 2).all (fun s => goodR (1 :: 1 :: 2 :: 2 :: s)) = true := by decide +kernel
theorem good_1_1_2_3 : (genD 2 3).all (fun s => goodR (1 :: 1 :: 2 :: 3 :: s)) = true := by decide +kernel
theorem good_1_2_0_0 : (genD 2 0).all (fun s => goodR (1 :: 2 :: 0 :: 0 :: s)) = true := by decide +kernel
theorem good_1_2_0_1 : (genD 2 1).all (fun s => goodR (1 :: 2 :: 0 :: 1 :: s)) = true := by decide +kernel
theorem good_1_2_1_0 : (genD 2 0).all (fun s => goodR (1 :: 2 :: 1 :: 0 :: s)) = true := by decide +kernel
theorem good_1_2_1_1 : (genD 2 1).all (fun s => goodR (1 :: 2 :: 1 :: 1 :: s)) = true := by decide +kernel
theorem good_1_2_1_2 : (genD 2 2).all (fun s => goodR (1 :: 2 :: 1 :: 2 :: s)) = true := by decide +kernel
theorem good_1_2_2_0 : (genD 2 0).all (fun s => goodR (1 :: 2 :: 2 :: 0 :: s)) = true := by decide +kernel
theorem good_1_2_2_1 : (genD 2 1).all (fun s => goodR (1 :: 2 :: 2 :: 1 :: s)) = true := by decide +kernel
theorem good_1_2_2_2 : (genD 2 2).all (fun s => goodR (1 :: 2 :: 2 :: 2 :: s)) = true := by decide +kernel
theorem good_1_2_2_3 : (genD 2 3).all (fun s => goodR (1 :: 2 :: 2 :: 3 :: s)) = true := by decide +kernel
theorem good_1_2_3_0 : (genD 2 0).all (fun s => goodR (1 :: 2 :: 3 :: 0 :: s)) = true := by decide +kernel
theorem good_1_2_3_1 : (genD 2 1).all (fun s => goodR (1 :: 2 :: 3 :: 1 :: s)) = true := by decide +kernel
theorem good_1_2_3_2 : (genD 2 2).all (fun s => goodR (1 :: 2 :: 3 :: 2 :: s)) = true := by decide +kernel
theorem good_1_2_3_3 : (genD 2 3).all (fun s => goodR (1 :: 2 :: 3 :: 3 :: s)) = true := by decide +kernel
theorem good_1_2_3_4 : (genD 2 4).all (fun s => goodR (1 :: 2 :: 3 :: 4 :: s)) = true := by decide +kernel
theorem good_of {r : List Nat} (hr : chainD 0 r) (hl : r.length = 6) : goodR r = true := by
  match r, hr, hl with
  | [a, b, c, d, e, f], ⟨h1, h2, h3, h4, h5, h6, _⟩, _ =>
    have hm : [e, f] ∈ genD 2 d := mem_gen (r := [e, f]) ⟨h5, h6, trivial⟩
    clear h5 h6
    rcases (show a = 0 ∨ a = 1 by omega) with rfl | rfl
    · rcases (show b = 0 ∨ b = 1 by omega) with rfl | rfl
      · rcases (show c = 0 ∨ c = 1 by omega) with rfl | rfl
        · rcases (show d = 0 ∨ d = 1 by omega) with rfl | rfl
          · exact List.all_eq_true.mp good_0_0_0_0 _ hm
          · exact List.all_eq_true.mp good_0_0_0_1 _ hm
        · rcases (show d = 0 ∨ d = 1 ∨ d = 2 by omega) with rfl | rfl | rfl
          · exact List.all_eq_true.mp good_0_0_1_0 _ hm
          · exact List.all_eq_true.mp good_0_0_1_1 _ hm
          · exact List.all_eq_true.mp good_0_0_1_2 _ hm
      · rcases (show c = 0 ∨ c = 1 ∨ c = 2 by omega) with rfl | rfl | rfl
        · rcases (show d = 0 ∨ d = 1 by omega) with rfl | rfl
          · exact List.all_eq_true.mp good_0_1_0_0 _ hm
          · exact List.all_eq_true.mp good_0_1_0_1 _ hm
        · rcases (show d = 0 ∨ d = 1 ∨ d = 2 by omega) with rfl | rfl | rfl
          · exact List.all_eq_true.mp good_0_1_1_0 _ hm
          · exact List.all_eq_true.mp good_0_1_1_1 _ hm
          · exact List.all_eq_true.mp good_0_1_1_2 _ hm
        · rcases (show d = 0 ∨ d = 1 ∨ d = 2 ∨ d = 3 by omega) with rfl | rfl | rfl | rfl
          · exact List.all_eq_true.mp good_0_1_2_0 _ hm
          · exact List.all_eq_true.mp good_0_1_2_1 _ hm
          · exact List.all_eq_true.mp good_0_1_2_2 _ hm
          · exact List.all_eq_true.mp good_0_1_2_3 _ hm
    · rcases (show b = 0 ∨ b = 1 ∨ b = 2 by omega) with rfl | rfl | rfl
      · rcases (show c = 0 ∨ c = 1 by omega) with rfl | rfl
        · rcases (show d = 0 ∨ d = 1 by omega) with rfl | rfl
          · exact List.all_eq_true.mp good_1_0_0_0 _ hm
          · exact List.all_eq_true.mp good_1_0_0_1 _ hm
        · rcases (show d = 0 ∨ d = 1 ∨ d = 2 by omega) with rfl | rfl | rfl
          · exact List.all_eq_true.mp good_1_0_1_0 _ hm
          · exact List.all_eq_true.mp good_1_0_1_1 _ hm
          · exact List.all_eq_true.mp good_1_0_1_2 _ hm
      · rcases (show c = 0 ∨ c = 1 ∨ c = 2 by omega) with rfl | rfl | rfl
        · rcases (show d = 0 ∨ d = 1 by omega) with rfl | rfl
          · exact List.all_eq_true.mp good_1_1_0_0 _ hm
          · exact List.all_eq_true.mp good_1_1_0_1 _ hm
        · rcases (show d = 0 ∨ d = 1 ∨ d = 2 by omega) with rfl | rfl | rfl
          · exact List.all_eq_true.mp good_1_1_1_0 _ hm
          · exact List.all_eq_true.mp good_1_1_1_1 _ hm
          · exact List.all_eq_true.mp good_1_1_1_2 _ hm
        · rcases (show d = 0 ∨ d = 1 ∨ d = 2 ∨ d = 3 by omega) with rfl | rfl | rfl | rfl
          · exact List.all_eq_true.mp good_1_1_2_0 _ hm
          · exact List.all_eq_true.mp good_1_1_2_1 _ hm
          · exact List.all_eq_true.mp good_1_1_2_2 _ hm
          · exact List.all_eq_true.mp good_1_1_2_3 _ hm
      · rcases (show c = 0 ∨ c = 1 ∨ c = 2 ∨ c = 3 by omega) with rfl | rfl | rfl | rfl
        · rcases (show d = 0 ∨ d = 1 by omega) with rfl | rfl
          · exact List.all_eq_true.mp good_1_2_0_0 _ hm
          · exact List.all_eq_true.mp good_1_2_0_1 _ hm
        · rcases (show d = 0 ∨ d = 1 ∨ d = 2 by omega) with rfl | rfl | rfl
          · exact List.all_eq_true.mp good_1_2_1_0 _ hm
          · exact List.all_eq_true.mp good_1_2_1_1 _ hm
          · exact List.all_eq_true.mp good_1_2_1_2 _ hm
        · rcases (show d = 0 ∨ d = 1 ∨ d = 2 ∨ d = 3 by omega) with rfl | rfl | rfl | rfl
          · exact List.all_eq_true.mp good_1_2_2_0 _ hm
          · exact List.all_eq_true.mp good_1_2_2_1 _ hm
          · exact List.all_eq_true.mp good_1_2_2_2 _ hm
          · exact List.all_eq_true.mp good_1_2_2_3 _ hm
        · rcases (show d = 0 ∨ d = 1 ∨ d = 2 ∨ d = 3 ∨ d = 4 by omega) with rfl | rfl | rfl | rfl | rfl
          · exact List.all_eq_true.mp good_1_2_3_0 _ hm
          · exact List.all_eq_true.mp good_1_2_3_1 _ hm
          · exact List.all_eq_true.mp good_1_2_3_2 _ hm
          · exact List.all_eq_true.mp good_1_2_3_3 _ hm
          · exact List.all_eq_true.mp good_1_2_3_4 _ hm
end Mine
end
section
namespace Mine
open PySem PySem.W PyProof.Rows
theorem run02 (l : List Int) (h : l.length ≤ 63) : ∃ σ', (ev L02.ftab L02.ir_init 40).f 11 [.frz l] [] = some (.bool true, σ') := run02_of good_of l h
end Mine
end
namespace Mine
open PySem PySem.W PySem.W.X PyProof.Rows PySem.Challenge
noncomputable def D02 : Ads := ⟨83, [45, 52, 59, 73, 95, 109, 116, 130, 135, 140, 147, 152], 38, 102, 123, 88⟩
theorem run02' {vs : List Value} {l : List Int} (_ : IntsAre vs l) (h : ¬ (63 : Int) < l.length) : ∃ σ', (ev L02.ftab L02.ir_init 40).f 11 [.frz l] [] = some (.bool true, σ') := run02 l (by omega)

/-- the objects at the given places of a heap -/
noncomputable def fragOf (h : Heap) : List Addr → Frag
  | [] => []
  | a :: as => match h.get? a with
    | some o => (a, o) :: fragOf h as
    | none => fragOf h as
theorem fragOf_in (h : Heap) : ∀ as : List Addr, (fragOf h as).In h
  | [], a, o, e => by cases e
  | b :: as, a, o, e => by
    unfold fragOf at e
    cases hb : h.get? b with
    | none => rw [hb] at e; exact fragOf_in h as a o e
    | some ob =>
      rw [hb] at e
      simp only [List.lookup_cons] at e
      cases hab : (a == b) with
      | true =>
        rw [hab] at e
        cases e
        rw [eq_of_beq hab]; exact hb
      | false =>
        rw [hab] at e
        exact fragOf_in h as a o e
noncomputable def chkAll (T : Tab) (ft : List FDef) (init : FDef) (D : Ads) (K : Frag) : Bool := chkN K D && chkC K D && chkF K T ft init D && chkT K D
noncomputable def view02 : Program := { pw_sw0057_02 with main := { pw_sw0057_02.main with body := pw_sw0057_02.main.body.drop 18 } }
noncomputable def seen02 (s : Shared) : Bool := chkAll T ft init D02 (fragOf s.heap (List.range 153))
noncomputable def loose02 : List Str := [PySem.Str.ofString "_wall", PySem.Str.ofString "Whitespace", PySem.Str.ofString "COMPILER_FLAG_NAMES", PySem.Str.ofString "pretty_flags", PySem.Str.ofString "_iter_escaped_chars", PySem.Str.ofString "_strip_quoted_realnames", PySem.Str.ofString "_check_parenthesis", PySem.Str.ofString "CHAR_MAX", PySem.Str.ofString "_grouping_intervals", PySem.Str.ofString "_law_depths", PySem.Str.ofString "_law_lead", PySem.Str.ofString "_law_row", PySem.Str.ofString "_law_read", PySem.Str.ofString "__name__"]
noncomputable def xt02 (s : Shared) : Bool := xlAt view02 [] s && recOk rw_sw0057_02.row.records s
/-- both ways of the split by themselves -/
theorem both {α β γ : Type} {o : Option α} {f : α → β} {g : α → γ} {a : β} {b : γ} (h1 : o.map f = some a) (h2 : o.map g = some b) : o.map (fun s => (f s, g s)) = some (a, b) := by
  cases o with
  | none => cases h1
  | some s => exact congrArg some (Prod.ext (Option.some.inj h1) (Option.some.inj h2))
set_option maxRecDepth 100000 in
set_option maxHeartbeats 0 in
theorem left02_f (mods : List Str) (hm : mods = []) (w : World) : (fencedOpening treeTable rw_sw0057_02.row.prog w 4000).map (fun s₀ => (topFrom treeTable rw_sw0057_02.row.prog (w.withFollow "special-get-raises" false) 4000 s₀).map (fun s => (openSeen view02 loose02 mods xt02 true s, seen02 s))) = some (some (openGood view02 loose02, true)) := by
  subst hm
  kernel_rfl!
set_option maxRecDepth 100000 in
set_option maxHeartbeats 0 in
theorem left02_t (mods : List Str) (hm : mods = []) (w : World) : (fencedOpening treeTable rw_sw0057_02.row.prog w 4000).map (fun s₀ => (topFrom treeTable rw_sw0057_02.row.prog (w.withFollow "special-get-raises" true) 4000 s₀).map (fun s => (openSeen view02 loose02 mods xt02 true s, seen02 s))) = some (some (openGood view02 loose02, true)) := by
  subst hm
  kernel_rfl!
theorem left02 : LeftO rw_sw0057_02.row.prog view02 loose02 xt02 seen02 (fun _ => true) 4000 := by
  refine LeftO.of_split "special-get-raises" fun w => ?_
  refine both ?_ ?_
  · refine left02_f _ ?_ w
    kernel_rfl!
  · refine left02_t _ ?_ w
    kernel_rfl!
end Mine
open PySem PySem.W PySem.W.X PyProof.Rows
set_option maxRecDepth 100000 in
set_option maxHeartbeats 0 in
theorem PySem.Challenge.cw_sw0057_02_holds : PySem.Challenge.rw_sw0057_02.Holds := by
  refine holds_law (?p : _ = true) fun said => ?_
  case p => kernel_rfl!
  refine holds_openX (q := Mine.view02) (loose := [PySem.Str.ofString "_wall", PySem.Str.ofString "Whitespace", PySem.Str.ofString "COMPILER_FLAG_NAMES", PySem.Str.ofString "pretty_flags", PySem.Str.ofString "_iter_escaped_chars", PySem.Str.ofString "_strip_quoted_realnames", PySem.Str.ofString "_check_parenthesis", PySem.Str.ofString "CHAR_MAX", PySem.Str.ofString "_grouping_intervals", PySem.Str.ofString "_law_depths", PySem.Str.ofString "_law_lead", PySem.Str.ofString "_law_row", PySem.Str.ofString "_law_read", PySem.Str.ofString "__name__"]) (Xt := fun s => xlAt Mine.view02 [] s && recOk (RowW.records _) s) (XP := XL Mine.view02 []) (Yf := Mine.seen02) (Ya := fun _ => true) (N := 4000) ?hl (fun s e => xl_of s (Bool.and_eq_true_iff.mp e).1) XL.keeps (by rfl) (by rfl) (by rfl) (fun s e => recFacts_of (Bool.and_eq_true_iff.mp e).2) (by rfl) (by first | assumption | decide +kernel) (by decide +kernel) ⟨rfl, rfl, rfl, rfl, rfl, by decide +kernel⟩ ?hw ?hc
  case hl =>
    exact Mine.left02
  case hw => w_witness2
  intro w s₀ s₁ mg mb G y fa o pm cd doc dV kV ho hd hcd hD hmg hg args vals as L hpre hlay hrd hwl hlo
  have KX : (Mine.fragOf s₀.heap (List.range 153)).In s₁.heap := Frag.In.keeps (Mine.fragOf_in _ _) L.keeps
  clear hd hD ho hcd
  refine Ground.open G ?_
  intro T B D TE TW
  wrow_args hpre hlay hrd hwl hlo
  all_lens
  simp only [Mine.seen02, Mine.chkAll, Bool.and_eq_true] at y
  have F := Mine.facts (prog := PySem.Challenge.rw_sw0057_02.prog) (w := w) y.1.1.1 y.1.1.2 y.1.2 y.2 KX T.nolimit
  rename IntsAre _ _ => hi
  rename Heap.IsList _ _ _ => hL
  rename ¬ _ < _ => hc
  obtain ⟨σ', run⟩ := Mine.run02' hi (by omega)
  have hfa : fa = 152 := by
    obtain ⟨mg', mb', g1, _, _, _, _, _, _, _, _, g9⟩ := F.1.ns
    have e1 : mg' (Str.ofString "law") = some (.ref 152) := g9 11 (Str.ofString "law") 152 rfl rfl
    have e2 : mg (Str.ofString "law") = some (.ref fa) := hmg
    rw [Heap.Ns.eq_nsMap T.g] at e2
    rw [Heap.Ns.eq_nsMap g1] at e1
    have e3 : s₁.heap.nsMap mainGlobals (Str.ofString "law") = some (.ref 152) := e1
    rw [e3] at e2
    cases e2; rfl
  subst hfa
  refine Mine.law_ends F (k := 11) (n := 40) (by decide) rfl hL hi run hg fun s' k os b => ?_
  refine ⟨.inl ⟨_, _, [], rfl, ?_, ReadsW.bool true, ?_, fun _ => ⟨List.nodup_nil, fun _ hm => (nomatch hm)⟩⟩, k, os, b⟩
  · intro cls; rfl
  · first | rfl | wrow_post
