import PyProof.Rows.All
import Wide.All
import Open.Line
import KE.KDictOf
import Wide.FinOn
import PySem.Challenge.RW_il0070_01
section
open PySem PySem.Spec PySem.Calls PyProof.Rows PySem.W
set_option Elab.async false
set_option maxRecDepth 100000
set_option linter.unusedVariables false
namespace Mine

noncomputable abbrev PM := Addr → Option Obj
noncomputable def PM.le (B B' : PM) : Prop := ∀ a o, B a = some o → B' a = some o
theorem PM.le.rf {B : PM} : PM.le B B := fun _ _ e => e
theorem PM.le.tr {B B' B'' : PM} (h : PM.le B B') (h' : PM.le B' B'') : PM.le B B'' := fun a o e => h' a o (h a o e)
noncomputable def PM.bot : PM := fun _ => none
theorem PM.bot_le {B : PM} : PM.le PM.bot B := fun _ _ e => nomatch e

inductive V where
  | v (x : Value)
  | int (i : Int)
  | str (s : Str)
  | tup (vs : List V)
  | lst (vs : List V)
  | dct (kvs : List (Int × Int))
  | sl (l u st : Option Int)

inductive RKI : List (Int × Int) → List (Int × Value) → Prop
  | nil : RKI [] []
  | cons {k i : Int} {t : Tok} {kvs : List (Int × Int)} {kxs : List (Int × Value)} : RKI kvs kxs → RKI ((k, i) :: kvs) ((k, .int i t) :: kxs)
/-- an object that is a dict of these ints -/
noncomputable def DictO (o : Obj) (kvs : List (Int × Int)) : Prop :=
  ∃ kxs es ep, RKI kvs kxs ∧ o.ExactDict ∧ o.data = .dict es ep ∧ (∀ e ∈ es, ∃ k, Value.isInt k e.key = true ∧ e.hash = hashInt k) ∧ es.toList.length = kxs.length ∧ (∀ (prog : Program) (w : World), Pairs (intKind prog w) es.toList kxs) ∧ (kxs.map (·.1)).Nodup
theorem pairs_any {p p' : Program} {w w' : World} {es : List DictEntry} {kvs : List (Int × Value)} (h : Pairs (intKind p w) es kvs) : Pairs (intKind p' w') es kvs := by
  induction h with
  | nil => exact .nil
  | cons a b _ ih => exact .cons a b ih
theorem DictO.of {prog : Program} {w : World} {h : Heap} {a : Addr} {kxs : List (Int × Value)} {kvs : List (Int × Int)} (hd : h.DictOf (intKind prog w) a kxs) (hr : RKI kvs kxs) : ∃ o, h.get? a = some o ∧ DictO o kvs := by
  obtain ⟨o, es, ep, h1, h2, h3, h4, h5, h6⟩ := hd
  exact ⟨o, h1, kxs, es, ep, hr, h2, h3, h4, h5.length, fun p' w' => pairs_any h5, h6⟩
theorem DictO.dictOf {prog : Program} {w : World} {h : Heap} {a : Addr} {o : Obj} {kvs : List (Int × Int)} (hd : DictO o kvs) (ho : h.get? a = some o) : ∃ kxs, h.DictOf (intKind prog w) a kxs ∧ RKI kvs kxs := by
  obtain ⟨kxs, es, ep, h1, h2, h3, h4, _, h5, h6⟩ := hd
  exact ⟨kxs, ⟨o, es, ep, ho, h2, h3, h4, h5 prog w, h6⟩, h1⟩

inductive Part : Option Int → Value → Prop
  | none : Part none .none
  | int (i : Int) (t : Tok) : Part (some i) (.int i t)

mutual
inductive RV (B : PM) : V → Value → Prop
  | v (x : Value) : RV B (.v x) x
  | int (i : Int) (t : Tok) : RV B (.int i) (.int i t)
  | str (x : Str) (t : Tok) : RV B (.str x) (.str x t)
  | tup {a : Addr} {vs : List V} {xs : List Value} {n : Nat} : B a = some { cls := .type "tuple", data := .seq xs.toArray n } → RVs B vs xs → RV B (.tup vs) (.ref a)
  | lst {a : Addr} {vs : List V} {xs : List Value} {n : Nat} : B a = some { cls := .type "list", data := .seq xs.toArray n } → RVs B vs xs → RV B (.lst vs) (.ref a)
  | dct {a : Addr} {o : Obj} {kvs : List (Int × Int)} : B a = some o → kvs ≠ [] → DictO o kvs → RV B (.dct kvs) (.ref a)
  | sl {a : Addr} {l u st : Option Int} {vl vu vst : Value} : B a = some { cls := .type "slice", data := .fields #[vl, vu, vst] } → Part l vl → Part u vu → Part st vst → RV B (.sl l u st) (.ref a)
inductive RVs (B : PM) : List V → List Value → Prop
  | nil : RVs B [] []
  | cons {v : V} {x : Value} {vs : List V} {xs : List Value} : RV B v x → RVs B vs xs → RVs B (v :: vs) (x :: xs)
end

/-- an object that is no tuple, list or slice -/
structure Inert (o : Obj) : Prop where
  tup : ∀ xs n, o ≠ { cls := .type "tuple", data := .seq xs n }
  lst : ∀ xs n, o ≠ { cls := .type "list", data := .seq xs n }
  sl : ∀ vs, o ≠ { cls := .type "slice", data := .fields vs }
  dct : ∀ kvs, kvs ≠ [] → ¬ DictO o kvs
theorem Inert.strs {o : Obj} {es : Array DictEntry} {n : Nat} (h : o.data = .dict es n) (hk : StrKeys es) : Inert o :=
  ⟨fun _ _ e => (by rw [e] at h; cases h), fun _ _ e => (by rw [e] at h; cases h), fun _ e => (by rw [e] at h; cases h), fun kvs ne ⟨kxs, es', ep, h1, _, h3, h4, hl, _⟩ => by
    rw [h] at h3; cases h3
    cases h1 with
    | nil => exact ne rfl
    | cons _ =>
      cases hes : es.toList with
      | nil => rw [hes] at hl; cases hl
      | cons e r =>
        have he : e ∈ es := by rw [← Array.mem_toList_iff, hes]; exact .head _
        obtain ⟨n, t, hn⟩ := hk e he
        obtain ⟨k, a, _⟩ := h4 e he
        rw [hn] at a
        cases a⟩
theorem Inert.ns {h : Heap} {a : Addr} {m : Str → Option Value} (hn : h.Ns a m) : ∃ o, h.get? a = some o ∧ Inert o :=
  let ⟨o, _, _, ho, hd, hk, _⟩ := hn; ⟨o, ho, .strs hd hk⟩
theorem Inert.cell {o : Obj} {v : Option Value} (h : o.data = .cell v) : Inert o :=
  ⟨fun _ _ e => (by rw [e] at h; cases h), fun _ _ e => (by rw [e] at h; cases h), fun _ e => (by rw [e] at h; cases h), fun _ _ ⟨_, _, _, _, _, h3, _⟩ => (by rw [h] at h3; cases h3)⟩
theorem Inert.fields {o : Obj} {vs : Array Value} (h : o.data = .fields vs) (hc : o.cls ≠ .type "slice") : Inert o :=
  ⟨fun _ _ e => (by rw [e] at h; cases h), fun _ _ e => (by rw [e] at h; cases h), fun _ e => (by rw [e] at hc; exact hc rfl), fun _ _ ⟨_, _, _, _, _, h3, _⟩ => (by rw [h] at h3; cases h3)⟩
mutual
theorem RV.drop {B B' : PM} (h : ∀ a o, B a = some o → Inert o ∨ B' a = some o) : ∀ {v : V} {x : Value}, RV B v x → RV B' v x
  | _, _, .v x => .v x
  | _, _, .int i t => .int i t
  | _, _, .str x t => .str x t
  | _, _, .tup e r => (h _ _ e).elim (fun i => absurd rfl (i.tup _ _)) fun e => .tup e (RVs.drop h r)
  | _, _, .lst e r => (h _ _ e).elim (fun i => absurd rfl (i.lst _ _)) fun e => .lst e (RVs.drop h r)
  | _, _, .dct e n d => (h _ _ e).elim (fun i => absurd d (i.dct _ n)) fun e => .dct e n d
  | _, _, .sl e a b c => (h _ _ e).elim (fun i => absurd rfl (i.sl _)) fun e => .sl e a b c
theorem RVs.drop {B B' : PM} (h : ∀ a o, B a = some o → Inert o ∨ B' a = some o) : ∀ {vs : List V} {xs : List Value}, RVs B vs xs → RVs B' vs xs
  | _, _, .nil => .nil
  | _, _, .cons a r => .cons (RV.drop h a) (RVs.drop h r)
end
mutual
theorem RV.mono {B B' : PM} (h : PM.le B B') : ∀ {v : V} {x : Value}, RV B v x → RV B' v x
  | _, _, .v x => .v x
  | _, _, .int i t => .int i t
  | _, _, .str x t => .str x t
  | _, _, .tup e r => .tup (h _ _ e) (RVs.mono h r)
  | _, _, .lst e r => .lst (h _ _ e) (RVs.mono h r)
  | _, _, .dct e n d => .dct (h _ _ e) n d
  | _, _, .sl e a b c => .sl (h _ _ e) a b c
theorem RVs.mono {B B' : PM} (h : PM.le B B') : ∀ {vs : List V} {xs : List Value}, RVs B vs xs → RVs B' vs xs
  | _, _, .nil => .nil
  | _, _, .cons a r => .cons (RV.mono h a) (RVs.mono h r)
end
theorem RVs.length {B : PM} : ∀ {vs : List V} {xs : List Value}, RVs B vs xs → xs.length = vs.length
  | _, _, .nil => rfl
  | _, _, .cons _ r => by simp [RVs.length r]
theorem RVs.get {B : PM} : ∀ {vs : List V} {xs : List Value}, RVs B vs xs → ∀ {i : Nat} {v : V}, vs[i]? = some v → ∃ x, xs[i]? = some x ∧ RV B v x
  | _, _, .nil, _, _, e => by simp at e
  | _, _, .cons a r, 0, _, e => by simp at e; subst e; exact ⟨_, rfl, a⟩
  | _, _, .cons _ r, i + 1, _, e => by simp at e; simpa using RVs.get r e
theorem RVs.app {B : PM} : ∀ {vs : List V} {xs : List Value}, RVs B vs xs → ∀ {ws : List V} {ys : List Value}, RVs B ws ys → RVs B (vs ++ ws) (xs ++ ys)
  | _, _, .nil, _, _, h => h
  | _, _, .cons a r, _, _, h => .cons a (RVs.app r h)
theorem RVs.split {B : PM} : ∀ {vs ws : List V} {zs : List Value}, RVs B (vs ++ ws) zs → ∃ xs ys, zs = xs ++ ys ∧ RVs B vs xs ∧ RVs B ws ys
  | [], _, zs, h => ⟨[], zs, rfl, .nil, h⟩
  | _ :: vs, ws, _, .cons a r => let ⟨xs, ys, e, h1, h2⟩ := RVs.split (vs := vs) (ws := ws) r; ⟨_ :: xs, ys, by rw [e]; rfl, .cons a h1, h2⟩
theorem RVs.set {B : PM} : ∀ {vs : List V} {xs : List Value}, RVs B vs xs → ∀ {i : Nat} {v : V} {x : Value}, RV B v x → RVs B (vs.set i v) (xs.set i x)
  | _, _, .nil, _, _, _, _ => .nil
  | _, _, .cons _ r, 0, _, _, h => .cons h r
  | _, _, .cons a r, _ + 1, _, _, h => .cons a (RVs.set r h)
theorem RVs.one {B : PM} {v : V} {x : Value} (h : RV B v x) : RVs B [v] [x] := .cons h .nil


structure Gl where
  prog : Program
  w : World
  base : PM
  os : OsState
  ad : Nat → Addr
  pmd : Nat → Value × Value × Value

/-- the frame at hand -/
structure Fm where
  A : Around
  env : Env
  own : List Addr

/-- own objects, by what they hold -/
inductive AO where
  | list (vs : List V)
  | dict (kvs : List (Int × Int))
  | raw (o : Obj)

noncomputable def HO (G : Gl) (B : PM) (h : Heap) (a : Addr) : AO → Prop
  | .list vs => ∃ xs : List Value, h.PlainList a xs.toArray ∧ RVs B vs xs
  | .dict kvs => ∃ kxs, h.DictOf (intKind G.prog G.w) a kxs ∧ RKI kvs kxs
  | .raw o => h.get? a = some o
theorem HO.there {G : Gl} {B : PM} {h : Heap} {a : Addr} {x : AO} (H : HO G B h a x) : ∃ o, h.get? a = some o := by
  cases x with
  | list vs => obtain ⟨_, ⟨n, ho⟩, _⟩ := H; exact ⟨_, ho⟩
  | dict kvs => obtain ⟨_, ⟨o, _, _, ho, _⟩, _⟩ := H; exact ⟨o, ho⟩
  | raw o => exact ⟨o, H⟩
theorem HO.congr {G : Gl} {B B' : PM} {h h' : Heap} {a : Addr} {x : AO} (H : HO G B h a x) (hB : PM.le B B') (e : h'.get? a = h.get? a) : HO G B' h' a x := by
  cases x with
  | list vs => obtain ⟨xs, ⟨n, ho⟩, hr⟩ := H; exact ⟨xs, ⟨n, e.trans ho⟩, hr.mono hB⟩
  | dict kvs => obtain ⟨xs, ⟨o, es, ep, ho, r⟩, hr⟩ := H; exact ⟨xs, ⟨o, es, ep, e.trans ho, r⟩, hr⟩
  | raw o => exact e.trans H

/-- what is known: names, own objects, the generators -/
structure St where
  loc : Str → Option V
  hp : List (Addr × AO)
  gens : Array GenState

structure FrOk (F : Fm) (B : PM) (loc : Str → Option V) (h : Heap) : Prop where
  own : F.env.locals ∈ F.own
  here : ∀ a ∈ F.own, ∃ o, h.get? a = some o ∧ Inert o
  vars : ∃ m, h.Ns F.env.locals m ∧ ∀ x V, loc x = some V → F.env.kindOf x = some .local → ∃ v, m x = some v ∧ RV B V v
  apart : ∀ x c, F.env.cells.lookup x = some c → c ≠ F.env.locals ∧ (c ∈ F.own ∨ ∃ o, B c = some o) ∧ ∀ y, F.env.cells.lookup y = some c → y = x
  cell : ∀ x c, F.env.cells.lookup x = some c → ∃ vo, h.IsCell c vo ∧ ∀ V, loc x = some V → F.env.kindOf x ≠ some .local → ∃ v, vo = some v ∧ RV B V v

structure Rel (G : Gl) (F : Fm) (B : PM) (σ : St) (s : Shared) : Prop where
  base : PM.le G.base B
  keep : ∀ b o, B b = some o → s.heap.get? b = some o
  os : s.os = G.os
  gens : s.gens = σ.gens
  fr : FrOk F B σ.loc s.heap
  hp : ∀ p ∈ σ.hp, HO G B s.heap p.1 p.2
  nd : (F.own ++ σ.hp.map (·.1)).Nodup
  off : ∀ a ∈ F.own ++ σ.hp.map (·.1), B a = none

noncomputable def Post (G : Gl) (F : Fm) {α β : Type} (R : PM → β → α → Prop) (B : PM) (Q : β → St → Prop) : α → Shared → Prop :=
  fun a s' => ∃ b σ' B', PM.le B B' ∧ Rel G F B' σ' s' ∧ R B' b a ∧ Q b σ'

structure Ok (G : Gl) (F : Fm) {α β : Type} (R : PM → β → α → Prop) (B : PM) (t : Sem α) (σ : St) (Q : β → St → Prop) : Prop where
  go : ∀ B', PM.le B B' → ∀ s, Rel G F B' σ s → wpAny (model G.prog G.w) F.A t (Post G F R B' Q) (fun _ _ => False) s

section
variable {G : Gl} {F : Fm} {α β α' β' : Type} {R : PM → β → α → Prop} {R' : PM → β' → α' → Prop} {B B' : PM} {t : Sem α} {σ : St} {Q Q' : β → St → Prop}
theorem Post.up {a : α} {s : Shared} (h : PM.le B B') (p : Post G F R B' Q a s) : Post G F R B Q a s :=
  let ⟨b, σ', B'', h1, r⟩ := p; ⟨b, σ', B'', h.tr h1, r⟩
theorem Ok.le (h : Ok G F R B t σ Q) (hb : PM.le B B') : Ok G F R B' t σ Q := ⟨fun B'' h' s r => h.go B'' (hb.tr h') s r⟩
theorem Ok.any (h : Ok G F R PM.bot t σ Q) : Ok G F R B t σ Q := h.le PM.bot_le
theorem Ok.mono (h : Ok G F R B t σ Q) (k : ∀ b σ', Q b σ' → Q' b σ') : Ok G F R B t σ Q' := ⟨fun B'' h' s r =>
  wpAny_mono (h.go B'' h' s r) (fun _ _ ⟨b, σ', B₁, h1, h2, h3, h4⟩ => ⟨b, σ', B₁, h1, h2, h3, k _ _ h4⟩) fun _ _ e => e⟩
theorem Ok.bind {f : α → Sem α'} {Q₂ : β' → St → Prop} (h : Ok G F R B t σ Q)
    (k : ∀ b σ₁ B₁ a, PM.le B B₁ → R B₁ b a → Q b σ₁ → Ok G F R' B₁ (f a) σ₁ Q₂) : Ok G F R' B (t >>= f) σ Q₂ := ⟨fun B'' h' s r =>
  wpAny_bind (wpAny_mono (h.go B'' h' s r) (fun a s' ⟨b, σ', B₁, h1, h2, h3, h4⟩ => wpAny_mono ((k b σ' B₁ a (h'.tr h1) h3 h4).go B₁ .rf s' h2) (fun _ _ p => Post.up h1 p) fun _ _ e => e) fun _ _ e => e)⟩
theorem Ok.pure {a : α} {b : β} (h : R B b a) (hR : ∀ {B B'}, PM.le B B' → R B b a → R B' b a) (q : Q b σ) : Ok G F R B (pure a) σ Q := ⟨fun B'' h' _ r => wpAny_pure ⟨b, σ, B'', .rf, r, hR h' h, q⟩⟩
theorem Ok.holding {vs : List Value} (h : Ok G F R B t σ Q) : Ok G F R B (holding vs t) σ Q := ⟨fun B'' h' s r => wpAny_holding (h.go B'' h' s r)⟩
theorem Ok.operate {vs : List Value} {t : Sem Value} {R : PM → β → Value → Prop} (h : Ok G F R B t σ Q) : Ok G F R B (operate vs t) σ Q := ⟨fun B'' h' s r => wpAny_operate' (h.go B'' h' s r)⟩
theorem Ok.at {p : Pos} {f : Unit → Sem α} (h : Ok G F R B (f ()) σ Q) : Ok G F R B (standAt p >>= f) σ Q := ⟨fun B'' h' s r => wpAny_bind (wpAny_standAt (h.go B'' h' s r))⟩
end
end Mine
end
section
open PySem PySem.Spec PySem.Calls PyProof.Rows PySem.W
set_option Elab.async false
set_option maxRecDepth 100000
namespace Mine
section
variable {G : Gl} {F : Fm} {α β : Type} {R : PM → β → α → Prop} {B B' : PM} {t : Sem α} {σ : St} {Q : β → St → Prop} {s : Shared}
theorem Ok.run (h : Ok G F R B t σ Q) (hB : PM.le B B') (r : Rel G F B' σ s) {K : α → Shared → Prop}
    (k : ∀ a s' b σ' B'', PM.le B' B'' → Rel G F B'' σ' s' → R B'' b a → Q b σ' → K a s') : wpAny (model G.prog G.w) F.A t K (fun _ _ => False) s :=
  wpAny_mono (h.go B' hB s r) (fun a s' ⟨b, σ', B'', h1, h2, h3, h4⟩ => k a s' b σ' B'' h1 h2 h3 h4) fun _ _ e => e
theorem Post.mk {a : α} {b : β} {σ' : St} (r : Rel G F B σ' s) (h : R B b a) (q : Q b σ') : Post G F R B Q a s := ⟨b, σ', B, .rf, r, h, q⟩
theorem Post.mk' {a : α} {b : β} {σ' : St} (hB : PM.le B B') (r : Rel G F B' σ' s) (h : R B' b a) (q : Q b σ') : Post G F R B Q a s := ⟨b, σ', B', hB, r, h, q⟩

theorem Rel.toks {k : Nat} (r : Rel G F B σ s) : Rel G F B σ { s with toks := k } := ⟨r.base, r.keep, r.os, r.gens, r.fr, r.hp, r.nd, r.off⟩
theorem FrOk.mono {loc : Str → Option V} {h : Heap} (f : FrOk F B loc h) (hB : PM.le B B') : FrOk F B' loc h :=
  ⟨f.own, f.here, let ⟨m, h1, h2⟩ := f.vars; ⟨m, h1, fun x V e k => let ⟨v, e1, e2⟩ := h2 x V e k; ⟨v, e1, e2.mono hB⟩⟩, fun x c e => let ⟨h1, h2, h3⟩ := f.apart x c e; ⟨h1, h2.imp id fun ⟨o, ho⟩ => ⟨o, hB _ _ ho⟩, h3⟩,
   fun x c e => let ⟨vo, h1, h2⟩ := f.cell x c e; ⟨vo, h1, fun V e k => let ⟨v, e1, e2⟩ := h2 V e k; ⟨v, e1, e2.mono hB⟩⟩⟩
/-- the heap grows, all that stood stands -/
theorem FrOk.grow {loc : Str → Option V} {h h' : Heap} (f : FrOk F B loc h) (hk : ∀ b o, h.get? b = some o → h'.get? b = some o) : FrOk F B loc h' :=
  ⟨f.own, fun a ha => let ⟨o, ho, hi⟩ := f.here a ha; ⟨o, hk _ _ ho, hi⟩, let ⟨m, h1, h2⟩ := f.vars; ⟨m, h1.keeps hk, h2⟩, f.apart, fun x c e => let ⟨vo, h1, h2⟩ := f.cell x c e; ⟨vo, h1.keeps hk, h2⟩⟩
theorem HO.grow {h h' : Heap} {a : Addr} {x : AO} (H : HO G B h a x) (hB : PM.le B B') (hk : ∀ b o, h.get? b = some o → h'.get? b = some o) : HO G B' h' a x :=
  let ⟨o, ho⟩ := H.there; H.congr hB ((hk a o ho).trans ho.symm)
theorem Rel.grow (r : Rel G F B σ s) {s' : Shared} (hos : s'.os = s.os) (hg : s'.gens = s.gens) (hk : ∀ b o, s.heap.get? b = some o → s'.heap.get? b = some o) : Rel G F B σ s' :=
  ⟨r.base, fun b o e => hk b o (r.keep b o e), hos.trans r.os, hg.trans r.gens, r.fr.grow hk, fun p hp => (r.hp p hp).grow .rf hk, r.nd, r.off⟩
/-- a new object: into what stays -/
noncomputable def PM.put (B : PM) (a : Addr) (o : Obj) : PM := fun b => if b = a then some o else B b
theorem PM.put_self {B : PM} {a : Addr} {o : Obj} : B.put a o a = some o := if_pos rfl
theorem PM.put_ne {B : PM} {a b : Addr} {o : Obj} (h : b ≠ a) : B.put a o b = B b := if_neg h
theorem PM.put_le {a : Addr} {o : Obj} (h : B a = none) : PM.le B (B.put a o) := fun b o' e => by
  by_cases q : b = a
  · subst q; rw [h] at e; cases e
  · rw [PM.put_ne q]; exact e
theorem Rel.lt (r : Rel G F B σ s) {a : Addr} (ha : a ∈ F.own ++ σ.hp.map (·.1)) : a < s.heap.objs.size := by
  rcases List.mem_append.mp ha with h | h
  · obtain ⟨o, ho, _⟩ := r.fr.here a h; exact Heap.lt_size ho
  · obtain ⟨p, hp, rfl⟩ := List.mem_map.mp h
    obtain ⟨o, ho⟩ := (r.hp p hp).there; exact Heap.lt_size ho
theorem Rel.fresh (r : Rel G F B σ s) : B s.heap.objs.size = none := by
  cases h : B s.heap.objs.size with
  | none => rfl
  | some o => exact absurd (Heap.lt_size (r.keep _ _ h)) (Nat.lt_irrefl _)
theorem Rel.put (r : Rel G F B σ s) {a : Addr} {o : Obj} (ha : s.heap.get? a = some o) (hb : B a = none) (hn : a ∉ F.own ++ σ.hp.map (·.1)) : Rel G F (B.put a o) σ s :=
  have le := PM.put_le (o := o) hb
  ⟨r.base.tr le, fun b o' e => by
    by_cases q : b = a
    · subst q; rw [PM.put_self] at e; cases e; exact ha
    · rw [PM.put_ne q] at e; exact r.keep b o' e, r.os, r.gens, r.fr.mono le, fun p hp => (r.hp p hp).congr le rfl, r.nd, fun b hb' => by
    rw [PM.put_ne (fun q => hn (by rw [← q]; exact hb'))]; exact r.off b hb'⟩
/-- a new object, as one that stays -/
theorem Rel.new (r : Rel G F B σ s) {o : Obj} (hf : o.isFreed = false) {s' : Shared} (hh : s'.heap = s.heap.push o) (hos : s'.os = s.os) (hg : s'.gens = s.gens) :
    Rel G F (B.put s.heap.objs.size o) σ s' ∧ PM.le B (B.put s.heap.objs.size o) := by
  have r' := r.grow (s' := s') hos hg (by rw [hh]; exact fun b o' e => Heap.get?_push_of_some _ e)
  refine ⟨r'.put (by rw [hh]; exact Heap.get?_push_size _ hf) r.fresh (fun q => Nat.lt_irrefl _ (r.lt q)), PM.put_le r.fresh⟩
/-- a new object, as one of one's own -/
theorem Rel.newOwn (r : Rel G F B σ s) {o : Obj} {x : AO} {s' : Shared} (hh : s'.heap = s.heap.push o) (hos : s'.os = s.os) (hg : s'.gens = s.gens) (hx : HO G B (s.heap.push o) s.heap.objs.size x) :
    Rel G F B { σ with hp := (s.heap.objs.size, x) :: σ.hp } s' := by
  have r' := r.grow (s' := s') hos hg (by rw [hh]; exact fun b o' e => Heap.get?_push_of_some _ e)
  refine ⟨r'.base, r'.keep, r'.os, r'.gens, r'.fr, fun p hp => ?_, ?_, fun a ha => ?_⟩
  · rcases List.mem_cons.mp hp with rfl | hp
    · rw [hh]; exact hx
    · exact r'.hp p hp
  · have nd := r.nd
    have hn : s.heap.objs.size ∉ F.own ++ σ.hp.map (·.1) := fun q => Nat.lt_irrefl _ (r.lt q)
    rw [List.map_cons]
    rw [List.nodup_append] at nd ⊢
    refine ⟨nd.1, List.nodup_cons.mpr ⟨fun q => hn (List.mem_append_right _ q), nd.2.1⟩, fun a ha b hb => ?_⟩
    rcases List.mem_cons.mp hb with rfl | hb
    · intro e
      have e : a = s.heap.objs.size := e
      exact hn (by rw [← e]; exact List.mem_append_left _ ha)
    · exact nd.2.2 a ha b hb
  · rcases List.mem_append.mp ha with h | h
    · exact r.off a (List.mem_append_left _ h)
    · rcases List.mem_cons.mp h with rfl | h
      · exact r.fresh
      · exact r.off a (List.mem_append_right _ h)
/-- one own object turns -/
theorem Rel.turn (r : Rel G F B σ s) {i : Nat} {a : Addr} {x y : AO} (hi : σ.hp[i]? = some (a, x)) {s' : Shared} (hs : ∀ b, b ≠ a → ∀ o, s.heap.get? b = some o → s'.heap.get? b = some o) (hos : s'.os = s.os) (hg : s'.gens = s.gens)
    (hy : HO G B s'.heap a y) : Rel G F B { σ with hp := σ.hp.set i (a, y) } s' := by
  obtain ⟨hl, he⟩ := List.getElem?_eq_some_iff.mp hi
  have hm : (a, x) ∈ σ.hp := List.mem_of_getElem? hi
  have ea : (σ.hp.set i (a, y)).map (·.1) = σ.hp.map (·.1) := by
    rw [List.map_set]
    refine List.ext_getElem? fun j => ?_
    rw [List.getElem?_set]
    by_cases q : i = j
    · subst q; simp [hl, he]
    · simp [q]
  have nd := List.nodup_append.mp r.nd
  have nf : ∀ b ∈ F.own, b ≠ a := fun b hb e => nd.2.2 b hb a (List.mem_map.mpr ⟨_, hm, rfl⟩) e
  have hba : B a = none := r.off a (List.mem_append_right _ (List.mem_map.mpr ⟨_, hm, rfl⟩))
  refine ⟨r.base, fun b o e => hs b (fun q => by subst q; rw [hba] at e; cases e) o (r.keep b o e), hos.trans r.os, hg.trans r.gens, ?_, ?_, by rw [ea]; exact r.nd, by rw [ea]; exact r.off⟩
  · have f := r.fr
    refine ⟨f.own, fun b hb => let ⟨o, ho, hi⟩ := f.here b hb; ⟨o, hs b (nf b hb) o ho, hi⟩, ?_, f.apart, fun z c e => ?_⟩
    · obtain ⟨m, h1, h2⟩ := f.vars
      obtain ⟨o, es, ep, ho, h3⟩ := h1
      exact ⟨m, ⟨o, es, ep, hs _ (nf _ f.own) o ho, h3⟩, h2⟩
    · obtain ⟨vo, h1, h2⟩ := f.cell z c e
      obtain ⟨o, ho, h3⟩ := h1
      refine ⟨vo, ⟨o, hs c (fun q => ?_) o ho, h3⟩, h2⟩
      obtain ⟨_, w2, _⟩ := f.apart z c e
      rcases w2 with w2 | ⟨o', w2⟩
      · exact nf c w2 q
      · rw [q, hba] at w2; cases w2
  · intro p hp
    rcases List.getElem_of_mem hp with ⟨j, hj, rfl⟩
    rw [List.getElem_set]
    by_cases q : i = j
    · subst q; simp; exact hy
    · simp only [q, if_false]
      have hj' : j < σ.hp.length := by simpa using hj
      have H := r.hp _ (List.getElem_mem hj')
      obtain ⟨o, ho⟩ := H.there
      have ne : (σ.hp[j]).1 ≠ a := fun e => by
        have nn := List.pairwise_iff_getElem.mp nd.2.1
        have l1 : i < (σ.hp.map (·.1)).length := by simpa using hl
        have l2 : j < (σ.hp.map (·.1)).length := by simpa using hj'
        rcases Nat.lt_or_gt_of_ne q with h | h
        · refine nn i j l1 l2 h ?_
          simp [he, e]
        · refine nn j i l2 l1 h ?_
          simp [he, e]
      exact H.congr .rf ((hs _ ne o ho).trans ho.symm)
end
end Mine
end
section
open PySem PySem.Spec PySem.Calls PyProof.Rows PySem.W
set_option Elab.async false
set_option maxRecDepth 100000
set_option linter.unusedVariables false
namespace Mine
noncomputable def upd (loc : Str → Option V) (x : Str) (v : V) : Str → Option V := fun y => if y = x then some v else loc y
theorem upd_self {loc : Str → Option V} {x : Str} {v : V} : upd loc x v x = some v := if_pos rfl
theorem upd_ne {loc : Str → Option V} {x y : Str} {v : V} {r : Option V} (h : y ≠ x) (e : loc y = r) : upd loc x v y = r := (if_neg h).trans e
noncomputable abbrev St.put (σ : St) (x : Str) (v : V) : St := { σ with loc := upd σ.loc x v }
noncomputable def RB : PM → Bool → Bool → Prop := fun _ b a => a = b
theorem RB.rf {B : PM} {b : Bool} : RB B b b := rfl
noncomputable def RU : PM → Unit → Unit → Prop := fun _ _ _ => True
inductive Fl where
  | next | brk | cont
  | ret (v : V)
inductive RF (B : PM) : Fl → Flow → Prop
  | next : RF B .next .next
  | brk : RF B .brk .brk
  | cont : RF B .cont .cont
  | ret {v : V} {x : Value} : RV B v x → RF B (.ret v) (.ret x)
theorem RF.mono {B B' : PM} (h : PM.le B B') (f : Fl) (x : Flow) (r : RF B f x) : RF B' f x := by
  cases r with
  | next => exact .next
  | brk => exact .brk
  | cont => exact .cont
  | ret r => exact .ret (r.mono h)

section
variable {G : Gl} {F : Fm} {B B' : PM} {σ : St} {s : Shared}
theorem Rel.turnOwn (r : Rel G F B σ s) {a : Addr} (ha : a ∈ F.own) {s' : Shared} {loc' : Str → Option V} (hs : ∀ b, b ≠ a → ∀ o, s.heap.get? b = some o → s'.heap.get? b = some o) (hos : s'.os = s.os) (hg : s'.gens = s.gens)
    (f : FrOk F B loc' s'.heap) : Rel G F B { σ with loc := loc' } s' := by
  have nd := List.nodup_append.mp r.nd
  refine ⟨r.base, fun b o e => hs b (fun q => ?_) o (r.keep b o e), hos.trans r.os, hg.trans r.gens, f, fun p hp => ?_, r.nd, r.off⟩
  · subst q; rw [r.off b (List.mem_append_left _ ha)] at e; cases e
  · have H := r.hp p hp
    obtain ⟨o, ho⟩ := H.there
    exact H.congr .rf ((hs _ (fun q => nd.2.2 a ha p.1 (List.mem_map.mpr ⟨p, hp, rfl⟩) q.symm) o ho).trans ho.symm)

theorem ok_store {x : Str} {V : Mine.V} {v : Value} (hv : RV B V v) (hk : F.env.scope.kind = .function) (hl : F.env.kindOf x = some .local) :
    Ok G F RU B (bindName F.env x v) σ (fun _ σ' => σ' = σ.put x V) := ⟨fun B' hB s r => by
  obtain ⟨m, hn, hm⟩ := r.fr.vars
  refine wpAny_bindName (wpAny_storeName_local hl hn (fun h' hn' hs => ?_) (by rw [hk]; rfl))
  refine ⟨(), σ.put x V, B', .rf, ?_, trivial, rfl⟩
  refine r.turnOwn (a := F.env.locals) r.fr.own (fun b hb o e => (hs.2 b hb).trans e) rfl rfl ?_
  refine ⟨r.fr.own, fun b hb => ?_, ⟨_, hn', fun y W e hy => ?_⟩, r.fr.apart, fun y c e => ?_⟩
  · obtain ⟨o, ho, hi⟩ := r.fr.here b hb
    by_cases q : b = F.env.locals
    · subst q; exact Inert.ns hn'
    · exact ⟨o, (hs.2 b q).trans ho, hi⟩
  · unfold upd at e
    by_cases q : y = x
    · subst q; rw [if_pos rfl] at e; cases e; exact ⟨v, if_pos rfl, hv.mono hB⟩
    · rw [if_neg q] at e; obtain ⟨u, h1, h2⟩ := hm y W e hy; exact ⟨u, (if_neg q).trans h1, h2⟩
  · obtain ⟨vo, h1, h2⟩ := r.fr.cell y c e
    refine ⟨vo, h1.sameBut hs (r.fr.apart y c e).1, fun W e' hy => h2 W ?_ hy⟩
    unfold upd at e'
    rwa [if_neg (fun q => by subst q; exact hy hl)] at e'⟩

theorem ok_storeC {x : Str} {V : Mine.V} {v : Value} {c : Addr} (hv : RV B V v) (hk : F.env.scope.kind = .function) (hl : F.env.kindOf x = some .cell) (hc : F.env.cells.lookup x = some c) (ho : c ∈ F.own) :
    Ok G F RU B (bindName F.env x v) σ (fun _ σ' => σ' = σ.put x V) := ⟨fun B' hB s r => by
  obtain ⟨vo, hcell, _⟩ := r.fr.cell x c hc
  refine wpAny_bindName (wpAny_storeName_cell hk hl hc hcell (fun h' hn' hs => ?_))
  refine ⟨(), σ.put x V, B', .rf, ?_, trivial, rfl⟩
  refine r.turnOwn (a := c) ho (fun b hb o e => (hs.2 b hb).trans e) rfl rfl ?_
  refine ⟨r.fr.own, fun b hb => ?_, ?_, r.fr.apart, fun y c' e => ?_⟩
  · obtain ⟨o, ho, hi⟩ := r.fr.here b hb
    by_cases q : b = c
    · subst q; obtain ⟨o', ho', hd'⟩ := hn'; exact ⟨o', ho', .cell hd'⟩
    · exact ⟨o, (hs.2 b q).trans ho, hi⟩
  · obtain ⟨m, hn, hm⟩ := r.fr.vars
    refine ⟨m, hn.sameBut hs (r.fr.apart x c hc).1.symm, fun y W e hy => hm y W ?_ hy⟩
    unfold upd at e
    rwa [if_neg (fun q => by subst q; rw [hl] at hy; cases hy)] at e
  · by_cases q : c' = c
    · subst q
      have : y = x := by have := (r.fr.apart x c' hc).2.2 y e; exact this
      subst this
      refine ⟨_, hn', fun W e' _ => ?_⟩
      unfold upd at e'
      rw [if_pos rfl] at e'; cases e'
      exact ⟨v, rfl, hv.mono hB⟩
    · obtain ⟨vo', h1, h2⟩ := r.fr.cell y c' e
      refine ⟨vo', h1.sameBut hs q, fun W e' hy => h2 W ?_ hy⟩
      unfold upd at e'
      rwa [if_neg (fun z => by subst z; rw [hc] at e; cases e; exact q rfl)] at e'⟩
end

section
variable {G : Gl} {F : Fm} {σ : St}
noncomputable abbrev Ev (G : Gl) (F : Fm) (e : Expr) (σ : St) (Q : V → St → Prop) : Prop := Ok G F RV PM.bot (eval e F.env) σ Q
noncomputable abbrev Tr (G : Gl) (F : Fm) (e : Expr) (σ : St) (Q : Bool → St → Prop) : Prop := Ok G F RB PM.bot (isTrue e F.env (eval e F.env)) σ Q
noncomputable abbrev Ex (G : Gl) (F : Fm) (b : List Stmt) (σ : St) (Q : Fl → St → Prop) : Prop := Ok G F RF PM.bot (execs b F.env) σ Q
noncomputable abbrev S1 (G : Gl) (F : Fm) (st : Stmt) (σ : St) (Q : Fl → St → Prop) : Prop := Ok G F RF PM.bot (exec st F.env) σ Q
noncomputable def Op1 (G : Gl) (F : Fm) (f : Value → Sem Value) (a : V) (σ : St) (Q : V → St → Prop) : Prop := ∀ B x, RV B a x → Ok G F RV B (f x) σ Q
noncomputable def Op2 (G : Gl) (F : Fm) (f : Value → Value → Sem Value) (a b : V) (σ : St) (Q : V → St → Prop) : Prop := ∀ B x y, RV B a x → RV B b y → Ok G F RV B (f x y) σ Q
noncomputable def Truth (G : Gl) (F : Fm) (a : V) (σ : St) (Q : Bool → St → Prop) : Prop := ∀ B x, RV B a x → Ok G F RB B (truthy x) σ Q
noncomputable def To (G : Gl) (F : Fm) (t : Expr) (a : V) (σ : St) (Q : St → Prop) : Prop := ∀ B x, RV B a x → Ok G F RU B (assign t F.env x) σ (fun _ => Q)
noncomputable def Cl (G : Gl) (F : Fm) (f : Value) (as : List V) (σ : St) (Q : V → St → Prop) : Prop := ∀ B xs, RVs B as xs → Ok G F RV B (call f xs) σ Q

theorem ev_local {x : Str} {pos : Pos} {v : V} {Q : V → St → Prop} (hv : σ.loc x = some v) (q : Q v σ)
    (hk : F.env.scope.kind = .function := by rfl) (hl : F.env.kindOf x = some .local := by rfl) (hd : (x == ("__debug__" : Str)) = false := by decide) : Ev G F (.Name x pos) σ Q := ⟨fun B hB s r => by
  obtain ⟨m, hn, hm⟩ := r.fr.vars
  obtain ⟨u, h1, h2⟩ := hm x v hv hl
  exact wpAny_Name (wpAny_loadName_local hk hl hn h1 (Post.mk r h2 q)) hd⟩
theorem ev_cell {x : Str} {pos : Pos} {v : V} {c : Addr} {Q : V → St → Prop} (hv : σ.loc x = some v) (q : Q v σ)
    (hk : F.env.scope.kind = .function := by rfl) (hl : F.env.kindOf x = some .cell := by rfl) (hc : F.env.cells.lookup x = some c := by rfl) (hd : (x == ("__debug__" : Str)) = false := by decide) : Ev G F (.Name x pos) σ Q := ⟨fun B hB s r => by
  obtain ⟨vo, hcell, hm⟩ := r.fr.cell x c hc
  obtain ⟨u, rfl, h2⟩ := hm v hv (by rw [hl]; intro e; cases e)
  exact wpAny_Name (wpAny_loadName_cell hk hl hc hcell (Post.mk r h2 q)) hd⟩
theorem ev_free {x : Str} {pos : Pos} {v : V} {c : Addr} {Q : V → St → Prop} (hv : σ.loc x = some v) (q : Q v σ)
    (hk : F.env.scope.kind = .function := by rfl) (hl : F.env.kindOf x = some .free := by rfl) (hc : F.env.cells.lookup x = some c := by rfl) (hd : (x == ("__debug__" : Str)) = false := by decide)
    (hn : (x == ("__classdict__" : Str)) = false := by decide) : Ev G F (.Name x pos) σ Q := ⟨fun B hB s r => by
  obtain ⟨vo, hcell, hm⟩ := r.fr.cell x c hc
  obtain ⟨u, rfl, h2⟩ := hm v hv (by rw [hl]; intro e; cases e)
  exact wpAny_Name (wpAny_loadName_free hk hl hc hcell (Post.mk r h2 q) hn) hd⟩
/-- a global or built-in name's value -/
noncomputable def GlobV (G : Gl) (x : Str) (v : Value) : Prop := ∀ h : Heap, (∀ b o, G.base b = some o → h.get? b = some o) →
  (∃ mg, h.Ns mainGlobals mg ∧ mg x = some v) ∨ ∃ mg mb, h.Ns mainGlobals mg ∧ mg x = none ∧ h.Ns builtinsNs mb ∧ mb x = some v
theorem ev_glob {x : Str} {pos : Pos} {v : Value} {Q : V → St → Prop} (hv : GlobV G x v) (q : Q (.v v) σ)
    (hk : F.env.scope.kind = .function := by rfl) (hl : F.env.kindOf x = some .globalImplicit := by rfl) (hg : F.env.globals = mainGlobals := by rfl) (hb : F.env.builtins = builtinsNs := by rfl)
    (hd : (x == ("__debug__" : Str)) = false := by decide) : Ev G F (.Name x pos) σ Q := ⟨fun B hB s r => by
  refine Name_function_global hk hl ?_ hd
  rcases hv s.heap (fun b o e => r.keep b o (r.base b o e)) with ⟨mg, h1, h2⟩ | ⟨mg, mb, h1, h2, h3, h4⟩
  · exact loadGlobal_global (by rw [hg]; exact h1) h2 (Post.mk r (.v v) q)
  · exact loadGlobal_builtin (by rw [hg]; exact h1) h2 (by rw [hb]; exact h3) h4 (Post.mk r (.v v) q)⟩
theorem ev_int {i : Int} {k : Nat} {pos : Pos} {Q : V → St → Prop} (q : Q (.int i) σ) : Ev G F (.Constant (.int i) k pos) σ Q := ⟨fun B hB s r => wpAny_Constant_int (Post.mk r.toks (.int i _) q)⟩
theorem ev_str {x : Str} {k : Nat} {pos : Pos} {Q : V → St → Prop} (q : Q (.str x) σ) : Ev G F (.Constant (.str x) k pos) σ Q := ⟨fun B hB s r => wpAny_Constant_str (Post.mk r.toks (.str x _) q)⟩
theorem ev_none {k : Nat} {pos : Pos} {Q : V → St → Prop} (q : Q (.v .none) σ) : Ev G F (.Constant .none k pos) σ Q := ⟨fun B hB s r => wpAny_Constant_none (Post.mk r (.v _) q)⟩
theorem ev_bool {b : Bool} {k : Nat} {pos : Pos} {Q : V → St → Prop} (q : Q (.v (.bool b)) σ) : Ev G F (.Constant (.bool b) k pos) σ Q := ⟨fun B hB s r => wpAny_Constant_bool (Post.mk r (.v _) q)⟩
theorem ev_binop {l r : Expr} {op : Operator} {pos : Pos} {Q : V → St → Prop} (h : Ev G F l σ fun a σ₁ => Ev G F r σ₁ fun b σ₂ => Op2 G F (binaryOp op) a b σ₂ Q) : Ev G F (.BinOp l op r pos) σ Q := by
  refine Ok.bind h fun a σ₁ B₁ x _ ha h => ?_
  refine Ok.bind (Ok.holding h.any) fun b σ₂ B₂ y hB hb h => ?_
  exact Ok.at (Ok.operate (h _ _ _ (ha.mono hB) hb))
theorem ev_compare {l r : Expr} {op : CmpOp} {pos : Pos} {Q : V → St → Prop} (h : Ev G F l σ fun a σ₁ => Ev G F r σ₁ fun b σ₂ => Op2 G F (compareOp op) a b σ₂ Q)
    (hm : behindInMarks op r = false := by with_unfolding_all rfl) : Ev G F (.Compare l [op] [r] pos) σ Q := by
  show Ok G F RV PM.bot (eval (.Compare l [op] [r] pos) F.env) σ Q
  rw [eval_Compare1, markedBehindIn_of_false hm]
  refine Ok.bind h fun a σ₁ B₁ x _ ha h => ?_
  refine Ok.bind (Ok.holding h.any) fun b σ₂ B₂ y hB hb h => ?_
  exact Ok.at (Ok.operate (h _ _ _ (ha.mono hB) hb))
theorem tr_compare {l r : Expr} {op : CmpOp} {pos : Pos} {Q : Bool → St → Prop} (h : Ev G F l σ fun a σ₁ => Ev G F r σ₁ fun b σ₂ => Op2 G F (compareOp op) a b σ₂ fun c σ₃ => Truth G F c σ₃ Q)
    (hm : behindInMarks op r = false := by with_unfolding_all rfl) : Tr G F (.Compare l [op] [r] pos) σ Q := by
  show Ok G F RB PM.bot (isTrue (.Compare l [op] [r] pos) F.env (eval (.Compare l [op] [r] pos) F.env)) σ Q
  rw [isTrue_Compare1, markedBehindIn_of_false hm]
  refine Ok.bind h fun a σ₁ B₁ x _ ha h => ?_
  refine Ok.bind (Ok.holding h.any) fun b σ₂ B₂ y hB hb h => ?_
  refine Ok.at (Ok.bind (Ok.operate (h _ _ _ (ha.mono hB) hb)) fun c σ₃ B₃ z _ hc h => ?_)
  exact Ok.holding (h _ _ hc)
theorem ev_unary {x : Expr} {op : UnaryOp} {pos : Pos} {Q : V → St → Prop} (h : Ev G F x σ fun a σ₁ => Op1 G F (unaryOp op) a σ₁ Q) : Ev G F (.UnaryOp op x pos) σ Q := by
  refine Ok.bind h fun a σ₁ B₁ x _ ha h => ?_
  exact Ok.at (Ok.holding (h _ _ ha))
theorem ev_ifexp {t b o : Expr} {pos : Pos} {Q : V → St → Prop} (h : Tr G F t σ fun c σ₁ => (c = true → Ev G F b σ₁ Q) ∧ (c = false → Ev G F o σ₁ Q)) : Ev G F (.IfExp t b o pos) σ Q := by
  show Ok G F RV PM.bot (do if ← isTrue t F.env (eval t F.env) then eval b F.env else eval o F.env) σ Q
  refine Ok.bind h fun c σ₁ B₁ x _ hc h => ?_
  cases hc
  cases c with
  | true => exact (h.1 rfl).any
  | false => exact (h.2 rfl).any
theorem tr_not {x : Expr} {pos : Pos} {Q : Bool → St → Prop} (h : Tr G F x σ fun c σ₁ => Q (!c) σ₁) : Tr G F (.UnaryOp .Not x pos) σ Q := by
  show Ok G F RB PM.bot (do return !(← isTrue x F.env (eval x F.env))) σ Q
  refine Ok.bind h fun c σ₁ B₁ x _ hc h => ?_
  cases hc
  exact Ok.pure rfl (fun _ e => e) h
theorem tr_name {x : Str} {p : Pos} {Q : Bool → St → Prop} (h : Ev G F (.Name x p) σ fun a σ₁ => Truth G F a σ₁ Q) : Tr G F (.Name x p) σ Q := by
  show Ok G F RB PM.bot (do let v ← eval (.Name x p) F.env; standAt p; holding [v] (truthy v)) σ Q
  refine Ok.bind h fun a σ₁ B₁ x _ ha h => ?_
  exact Ok.at (Ok.holding (h _ _ ha))
theorem tr_call {f : Expr} {as : List Expr} {ks : List Keyword} {p : Pos} {Q : Bool → St → Prop} (h : Ev G F (.Call f as ks p) σ fun a σ₁ => Truth G F a σ₁ Q) : Tr G F (.Call f as ks p) σ Q := by
  show Ok G F RB PM.bot (do let v ← eval (.Call f as ks p) F.env; standAt p; holding [v] (truthy v)) σ Q
  refine Ok.bind h fun a σ₁ B₁ x _ ha h => ?_
  exact Ok.at (Ok.holding (h _ _ ha))
theorem tr_const {c : Const} {k : Nat} {p : Pos} {Q : Bool → St → Prop} (h : Ev G F (.Constant c k p) σ fun a σ₁ => Truth G F a σ₁ Q) : Tr G F (.Constant c k p) σ Q := by
  show Ok G F RB PM.bot (do let v ← eval (.Constant c k p) F.env; standAt p; holding [v] (truthy v)) σ Q
  refine Ok.bind h fun a σ₁ B₁ x _ ha h => ?_
  exact Ok.at (Ok.holding (h _ _ ha))
/-- and, or in a test -/
noncomputable abbrev TrAll (G : Gl) (F : Fm) (op : BoolOp) (es : List Expr) (σ : St) (Q : Bool → St → Prop) : Prop := Ok G F RB PM.bot (allTrue op es F.env) σ Q
theorem tr_bool {op : BoolOp} {es : List Expr} {p : Pos} {Q : Bool → St → Prop} (h : TrAll G F op es σ Q) : Tr G F (.BoolOp op es p) σ Q := h
theorem tr_and_nil {Q : Bool → St → Prop} (q : Q true σ) : TrAll G F .And [] σ Q := Ok.pure rfl (fun _ e => e) q
theorem tr_or_nil {Q : Bool → St → Prop} (q : Q false σ) : TrAll G F .Or [] σ Q := Ok.pure rfl (fun _ e => e) q
theorem tr_and_cons {e : Expr} {es : List Expr} {Q : Bool → St → Prop} (h : Tr G F e σ fun c σ₁ => (c = true → TrAll G F .And es σ₁ Q) ∧ (c = false → Q false σ₁)) : TrAll G F .And (e :: es) σ Q := by
  show Ok G F RB PM.bot (do match BoolOp.And, ← isTrue e F.env (eval e F.env) with | .And, false => pure false | .Or, true => pure true | _, _ => allTrue .And es F.env) σ Q
  refine Ok.bind h fun c σ₁ B₁ x _ hc h => ?_
  cases hc
  cases c with
  | true => exact (h.1 rfl).any
  | false => exact Ok.pure rfl (fun _ e => e) (h.2 rfl)
theorem tr_or_cons {e : Expr} {es : List Expr} {Q : Bool → St → Prop} (h : Tr G F e σ fun c σ₁ => (c = false → TrAll G F .Or es σ₁ Q) ∧ (c = true → Q true σ₁)) : TrAll G F .Or (e :: es) σ Q := by
  show Ok G F RB PM.bot (do match BoolOp.Or, ← isTrue e F.env (eval e F.env) with | .And, false => pure false | .Or, true => pure true | _, _ => allTrue .Or es F.env) σ Q
  refine Ok.bind h fun c σ₁ B₁ x _ hc h => ?_
  cases hc
  cases c with
  | true => exact Ok.pure rfl (fun _ e => e) (h.2 rfl)
  | false => exact (h.1 rfl).any
/-- and, or as a value -/
theorem ev_bool1 {op : BoolOp} {e : Expr} {p : Pos} {Q : V → St → Prop} (h : Ev G F e σ Q) : Ev G F (.BoolOp op [e] p) σ Q := h
theorem ev_and {e e' : Expr} {es : List Expr} {p : Pos} {Q : V → St → Prop} (h : Ev G F e σ fun a σ₁ => Truth G F a σ₁ fun c σ₂ => (c = true → Ev G F (.BoolOp .And (e' :: es) p) σ₂ Q) ∧ (c = false → Q a σ₂)) :
    Ev G F (.BoolOp .And (e :: e' :: es) p) σ Q := by
  show Ok G F RV PM.bot (do let v ← eval e F.env; standAt p; let t ← holding [v] (truthy v); match BoolOp.And, t with | .And, false | .Or, true => pure v | _, _ => boolOp p .And (evalEach (e' :: es) F.env)) σ Q
  refine Ok.bind h fun a σ₁ B₁ x _ ha h => ?_
  refine Ok.at (Ok.bind (Ok.holding (h _ _ ha)) fun c σ₂ B₂ y hB hc h => ?_)
  cases hc
  cases c with
  | true => exact (h.1 rfl).any
  | false => exact Ok.pure (ha.mono hB) (fun h => RV.mono h) (h.2 rfl)
theorem ev_or {e e' : Expr} {es : List Expr} {p : Pos} {Q : V → St → Prop} (h : Ev G F e σ fun a σ₁ => Truth G F a σ₁ fun c σ₂ => (c = false → Ev G F (.BoolOp .Or (e' :: es) p) σ₂ Q) ∧ (c = true → Q a σ₂)) :
    Ev G F (.BoolOp .Or (e :: e' :: es) p) σ Q := by
  show Ok G F RV PM.bot (do let v ← eval e F.env; standAt p; let t ← holding [v] (truthy v); match BoolOp.Or, t with | .And, false | .Or, true => pure v | _, _ => boolOp p .Or (evalEach (e' :: es) F.env)) σ Q
  refine Ok.bind h fun a σ₁ B₁ x _ ha h => ?_
  refine Ok.at (Ok.bind (Ok.holding (h _ _ ha)) fun c σ₂ B₂ y hB hc h => ?_)
  cases hc
  cases c with
  | true => exact Ok.pure (ha.mono hB) (fun h => RV.mono h) (h.2 rfl)
  | false => exact (h.1 rfl).any
-- statements
noncomputable abbrev Nx (G : Gl) (F : Fm) (rest : List Stmt) (Q : Fl → St → Prop) : Fl → St → Prop := fun f σ => match f with
  | .next => Ex G F rest σ Q
  | f => Q f σ
theorem ex_nil {Q : Fl → St → Prop} (q : Q .next σ) : Ex G F [] σ Q := Ok.pure .next (fun h => RF.mono h _ _) q
theorem ex_cons {st : Stmt} {rest : List Stmt} {Q : Fl → St → Prop} (h : S1 G F st σ (Nx G F rest Q)) : Ex G F (st :: rest) σ Q := by
  show Ok G F RF PM.bot (do match ← exec st F.env with | .next => execs rest F.env | f => pure f) σ Q
  refine Ok.bind h fun f σ₁ B₁ x _ hf h => ?_
  cases hf with
  | next => exact Ok.any h
  | brk => exact Ok.pure .brk (fun h => RF.mono h _ _) h
  | cont => exact Ok.pure .cont (fun h => RF.mono h _ _) h
  | ret r => exact Ok.pure (.ret r) (fun h => RF.mono h _ _) h
theorem to_name {x : Str} {p : Pos} {a : V} {Q : St → Prop} (q : Q (σ.put x a)) (hk : F.env.scope.kind = .function := by rfl) (hl : F.env.kindOf x = some .local := by rfl) : To G F (.Name x p) a σ Q := fun B x ha => by
  show Ok G F RU B (do standAt p; bindName F.env _ _) σ _
  exact Ok.at ((ok_store ha hk hl).mono fun _ _ e => e ▸ q)
theorem to_cell {x : Str} {p : Pos} {c : Addr} {a : V} {Q : St → Prop} (q : Q (σ.put x a)) (ho : c ∈ F.own) (hk : F.env.scope.kind = .function := by rfl) (hl : F.env.kindOf x = some .cell := by rfl) (hc : F.env.cells.lookup x = some c := by rfl) :
    To G F (.Name x p) a σ Q := fun B x ha => by
  show Ok G F RU B (do standAt p; bindName F.env _ _) σ _
  exact Ok.at ((ok_storeC ha hk hl hc ho).mono fun _ _ e => e ▸ q)
theorem s_assign {t value : Expr} {pos : Pos} {Q : Fl → St → Prop} (h : Ev G F value σ fun a σ₁ => To G F t a σ₁ (Q .next))
    (hs : swapsWithSole [t] value pos.line F.env = pure false := by rfl) (hw : swappedStores [t] value F.env = pure none := by rfl) (ha : (assignEach [t] F.env).map (·.2) = [assign t F.env] := by rfl) : S1 G F (.Assign [t] value pos) σ Q := by
  have e : exec (.Assign [t] value pos) F.env = (do
      standAt pos
      if ← swapsWithSole [t] value pos.line F.env then
        evalThenUse value F.env fun v => assignAll v ((assignEach [t] F.env).map (·.2))
        pure .next
      else
        let v ← eval value F.env
        assignStores F.env v (← swappedStores [t] value F.env) ((assignEach [t] F.env).map (·.2))) := rfl
  show Ok G F RF PM.bot (exec (.Assign [t] value pos) F.env) σ Q
  rw [e, hs, hw, ha]
  refine Ok.at ?_
  show Ok G F RF PM.bot (do let v ← eval value F.env; assignStores F.env v none [assign t F.env]) σ Q
  refine Ok.bind h fun a σ₁ B₁ x _ ha h => ?_
  show Ok G F RF B₁ (do assign t F.env x; pure Flow.next) σ₁ Q
  refine Ok.bind (h _ _ ha) fun _ σ₂ B₂ _ _ _ h => ?_
  exact Ok.pure .next (fun h => RF.mono h _ _) h
theorem s_if {t : Expr} {b o : List Stmt} {pos : Pos} {Q : Fl → St → Prop} (h : Tr G F t σ fun c σ₁ => (c = true → Ex G F b σ₁ Q) ∧ (c = false → Ex G F o σ₁ Q)) : S1 G F (.If t b o pos) σ Q := by
  show Ok G F RF PM.bot (do standAt pos; if ← isTrue t F.env (eval t F.env) then execs b F.env else execs o F.env) σ Q
  refine Ok.at (Ok.bind h fun c σ₁ B₁ x _ hc h => ?_)
  cases hc
  cases c with
  | true => exact (h.1 rfl).any
  | false => exact (h.2 rfl).any
theorem s_ret {e : Expr} {pos : Pos} {Q : Fl → St → Prop} (h : Ev G F e σ fun a σ₁ => Q (.ret a) σ₁) : S1 G F (.Return (some e) pos) σ Q := by
  show Ok G F RF PM.bot (do standAt pos; return .ret (← eval e F.env)) σ Q
  refine Ok.at (Ok.bind h fun a σ₁ B₁ x _ ha h => ?_)
  exact Ok.pure (.ret ha) (fun h => RF.mono h _ _) h
theorem s_brk {pos : Pos} {Q : Fl → St → Prop} (q : Q .brk σ) : S1 G F (.Break pos) σ Q := Ok.at (Ok.pure .brk (fun h => RF.mono h _ _) q)
theorem s_cont {pos : Pos} {Q : Fl → St → Prop} (q : Q .cont σ) : S1 G F (.Continue pos) σ Q := Ok.at (Ok.pure .cont (fun h => RF.mono h _ _) q)
theorem s_aug {x : Str} {np pos : Pos} {op : Operator} {value : Expr} {Q : Fl → St → Prop} (h : Ev G F (.Name x np) σ fun a σ₁ => Ev G F value σ₁ fun b σ₂ => Op2 G F (inplaceOp op) a b σ₂ fun c σ₃ => To G F (.Name x np) c σ₃ (Q .next))
    (hd : (x == ("__debug__" : Str)) = false := by decide) : S1 G F (.AugAssign (.Name x np) op value pos) σ Q := by
  show Ok G F RF PM.bot (exec (.AugAssign (.Name x np) op value pos) F.env) σ Q
  rw [exec_AugAssign_Name]
  have e : (do standAt np; let old ← loadName F.env x; let v ← holding [old] (eval value F.env); standAt pos; let new ← operate [old, v] (inplaceOp op old v); standAt np; bindName F.env x new; pure Flow.next) =
    (do let old ← eval (.Name x np) F.env; let v ← holding [old] (eval value F.env); standAt pos; let new ← operate [old, v] (inplaceOp op old v); assign (.Name x np) F.env new; pure Flow.next) := by
    rw [eval_Name _ _ _ hd]; rfl
  rw [e]
  refine Ok.bind h fun a σ₁ B₁ x₁ _ ha h => ?_
  refine Ok.bind (Ok.holding h.any) fun b σ₂ B₂ y hB hb h => ?_
  refine Ok.at (Ok.bind (Ok.operate (h _ _ _ (ha.mono hB) hb)) fun c σ₃ B₃ z hB' hc h => ?_)
  refine Ok.bind (h _ _ hc) fun _ σ₄ B₄ _ _ _ h => ?_
  exact Ok.pure .next (fun h => RF.mono h _ _) h
end
end Mine
end
section
open PySem PySem.Spec PySem.Calls PyProof.Rows PySem.W
set_option Elab.async false
set_option maxRecDepth 100000
set_option linter.unusedVariables false
namespace Mine
section
variable {G : Gl} {F : Fm} {σ : St}
-- ints
theorem op_add {a b : Int} {Q : V → St → Prop} (q : Q (.int (a + b)) σ) : Op2 G F (binaryOp .Add) (.int a) (.int b) σ Q := by
  intro B x y hx hy; cases hx; cases hy; exact ⟨fun B' hB s r => by with_reducible exact P.add_int (Post.mk r.toks (.int _ _) q)⟩
theorem op_iadd {a b : Int} {Q : V → St → Prop} (q : Q (.int (a + b)) σ) : Op2 G F (inplaceOp .Add) (.int a) (.int b) σ Q := by
  intro B x y hx hy; cases hx; cases hy; exact ⟨fun B' hB s r => by with_reducible exact P.iadd_int (Post.mk r.toks (.int _ _) q)⟩
theorem op_sub {a b : Int} {Q : V → St → Prop} (q : Q (.int (a - b)) σ) : Op2 G F (binaryOp .Sub) (.int a) (.int b) σ Q := by
  intro B x y hx hy; cases hx; cases hy; exact ⟨fun B' hB s r => by with_reducible exact P.sub_int (Post.mk r.toks (.int _ _) q)⟩
theorem op_isub {a b : Int} {Q : V → St → Prop} (q : Q (.int (a - b)) σ) : Op2 G F (inplaceOp .Sub) (.int a) (.int b) σ Q := by
  intro B x y hx hy; cases hx; cases hy; exact ⟨fun B' hB s r => by with_reducible exact P.isub_int (Post.mk r.toks (.int _ _) q)⟩
theorem op_mul {a b : Int} {Q : V → St → Prop} (q : Q (.int (a * b)) σ) (hm : IntMulOk a b) : Op2 G F (binaryOp .Mult) (.int a) (.int b) σ Q := by
  intro B x y hx hy; cases hx; cases hy; exact ⟨fun B' hB s r => by with_reducible exact P.mul_int (Post.mk r.toks (.int _ _) q) hm⟩
theorem op_mod {a b : Int} {Q : V → St → Prop} (q : Q (.int (a.fmod b)) σ) (hb : b ≠ 0) (hA : F.A.handled = none) : Op2 G F (binaryOp .Mod) (.int a) (.int b) σ Q := by
  intro B x y hx hy; cases hx; cases hy; exact ⟨fun B' hB s r => by with_reducible exact mod_int_or hA (fun e => absurd e hb) fun _ => Post.mk r.toks (.int _ _) q⟩
theorem op_div {a b : Int} {Q : V → St → Prop} (q : Q (.int (a.fdiv b)) σ) (hb : b ≠ 0) (hp : Builtin.divisionGoesByPylong a b = false) : Op2 G F (binaryOp .FloorDiv) (.int a) (.int b) σ Q := by
  intro B x y hx hy; cases hx; cases hy; exact ⟨fun B' hB s r => by with_reducible exact floordiv_int hb (Post.mk r.toks (.int _ _) q) (.inl hp)⟩
theorem op_shr1 {a : Int} {Q : V → St → Prop} (q : Q (.int (a / 2)) σ) (ha : 0 ≤ a) : Op2 G F (binaryOp .RShift) (.int a) (.int 1) σ Q := by
  intro B x y hx hy; cases hx; cases hy; exact ⟨fun B' hB s r => by with_reducible exact wpAny_rshift1_int ha (Post.mk r.toks (.int _ _) q)⟩
theorem op_neg {a : Int} {Q : V → St → Prop} (q : Q (.int (-a)) σ) : Op1 G F (unaryOp .USub) (.int a) σ Q := by
  intro B x hx; cases hx; exact ⟨fun B' hB s r => by with_reducible exact P.neg_int (Post.mk r.toks (.int _ _) q)⟩
theorem op_eqi {a b : Int} {Q : V → St → Prop} (q : Q (.v (.bool (a == b))) σ) : Op2 G F (compareOp .Eq) (.int a) (.int b) σ Q := by
  intro B x y hx hy; cases hx; cases hy; exact ⟨fun B' hB s r => by with_reducible exact P.eq_int (Post.mk r (.v _) q)⟩
theorem op_nei {a b : Int} {Q : V → St → Prop} (q : Q (.v (.bool (a != b))) σ) : Op2 G F (compareOp .NotEq) (.int a) (.int b) σ Q := by
  intro B x y hx hy; cases hx; cases hy; exact ⟨fun B' hB s r => by with_reducible exact P.ne_int (Post.mk r (.v _) q)⟩
theorem op_lti {a b : Int} {Q : V → St → Prop} (q : Q (.v (.bool (decide (a < b)))) σ) : Op2 G F (compareOp .Lt) (.int a) (.int b) σ Q := by
  intro B x y hx hy; cases hx; cases hy; exact ⟨fun B' hB s r => by with_reducible exact P.lt_int (Post.mk r (.v _) q)⟩
theorem op_gti {a b : Int} {Q : V → St → Prop} (q : Q (.v (.bool (decide (a > b)))) σ) : Op2 G F (compareOp .Gt) (.int a) (.int b) σ Q := by
  intro B x y hx hy; cases hx; cases hy; exact ⟨fun B' hB s r => by with_reducible exact P.gt_int (Post.mk r (.v _) q)⟩
theorem op_gei {a b : Int} {Q : V → St → Prop} (q : Q (.v (.bool (decide (a ≥ b)))) σ) : Op2 G F (compareOp .GtE) (.int a) (.int b) σ Q := by
  intro B x y hx hy; cases hx; cases hy; exact ⟨fun B' hB s r => by with_reducible exact P.ge_int (Post.mk r (.v _) q)⟩
-- texts
theorem op_eqs {a b : Str} {Q : V → St → Prop} (q : Q (.v (.bool (a == b))) σ) : Op2 G F (compareOp .Eq) (.str a) (.str b) σ Q := by
  intro B x y hx hy; cases hx; cases hy; exact ⟨fun B' hB s r => by with_reducible exact PyProof.Rows.eq_str (Post.mk r (.v _) q)⟩
theorem op_nes {a b : Str} {Q : V → St → Prop} (q : Q (.v (.bool (a != b))) σ) : Op2 G F (compareOp .NotEq) (.str a) (.str b) σ Q := by
  intro B x y hx hy; cases hx; cases hy; exact ⟨fun B' hB s r => by with_reducible exact PyProof.Rows.ne_str (Post.mk r (.v _) q)⟩
theorem op_cat {a b : Str} {Q : V → St → Prop} (q : Q (.str (a ++ b)) σ) (hz : a.length + b.length ≤ sizeLine) : Op2 G F (binaryOp .Add) (.str a) (.str b) σ Q := by
  intro B x y hx hy; cases hx; cases hy; exact ⟨fun B' hB s r => by with_reducible exact PyProof.Rows.add_str (fun _ _ => Post.mk r.toks (.str _ _) q) hz⟩
theorem op_icat {a b : Str} {Q : V → St → Prop} (q : Q (.str (a ++ b)) σ) (hz : a.length + b.length ≤ sizeLine) : Op2 G F (inplaceOp .Add) (.str a) (.str b) σ Q := by
  intro B x y hx hy; cases hx; cases hy; exact ⟨fun B' hB s r => by with_reducible exact PyProof.Rows.iadd_str (fun _ _ => Post.mk r.toks (.str _ _) q) hz⟩
theorem op_notins {a b : Str} {Q : V → St → Prop} (q : Q (.v (.bool (!(!(Builtin.Str.occurrences a b 0 a.length 1).isEmpty)))) σ) : Op2 G F (compareOp .NotIn) (.str b) (.str a) σ Q := by
  intro B x y hx hy; cases hx; cases hy; exact ⟨fun B' hB s r => by with_reducible exact PyProof.Rows.notIn_str (Post.mk r (.v _) q)⟩
-- None, True, False: the very thing
theorem op_isnone {a : V} {c : Bool} {Q : V → St → Prop} (q : Q (.v (.bool c)) σ) (h : ∀ B x, RV B a x → (x == .none) = c) : Op2 G F (compareOp .Is) a (.v .none) σ Q := by
  intro B x y hx hy; cases hy; exact ⟨fun B' hB s r => by with_reducible exact is_none (by rw [h B x hx]; exact Post.mk r (.v _) q)⟩
theorem none_is {B : PM} {x : Value} (h : RV B (.v .none) x) : (x == .none) = true := by cases h; rfl
theorem int_isnt {B : PM} {i : Int} {x : Value} (h : RV B (.int i) x) : (x == .none) = false := by cases h; rfl
theorem op_isbool {c d : Bool} {Q : V → St → Prop} (q : Q (.v (.bool (c == d))) σ) : Op2 G F (compareOp .Is) (.v (.bool c)) (.v (.bool d)) σ Q := by
  intro B x y hx hy; cases hx; cases hy
  refine ⟨fun B' hB s r => ?_⟩
  show wpAny _ _ (do return Value.bool (← isSame (Value.bool c) (Value.bool d)) : Sem Value) _ _ _
  have e : isSame (Value.bool c) (Value.bool d) = pure (c == d) := by cases c <;> cases d <;> rfl
  rw [e]
  exact wpAny_bind (wpAny_pure (wpAny_pure (Post.mk r (.v _) q)))
-- truth
theorem tt_bool {b : Bool} {Q : Bool → St → Prop} (q : Q b σ) : Truth G F (.v (.bool b)) σ Q := by
  intro B x hx; cases hx; exact ⟨fun B' hB s r => by with_reducible exact wpAny_truthy_bool (Post.mk r RB.rf q)⟩
theorem tt_str {x : Str} {Q : Bool → St → Prop} (q : Q ((x.length : Int) != 0) σ) (hz : x.length ≤ sizeLine) : Truth G F (.str x) σ Q := by
  intro B x hx; cases hx; exact ⟨fun B' hB s r => by with_reducible exact P.truthy_str (by rw [sizeLine_eq] at hz; omega) (Post.mk r.toks RB.rf q)⟩
theorem isEmpty_rvs {B : PM} {vs : List V} {xs : List Value} (h : RVs B vs xs) : (!xs.toArray.isEmpty) = !vs.isEmpty := by cases h <;> rfl
theorem tt_lst {vs : List V} {Q : Bool → St → Prop} (q : Q (!vs.isEmpty) σ) (hz : vs.length ≤ sizeLine) : Truth G F (.lst vs) σ Q := by
  intro B x hx
  cases hx with
  | lst h hr =>
    refine ⟨fun B' hB s r => wpAny_truthy_list ⟨_, r.keep _ _ (hB _ _ h), rfl, _, rfl⟩ (by rw [sizeLine_eq] at hz; have := hr.length; simp only [List.size_toArray]; omega) ?_⟩
    rw [isEmpty_rvs hr]; exact Post.mk r.toks RB.rf q
theorem tt_list {vs : List V} {a : Addr} {i : Nat} {Q : Bool → St → Prop} (hi : σ.hp[i]? = some (a, .list vs)) (q : Q (!vs.isEmpty) σ) (hz : vs.length ≤ sizeLine) : Truth G F (.v (.ref a)) σ Q := by
  intro B x hx; cases hx
  refine ⟨fun B' hB s r => ?_⟩
  obtain ⟨xs, hl, hr⟩ := r.hp _ (List.mem_of_getElem? hi)
  refine wpAny_truthy_list hl.isList (by rw [sizeLine_eq] at hz; have := hr.length; simp only [List.size_toArray]; omega) ?_
  rw [isEmpty_rvs hr]; exact Post.mk r.toks RB.rf q
theorem op_not {a : V} {Q : V → St → Prop} (h : Truth G F a σ fun c σ' => Q (.v (.bool (!c))) σ') : Op1 G F (unaryOp .Not) a σ Q := by
  intro B x hx
  refine ⟨fun B' hB s r => ?_⟩
  refine not_of (Ok.run (h B x hx) hB r fun c s' b σ' B'' h1 h2 h3 h4 => ?_)
  cases h3; exact ⟨_, σ', B'', h1, h2, .v _, h4⟩

-- displays and arguments
noncomputable abbrev EvL (G : Gl) (F : Fm) (p : Pos) (es : List Expr) (σ : St) (Q : List V → St → Prop) : Prop := Ok G F RVs PM.bot (spliced (backTo p (starEach es F.env))) σ Q
theorem el_nil {p : Pos} {Q : List V → St → Prop} (q : Q [] σ) : EvL G F p [] σ Q := Ok.pure .nil (fun h => RVs.mono h) q
theorem el_cons {p : Pos} {e : Expr} {es : List Expr} {Q : List V → St → Prop} (h : Ev G F e σ fun v σ₁ => EvL G F p es σ₁ fun vs σ₂ => Q (v :: vs) σ₂)
    (he : starEach (e :: es) F.env = (false, eval e F.env) :: starEach es F.env := by rfl) : EvL G F p (e :: es) σ Q := by
  show Ok G F RVs PM.bot (spliced (backTo p (starEach (e :: es) F.env))) σ Q
  rw [he]
  show Ok G F RVs PM.bot (do let v ← eval e F.env; let here ← pure [v]; return here ++ (← holding here (spliced (backTo p (starEach es F.env))))) σ Q
  refine Ok.bind h fun v σ₁ B₁ x _ hv h => ?_
  show Ok G F RVs B₁ (do return [x] ++ (← holding [x] (spliced (backTo p (starEach es F.env))))) σ₁ Q
  refine Ok.bind (Ok.holding h.any) fun vs σ₂ B₂ xs hB hvs h => ?_
  exact Ok.pure (.cons (hv.mono hB) hvs) (fun h => RVs.mono h) h
theorem ev_tuple {es : List Expr} {k : Nat} {p : Pos} {Q : V → St → Prop} (h : EvL G F p es σ fun vs σ₁ => vs.length ≤ sizeLine ∧ Q (.tup vs) σ₁) : Ev G F (.Tuple es k p) σ Q := by
  show Ok G F RV PM.bot (do standAt p; newTuple (← spliced (backTo p (starEach es F.env)))) σ Q
  refine Ok.at (Ok.bind h fun vs σ₁ B₁ xs _ hvs h => ?_)
  refine ⟨fun B' hB s r => wpAny_newObj_type ?_ (by show xs.toArray.size ≤ sizeLine; rw [List.size_toArray, hvs.length]; exact h.1)⟩
  obtain ⟨r', le⟩ := r.new (o := { cls := .type "tuple", data := .seq xs.toArray }) (s' := { s with heap := s.heap.push { cls := .type "tuple", data := .seq xs.toArray } }) rfl rfl rfl rfl
  exact Post.mk' le r' (.tup PM.put_self (hvs.mono (hB.tr le))) h.2
theorem ev_list {es : List Expr} {p : Pos} {Q : V → St → Prop} (h : EvL G F p es σ fun vs σ₁ => vs.length ≤ sizeLine ∧ Q (.lst vs) σ₁) : Ev G F (.List es p) σ Q := by
  show Ok G F RV PM.bot (do standAt p; newList (← spliced (backTo p (starEach es F.env)))) σ Q
  refine Ok.at (Ok.bind h fun vs σ₁ B₁ xs _ hvs h => ?_)
  refine ⟨fun B' hB s r => wpAny_newObj_type ?_ (by show xs.toArray.size ≤ sizeLine; rw [List.size_toArray, hvs.length]; exact h.1)⟩
  obtain ⟨r', le⟩ := r.new (o := { cls := .type "list", data := .seq xs.toArray }) (s' := { s with heap := s.heap.push { cls := .type "list", data := .seq xs.toArray } }) rfl rfl rfl rfl
  exact Post.mk' le r' (.lst PM.put_self (hvs.mono (hB.tr le))) h.2
/-- a list display that is to be changed: an own object -/
theorem ev_listO {es : List Expr} {p : Pos} {Q : V → St → Prop} (h : EvL G F p es σ fun vs σ₁ => vs.length ≤ sizeLine ∧ ∀ a, Q (.v (.ref a)) { σ₁ with hp := (a, .list vs) :: σ₁.hp }) : Ev G F (.List es p) σ Q := by
  show Ok G F RV PM.bot (do standAt p; newList (← spliced (backTo p (starEach es F.env)))) σ Q
  refine Ok.at (Ok.bind h fun vs σ₁ B₁ xs _ hvs h => ?_)
  refine ⟨fun B' hB s r => wpAny_newObj_type ?_ (by show xs.toArray.size ≤ sizeLine; rw [List.size_toArray, hvs.length]; exact h.1)⟩
  have r' := r.newOwn (o := { cls := .type "list", data := .seq xs.toArray }) (x := .list vs) (s' := { s with heap := s.heap.push { cls := .type "list", data := .seq xs.toArray } }) rfl rfl rfl
    ⟨xs, ⟨0, Heap.get?_push_size _ rfl⟩, hvs.mono hB⟩
  exact Post.mk r' (.v _) (h.2 _)
-- calls
theorem ev_call {f : Expr} {as : List Expr} {p : Pos} {Q : V → St → Prop} (h : Ev G F f σ fun g σ₁ => ∀ B x, RV B g x → Ok G F RV B (callWith p x [] (backTo p (starEach as F.env)) []) σ₁ Q)
    (he : eval (.Call f as [] p) F.env = (do callWith p (← eval f F.env) [] (backTo p (starEach as F.env)) (backToKw p (keywordEach [] F.env))) := by rfl) : Ev G F (.Call f as [] p) σ Q := by
  show Ok G F RV PM.bot (eval (.Call f as [] p) F.env) σ Q
  rw [he]
  exact Ok.bind h fun g σ₁ B₁ x _ hg h => h _ _ hg
/-- how a callee is entered from a call's node -/
inductive CalleeOk (G : Gl) : Value → Prop
  | fn {a : Addr} {o : Obj} {fd : FuncData} : G.base a = some o → o.data = .func fd → CalleeOk G (.ref a)
  | builtin {id : String} : CalleeOk G (.builtin id)
  | type {T : String} : CalleeOk G (.type T)
theorem cw {f : Value} {e : Expr} {as : List Expr} {p : Pos} {Q : V → St → Prop} (hf : CalleeOk G f) (h : EvL G F p (e :: as) σ fun vs σ₁ => Cl G F f vs σ₁ Q)
    (he : starEach (e :: as) F.env = (false, eval e F.env) :: starEach as F.env := by rfl) (hplain : (backTo p (starEach as F.env)).any (·.1) = false := by rfl) :
    ∀ B x, RV B (.v f) x → Ok G F RV B (callWith p x [] (backTo p (starEach (e :: as) F.env)) []) σ Q := by
  intro B x hx
  refine ⟨fun B' hB s r => ?_⟩
  cases hx
  have h' : wpAny (model G.prog G.w) F.A (spliced (backTo p (starEach (e :: as) F.env))) (fun vs s₁ => (∀ b o, G.base b = some o → s₁.heap.get? b = some o) ∧ wpAny (model G.prog G.w) F.A (call f vs) (Post G F RV B' Q) (fun _ _ => False) s₁) (fun _ _ => False) s :=
    Ok.run h PM.bot_le r fun xs s' vs σ' B'' h1 h2 h3 h4 => ⟨fun b o e => h2.keep b o (h2.base b o e), wpAny_mono ((h4 B'' xs h3).go B'' .rf s' h2) (fun _ _ p => Post.up h1 p) fun _ _ e => e⟩
  cases hf with
  | fn h0 hd => exact callWith_def hd (wpAny_mono h' (fun vs s₁ h => ⟨h.1 _ _ h0, h.2⟩) fun _ _ e => e) he
  | builtin => exact PyProof.Rows.callWith_builtin1 (wpAny_mono h' (fun vs s₁ h => h.2) fun _ _ e => e) he hplain
  | type => exact PyProof.Rows.callWith_type1 (wpAny_mono h' (fun vs s₁ h => h.2) fun _ _ e => e) he hplain
theorem ev_callG {x : Str} {np p : Pos} {f : Value} {e : Expr} {as : List Expr} {Q : V → St → Prop} (hv : GlobV G x f) (hf : CalleeOk G f) (h : EvL G F p (e :: as) σ fun vs σ₁ => Cl G F f vs σ₁ Q)
    (hk : F.env.scope.kind = .function := by rfl) (hl : F.env.kindOf x = some .globalImplicit := by rfl) (hg : F.env.globals = mainGlobals := by rfl) (hb : F.env.builtins = builtinsNs := by rfl)
    (hd : (x == ("__debug__" : Str)) = false := by decide)
    (he : starEach (e :: as) F.env = (false, eval e F.env) :: starEach as F.env := by rfl) (hplain : (backTo p (starEach as F.env)).any (·.1) = false := by rfl) : Ev G F (.Call (.Name x np) (e :: as) [] p) σ Q :=
  ev_call (ev_glob hv (cw hf h he hplain) hk hl hg hb hd)
end
end Mine
end
section
open PySem PySem.Spec PySem.Calls PyProof.Rows PySem.W
set_option Elab.async false
set_option maxRecDepth 100000
set_option linter.unusedVariables false
namespace Mine
section
variable {G : Gl} {F : Fm} {σ : St}
/-- of what built-in type a value is -/
noncomputable def Ty (G : Gl) (F : Fm) (σ : St) (a : V) (T : String) : Prop := ∀ B s x, Rel G F B σ s → RV B a x → s.TypeIs x T ∧ ∀ b, x = .ref b → ∃ o, s.heap.get? b = some o ∧ o.dict = none
theorem ty_str {x : Str} : Ty G F σ (.str x) "str" := fun B s y r h => by cases h; exact ⟨typeIs_str _ _ _, fun _ e => nomatch e⟩
theorem ty_int {x : Int} : Ty G F σ (.int x) "int" := fun B s y r h => by cases h; exact ⟨typeIs_int _ _ _, fun _ e => nomatch e⟩
theorem ty_lst {vs : List V} : Ty G F σ (.lst vs) "list" := fun B s y r h => by
  cases h with
  | lst h hr => exact ⟨⟨_, r.keep _ _ h, rfl⟩, fun b e => by cases e; exact ⟨_, r.keep _ _ h, rfl⟩⟩
theorem ty_tup {vs : List V} : Ty G F σ (.tup vs) "tuple" := fun B s y r h => by
  cases h with
  | tup h hr => exact ⟨⟨_, r.keep _ _ h, rfl⟩, fun b e => by cases e; exact ⟨_, r.keep _ _ h, rfl⟩⟩
theorem ty_list {a : Addr} {vs : List V} {i : Nat} (hi : σ.hp[i]? = some (a, .list vs)) : Ty G F σ (.v (.ref a)) "list" := fun B s y r h => by
  cases h
  obtain ⟨xs, ⟨n, hl⟩, _⟩ := r.hp _ (List.mem_of_getElem? hi)
  exact ⟨⟨_, hl, rfl⟩, fun b e => by cases e; exact ⟨_, hl, rfl⟩⟩
theorem ty_dict {a : Addr} {kvs : List (Int × Int)} {i : Nat} (hi : σ.hp[i]? = some (a, .dict kvs)) : Ty G F σ (.v (.ref a)) "dict" := fun B s y r h => by
  cases h
  obtain ⟨xs, hd, _⟩ := r.hp _ (List.mem_of_getElem? hi)
  refine ⟨hd.typeIs, fun b e => ?_⟩
  cases e
  obtain ⟨o, _, _, ho, hx, _⟩ := hd
  exact ⟨o, ho, hx.2.1⟩
structure MethOk (T : String) (name : Str) (id : String) : Prop where
  pa : PlainAttrs T
  slot : Slot T name id
  ty : typeOf (.builtin id) = pure (.type "method_descriptor")
theorem ev_meth {o : Expr} {name : Str} {apos pos : Pos} {e : Expr} {es : List Expr} {T id : String} {Q : V → St → Prop} (M : MethOk T name id)
    (h : Ev G F o σ fun a σ₁ => Ty G F σ₁ a T ∧ EvL G F pos (e :: es) σ₁ fun vs σ₂ => Cl G F (.builtin id) (a :: vs) σ₂ Q)
    (hbase : attributeBase o name F.env (eval o F.env) = eval o F.env := by rfl)
    (hfew : ((backTo pos (starEach (e :: es) F.env)).all (fun x => !x.1) && (backToKw pos (keywordEach [] F.env)).all (fun x => x.1.isSome)
      && decide ((e :: es).length + ([] : List Keyword).length + (if ([] : List Keyword).isEmpty then 0 else 1) < 30)) = true := by rfl)
    (hline : (apos.endLine == pos.line) = true := by rfl)
    (he : starEach (e :: es) F.env = (false, eval e F.env) :: starEach es F.env := by rfl) (hplain : (backTo pos (starEach es F.env)).any (·.1) = false := by rfl) :
    Ev G F (.Call (.Attribute o name apos) (e :: es) [] pos) σ Q := ⟨fun B hB s r => by
  refine wpAny_Call_method hbase hfew hline M.pa M.slot M.ty (Ok.run h hB r fun x s₁ a σ₁ B₁ h1 h2 h3 h4 => ?_)
  obtain ⟨t1, t2⟩ := h4.1 B₁ s₁ x h2 h3
  refine ⟨t1, t2, PyProof.Rows.callWith_method1 ?_ he hplain⟩
  refine Ok.run h4.2 PM.bot_le h2 fun xs s₂ vs σ₂ B₂ g1 g2 g3 g4 => ?_
  exact wpAny_mono ((g4 B₂ (x :: xs) (.cons (h3.mono g1) g3)).go B₂ .rf s₂ g2) (fun _ _ p => Post.up (h1.tr g1) p) fun _ _ e => e⟩
theorem ev_meth0 {o : Expr} {name : Str} {apos pos : Pos} {T id : String} {Q : V → St → Prop} (M : MethOk T name id)
    (h : Ev G F o σ fun a σ₁ => Ty G F σ₁ a T ∧ Cl G F (.builtin id) [a] σ₁ Q)
    (hbase : attributeBase o name F.env (eval o F.env) = eval o F.env := by rfl)
    (hline : (apos.endLine == pos.line) = true := by rfl) :
    Ev G F (.Call (.Attribute o name apos) [] [] pos) σ Q := ⟨fun B hB s r => by
  refine wpAny_Call_method hbase rfl hline M.pa M.slot M.ty (Ok.run h hB r fun x s₁ a σ₁ B₁ h1 h2 h3 h4 => ?_)
  obtain ⟨t1, t2⟩ := h4.1 B₁ s₁ x h2 h3
  refine ⟨t1, t2, PyProof.Rows.callWith_method0 ?_⟩
  exact wpAny_mono ((h4.2 B₁ [x] (.one h3)).go B₁ .rf s₁ h2) (fun _ _ p => Post.up h1 p) fun _ _ e => e⟩

-- subscripts
theorem ev_sub {value slice : Expr} {pos : Pos} {T id : String} {Q : V → St → Prop} (hl : typeLookup (.type T) "__getitem__" = pure (some (.builtin id)))
    (h : Ev G F value σ fun a σ₁ => Ev G F slice σ₁ fun i σ₂ => Ty G F σ₂ a T ∧ Op2 G F getItem a i σ₂ Q)
    (hs : ∀ o i, ∃ ops, subscripted slice false o i = operate ops (getItem o i) := by exact fun o i => ⟨_, by with_unfolding_all rfl⟩) : Ev G F (.Subscript value slice pos) σ Q := ⟨fun B hB s r => by
  refine Subscript_ (Ok.run h hB r fun x s₁ a σ₁ B₁ h1 h2 h3 h4 => Ok.run h4 PM.bot_le h2 fun y s₂ i σ₂ B₂ g1 g2 g3 g4 => ?_)
  obtain ⟨ops, e⟩ := hs x y
  refine tail_any (g4.1 B₂ s₂ x g2 (h3.mono g1)).1 hl ?_ e
  exact wpAny_mono ((g4.2 B₂ x y (h3.mono g1) g3).go B₂ .rf s₂ g2) (fun _ _ p => Post.up (h1.tr g1) p) fun _ _ e => e⟩
theorem gi_lst {vs : List V} {k : Int} {v : V} {Q : V → St → Prop} (h0 : 0 ≤ k) (hx : vs[k.toNat]? = some v) (q : Q v σ) (hz : vs.length ≤ sizeLine) : Op2 G F getItem (.lst vs) (.int k) σ Q := by
  intro B x y hx' hy
  cases hy
  cases hx' with
  | lst hb hr =>
    refine ⟨fun B' hB s r => ?_⟩
    obtain ⟨u, e1, e2⟩ := (hr.mono hB).get hx
    have : k.toNat < vs.length := (List.getElem?_eq_some_iff.mp hx).1
    exact wpAny_getItem_list ⟨_, r.keep _ _ (hB _ _ hb), rfl, _, rfl⟩ h0 (by rw [sizeLine_eq] at hz; omega) (by simpa using e1) (Post.mk r e2 q)
theorem gi_lstN {vs : List V} {k : Int} {v : V} {Q : V → St → Prop} (h0 : k < 0) (h1 : -(vs.length : Int) ≤ k) (hx : vs[(k + vs.length).toNat]? = some v) (q : Q v σ) (hz : vs.length ≤ sizeLine) : Op2 G F getItem (.lst vs) (.int k) σ Q := by
  intro B x y hx' hy
  cases hy
  cases hx' with
  | lst hb hr =>
    refine ⟨fun B' hB s r => ?_⟩
    obtain ⟨u, e1, e2⟩ := (hr.mono hB).get hx
    have hl := hr.length
    exact wpAny_getItem_list_neg ⟨_, r.keep _ _ (hB _ _ hb), rfl, _, rfl⟩ h0 (by simp only [List.size_toArray]; omega) (by rw [sizeLine_eq] at hz; omega) (by simpa [hl] using e1) (Post.mk r e2 q)
theorem gi_list {a : Addr} {i : Nat} {vs : List V} {k : Int} {v : V} {Q : V → St → Prop} (hi : σ.hp[i]? = some (a, .list vs)) (h0 : 0 ≤ k) (hx : vs[k.toNat]? = some v) (q : Q v σ) (hz : vs.length ≤ sizeLine) : Op2 G F getItem (.v (.ref a)) (.int k) σ Q := by
  intro B x y hx' hy
  cases hy
  cases hx'
  refine ⟨fun B' hB s r => ?_⟩
  obtain ⟨xs, hl, hr⟩ := r.hp _ (List.mem_of_getElem? hi)
  obtain ⟨u, e1, e2⟩ := hr.get hx
  have : k.toNat < vs.length := (List.getElem?_eq_some_iff.mp hx).1
  exact wpAny_getItem_list hl.isList h0 (by rw [sizeLine_eq] at hz; omega) (by simpa using e1) (Post.mk r e2 q)
theorem gi_listN {a : Addr} {i : Nat} {vs : List V} {k : Int} {v : V} {Q : V → St → Prop} (hi : σ.hp[i]? = some (a, .list vs)) (h0 : k < 0) (h1 : -(vs.length : Int) ≤ k) (hx : vs[(k + vs.length).toNat]? = some v) (q : Q v σ) (hz : vs.length ≤ sizeLine) : Op2 G F getItem (.v (.ref a)) (.int k) σ Q := by
  intro B x y hx' hy
  cases hy
  cases hx'
  refine ⟨fun B' hB s r => ?_⟩
  obtain ⟨xs, hl, hr⟩ := r.hp _ (List.mem_of_getElem? hi)
  obtain ⟨u, e1, e2⟩ := hr.get hx
  have hl' := hr.length
  exact wpAny_getItem_list_neg hl.isList h0 (by simp only [List.size_toArray]; omega) (by rw [sizeLine_eq] at hz; omega) (by simpa [hl'] using e1) (Post.mk r e2 q)
theorem gi_tup {vs : List V} {k : Int} {v : V} {Q : V → St → Prop} (h0 : 0 ≤ k) (hx : vs[k.toNat]? = some v) (q : Q v σ) (hz : vs.length ≤ sizeLine) : Op2 G F getItem (.tup vs) (.int k) σ Q := by
  intro B x y hx' hy
  cases hy
  cases hx' with
  | tup hb hr =>
    refine ⟨fun B' hB s r => ?_⟩
    obtain ⟨u, e1, e2⟩ := (hr.mono hB).get hx
    have hlt : k.toNat < vs.length := (List.getElem?_eq_some_iff.mp hx).1
    have hl := hr.length
    refine getItem_tuple ⟨_, r.keep _ _ (hB _ _ hb), rfl, _, rfl⟩ (by omega) (by rw [sizeLine_eq] at hz; omega) (j := k.toNat) ?_ (by simpa using e1) (Post.mk r e2 q)
    exact seqIndex_of h0 (by simp only [List.size_toArray]; omega)
theorem part_of {o : Option Int} {v : Value} (h : Part o v) : IsPart v o := by cases h <;> constructor
noncomputable def clipPicks (l u st : Option Int) (n : Nat) : List Nat := sliceRange (sliceBounds l u st n).1 (sliceBounds l u st n).2.1 (sliceBounds l u st n).2.2
theorem picks_rvs {B : PM} {vs : List V} {xs : List Value} (h : RVs B vs xs) : ∀ l : List Nat, RVs B (l.filterMap (vs[·]?)) (l.filterMap (xs[·]?))
  | [] => .nil
  | i :: l => by
    cases e : vs[i]? with
    | none =>
      have : xs[i]? = none := by rw [List.getElem?_eq_none_iff] at e ⊢; rw [h.length]; exact e
      simp only [List.filterMap_cons, e, this]; exact picks_rvs h l
    | some v =>
      obtain ⟨x, e1, e2⟩ := h.get e
      simp only [List.filterMap_cons, e, e1]; exact .cons e2 (picks_rvs h l)
theorem gi_slice {vs : List V} {l u st : Option Int} {Q : V → St → Prop} (h0 : st ≠ some 0) (q : Q (.lst ((clipPicks l u st vs.length).filterMap (vs[·]?))) σ) (hz : vs.length ≤ sizeLine) : Op2 G F getItem (.lst vs) (.sl l u st) σ Q := by
  intro B x y hx' hy
  cases hy with
  | sl hs pl pu ps =>
    cases hx' with
    | @lst la _ xs n hb hr =>
      rename_i sa vl vu vst
      refine ⟨fun B' hB s r => ?_⟩
      refine wpAny_getItem_list_slice ⟨_, r.keep _ _ (hB _ _ hb), rfl, _, rfl⟩ ⟨_, r.keep _ _ (hB _ _ hs), rfl, rfl⟩ (part_of pl) (part_of pu) (part_of ps) h0 ?_ (by simp only [List.size_toArray, hr.length]; exact hz)
      obtain ⟨r', le⟩ := r.new (o := { cls := .type "list", data := .seq (slicePick xs.toArray l u st) }) (s' := { s with heap := s.heap.push { cls := .type "list", data := .seq (slicePick xs.toArray l u st) } }) rfl rfl rfl rfl
      refine Post.mk' le r' (.lst (xs := (clipPicks l u st vs.length).filterMap (xs[·]?)) (n := 0) ?_ (picks_rvs (hr.mono (hB.tr le)) _)) q
      rw [PM.put_self]
      unfold slicePick clipPicks
      rw [List.size_toArray, hr.length]; simp
/-- a part of a slice -/
theorem ev_part {o : Option Expr} {Q : Option Int → St → Prop} (h : match o with | none => Q none σ | some e => Ev G F e σ fun a σ₁ => ∃ i, a = .int i ∧ Q (some i) σ₁) :
    Ok G F (fun _ o v => Part o v) PM.bot (valueOrNone (evalOpt o F.env)) σ Q := by
  cases o with
  | none => exact Ok.pure Part.none (fun _ h => h) h
  | some e =>
    refine ⟨fun B hB s r => Ok.run (show Ev G F e σ _ from h) hB r fun x s₁ a σ₁ B₁ h1 h2 h3 h4 => ?_⟩
    obtain ⟨i, rfl, q⟩ := h4
    cases h3
    exact Post.mk' h1 h2 (.int i _) q
theorem ev_slice {l u st : Option Expr} {p : Pos} {Q : V → St → Prop}
    (h : Ok G F (fun _ o v => Part o v) PM.bot (valueOrNone (evalOpt l F.env)) σ fun a σ₁ => Ok G F (fun _ o v => Part o v) PM.bot (valueOrNone (evalOpt u F.env)) σ₁ fun b σ₂ => Ok G F (fun _ o v => Part o v) PM.bot (valueOrNone (evalOpt st F.env)) σ₂ fun c σ₃ => Q (.sl a b c) σ₃) :
    Ev G F (.Slice l u st p) σ Q := by
  show Ok G F RV PM.bot (do
    let l ← valueOrNone (evalOpt l F.env)
    let u ← holding [l] (valueOrNone (evalOpt u F.env))
    let s ← holding [l, u] (valueOrNone (evalOpt st F.env))
    newFields "slice" [l, u, s]) σ Q
  refine Ok.bind h fun a σ₁ B₁ x _ ha h => ?_
  refine Ok.bind (Ok.holding h.any) fun b σ₂ B₂ y hB hb h => ?_
  refine Ok.bind (Ok.holding h.any) fun c σ₃ B₃ z hB' hc h => ?_
  refine ⟨fun B' hB s r => wpAny_newObj_type ?_⟩
  obtain ⟨r', le⟩ := r.new (o := { cls := .type "slice", data := .fields #[x, y, z] }) (s' := { s with heap := s.heap.push { cls := .type "slice", data := .fields #[x, y, z] } }) rfl rfl rfl rfl
  exact Post.mk' le r' (.sl PM.put_self ha hb hc) h
end
end Mine
end
section
open PySem PySem.Spec PySem.Calls PyProof.Rows PySem.W PySem.MeetsSeq
set_option Elab.async false
set_option maxRecDepth 100000
set_option linter.unusedVariables false
namespace Mine
section
variable {G : Gl} {F : Fm} {σ : St}
theorem cl_append {a : Addr} {vs : List V} {v : V} {i : Nat} {Q : V → St → Prop} (hi : σ.hp[i]? = some (a, .list vs)) (q : Q (.v .none) { σ with hp := σ.hp.set i (a, .list (vs ++ [v])) }) (hz : vs.length ≤ sizeLine) :
    Cl G F (.builtin "list.append") [.v (.ref a), v] σ Q := by
  intro B zs hzs
  cases hzs with
  | cons h1 h2 =>
    cases h1
    cases h2 with
    | @cons _ x _ _ hv h3 =>
      cases h3
      refine ⟨fun B' hB s r => ?_⟩
      obtain ⟨xs, hl, hr⟩ := r.hp _ (List.mem_of_getElem? hi)
      refine wpAny_list_append_plain hl (fun h' hl' hs => ?_) (by simp only [List.size_toArray, hr.length]; exact hz)
      refine Post.mk (r.turn hi (s' := { s with heap := h' }) (fun b hb o e => (hs.2 b hb).trans e) rfl rfl ?_) (.v _) q
      exact ⟨xs ++ [x], by simpa using hl', hr.app (.one (hv.mono hB))⟩
theorem erase_last {α : Type} (p : List α) (y : α) : ((p ++ [y]).toArray).eraseIdxIfInBounds ((p ++ [y]).toArray.size - 1) = p.toArray := by
  have h : (p ++ [y]).toArray.size - 1 = p.length := by simp
  rw [h]
  unfold Array.eraseIdxIfInBounds
  rw [dif_pos (by simp)]
  apply Array.toList_inj.mp
  simp [List.eraseIdx_append_of_length_le]
theorem rvs_snoc {B : PM} {vs : List V} {v : V} {xs : List Value} (h : RVs B (vs ++ [v]) xs) : ∃ ys y, xs = ys ++ [y] ∧ RVs B vs ys ∧ RV B v y := by
  obtain ⟨ys, zs, e, h1, h2⟩ := h.split
  cases h2 with
  | cons h2 h3 => cases h3; exact ⟨ys, _, e, h1, h2⟩
theorem cl_pop {a : Addr} {vs : List V} {v : V} {i : Nat} {Q : V → St → Prop} (hi : σ.hp[i]? = some (a, .list (vs ++ [v]))) (q : Q v { σ with hp := σ.hp.set i (a, .list vs) }) (hz : vs.length < sizeLine) :
    Cl G F (.builtin "list.pop") [.v (.ref a)] σ Q := by
  intro B zs hzs
  cases hzs with
  | cons h1 h2 =>
    cases h1
    cases h2
    refine ⟨fun B' hB s r => ?_⟩
    obtain ⟨xs, ⟨n, hl⟩, hr⟩ := r.hp _ (List.mem_of_getElem? hi)
    obtain ⟨ys, y, rfl, hr1, hr2⟩ := rvs_snoc hr
    have hy : (ys ++ [y]).toArray[(ys ++ [y]).toArray.size - 1]? = some y := by simp
    have hs1 : (ys ++ [y]).toArray.size ≤ sizeLine := by simp only [List.size_toArray, List.length_append, hr1.length, List.length_cons, List.length_nil]; omega
    refine call_meets PySem.F.slot_list_pop ⟨_, hl, rfl⟩ PySem.F.entry_list_pop (PySem.F.args_list_pop_1 _) (PySem.MeetsSeq.list_pop_last a _ n y hy hs1) ⟨hl, ?_⟩
    refine Post.mk (r.turn hi (s' := { s with heap := s.heap.update a (Obj.mapSeq fun xs => xs.eraseIdxIfInBounds ((ys ++ [y]).toArray.size - 1)) }) (fun b hb o e => ((Heap.SameBut.update s.heap a _).2 b hb).trans e) rfl rfl ?_) hr2 q
    have u := IsL.update hl (fun xs => xs.eraseIdxIfInBounds ((ys ++ [y]).toArray.size - 1))
    rw [erase_last] at u
    exact ⟨ys, ⟨_, u⟩, hr1⟩
noncomputable def Set3 (G : Gl) (F : Fm) (a k v : V) (σ : St) (Q : St → Prop) : Prop := ∀ B x y z, RV B a x → RV B k y → RV B v z → Ok G F RU B (setItem x y z) σ (fun _ => Q)
theorem to_sub {o i : Expr} {pos : Pos} {v : V} {Q : St → Prop} (h : Ev G F o σ fun a σ₁ => Ev G F i σ₁ fun k σ₂ => Set3 G F a k v σ₂ Q) : To G F (.Subscript o i pos) v σ Q := by
  intro B x hx
  show Ok G F RU B (do
    let ov ← holding [x] (eval o F.env)
    let iv ← holding [x, ov] (eval i F.env)
    standAt pos
    holding [x, ov, iv] (setItem ov iv x)
    release (match (generalizing := false) i with | .Slice _ _ none _ => [iv, x, ov] | _ => [x, ov, iv]) []) σ _
  refine Ok.bind (Ok.holding h.any) fun a σ₁ B₁ y hB ha h => ?_
  refine Ok.bind (Ok.holding h.any) fun k σ₂ B₂ z hB' hk h => ?_
  refine Ok.at (Ok.bind (Ok.holding (h _ _ _ _ (ha.mono hB') hk (hx.mono (hB.tr hB')))) fun _ σ₃ B₃ _ _ _ h => ?_)
  exact ⟨fun B' _ s r => wpAny_release (Post.mk (R := RU) (b := ()) r trivial h)⟩
theorem set_list {a : Addr} {vs : List V} {v : V} {k : Int} {i : Nat} {Q : St → Prop} (hi : σ.hp[i]? = some (a, .list vs)) (h0 : 0 ≤ k) (hk : k < vs.length) (q : Q { σ with hp := σ.hp.set i (a, .list (vs.set k.toNat v)) }) (hz : vs.length ≤ sizeLine) :
    Set3 G F (.v (.ref a)) (.int k) v σ Q := by
  intro B x y z hx hy hv
  cases hx
  cases hy with
  | int _ t =>
    refine ⟨fun B' hB s r => ?_⟩
    obtain ⟨xs, ⟨n, hl⟩, hr⟩ := r.hp _ (List.mem_of_getElem? hi)
    have hT : s.TypeIs (.ref a) "list" := ⟨_, hl, rfl⟩
    have hlen := hr.length
    unfold setItem
    try with_reducible refine wpAny_holding ?_
    first | refine wpAny_bind (wpAny_pure ?_) | skip
    refine wpAny_bind (wpAny_sequenceKey hT (by decide) ?_)
    refine wpAny_bind (wpAny_callSpecial?_slot (name := Str.ofString "__setitem__") hT slot_list_setitem (wpAny_call_entry slot_list_setitem hT entry_list_setitem ?_ (args_list_setitem _ _ _)))
    show wpAny _ _ (Builtin.List.listSubscript? (.int k t) >>= _) _ _ s
    refine wpAny_bind (wpAny_listSubscript_int (fitsIndex_of h0 (by rw [sizeLine_eq] at hz; omega)) ?_)
    obtain ⟨j, rfl⟩ := Int.eq_ofNat_of_zero_le h0
    have hj : j < xs.toArray.size := by simp only [List.size_toArray]; omega
    have hx' : xs.toArray[j]? = some xs.toArray[j] := Array.getElem?_eq_getElem hj
    show wpAny _ _ ((seqItemAt a j >>= fun r => pure (r.map (j, ·))) >>= _) _ _ s
    refine wpAny_bind (wpAny_bind (wpAny_seqItemAt hl rfl (wpAny_pure ?_)))
    rw [hx']
    show wpAny _ _ (setSeqItemAt a j z >>= _) _ _ s
    have fin : Post G F RU B' (fun _ => Q) () { s with heap := s.heap.update a (Obj.mapSeq (·.setIfInBounds j z)) } := by
      refine Post.mk (R := RU) (b := ()) (r.turn hi (s' := { s with heap := s.heap.update a (Obj.mapSeq (·.setIfInBounds j z)) }) (fun b hb o e => ((Heap.SameBut.update s.heap a _).2 b hb).trans e) rfl rfl (y := .list (vs.set j v)) ?_) trivial q
      have u := IsL.update hl (fun xs => xs.setIfInBounds j z)
      exact ⟨xs.set j z, ⟨_, by simpa using u⟩, hr.set (hv.mono hB)⟩
    refine wpAny_bind (wpAny_setSeqItemAt hl rfl ?_)
    first
      | exact wpAny_bind (wpAny_pure (wpAny_pure ⟨.none, rfl, wpAny_pure fin⟩))
      | exact wpAny_pure ⟨.none, rfl, wpAny_pure fin⟩
-- two lists: +, ==
theorem op_addl {vs ws : List V} {Q : V → St → Prop} (q : Q (.lst (vs ++ ws)) σ) (hz : vs.length + ws.length ≤ sizeLine) : Op2 G F (binaryOp .Add) (.lst vs) (.lst ws) σ Q := by
  intro B x y hx hy
  cases hx with
  | @lst a _ xs n hb hr =>
    cases hy with
    | @lst b _ ys m hb' hr' =>
      refine ⟨fun B' hB s r => ?_⟩
      have ha := r.keep _ _ (hB _ _ hb)
      have hb2 := r.keep _ _ (hB _ _ hb')
      refine concat_meets ⟨_, ha, rfl⟩ ⟨_, hb2, rfl⟩ noFill_list_add seq_list_add PySem.F.slot_list_add PySem.F.entry_list_add (PySem.F.args_list_add_2 _ _) (list_addW a b xs.toArray ys.toArray n m none none #[] #[] (by simp only [List.size_toArray, hr.length, hr'.length]; exact hz)) ⟨ha, hb2, ?_⟩
      obtain ⟨r', le⟩ := r.new (o := { cls := .type "list", data := .seq (xs.toArray ++ ys.toArray) }) (s' := { s with heap := s.heap.push { cls := .type "list", data := .seq (xs.toArray ++ ys.toArray) } }) rfl rfl rfl rfl
      refine Post.mk' le r' (.lst (xs := xs ++ ys) (n := 0) ?_ ((hr.app hr').mono (hB.tr le))) q
      rw [PM.put_self]; simp
/-- equality of data, where the layer knows it -/
noncomputable def veq : V → V → Option Bool
  | .int a, .int b => some (a == b)
  | .str a, .str b => some (a.cps.toList == b.cps.toList)
  | _, _ => none
theorem eqGives_of {B : PM} {a b : V} {x y : Value} {c : Bool} (hx : RV B a x) (hy : RV B b y) (h : veq a b = some c) : EqGives x y c := by
  cases hx <;> cases hy <;> simp only [veq] at h <;> first | (cases h; first | exact EqGives.int _ _ _ _ | exact SeqRoads2.EqGives.str _ _ _ _) | cases h
noncomputable def veqs : List V → List V → Option (List Bool)
  | [], [] => some []
  | a :: as, b :: bs => match veq a b, veqs as bs with
    | some c, some cs => some (c :: cs)
    | _, _ => none
  | _, _ => none
theorem veqs_len : ∀ {vs ws : List V} {cs : List Bool}, veqs vs ws = some cs → vs.length = ws.length ∧ cs.length = vs.length
  | [], [], _, h => by cases h; exact ⟨rfl, rfl⟩
  | a :: as, b :: bs, cs, h => by
    unfold veqs at h
    split at h
    · rename_i c cs' _ e2
      cases h
      have := veqs_len e2
      simp [this.1, this.2]
    · cases h
  | [], _ :: _, _, h => by cases h
  | _ :: _, [], _, h => by cases h
theorem veqs_at {B : PM} : ∀ {vs ws : List V} {cs : List Bool} {xs ys : List Value}, veqs vs ws = some cs → RVs B vs xs → RVs B ws ys → ∀ j (h1 : j < xs.length) (h2 : j < ys.length), EqGives xs[j] ys[j] (cs.getD j false)
  | [], [], _, _, _, _, .nil, .nil, _, h1, _ => absurd h1 (Nat.not_lt_zero _)
  | a :: as, b :: bs, cs, _, _, h, .cons ha hr, .cons hb hr', j, h1, h2 => by
    unfold veqs at h
    split at h
    · rename_i c cs' e1 e2
      cases h
      cases j with
      | zero => exact eqGives_of ha hb e1
      | succ j => exact veqs_at e2 hr hr' j (by simpa using h1) (by simpa using h2)
    · cases h
theorem op_eql {vs ws : List V} {cs : List Bool} {Q : V → St → Prop} (h : veqs vs ws = some cs) (q : Q (.v (.bool (cs.all id))) σ) (hu : F.A.units < cLine) : Op2 G F (compareOp .Eq) (.lst vs) (.lst ws) σ Q := by
  intro B x y hx hy
  cases hx with
  | @lst a _ xs n hb hr =>
    cases hy with
    | @lst b _ ys m hb' hr' =>
      refine ⟨fun B' hB s r => ?_⟩
      have hl := veqs_len h
      refine PySem.P.eq_list (e := fun j => cs.getD j false) (r.keep _ _ (hB _ _ hb)) (r.keep _ _ (hB _ _ hb')) (by simp only [List.size_toArray, hr.length, hr'.length]; exact hl.1) (fun j h1 h2 => by simpa using veqs_at h hr hr' j (by simpa using h1) (by simpa using h2)) hu ?_
      have e : (List.range xs.toArray.size).all (fun j => cs.getD j false) = cs.all id := by
        simp only [List.size_toArray, hr.length, ← hl.2]
        rw [Bool.eq_iff_iff, List.all_eq_true, List.all_eq_true]
        constructor
        · intro H x hx
          obtain ⟨j, hj, rfl⟩ := List.getElem_of_mem hx
          have := H j (List.mem_range.mpr hj)
          simpa [hj] using this
        · intro H j hj
          have hj := List.mem_range.mp hj
          have := H cs[j] (List.getElem_mem hj)
          simpa [hj] using this
      rw [e]
      exact Post.mk r (.v _) q
/-- not in a list of ints -/
theorem op_notinl {ns : List Int} {k : Int} {Q : V → St → Prop} (q : Q (.v (.bool (!(ns.any fun n => n == k)))) σ) : Op2 G F (compareOp .NotIn) (.int k) (.lst (ns.map .int)) σ Q := by
  intro B x y hx hy
  cases hx with
  | int _ t =>
    cases hy with
    | @lst a _ xs n hb hr =>
      refine ⟨fun B' hB s r => ?_⟩
      have ha := r.keep _ _ (hB _ _ hb)
      let e : Value → Bool := fun v => match v with | .int n _ => n == k | _ => false
      have key : ∀ {ns : List Int} {xs : List Value}, RVs B (ns.map V.int) xs → (∀ y ∈ xs, EqGives y (.int k t) (e y)) ∧ xs.any e = ns.any fun n => n == k := by
        intro ns
        induction ns with
        | nil => intro xs h; cases h; exact ⟨fun _ h => (nomatch h), rfl⟩
        | cons m ns ih =>
          intro xs h
          cases h with
          | cons h1 h2 =>
            cases h1
            have z := ih h2
            refine ⟨fun y hy => ?_, ?_⟩
            · rcases List.mem_cons.mp hy with rfl | hy
              · exact EqGives.int _ _ _ _
              · exact z.1 y hy
            · rw [List.any_cons, List.any_cons, z.2]
      refine SeqRoads2.notIn_meets (T := "list") ⟨_, ha, rfl⟩ PySem.F.slot_list_contains PySem.F.entry_list_contains (PySem.F.args_list_contains_2 _ _) (MeetsSeq.list_contains a xs.toArray n (.int k t) e (fun y hy => (key hr).1 y (by simpa using hy))) ⟨ha, ?_⟩
      refine ⟨_, rfl, ?_⟩
      have e2 : xs.toArray.any e = ns.any fun n => n == k := by rw [← (key hr).2]; simp
      rw [e2]
      exact Post.mk r (.v _) q
-- len
theorem cl_len_lst {vs : List V} {Q : V → St → Prop} (q : Q (.int vs.length) σ) (hz : vs.length ≤ sizeLine) : Cl G F (.builtin "len") [.lst vs] σ Q := by
  intro B zs hzs
  cases hzs with
  | cons h1 h2 =>
    cases h2
    cases h1 with
    | @lst a _ xs n hb hr =>
      refine ⟨fun B' hB s r => ?_⟩
      have hl := hr.length
      refine call_len_list ⟨_, r.keep _ _ (hB _ _ hb), rfl, _, rfl⟩ (by rw [sizeLine_eq] at hz; simp only [List.size_toArray]; omega) ?_
      rw [List.size_toArray, hl]
      exact Post.mk r.toks (.int _ _) q
theorem cl_len_list {a : Addr} {i : Nat} {vs : List V} {Q : V → St → Prop} (hi : σ.hp[i]? = some (a, .list vs)) (q : Q (.int vs.length) σ) (hz : vs.length ≤ sizeLine) : Cl G F (.builtin "len") [.v (.ref a)] σ Q := by
  intro B zs hzs
  cases hzs with
  | cons h1 h2 =>
    cases h2
    cases h1
    refine ⟨fun B' hB s r => ?_⟩
    obtain ⟨xs, hl, hr⟩ := r.hp _ (List.mem_of_getElem? hi)
    have hlen := hr.length
    refine call_len_list hl.isList (by rw [sizeLine_eq] at hz; simp only [List.size_toArray]; omega) ?_
    rw [List.size_toArray, hlen]
    exact Post.mk r.toks (.int _ _) q
theorem cl_len_str {x : Str} {Q : V → St → Prop} (q : Q (.int x.length) σ) (hz : x.length ≤ sizeLine) : Cl G F (.builtin "len") [.str x] σ Q := by
  intro B zs hzs
  cases hzs with
  | cons h1 h2 =>
    cases h2
    cases h1
    exact ⟨fun B' hB s r => P.len_str (by rw [sizeLine_eq] at hz; omega) (Post.mk r.toks (.int _ _) q)⟩
end
end Mine
end
section
open PySem PySem.Spec PySem.Calls PyProof.Rows PySem.W
set_option Elab.async false
set_option maxRecDepth 100000
set_option linter.unusedVariables false
namespace Mine
noncomputable def PM.hide (B : PM) (h : Heap) (as : List Addr) : PM := fun b => if b ∈ as then h.get? b else B b
noncomputable def PM.cut (B : PM) (as : List Addr) : PM := fun b => if b ∈ as then none else B b
theorem PM.le_hide {B : PM} {h : Heap} {as : List Addr} (k : ∀ b o, B b = some o → h.get? b = some o) : PM.le B (B.hide h as) := fun b o e => by
  unfold PM.hide
  by_cases q : b ∈ as
  · rw [if_pos q]; exact k b o e
  · rw [if_neg q]; exact e
theorem PM.le_cut {B B' : PM} {as : List Addr} (h : PM.le B B') (off : ∀ a ∈ as, B a = none) : PM.le B (B'.cut as) := fun b o e => by
  unfold PM.cut
  by_cases q : b ∈ as
  · rw [off b q] at e; cases e
  · rw [if_neg q]; exact h b o e
theorem PM.cut_le {B : PM} {as : List Addr} : PM.le (B.cut as) B := fun b o e => by
  unfold PM.cut at e
  by_cases q : b ∈ as
  · rw [if_pos q] at e; cases e
  · rw [if_neg q] at e; exact e

section
variable {G : Gl} {F : Fm} {σ : St}
/-- what the whole walk stands on -/
structure Stat (G : Gl) : Prop where
  nolimit : ∀ h : Heap, (∀ b o, G.base b = some o → h.get? b = some o) → h.NoLimit

noncomputable def bnd : List Str → List V → Str → Option V
  | n :: ns, v :: vs => upd (bnd ns vs) n v
  | _, _ => fun _ => none
theorem bindL_miss {kindOf : Str → Option NameKind} {x : Str} : ∀ (l : List (Str × Value)) (m : Str → Option Value), (∀ p ∈ l, p.1 ≠ x) → bindL kindOf l m x = m x
  | [], _, _ => rfl
  | (n, v) :: r, m, h => by
    unfold bindL
    rw [bindL_miss r _ fun p hp => h p (.tail _ hp)]
    split
    · exact if_neg (h (n, v) (.head _)).symm
    · rfl
theorem bindC_miss {kindOf : Str → Option NameKind} {x : Str} : ∀ (l : List (Str × Value)) (m : Str → Option Value), (∀ p ∈ l, p.1 ≠ x) → bindC kindOf l m x = m x
  | [], _, _ => rfl
  | (n, v) :: r, m, h => by
    unfold bindC
    rw [bindC_miss r _ fun p hp => h p (.tail _ hp)]
    split
    · rfl
    · exact if_neg (h (n, v) (.head _)).symm
theorem bnd_binds {B : PM} {kindOf : Str → Option NameKind} {x : Str} {v : V} : ∀ {names : List Str} {vs : List V} {xs : List Value} (m cm : Str → Option Value), RVs B vs xs → names.Nodup → bnd names vs x = some v →
    (kindOf x = some .local → ∃ u, bindL kindOf (names.zip xs) m x = some u ∧ RV B v u) ∧ (kindOf x ≠ some .local → ∃ u, bindC kindOf (names.zip xs) cm x = some u ∧ RV B v u)
  | [], _, _, _, _, _, _, e => by cases e
  | _ :: _, [], _, _, _, _, _, e => by cases e
  | n :: ns, w :: ws, _, m, cm, @RVs.cons _ _ x₀ _ xs h1 h2, nd, e => by
    rw [List.nodup_cons] at nd
    unfold bnd upd at e
    by_cases q : x = n
    · subst q
      rw [if_pos rfl] at e
      cases e
      have miss : ∀ p ∈ ns.zip xs, p.1 ≠ x := fun p hp q => nd.1 (q ▸ (List.of_mem_zip (show (p.1, p.2) ∈ ns.zip xs from hp)).1)
      refine ⟨fun k => ⟨_, ?_, h1⟩, fun k => ⟨_, ?_, h1⟩⟩
      · rw [List.zip_cons_cons, bindL, bindL_miss _ _ miss, if_pos k]; exact if_pos rfl
      · rw [List.zip_cons_cons, bindC, bindC_miss _ _ miss, if_neg k]; exact if_pos rfl
    · rw [if_neg q] at e
      rw [List.zip_cons_cons, bindL, bindC]
      exact bnd_binds _ _ h2 nd.2 e
/-- the frame of a called def -/
noncomputable abbrev fmOf (A : Around) (fd : FuncData) (f L : Addr) : Fm := ⟨A.deeper (callEnvC fd L f), callEnvC fd L f, L :: (cellsFrom (L + 1) fd.scope.names []).map (·.2)⟩
noncomputable def RetTo (Q : V → St → Prop) (σ : St) : Fl → St → Prop := fun fl σ' => match fl with
  | .ret v => Q v { σ with hp := σ'.hp, gens := σ'.gens }
  | .next => Q (.v .none) { σ with hp := σ'.hp, gens := σ'.gens }
  | _ => False

theorem inCall_rel {fd : FuncData} {f : Addr} {names : List Str} {vs : List V} {xs : List Value} {A : Around} {B : PM} {s s₁ : Shared} (r : Rel G F B σ s) (hv : RVs B vs xs) (nd : names.Nodup) (nc : ((cellsFrom (s.heap.objs.size + 1) fd.scope.names []).map (·.1)).Nodup)
    (x : InCallC s (callEnvC fd s.heap.objs.size f).locals (bindL (callEnvC fd s.heap.objs.size f).kindOf (names.zip xs) fun _ => none) (callEnvC fd s.heap.objs.size f).cells
        (bindC (callEnvC fd s.heap.objs.size f).kindOf (names.zip xs) fun _ => none) s₁) :
    Rel G (fmOf A fd f s.heap.objs.size) (B.hide s.heap F.own) ⟨bnd names vs, σ.hp, σ.gens⟩ s₁ := by
  obtain ⟨h₁, tk, e₁, keep⟩ := x.done
  have hh : s₁.heap = h₁ := by rw [e₁]
  have kp : ∀ b o, s.heap.get? b = some o → s₁.heap.get? b = some o := by rw [hh]; exact keep
  have le := PM.le_hide (as := F.own) r.keep
  have lk : ∀ {n c}, (n, c) ∈ cellsFrom (s.heap.objs.size + 1) fd.scope.names [] → (cellsFrom (s.heap.objs.size + 1) fd.scope.names []).lookup n = some c := fun hm => lookup_of_mem_nodup nc hm
  refine ⟨r.base.tr le, fun b o e => ?_, by rw [e₁]; exact r.os, by rw [e₁]; exact r.gens, ⟨.head _, fun a ha => ?_, ?_, fun n c e => ?_, fun n c e => ?_⟩, fun p hp => (r.hp p hp).grow le kp, ?_, fun a ha => ?_⟩
  · unfold PM.hide at e
    by_cases q : b ∈ F.own
    · rw [if_pos q] at e; exact kp b o e
    · rw [if_neg q] at e; exact kp b o (r.keep b o e)
  · rcases List.mem_cons.mp ha with rfl | ha
    · exact Inert.ns x.toInCall.ns
    · obtain ⟨⟨n, c⟩, hm, rfl⟩ := List.mem_map.mp ha
      obtain ⟨o, ho, hd⟩ := x.cell n c (lk hm)
      exact ⟨o, ho, .cell hd⟩
  · exact ⟨_, x.toInCall.ns, fun y W e k => (bnd_binds _ (fun _ => none) (hv.mono le) nd e).1 k⟩
  · have hm := mem_of_lookup e
    refine ⟨Nat.ne_of_gt (x.above n c hm), .inl (.tail _ (List.mem_map.mpr ⟨_, hm, rfl⟩)), fun y e' => name_of_addr x.apart (mem_of_lookup e') hm⟩
  · exact ⟨_, x.cell n c e, fun W e' k => (bnd_binds (fun _ => none) _ (hv.mono le) nd e').2 k⟩
  · have lo : ∀ a ∈ s.heap.objs.size :: (cellsFrom (s.heap.objs.size + 1) fd.scope.names []).map (·.2), s.heap.objs.size ≤ a := fun a ha => by
      rcases List.mem_cons.mp ha with rfl | ha
      · exact Nat.le_refl _
      · obtain ⟨⟨n, c⟩, hm, rfl⟩ := List.mem_map.mp ha
        exact Nat.le_of_lt (x.above n c hm)
    refine List.nodup_append.mpr ⟨List.nodup_cons.mpr ⟨fun hm => ?_, ?_⟩, (List.nodup_append.mp r.nd).2.1, fun a ha b hb e => ?_⟩
    · obtain ⟨⟨n, c⟩, hm, q⟩ := List.mem_map.mp hm
      have q' : c = s.heap.objs.size := q
      exact absurd (x.above n c hm) (q' ▸ Nat.lt_irrefl _)
    · have := x.apart
      rw [List.nodup_iff_pairwise_ne, List.pairwise_map]
      exact this
    · exact absurd (r.lt (List.mem_append_right _ hb)) (Nat.not_lt_of_le (e ▸ lo a ha))
  · rcases List.mem_append.mp ha with ha | ha
    · have hge : s.heap.objs.size ≤ a := by
        rcases List.mem_cons.mp ha with rfl | ha
        · exact Nat.le_refl _
        · obtain ⟨⟨n, c⟩, hm, rfl⟩ := List.mem_map.mp ha
          exact Nat.le_of_lt (x.above n c hm)
      unfold PM.hide
      by_cases q : a ∈ F.own
      · exact absurd (r.lt (List.mem_append_left _ q)) (Nat.not_lt_of_le hge)
      · rw [if_neg q]
        cases e : B a with
        | none => rfl
        | some o => exact absurd (Heap.lt_size (r.keep _ _ e)) (Nat.not_lt_of_le hge)
    · unfold PM.hide
      rw [if_neg (fun q => (List.nodup_append.mp r.nd).2.2 a q a ha rfl)]
      exact r.off a (List.mem_append_right _ ha)

/-- back in the caller's frame -/
theorem Rel.back {F' : Fm} {B B₂ : PM} {σ' : St} {s s' : Shared} (r : Rel G F B σ s) (r' : Rel G F' B₂ σ' s') (le : PM.le (B.hide s.heap F.own) B₂) :
    Rel G F (B₂.cut F.own) { σ with hp := σ'.hp, gens := σ'.gens } s' ∧ PM.le B (B₂.cut F.own) ∧ (∀ {v x}, RV B₂ v x → RV (B₂.cut F.own) v x) := by
  have offo : ∀ a ∈ F.own, B a = none := fun a ha => r.off a (List.mem_append_left _ ha)
  have hid : ∀ a ∈ F.own, ∀ o, s.heap.get? a = some o → B₂ a = some o := fun a ha o e => le a o (by unfold PM.hide; rw [if_pos ha]; exact e)
  have lB := (PM.le_hide (as := F.own) r.keep).tr le
  have lc := PM.le_cut lB offo
  have own' : ∀ a ∈ F.own, ∃ o, s.heap.get? a = some o ∧ s'.heap.get? a = some o ∧ Inert o := fun a ha => let ⟨o, ho, hi⟩ := r.fr.here a ha; ⟨o, ho, r'.keep _ _ (hid a ha o ho), hi⟩
  refine ⟨⟨r.base.tr lc, fun b o e => r'.keep b o (PM.cut_le b o e), r'.os, r'.gens, ⟨r.fr.own, fun a ha => let ⟨o, _, h2, h3⟩ := own' a ha; ⟨o, h2, h3⟩, ?_, fun x c e => ?_, fun x c e => ?_⟩, fun p hp => ?_, ?_, fun a ha => ?_⟩, lc, fun h => h.drop fun a o e => ?_⟩
  · obtain ⟨m, h1, h2⟩ := r.fr.vars
    obtain ⟨o, es, ep, ho, h3⟩ := h1
    obtain ⟨o', g1, g2, _⟩ := own' _ r.fr.own
    rw [ho] at g1; cases g1
    exact ⟨m, ⟨o, es, ep, g2, h3⟩, fun y W e k => let ⟨u, e1, e2⟩ := h2 y W e k; ⟨u, e1, e2.mono lc⟩⟩
  · obtain ⟨h1, h2, h3⟩ := r.fr.apart x c e
    exact ⟨h1, h2.imp id fun ⟨o, ho⟩ => ⟨o, lc _ _ ho⟩, h3⟩
  · obtain ⟨vo, ⟨o, ho, hd⟩, h2⟩ := r.fr.cell x c e
    refine ⟨vo, ⟨o, ?_, hd⟩, fun W e' k => let ⟨u, e1, e2⟩ := h2 W e' k; ⟨u, e1, e2.mono lc⟩⟩
    rcases (r.fr.apart x c e).2.1 with h | ⟨o', h⟩
    · obtain ⟨o', g1, g2, _⟩ := own' c h
      rw [ho] at g1; cases g1; exact g2
    · have := r.keep _ _ h
      rw [ho] at this; cases this
      exact r'.keep _ _ (lB _ _ h)
  · have H := r'.hp p hp
    cases hx : p.2 with
    | list vs =>
      rw [hx] at H
      obtain ⟨ys, h1, h2⟩ := H
      refine ⟨ys, h1, h2.drop fun a o e => ?_⟩
      by_cases q : a ∈ F.own
      · obtain ⟨o', g1, g2, g3⟩ := own' a q
        have := r'.keep _ _ e; rw [g2] at this; cases this; exact .inl g3
      · exact .inr (by unfold PM.cut; rw [if_neg q]; exact e)
    | dict kvs => rw [hx] at H; exact H
    | raw o => rw [hx] at H; exact H
  · refine List.nodup_append.mpr ⟨(List.nodup_append.mp r.nd).1, (List.nodup_append.mp r'.nd).2.1, fun a ha b hb e => ?_⟩
    obtain ⟨o, ho, _⟩ := own' a ha
    have := r'.off b (List.mem_append_right _ hb)
    rw [← e, hid a ha o ho] at this; cases this
  · unfold PM.cut
    by_cases q : a ∈ F.own
    · rw [if_pos q]
    · rw [if_neg q]
      rcases List.mem_append.mp ha with ha | ha
      · exact absurd ha q
      · exact r'.off a (List.mem_append_right _ ha)
  · by_cases q : a ∈ F.own
    · obtain ⟨o', g1, g2, g3⟩ := own' a q
      have := r'.keep _ _ e; rw [g2] at this; cases this; exact .inl g3
    · exact .inr (by unfold PM.cut; rw [if_neg q]; exact e)

theorem cl_fn {f : Addr} {o : Obj} {fd : FuncData} {body : List Stmt} {names : List Str} {vs : List V} {Q : V → St → Prop} (S : Stat G) (ho : G.base f = some o) (hd : o.data = .func fd)
    (hcd : ∀ h : Heap, (∀ b o, G.base b = some o → h.get? b = some o) → h.CodeRec fd.code fd.qualname) (hroom : F.A.depth < recursionLimit)
    (h : ∀ L, Ex G (fmOf F.A fd f L) body ⟨bnd names vs, σ.hp, σ.gens⟩ (RetTo Q σ))
    (hbody : fd.body = .stmts body := by rfl) (hbind : ∀ xs : List Value, xs.length = vs.length → bindArgs fd ⟨xs, []⟩ = pure (names.zip xs))
    (hkind : ∀ x ∈ names, ∀ n, fd.scope.names.lookup x = some .local ∨ (fd.scope.names.lookup x = some .cell ∧ ((cellsFrom n fd.scope.names []).lookup x).isSome = true))
    (nd : names.Nodup := by decide) (nc : ∀ n, ((cellsFrom n fd.scope.names []).map (·.1)).Nodup) (hclo : fd.closure = [] := by rfl)
    (hco : fd.scope.isCoroutine = false := by rfl) (hgen : fd.scope.isGenerator = false := by rfl) (hk : fd.scope.kind = .function := by rfl) : Cl G F (.ref f) vs σ Q := by
  intro B xs hxs
  refine ⟨fun B' hB s r => wpAny_call ?_⟩
  have stands : ∀ b o, G.base b = some o → s.heap.get? b = some o := fun b o e => r.keep b o (r.base b o e)
  refine codeAny_call_cells hroom (stands _ _ ho) hd (S.nolimit _ stands) (hcd _ stands) hbody (hbind xs hxs.length) hclo (fun x hx => hkind x.1 (List.of_mem_zip (show (x.1, x.2) ∈ names.zip xs from hx)).1 _) (fun s₁ x => ?_) hco hgen hk
  have r₁ := inCall_rel (A := F.A) r (hxs.mono hB) nd (nc _) x
  refine wpAny_mono ((h s.heap.objs.size).go (B'.hide s.heap F.own) PM.bot_le s₁ r₁) (fun fl s' ⟨b, σ', B₂, g1, g2, g3, g4⟩ => ?_) fun _ _ e => e.elim
  obtain ⟨k1, k2, k3⟩ := r.back g2 g1
  cases g3 with
  | next => exact ⟨_, _, _, k2, k1, .v _, g4⟩
  | ret hr => exact ⟨_, _, _, k2, k1, k3 hr, g4⟩
  | brk => exact g4.elim
  | cont => exact g4.elim
end
end Mine
end
section
open PySem PySem.Spec PySem.Calls PyProof.Rows PySem.W
set_option Elab.async false
set_option maxRecDepth 100000
set_option linter.unusedVariables false
namespace Mine
section
variable {G : Gl} {F : Fm} {B B' : PM} {σ : St} {s : Shared}
/-- the head of one's own objects goes -/
theorem Rel.lose {a : Addr} {x : AO} {hp : List (Addr × AO)} {loc : Str → Option V} {gens : Array GenState} (r : Rel G F B ⟨loc, (a, x) :: hp, gens⟩ s) {s' : Shared} (hs : ∀ b, b ≠ a → ∀ o, s.heap.get? b = some o → s'.heap.get? b = some o) (hos : s'.os = s.os) (hg : s'.gens = s.gens) :
    Rel G F B ⟨loc, hp, gens⟩ s' := by
  obtain ⟨o, ho⟩ := (r.hp _ (.head _)).there
  have nd := List.nodup_append.mp r.nd
  have nd2 := List.nodup_cons.mp (show (a :: hp.map (·.1)).Nodup from nd.2.1)
  have nf : ∀ b ∈ F.own, b ≠ a := fun b hb e => nd.2.2 b hb a (.head _) e
  have hba : B a = none := r.off a (List.mem_append_right _ (.head _))
  refine ⟨r.base, fun b o e => hs b (fun q => by subst q; rw [hba] at e; cases e) o (r.keep b o e), hos.trans r.os, hg.trans r.gens, ?_, fun p hp => ?_, ?_, fun b hb => ?_⟩
  · have f := r.fr
    refine ⟨f.own, fun b hb => let ⟨o, ho, hi⟩ := f.here b hb; ⟨o, hs b (nf b hb) o ho, hi⟩, ?_, f.apart, fun z c e => ?_⟩
    · obtain ⟨m, h1, h2⟩ := f.vars
      obtain ⟨o, es, ep, ho, h3⟩ := h1
      exact ⟨m, ⟨o, es, ep, hs _ (nf _ f.own) o ho, h3⟩, h2⟩
    · obtain ⟨vo, h1, h2⟩ := f.cell z c e
      obtain ⟨o, ho, h3⟩ := h1
      refine ⟨vo, ⟨o, hs c (fun q => ?_) o ho, h3⟩, h2⟩
      obtain ⟨_, w2, _⟩ := f.apart z c e
      rcases w2 with w2 | ⟨o', w2⟩
      · exact nf c w2 q
      · rw [q, hba] at w2; cases w2
  · have H := r.hp p (.tail _ hp)
    obtain ⟨o, ho⟩ := H.there
    exact H.congr .rf ((hs _ (fun q => nd2.1 (List.mem_map.mpr ⟨p, hp, q⟩)) o ho).trans ho.symm)
  · exact List.nodup_append.mpr ⟨nd.1, nd2.2, fun b hb c hc e => nd.2.2 b hb c (.tail _ hc) e⟩
  · rcases List.mem_append.mp hb with h | h
    · exact r.off b (List.mem_append_left _ h)
    · exact r.off b (List.mem_append_right _ (.tail _ h))
theorem Rel.forget {hp' : List (Addr × AO)} (r : Rel G F B σ s) (hs : hp'.Sublist σ.hp) : Rel G F B { σ with hp := hp' } s := by
  have sl := List.Sublist.map (·.1) hs
  have sl2 := List.Sublist.append_left sl F.own
  exact ⟨r.base, r.keep, r.os, r.gens, r.fr, fun p hp => r.hp p (hs.subset hp), r.nd.sublist sl2, fun a ha => r.off a (sl2.subset ha)⟩
theorem Rel.weak {loc' : Str → Option V} (r : Rel G F B σ s) (h : ∀ x V, loc' x = some V → σ.loc x = some V) : Rel G F B { σ with loc := loc' } s := by
  obtain ⟨m, h1, h2⟩ := r.fr.vars
  exact ⟨r.base, r.keep, r.os, r.gens, ⟨r.fr.own, r.fr.here, ⟨m, h1, fun x V e k => h2 x V (h x V e) k⟩, r.fr.apart, fun x c e => let ⟨vo, g1, g2⟩ := r.fr.cell x c e; ⟨vo, g1, fun V e' k => g2 V (h x V e') k⟩⟩, r.hp, r.nd, r.off⟩
/-- names that hold an own list hold now a list that stays -/
noncomputable def Froz (loc loc' : Str → Option V) (a : Addr) (v : V) : Prop := ∀ x V, loc' x = some V → loc x = some V ∨ (V = v ∧ loc x = some (.v (.ref a)))
theorem Rel.freeze {a : Addr} {x : AO} {v : V} {hp : List (Addr × AO)} {loc loc' : Str → Option V} {gens : Array GenState} (r : Rel G F B ⟨loc, (a, x) :: hp, gens⟩ s)
    (hx : HO G B s.heap a x → ∃ o, s.heap.get? a = some o ∧ ∀ B', PM.le B B' → B' a = some o → RV B' v (.ref a)) (hl : Froz loc loc' a v) :
    ∃ B', PM.le B B' ∧ Rel G F B' ⟨loc', hp, gens⟩ s ∧ RV B' v (.ref a) := by
  have r' := r.lose (s' := s) (fun _ _ _ e => e) rfl rfl
  obtain ⟨o, ho, hv⟩ := hx (r.hp _ (.head _))
  have hba : B a = none := r.off a (List.mem_append_right _ (.head _))
  have nd := List.nodup_append.mp r.nd
  have nd2 := List.nodup_cons.mp (show (a :: hp.map (·.1)).Nodup from nd.2.1)
  have le := PM.put_le (o := o) hba
  have rv := hv _ le PM.put_self
  have r2 := r'.put ho hba (fun q => by
    rcases List.mem_append.mp q with q | q
    · exact nd.2.2 a q a (.head _) rfl
    · exact nd2.1 q)
  refine ⟨_, le, ?_, rv⟩
  obtain ⟨m, h1, h2⟩ := r2.fr.vars
  refine ⟨r2.base, r2.keep, r2.os, r2.gens, ⟨r2.fr.own, r2.fr.here, ⟨m, h1, fun y V e k => ?_⟩, r2.fr.apart, fun y c e => ?_⟩, r2.hp, r2.nd, r2.off⟩
  · rcases hl y V e with e | ⟨rfl, e⟩
    · exact h2 y V e k
    · obtain ⟨u, g1, g2⟩ := h2 y _ e k
      cases g2
      exact ⟨_, g1, rv⟩
  · obtain ⟨vo, g1, g2⟩ := r2.fr.cell y c e
    refine ⟨vo, g1, fun V e' k => ?_⟩
    rcases hl y V e' with e' | ⟨rfl, e'⟩
    · exact g2 V e' k
    · obtain ⟨u, q1, q2⟩ := g2 _ e' k
      cases q2
      exact ⟨_, q1, rv⟩
theorem HO.frozL {a : Addr} {vs : List V} {h : Heap} (H : HO G B h a (.list vs)) : ∃ o, h.get? a = some o ∧ ∀ B', PM.le B B' → B' a = some o → RV B' (.lst vs) (.ref a) := by
  obtain ⟨xs, ⟨n, ho⟩, hr⟩ := H
  exact ⟨_, ho, fun B' le e => .lst e (hr.mono le)⟩
theorem HO.frozD {a : Addr} {kvs : List (Int × Int)} {h : Heap} (ne : kvs ≠ []) (H : HO G B h a (.dict kvs)) : ∃ o, h.get? a = some o ∧ ∀ B', PM.le B B' → B' a = some o → RV B' (.dct kvs) (.ref a) := by
  obtain ⟨kxs, hd, hr⟩ := H
  obtain ⟨o, ho, hd'⟩ := DictO.of hd hr
  exact ⟨o, ho, fun B' le e => .dct e ne hd'⟩
end
section
variable {G : Gl} {F : Fm} {σ : St} {α β : Type} {R : PM → β → α → Prop} {B : PM} {t : Sem α} {Q : β → St → Prop}
theorem Ok.forget (hp' : List (Addr × AO)) (h : Ok G F R B t ⟨σ.loc, hp', σ.gens⟩ Q) (hs : hp'.Sublist σ.hp) : Ok G F R B t σ Q := ⟨fun B' hB s r => h.go B' hB s (r.forget hs)⟩
theorem Ok.weak (loc' : Str → Option V) (h : Ok G F R B t ⟨loc', σ.hp, σ.gens⟩ Q) (hs : ∀ x V, loc' x = some V → σ.loc x = some V) : Ok G F R B t σ Q := ⟨fun B' hB s r => h.go B' hB s (r.weak hs)⟩
theorem Ok.freezeL {loc loc' : Str → Option V} {a : Addr} {vs : List V} {hp : List (Addr × AO)} {gens : Array GenState} (hl : Froz loc loc' a (.lst vs)) (h : Ok G F R B t ⟨loc', hp, gens⟩ Q) : Ok G F R B t ⟨loc, (a, .list vs) :: hp, gens⟩ Q :=
  ⟨fun B' hB s r => by
    obtain ⟨B₂, le, r2, _⟩ := r.freeze (fun H => HO.frozL H) hl
    exact wpAny_mono (h.go B₂ (hB.tr le) s r2) (fun _ _ p => Post.up le p) fun _ _ e => e⟩
theorem Ok.freezeD {loc loc' : Str → Option V} {a : Addr} {kvs : List (Int × Int)} {hp : List (Addr × AO)} {gens : Array GenState} (ne : kvs ≠ []) (hl : Froz loc loc' a (.dct kvs)) (h : Ok G F R B t ⟨loc', hp, gens⟩ Q) : Ok G F R B t ⟨loc, (a, .dict kvs) :: hp, gens⟩ Q :=
  ⟨fun B' hB s r => by
    obtain ⟨B₂, le, r2, _⟩ := r.freeze (fun H => HO.frozD ne H) hl
    exact wpAny_mono (h.go B₂ (hB.tr le) s r2) (fun _ _ p => Post.up le p) fun _ _ e => e⟩
-- loops
noncomputable def Nxt (G : Gl) (F : Fm) (B : PM) (target : Expr) (it : Addr) (σ : St) (Q : Option V → St → Prop) : Prop := ∀ B', PM.le B B' → ∀ s, Rel G F B' σ s →
  wpAny (model G.prog G.w) F.A (pyNext (.ref it)) (fun r s₁ => match r with
    | none => ∃ σ' B'', PM.le B' B'' ∧ Rel G F B'' σ' s₁ ∧ Q none σ'
    | some v => wpAny (model G.prog G.w) F.A (letOwnedTupleGo target (.ref it) v) (fun _ s₂ => ∃ u σ' B'', PM.le B' B'' ∧ Rel G F B'' σ' s₂ ∧ RV B'' u v ∧ Q (some u) σ') (fun _ _ => False) s₁) (fun _ _ => False) s
structure Walk1 (G : Gl) (A : Around) (B : PM) (target : Expr) (it : Addr) (items : List V) (P : Nat → Obj → Prop) (C : List (Addr × AO) → Prop) : Prop where
  item : ∀ {F : Fm} {i : Nat} {o : Obj} {loc : Str → Option V} {hp : List (Addr × AO)} {gens : Array GenState} {v : V} {Q : Option V → St → Prop}, F.A = A → P i o → C hp → items[i]? = some v → (∀ o', P (i + 1) o' → Q (some v) ⟨loc, (it, .raw o') :: hp, gens⟩) → Nxt G F B target it ⟨loc, (it, .raw o) :: hp, gens⟩ Q
  fin : ∀ {F : Fm} {i : Nat} {o : Obj} {loc : Str → Option V} {hp : List (Addr × AO)} {gens : Array GenState} {Q : Option V → St → Prop}, F.A = A → P i o → C hp → items[i]? = none → Q none ⟨loc, hp, gens⟩ → Nxt G F B target it ⟨loc, (it, .raw o) :: hp, gens⟩ Q
  self : ∀ {F : Fm} {i : Nat} {o : Obj} {loc : Str → Option V} {hp : List (Addr × AO)} {gens : Array GenState}, F.A = A → P i o → C hp → ∀ B', PM.le B B' → ∀ s, Rel G F B' ⟨loc, (it, .raw o) :: hp, gens⟩ s → ∀ (Q : Value → Shared → Prop), Q (.ref it) s → wpAny (model G.prog G.w) A (pyIter (.ref it)) Q (fun _ _ => False) s
/-- a walk: its own objects and the generators, as it goes -/
structure Walk (G : Gl) (A : Around) (B : PM) (target : Expr) (it : Addr) (items : List V) (P : Nat → List (Addr × AO) → Array GenState → Prop) (D : Array GenState → Prop) (C : List (Addr × AO) → Prop) : Prop where
  item : ∀ {F : Fm} {i : Nat} {pre : List (Addr × AO)} {loc : Str → Option V} {hp : List (Addr × AO)} {gens : Array GenState} {v : V} {Q : Option V → St → Prop}, F.A = A → P i pre gens → C hp → items[i]? = some v → (∀ pre' gens', P (i + 1) pre' gens' → Q (some v) ⟨loc, pre' ++ hp, gens'⟩) → Nxt G F B target it ⟨loc, pre ++ hp, gens⟩ Q
  fin : ∀ {F : Fm} {i : Nat} {pre : List (Addr × AO)} {loc : Str → Option V} {hp : List (Addr × AO)} {gens : Array GenState} {Q : Option V → St → Prop}, F.A = A → P i pre gens → C hp → items[i]? = none → (∀ gens', D gens' → Q none ⟨loc, hp, gens'⟩) → Nxt G F B target it ⟨loc, pre ++ hp, gens⟩ Q
  all : ∀ {i : Nat} {pre : List (Addr × AO)} {gens : Array GenState}, P i pre gens → D gens
  self : ∀ {F : Fm} {i : Nat} {pre : List (Addr × AO)} {loc : Str → Option V} {hp : List (Addr × AO)} {gens : Array GenState}, F.A = A → P i pre gens → C hp → ∀ B', PM.le B B' → ∀ s, Rel G F B' ⟨loc, pre ++ hp, gens⟩ s → ∀ (Q : Value → Shared → Prop), Q (.ref it) s → wpAny (model G.prog G.w) A (pyIter (.ref it)) Q (fun _ _ => False) s
theorem Walk1.walk {A : Around} {B : PM} {target : Expr} {it : Addr} {items : List V} {P : Nat → Obj → Prop} {C : List (Addr × AO) → Prop} (W : Walk1 G A B target it items P C) (g : Array GenState) :
    Walk G A B target it items (fun i pre gens => gens = g ∧ ∃ o, pre = [(it, .raw o)] ∧ P i o) (fun gens => gens = g) C where
  item := by
    rintro F i pre loc hp gens v Q hF ⟨rfl, o, rfl, hP⟩ hC hx q
    exact W.item hF hP hC hx fun o' h' => q [(it, .raw o')] gens ⟨rfl, o', rfl, h'⟩
  fin := by
    rintro F i pre loc hp gens Q hF ⟨rfl, o, rfl, hP⟩ hC hx q
    exact W.fin hF hP hC hx (q _ rfl)
  all := by
    rintro i pre gens ⟨rfl, _⟩
    rfl
  self := by
    rintro F i pre loc hp gens hF ⟨rfl, o, rfl, hP⟩ hC
    exact W.self hF hP hC
noncomputable def Iters (G : Gl) (F : Fm) (target : Expr) (a : V) (σ σ₂ : St) (items : List V) (C : List (Addr × AO) → Prop) (D : Array GenState → Prop) : Prop :=
  ∀ B x, RV B a x → ∀ B', PM.le B B' → ∀ s, Rel G F B' σ s → wpAny (model G.prog G.w) F.A (pyIter x) (fun y s' => ∃ B'' it pre gens P, y = .ref it ∧ PM.le B' B'' ∧ Rel G F B'' ⟨σ₂.loc, pre ++ σ₂.hp, gens⟩ s' ∧ Walk G F.A B'' target it items P D C ∧ P 0 pre gens) (fun _ _ => False) s
theorem Rel.perm {B : PM} {s : Shared} {hp' : List (Addr × AO)} (r : Rel G F B σ s) (h : σ.hp.Perm hp') : Rel G F B ⟨σ.loc, hp', σ.gens⟩ s := by
  have h2 := (h.map (·.1)).append_left F.own
  exact ⟨r.base, r.keep, r.os, r.gens, r.fr, fun p hp => r.hp p (h.mem_iff.mpr hp), h2.nodup_iff.mp r.nd, fun a ha => r.off a (h2.mem_iff.mpr ha)⟩

theorem s_for {X : Type} {f : X → V} (xs : List X) {target iter : Expr} {body orelse : List Stmt} {pos : Pos} {C : List (Addr × AO) → Prop} {D : Array GenState → Prop} (J : List X → (Str → Option V) → List (Addr × AO) → Prop) {Q : Fl → St → Prop}
    (h : Ev G F iter σ fun a σ₁ => ∃ σ₂, Iters G F target a σ₁ σ₂ (xs.map f) C D ∧ J [] σ₂.loc σ₂.hp)
    (hC : ∀ ys loc hp, J ys loc hp → C hp)
    (turn : ∀ pre x post, xs = pre ++ x :: post → ∀ loc hp, J pre loc hp → ∀ e gens, D gens → To G F target (f x) ⟨loc, hp ++ e, gens⟩ fun σ₂ => Ex G F body σ₂ fun fl σ₃ =>
      match fl with
      | .next | .cont => ∃ loc' hp', σ₃ = ⟨loc', hp' ++ e, gens⟩ ∧ J (pre ++ [x]) loc' hp'
      | .brk => Q .next σ₃
      | .ret v => Q (.ret v) σ₃)
    (done : ∀ loc hp gens, D gens → J xs loc hp → Ex G F orelse ⟨loc, hp, gens⟩ Q)
    (hs : ∀ x, foldedSetIterable iter F.env x = pure x := by intro _; rfl) : S1 G F (.For target iter body orelse pos) σ Q := ⟨fun B₀ hB₀ s₀ r₀ => by
  refine wpAny_For (Ok.run h hB₀ r₀ fun a s₁ A σ₁ B₁ h1 h2 h3 ⟨σ₂, h4, hj⟩ => ?_) hs
  refine wpAny_mono (h4 B₁ a h3 B₁ .rf s₁ h2) (fun y s₂ ⟨B₂, it, e, g, P, q, g1, g2, g3, g4⟩ => ?_) fun _ _ e => e
  subst q
  refine codeAny_forLoop_any (fun k s' => ∃ pre post loc hp e' g' B', xs = pre ++ post ∧ k = post.length ∧ PM.le B₂ B' ∧ P pre.length e' g' ∧ J pre loc hp ∧ Rel G F B' ⟨loc, e' ++ hp, g'⟩ s') ?_ xs.length
    ⟨[], xs, σ₂.loc, σ₂.hp, e, g, B₂, rfl, rfl, .rf, g4, hj, g2⟩
  rintro k s' ⟨pre, post, loc, hp, e', g', B', rfl, rfl, le, hP, hJ, rel⟩
  have hc := hC _ _ _ hJ
  cases post with
  | nil =>
    have hn : ((pre ++ []).map f)[pre.length]? = none := by simp
    refine wpAny_mono (g3.fin rfl hP hc hn (Q := fun r σ => r = none ∧ σ.loc = loc ∧ σ.hp = hp ∧ D σ.gens) (fun gens' hd => ⟨rfl, rfl, rfl, hd⟩) B' le s' rel) (fun r s₁ hr => ?_) fun _ _ e => e.elim
    cases r with
    | some v => exact wpAny_mono hr (fun _ s₂ ⟨_, _, _, _, _, _, q, _⟩ => by cases q) fun _ _ e => e.elim
    | none =>
      obtain ⟨⟨loc₂, hp₂, gens₂⟩, B₃, le', rel', _, rfl, rfl, hd⟩ := hr
      refine wpAny_mono ((done _ _ _ hd (by simpa using hJ)).go B₃ PM.bot_le s₁ rel') (fun f s₃ p => ?_) fun _ _ e => e.elim
      exact Post.up (h1.tr (g1.tr (le.tr le'))) p
  | cons x post =>
    have hn : ((pre ++ x :: post).map f)[pre.length]? = some (f x) := by simp
    refine wpAny_mono (g3.item rfl hP hc hn (Q := fun r σ => ∃ e₂ g₂, r = some (f x) ∧ P (pre.length + 1) e₂ g₂ ∧ σ = ⟨loc, e₂ ++ hp, g₂⟩) (fun e₂ g₂ h => ⟨e₂, g₂, rfl, h, rfl⟩) B' le s' rel) (fun r s₁ hr => ?_) fun _ _ e => e.elim
    cases r with
    | none => obtain ⟨_, _, _, _, _, _, q, _⟩ := hr; cases q
    | some v =>
      refine wpAny_mono hr (fun _ s₂ hr => ?_) fun _ _ e => e.elim
      obtain ⟨u, σ₂, B₃, le', rel', hu, e₂, g₂, q, hp₂, rfl⟩ := hr
      cases q
      have hB₃ : PM.le B₀ B₃ := h1.tr (g1.tr (le.tr le'))
      have rel'' : Rel G F B₃ ⟨loc, hp ++ e₂, g₂⟩ s₂ := rel'.perm List.perm_append_comm
      refine wpAny_mono ((turn pre x post rfl loc hp hJ e₂ g₂ (g3.all hp₂) B₃ v hu).go B₃ .rf s₂ rel'') (fun _ s₃ ⟨_, σ₃, B₄, le₄, rel₄, _, h₄⟩ => ?_) fun _ _ e => e.elim
      refine wpAny_mono (h₄.go B₄ PM.bot_le s₃ rel₄) (fun fl s₄ ⟨b, σ₄, B₅, le₅, rel₅, hfl, h₅⟩ => ?_) fun _ _ e => e.elim
      cases hfl with
      | brk => exact ⟨.next, σ₄, B₅, hB₃.tr (le₄.tr le₅), rel₅, .next, h₅⟩
      | ret hv => exact ⟨.ret _, σ₄, B₅, hB₃.tr (le₄.tr le₅), rel₅, .ret hv, h₅⟩
      | next =>
        obtain ⟨loc₅, hp₅, rfl, hj⟩ := h₅
        exact ⟨post.length, by simp, pre ++ [x], post, loc₅, hp₅, e₂, g₂, B₅, by simp, rfl, le.tr (le'.tr (le₄.tr le₅)), by simpa using hp₂, hj, rel₅.perm List.perm_append_comm⟩
      | cont =>
        obtain ⟨loc₅, hp₅, rfl, hj⟩ := h₅
        exact ⟨post.length, by simp, pre ++ [x], post, loc₅, hp₅, e₂, g₂, B₅, by simp, rfl, le.tr (le'.tr (le₄.tr le₅)), by simpa using hp₂, hj, rel₅.perm List.perm_append_comm⟩⟩
end
end Mine
end
section
open PySem PySem.Spec PySem.Calls PyProof.Rows PySem.W
set_option Elab.async false
set_option maxRecDepth 100000
set_option linter.unusedVariables false
namespace Mine
theorem lgo_other {prog : Program} {w : World} {A : Around} {E : Value → Shared → Prop} {s : Shared} {target : Expr} {it : Addr} {v : Value} {o : Obj} {n : String} {Q : Unit → Shared → Prop} (ho : s.heap.get? it = some o) (hc : o.cls = .type n)
    (hn : ["enumerate", "zip", "dict_itemiterator", "dict_reverseitemiterator", "odict_iterator", "itertools.zip_longest", "itertools.pairwise"].contains n = false) (hQ : Q () s) : wpAny (model prog w) A (letOwnedTupleGo target (.ref it) v) Q E s := by
  have key : wpAny (model prog w) A (do
      let (.ref r, .ref a) := (Value.ref it, v) | return
      let o ← load r
      match o.cls, o.data with
      | .type n, .fields vs =>
        if ["enumerate", "zip", "dict_itemiterator", "dict_reverseitemiterator", "odict_iterator", "itertools.zip_longest", "itertools.pairwise"].contains n && vs[0]? == some (rawInt a) then
          rule "for.unpacks-the-owned-tuple"
          updateField r 0 .none
      | _, _ => pure () : Sem Unit) Q E s := by
    cases v <;> try exact wpAny_pure hQ
    refine wpAny_bind (wpAny_load ho ?_)
    rw [hc]
    cases hd : o.data <;> try exact wpAny_pure hQ
    simp only [hn, Bool.false_and]
    exact wpAny_pure hQ
  cases target <;> first | exact key | exact wpAny_pure hQ
section
variable {G : Gl} {F : Fm} {σ : St} {B : PM}
theorem Rel.turnHd {s s' : Shared} {it : Addr} {o o' : Obj} {loc : Str → Option V} {hp : List (Addr × AO)} {gens : Array GenState} (r : Rel G F B ⟨loc, (it, .raw o) :: hp, gens⟩ s) (hs : ∀ b, b ≠ it → ∀ o, s.heap.get? b = some o → s'.heap.get? b = some o) (hos : s'.os = s.os) (hg : s'.gens = s.gens)
    (ho : s'.heap.get? it = some o') : Rel G F B ⟨loc, (it, .raw o') :: hp, gens⟩ s' :=
  r.turn (i := 0) rfl hs hos hg (show HO G B s'.heap it (.raw o') from ho)
-- frozen lists
noncomputable def IsLI (l : Addr) (i : Nat) (o : Obj) : Prop := o.cls = .type "list_iterator" ∧ o.data = .fields #[.ref l, .int i 0]
theorem walk_of {A : Around} {target : Expr} {it l : Addr} {vs : List V} {C : List (Addr × AO) → Prop} (hA : A.handled = none)
    (look : ∀ {F : Fm} {B' : PM} {loc : Str → Option V} {o : Obj} {hp : List (Addr × AO)} {gens : Array GenState} {s : Shared}, PM.le B B' → Rel G F B' ⟨loc, (it, .raw o) :: hp, gens⟩ s → C hp → ∃ xs : List Value, s.heap.IsList l xs.toArray ∧ RVs B' vs xs) : Walk1 G A B target it vs (IsLI l) C where
  item := by
    intro F i o loc hp gens v Q hF hP hc hx q B' hB s r
    subst hF
    obtain ⟨xs, hl, hr⟩ := look hB r hc
    obtain ⟨u, e1, e2⟩ := hr.get hx
    have ho : s.heap.get? it = some o := r.hp (it, .raw o) (.head _)
    refine wpAny_pyNext_list_item ⟨o, ho, hP⟩ hl (by simpa using e1) fun h' hit hs => ?_
    obtain ⟨o', ho', hc', hd'⟩ := hit
    refine lgo_other ho' hc' (by decide) ?_
    exact ⟨v, _, B', .rf, r.turnHd (s' := { s with heap := h' }) (fun b hb o e => (hs.2 b hb).trans e) rfl rfl ho', e2, q o' ⟨hc', hd'⟩⟩
  fin := by
    intro F i o loc hp gens Q hF hP hc hx q B' hB s r
    subst hF
    obtain ⟨xs, hl, hr⟩ := look hB r hc
    have ho : s.heap.get? it = some o := r.hp (it, .raw o) (.head _)
    refine wpAny_pyNext_list_end hA ⟨o, ho, hP⟩ hl (by have := hr.length; simp only [List.getElem?_eq_none_iff] at hx; simp; omega) fun h' hs => ?_
    exact ⟨_, B', .rf, r.lose (s' := { s with heap := h' }) (fun b hb o e => hs b o hb e) rfl rfl, q⟩
  self := by
    intro F i o loc hp gens hF hP hc B' hB s r Q q
    have ho : s.heap.get? it = some o := r.hp (it, .raw o) (.head _)
    exact wpAny_pyIter_listiter ⟨o, ho, hP⟩ q
theorem it_lst {target : Expr} {vs : List V} (hA : F.A.handled = none) : Iters G F target (.lst vs) σ σ vs (fun _ => True) (fun gens => gens = σ.gens) := by
  intro B x hx B' hB s r
  cases hx with
  | @lst a _ xs n hb hr =>
    have hl : s.heap.IsList a xs.toArray := ⟨_, r.keep _ _ (hB _ _ hb), rfl, _, rfl⟩
    refine wpAny_pyIter_list hl ?_
    have r' := r.newOwn (o := { cls := .type "list_iterator", data := .fields #[.ref a, .int 0 0] }) (x := .raw { cls := .type "list_iterator", data := .fields #[.ref a, .int 0 0] }) (s' := { s with heap := s.heap.push { cls := .type "list_iterator", data := .fields #[.ref a, .int 0 0] } }) rfl rfl rfl
      (Heap.get?_push_size _ rfl)
    exact ⟨B', _, [_], _, _, rfl, .rf, r', (walk_of hA (fun le r _ => ⟨xs, ⟨_, r.keep _ _ (le _ _ (hB _ _ hb)), rfl, _, rfl⟩, hr.mono (hB.tr le)⟩)).walk _, rfl, _, rfl, rfl, rfl⟩
theorem it_list {target : Expr} {a : Addr} {vs : List V} {i : Nat} (hA : F.A.handled = none) (hi : σ.hp[i]? = some (a, .list vs)) : Iters G F target (.v (.ref a)) σ σ vs (fun hp => (a, .list vs) ∈ hp) (fun gens => gens = σ.gens) := by
  intro B x hx B' hB s r
  cases hx
  obtain ⟨xs, hpl, hr⟩ := r.hp _ (List.mem_of_getElem? hi)
  refine wpAny_pyIter_list hpl.isList ?_
  have r' := r.newOwn (o := { cls := .type "list_iterator", data := .fields #[.ref a, .int 0 0] }) (x := .raw { cls := .type "list_iterator", data := .fields #[.ref a, .int 0 0] }) (s' := { s with heap := s.heap.push { cls := .type "list_iterator", data := .fields #[.ref a, .int 0 0] } }) rfl rfl rfl
    (Heap.get?_push_size _ rfl)
  refine ⟨B', _, [_], _, _, rfl, .rf, r', (walk_of (l := a) hA (fun {F B'' loc o hp gens s} le r hc => ?_)).walk _, rfl, _, rfl, rfl, rfl⟩
  obtain ⟨ys, hl', hr'⟩ := r.hp (a, .list vs) (.tail _ hc)
  exact ⟨ys, hl'.isList, hr'⟩
-- range(n)
noncomputable def rangeFrom (a : Int) : Nat → List Int
  | 0 => []
  | n + 1 => a :: rangeFrom (a + 1) n
theorem rangeFrom_get : ∀ {n i : Nat} {a : Int}, i < n → (rangeFrom a n)[i]? = some (a + i)
  | n + 1, 0, a, _ => by simp [rangeFrom]
  | n + 1, i + 1, a, h => by
    rw [rangeFrom, List.getElem?_cons_succ, rangeFrom_get (by omega)]
    congr 1; push_cast; omega
theorem rangeFrom_len : ∀ {n : Nat} {a : Int}, (rangeFrom a n).length = n
  | 0, _ => rfl
  | n + 1, a => by rw [rangeFrom, List.length_cons, rangeFrom_len]
theorem walk_range {A : Around} {target : Expr} {it : Addr} {n : Nat} (hA : A.handled = none) :
    Walk1 G A B target it ((rangeFrom 0 n).map .int) (fun i o => i ≤ n ∧ o = { cls := .type "range_iterator", dict := none, data := .fields #[rawInt (i : Int), rawInt ((n : Int) - i), rawInt 1], slots := #[] }) (fun _ => True) where
  item := by
    rintro F i o loc hp gens v Q rfl ⟨hin, rfl⟩ hc hx q B' hB s r
    have hlt : i < n := by
      have := (List.getElem?_eq_some_iff.mp hx).1
      simpa [rangeFrom_len] using this
    have ho : s.heap.get? it = some _ := r.hp (it, .raw _) (.head _)
    have ev : v = .int i := by
      rw [List.getElem?_map, rangeFrom_get hlt] at hx
      simpa using hx.symm
    subst ev
    refine wpAny_pyNext_range_item (x := (i : Int)) (left := (n : Int) - i) (step := 1) ho (by omega) fun h' hit hs => ?_
    have hit' : IsRangeIter h' it (((i + 1 : Nat) : Int)) ((n : Int) - (i + 1 : Nat)) 1 := by
      have e1 : ((i : Int) + 1) = ((i + 1 : Nat) : Int) := by push_cast; rfl
      have e2 : ((n : Int) - i - 1) = (n : Int) - (i + 1 : Nat) := by push_cast; omega
      rw [e1, e2] at hit; exact hit
    refine lgo_other (s := { s with heap := h', toks := s.toks + 1 }) hit' rfl (by decide) ?_
    exact ⟨.int i, _, B', .rf, r.turnHd (s' := { s with heap := h', toks := s.toks + 1 }) (fun b hb o e => (hs.2 b hb).trans e) rfl rfl hit', .int _ _, q _ ⟨hlt, rfl⟩⟩
  fin := by
    rintro F i o loc hp gens Q rfl ⟨hin, rfl⟩ hc hx q B' hB s r
    have ho : s.heap.get? it = some _ := r.hp (it, .raw _) (.head _)
    have hge : n ≤ i := by
      simp only [List.getElem?_eq_none_iff, List.length_map, rangeFrom_len] at hx; exact hx
    refine wpAny_pyNext_range_end (x := (i : Int)) (left := (n : Int) - i) (step := 1) hA ho (by omega) fun h' hs => ?_
    exact ⟨_, B', .rf, r.lose (s' := { s with heap := h' }) (fun b hb o e => hs b o hb e) rfl rfl, q⟩
  self := by
    rintro F i o loc hp gens rfl ⟨hin, rfl⟩ hc B' hB s r Q q
    exact wpAny_pyIter_rangeiter (x := (i : Int)) (left := (n : Int) - i) (step := 1) (r.hp (it, .raw _) (.head _)) q
-- a tuple
noncomputable def IsTI (l : Addr) (i : Nat) (o : Obj) : Prop := o.cls = .type "tuple_iterator" ∧ o.data = .fields #[.ref l, .int i 0]
theorem it_tup {target : Expr} {vs : List V} (hA : F.A.handled = none) : Iters G F target (.tup vs) σ σ vs (fun _ => True) (fun gens => gens = σ.gens) := by
  intro B x hx B' hB s r
  cases hx with
  | @tup a _ xs n hb hr =>
    have hl : s.heap.IsTuple a xs.toArray := ⟨_, r.keep _ _ (hB _ _ hb), rfl, _, rfl⟩
    refine wpAny_pyIter_tuple hl ?_
    have r' := r.newOwn (o := { cls := .type "tuple_iterator", data := .fields #[.ref a, .int 0 0] }) (x := .raw { cls := .type "tuple_iterator", data := .fields #[.ref a, .int 0 0] }) (s' := { s with heap := s.heap.push { cls := .type "tuple_iterator", data := .fields #[.ref a, .int 0 0] } }) rfl rfl rfl
      (Heap.get?_push_size _ rfl)
    refine ⟨B', _, [_], _, _, rfl, .rf, r', (show Walk1 G F.A B' target _ vs (IsTI a) (fun _ => True) from ⟨?_, ?_, ?_⟩).walk _, rfl, _, rfl, rfl, rfl⟩
    · intro F' i o loc hp gens v Q hF hP hc hx q B'' hB' s r
      obtain ⟨u, e1, e2⟩ := hr.get hx
      have ho : s.heap.get? _ = some o := r.hp (_, .raw o) (.head _)
      have hl : s.heap.IsTuple a xs.toArray := ⟨_, r.keep _ _ (hB' _ _ (hB _ _ hb)), rfl, _, rfl⟩
      refine wpAny_pyNext_tuple_item ⟨o, ho, hP⟩ hl (by simpa using e1) fun h' hit hs => ?_
      obtain ⟨o', ho', hc', hd'⟩ := hit
      refine lgo_other ho' hc' (by decide) ?_
      exact ⟨v, _, B'', .rf, r.turnHd (s' := { s with heap := h' }) (fun b hb o e => (hs.2 b hb).trans e) rfl rfl ho', e2.mono (hB.tr hB'), q o' ⟨hc', hd'⟩⟩
    · intro F' i o loc hp gens Q hF hP hc hx q B'' hB' s r
      have ho : s.heap.get? _ = some o := r.hp (_, .raw o) (.head _)
      have hl : s.heap.IsTuple a xs.toArray := ⟨_, r.keep _ _ (hB' _ _ (hB _ _ hb)), rfl, _, rfl⟩
      refine wpAny_pyNext_tuple_end (by rw [hF]; exact hA) ⟨o, ho, hP⟩ hl (by have := hr.length; simp only [List.getElem?_eq_none_iff] at hx; simp; omega) fun h' hs => ?_
      exact ⟨_, B'', .rf, r.lose (s' := { s with heap := h' }) (fun b hb o e => hs b o hb e) rfl rfl, q⟩
    · intro F' i o loc hp gens hF hP hc B'' hB' s r Q q
      exact wpAny_pyIter_tupleiter ⟨o, r.hp (_, .raw o) (.head _), hP⟩ q
-- the keys of a dict that stays
theorem it_dct {target : Expr} {kvs : List (Int × Int)} (hA : F.A.handled = none) (hm : ∃ o, G.base sysModules = some o ∧ Inert o) (ne : kvs ≠ []) : Iters G F target (.dct kvs) σ σ (kvs.map fun p => .int p.1) (fun _ => True) (fun gens => gens = σ.gens) := by
  intro B x hx B' hB s r
  cases hx with
  | @dct a o _ hb _ hd =>
    have dict : ∀ {B''} {σ' : St} {s : Shared}, Rel G F B'' σ' s → PM.le B B'' → ∃ kxs, s.heap.DictOf (intKind G.prog G.w) a kxs ∧ RKI kvs kxs := fun r le => hd.dictOf (r.keep _ _ (le _ _ hb))
    obtain ⟨kxs, es, ep, hr, hx, hdat, hk, _, hp, hnd⟩ := id hd
    have hne : (a == sysModules) = false := by
      rw [beq_eq_false_iff_ne]
      rintro rfl
      obtain ⟨o', e, hi⟩ := hm
      have h1 := r.keep _ _ (hB _ _ hb)
      have h2 := r.keep _ _ (r.base _ _ e)
      rw [h1] at h2; cases h2
      exact hi.dct _ ne hd
    have at_ : ∀ {F : Fm} {B''} {σ' : St} {s : Shared}, Rel G F B'' σ' s → PM.le B B'' → s.heap.DictAt (intKind G.prog G.w) a kxs ep := fun r le => ⟨o, es, r.keep _ _ (le _ _ hb), hx, hdat, hk, hp G.prog G.w, hnd⟩
    have hlen : kxs.length = kvs.length := by
      have : ∀ {kvs : List (Int × Int)} {kxs : List (Int × Value)}, RKI kvs kxs → kxs.length = kvs.length := by
        intro kvs kxs h; induction h with
        | nil => rfl
        | cons _ ih => simp [ih]
      exact this hr
    have hget : ∀ {kvs : List (Int × Int)} {kxs : List (Int × Value)}, RKI kvs kxs → ∀ {i : Nat} {v : V}, (kvs.map fun p => V.int p.1)[i]? = some v → ∃ k x, kxs[i]? = some (k, x) ∧ v = .int k := by
      intro kvs kxs h; induction h with
      | nil => intro i v e; simp at e
      | cons _ ih =>
        intro i v e
        cases i with
        | zero => simp at e; exact ⟨_, _, rfl, e.symm⟩
        | succ i => simp at e; exact ih (by simpa using e)
    refine wpAny_pyIter_dict (knd := intKind G.prog G.w) hne (at_ r hB) ?_
    have r' := r.newOwn (o := { cls := .type "dict_keyiterator", data := .fields #[.ref a, .int 0 0, .int kxs.length 0, .int ep 0] }) (x := .raw { cls := .type "dict_keyiterator", data := .fields #[.ref a, .int 0 0, .int kxs.length 0, .int ep 0] }) (s' := { s with heap := s.heap.push { cls := .type "dict_keyiterator", data := .fields #[.ref a, .int 0 0, .int kxs.length 0, .int ep 0] } }) rfl rfl rfl
      (Heap.get?_push_size _ rfl)
    refine ⟨B', _, [_], _, _, rfl, .rf, r', (show Walk1 G F.A B' target _ (kvs.map fun p => .int p.1) (fun i o => o.cls = .type "dict_keyiterator" ∧ o.data = .fields #[.ref a, .int i 0, .int kxs.length 0, .int ep 0]) (fun _ => True) from ⟨?_, ?_, ?_⟩).walk _, rfl, _, rfl, rfl, rfl⟩
    · intro F' i o loc hp gens v Q hF hP hc hx q B'' hB' s r
      obtain ⟨k, x, e1, rfl⟩ := hget hr hx
      have ho : s.heap.get? _ = some o := r.hp (_, .raw o) (.head _)
      refine wpAny_pyNext_dict_item (knd := intKind G.prog G.w) ⟨o, ho, hP⟩ (at_ r (hB.tr hB')) e1 fun key h' hkey hit hs => ?_
      obtain ⟨o', ho', hc', hd'⟩ := hit
      obtain ⟨t, rfl⟩ := Value.isInt_shape hkey
      refine lgo_other ho' hc' (by decide) ?_
      exact ⟨.int k, _, B'', .rf, r.turnHd (s' := { s with heap := h' }) (fun b hb o e => (hs.2 b hb).trans e) rfl rfl ho', .int _ _, q o' ⟨hc', hd'⟩⟩
    · intro F' i o loc hp gens Q hF hP hc hx q B'' hB' s r
      have ho : s.heap.get? _ = some o := r.hp (_, .raw o) (.head _)
      refine wpAny_pyNext_dict_end (knd := intKind G.prog G.w) (by rw [hF]; exact hA) ⟨o, ho, hP⟩ (at_ r (hB.tr hB')) (by simp only [List.getElem?_eq_none_iff, List.length_map] at hx ⊢; omega) fun h' hs => ?_
      exact ⟨_, B'', .rf, r.lose (s' := { s with heap := h' }) (fun b hb o e => hs b o hb e) rfl rfl, q⟩
    · intro F' i o loc hp gens hF hP hc B'' hB' s r Q q
      exact wpAny_pyIter_keyiter ⟨o, r.hp (_, .raw o) (.head _), hP⟩ q
-- while
theorem s_while {test : Expr} {body orelse : List Stmt} {pos : Pos} (J : Nat → St → Prop) {Q : Fl → St → Prop} (n : Nat) (h0 : J n σ)
    (turn : ∀ n σ', J n σ' → Tr G F test σ' fun c σ₂ => (c = true → Ex G F body σ₂ fun fl σ₃ => match fl with
      | .next | .cont => ∃ m, m < n ∧ J m σ₃
      | .brk => Q .next σ₃
      | .ret v => Q (.ret v) σ₃) ∧ (c = false → Ex G F orelse σ₂ Q)) : S1 G F (.While test body orelse pos) σ Q := ⟨fun B₀ hB₀ s₀ r₀ => by
  refine wpAny_While (codeAny_whileLoop (fun k s' => ∃ σ' B', PM.le B₀ B' ∧ J k σ' ∧ Rel G F B' σ' s') ?_ n ⟨σ, B₀, .rf, h0, r₀⟩)
  rintro k s' ⟨σ', B', le, hJ, rel⟩
  refine wpAny_mono ((turn k σ' hJ).go B' PM.bot_le s' rel) (fun c s₁ ⟨b, σ₂, B₂, le₂, rel₂, hb, h₂⟩ => ?_) fun _ _ e => e.elim
  cases hb
  cases c with
  | true =>
    rw [if_pos rfl]
    refine wpAny_mono ((h₂.1 rfl).go B₂ PM.bot_le s₁ rel₂) (fun fl s₄ ⟨b, σ₄, B₅, le₅, rel₅, hfl, h₅⟩ => ?_) fun _ _ e => e.elim
    cases hfl with
    | brk => exact ⟨.next, σ₄, B₅, le.tr (le₂.tr le₅), rel₅, .next, h₅⟩
    | ret hv => exact ⟨.ret _, σ₄, B₅, le.tr (le₂.tr le₅), rel₅, .ret hv, h₅⟩
    | next =>
      obtain ⟨m, hm, hj⟩ := h₅
      exact ⟨m, hm, σ₄, B₅, le.tr (le₂.tr le₅), hj, rel₅⟩
    | cont =>
      obtain ⟨m, hm, hj⟩ := h₅
      exact ⟨m, hm, σ₄, B₅, le.tr (le₂.tr le₅), hj, rel₅⟩
  | false =>
    rw [if_neg Bool.false_ne_true]
    exact wpAny_mono ((h₂.2 rfl).go B₂ PM.bot_le s₁ rel₂) (fun fl s₄ p => Post.up (le.tr le₂) p) fun _ _ e => e.elim⟩
-- targets
noncomputable def ToEach (G : Gl) (F : Fm) (ts : List Expr) (as : List V) (σ : St) (Q : St → Prop) : Prop := ∀ B xs, RVs B as xs → Ok G F RU B (assignInOrder (ts.map fun t => assign t F.env) xs) σ (fun _ => Q)
theorem te_nil {Q : St → Prop} (q : Q σ) : ToEach G F [] [] σ Q := by
  intro B xs h
  cases h
  exact Ok.pure (R := RU) (b := ()) trivial (fun _ h => h) q
theorem te_cons {t : Expr} {ts : List Expr} {a : V} {as : List V} {Q : St → Prop} (h : To G F t a σ fun σ₁ => ToEach G F ts as σ₁ Q) : ToEach G F (t :: ts) (a :: as) σ Q := by
  intro B xs hx
  cases hx with
  | @cons _ x _ xs ha hr =>
    show Ok G F RU B (do holding xs (assign t F.env x); assignInOrder (ts.map fun t => assign t F.env) xs) σ (fun _ => Q)
    exact Ok.bind (Ok.holding (h _ _ ha)) fun _ σ₁ B₁ _ hB _ h => h _ _ (hr.mono hB)
theorem to_tup {es : List Expr} {k : Nat} {p : Pos} {as : List V} {Q : St → Prop} (hA : F.A.handled = none) (h : ToEach G F es as σ Q) (hlen : es.length = as.length := by rfl)
    (he : (assignEach es F.env).map (·.2) = es.map (fun t => assign t F.env) := by rfl) (hstar : (assignEach es F.env).findIdx? (·.1) = none := by rfl) : To G F (.Tuple es k p) (.tup as) σ Q := by
  intro B x hx
  cases hx with
  | @tup a _ xs n hb hr =>
    refine ⟨fun B' hB s r => ?_⟩
    refine wpAny_assign_Tuple hA ⟨_, r.keep _ _ (hB _ _ hb), rfl, _, rfl⟩ ?_ hstar fun h' hx => ?_
    · have := congrArg List.length he
      simp only [List.length_map] at this
      rw [this, List.size_toArray, hr.length]; exact hlen
    · rw [he]
      have r' : Rel G F B' σ { s with heap := h' } := r.grow rfl rfl (fun b o e => hx b o (Nat.ne_of_lt (Heap.lt_size e)) e)
      exact (h B' xs (hr.mono hB)).go B' .rf _ r'
theorem s_expr {e : Expr} {pos : Pos} {Q : Fl → St → Prop} (h : Ev G F e σ fun _ σ₁ => Q .next σ₁)
    (hi : interactive F.env = false := by rfl) (hs : swapsWith e none pos.line F.env = pure false := by rfl) : S1 G F (.Expr e pos) σ Q := ⟨fun B hB s r => by
  refine wpAny_Expr_any (Ok.run h hB r fun a s₁ b σ₁ B₁ h1 h2 h3 h4 => ?_) hi hs
  exact ⟨.next, σ₁, B₁, h1, h2, .next, h4⟩⟩
end
end Mine
end
section
open PySem PySem.Spec PySem.Calls PyProof.Rows PySem.W
set_option Elab.async false
set_option maxRecDepth 100000
set_option linter.unusedVariables false
namespace Mine
theorem isi_issub_nested {tp : Addr} {items : Array Value} {cs : List Value} {prog : Program} {w : World} {A : Around} {E : Value → Shared → Prop} {s : Shared} {k : Tok} {n : Nat} {Q : Fin → Shared → Prop} (hi : items.toList = Value.type "str" :: cs)
    (htp : s.heap.get? tp = some { cls := .type "tuple", data := .seq items n }) (hq : Q (.done (.ret (.bool true))) s) :
    wpAny (model prog w) A (Builtin.«issubclass.nested» ⟨[.type "str", .ref tp, .int 0 k], []⟩) Q E s := by
  obtain ⟨h, g, d, t, os⟩ := s
  have hT2 : (⟨h, g, d, t, os⟩ : Shared).TypeIs (.ref tp) "tuple" := ⟨_, htp, rfl⟩
  have f1 := F.isi_sub_tuple
  have f2 : isSubtype (.type "str") (.type "str") = pure true := by rw [isSubtype_type]; kernel_rfl
  repeat (any_goals (first | assumption | wp_step))
  refine wpAny_arrayLoop ?_
  simp only [Option.getD_some, hi]
  rw [List.forIn_cons]
  refine wpAny_bind (wpAny_bind (call_function_meets (S := fun _ R s => R (.ok (.ret (.bool true))) s) (by decide +kernel) (by decide +kernel) F.entry_issubclass_nested (by unfold argsOk; kernel_rfl) (fun prog w A R s hs => ?_) ?_))
  · obtain ⟨h, g, d, t, os⟩ := s
    repeat (any_goals (first | assumption | wp_step))
  · refine wpAny_bind (m := truthy (.bool true)) (wpAny_pure ?_)
    refine wpAny_bind (wpAny_pure (wpAny_pure (wpAny_pure ?_)))
    repeat (any_goals (first | assumption | wp_step))
theorem isi_issub {tp : Addr} {items : Array Value} {cs : List Value} {n : Nat} (hi : items.toList = Value.type "str" :: cs) :
    Meets (Builtin.«issubclass» ⟨[.type "str", .ref tp], []⟩) (fun _ R s => s.heap.get? tp = some { cls := .type "tuple", data := .seq items n } ∧ R (.ok (.ret (.bool true))) s) :=
  fun _ _ _ _ _ hs => issubclass_outer (isi_issub_nested hi hs.1 hs.2)
theorem eqBool_int_of {a b : Int} {t u : Tok} {c : Bool} (hc : (a == b) = c) {prog : Program} {w : World} {A : Around} {E : Value → Shared → Prop} {s : Shared} {Q : Bool → Shared → Prop} (h : Q c s) : wpAny (model prog w) A (eqBool (.int a t) (.int b u)) Q E s := wpAny_eqBool_int (hc ▸ h)
theorem rich_lt_of {a b : Int} {t u : Tok} {c : Bool} (hc : decide (a < b) = c) {prog : Program} {w : World} {A : Around} {E : Value → Shared → Prop} {s : Shared} {Q : Value → Shared → Prop} (h : Q (.bool c) s) : wpAny (model prog w) A (richCompare .Lt (.int a t) (.int b u)) Q E s :=
  richCompare_gives (op := .Lt) (typeIs_int s _ t) (typeIs_int s _ u) F.slot_int_lt F.entry_int_lt (F.args_int_lt_2 _ _) (gives_int_lt _ _ t u) (fun x => nomatch x) (hc ▸ h)
theorem wpAny_listLoop {M : Model} {A : Around} {E : Value → Shared → Prop} {s : Shared} {β γ : Type} {F : γ → β → Sem (ForInStep β)} {l : List γ} {b : β} {Q : β → Shared → Prop} {h : ∃ bs, bs ++ l = l}
    (hq : wpAny M A (forIn l b F) Q E s) : wpAny M A (List.forIn'.loop l (fun a _ => F a) l b h) Q E s := hq
theorem tuple_lt2 (l r : Addr) (a b c d : Int) (ta tb tc td : Tok) (n n2 : Nat) (xs ys : Array Value) (hx : xs = #[.int a ta, .int b tb]) (hy : ys = #[.int c tc, .int d td]) :
    Meets (Builtin.«tuple.__lt__» ⟨[.ref l, .ref r], []⟩)
      (fun _ R s => s.heap.get? l = some { cls := .type "tuple", data := .seq xs n } ∧ s.heap.get? r = some { cls := .type "tuple", data := .seq ys n2 } ∧
        R (.ok (.ret (.bool (decide (a < c ∨ (a = c ∧ b < d)))))) s) :=
  .of_wp fun prog w A R s h => by
    obtain ⟨hp, g, dd, tk, os⟩ := s; obtain ⟨hl, hb, h⟩ := h
    have f2 := AutoSeq1.sub_tuple_tuple
    have hz : xs.toList.zip ys.toList = [(.int a ta, .int c tc), (.int b tb, .int d td)] := by subst hx hy; rfl
    have hsz : xs.size = ys.size := by subst hx hy; rfl
    wp_walk using wpAny_loadPart' hl, wpAny_loadPart' hb
    refine wpAny_listLoop ?_
    rw [hz, List.forIn_cons]
    by_cases h1 : a = c
    · subst h1
      refine wpAny_bind (wpAny_bind (eqBool_int_of (c := true) (by simp) ?_))
      refine wpAny_pure ?_
      show wpAny _ _ (forIn [(Value.int b tb, Value.int d td)] (none, ()) _) _ _ _
      rw [List.forIn_cons]
      by_cases h2 : b = d
      · subst h2
        refine wpAny_bind (wpAny_bind (eqBool_int_of (c := true) (by simp) ?_))
        refine wpAny_pure (wpAny_pure ?_)
        show wpAny _ _ (ret (Builtin.Tuple.tupleCompareSizes CmpOp.Lt xs.size ys.size)) _ _ _
        have e : Builtin.Tuple.tupleCompareSizes CmpOp.Lt xs.size ys.size = .bool false := by subst hx hy; rfl
        rw [e]
        refine wpAny_pure ⟨_, rfl, ?_⟩
        simpa using h
      · refine wpAny_bind (wpAny_bind (eqBool_int_of (c := false) (by simp [h2]) ?_))
        refine wpAny_bind (wpAny_rule ?_)
        refine wpAny_bind (rich_lt_of rfl ?_)
        refine wpAny_bind (wpAny_pure (wpAny_pure (wpAny_pure ?_)))
        refine wpAny_pure ⟨_, rfl, ?_⟩
        simpa using h
    · refine wpAny_bind (wpAny_bind (eqBool_int_of (c := false) (by simp [h1]) ?_))
      refine wpAny_bind (wpAny_rule ?_)
      refine wpAny_bind (rich_lt_of rfl ?_)
      refine wpAny_bind (wpAny_pure (wpAny_pure (wpAny_pure ?_)))
      refine wpAny_pure ⟨_, rfl, ?_⟩
      have : decide (a < c ∨ a = c ∧ b < d) = decide (a < c) := by simp [h1]
      rw [this] at h
      exact h
end Mine
end
section
open PySem PySem.Spec PySem.Calls PyProof.Rows PySem.W
set_option Elab.async false
set_option maxRecDepth 100000
set_option linter.unusedVariables false
namespace Mine
section
variable {G : Gl} {F : Fm} {σ : St}
-- classes
theorem cl_type {a : V} {T : String} {Q : V → St → Prop} (hT : Ty G F σ a T) (q : Q (.v (.type T)) σ) (hnb : (Value.type T == Value.type "builtin_function_or_method") = false := by decide) : Cl G F (.type "type") [a] σ Q := by
  intro B xs h
  cases h with
  | cons h1 h2 =>
    cases h2
    exact ⟨fun B' hB s r => call_type_of (hT B' s _ r (h1.mono hB)).1 hnb (Post.mk r (.v _) q)⟩
theorem cl_isbytes {x : Str} {Q : V → St → Prop} (q : Q (.v (.bool false)) σ) : Cl G F (.builtin "isinstance") [.str x, .v (.type "bytes")] σ Q := by
  intro B xs h
  cases h with
  | cons h1 h2 =>
    cases h2 with
    | cons h2 h3 =>
      cases h3
      cases h1
      cases h2
      exact ⟨fun B' hB s r => PySem.IsiPair.str_bytes (Post.mk r.toks (.v _) q)⟩
theorem cl_issub {c : V} {Q : V → St → Prop} (q : Q (.v (.bool true)) σ) : Cl G F (.builtin "issubclass") [.v (.type "str"), .tup [.v (.type "str"), c]] σ Q := by
  intro B xs h
  cases h with
  | cons h1 h2 =>
    cases h2 with
    | cons h2 h3 =>
      cases h3
      cases h1
      cases h2 with
      | @tup a _ xs n hb hr =>
        cases hr with
        | cons g1 g2 =>
          cases g1
          exact ⟨fun B' hB s r => call_issubclass (isi_issub rfl) ⟨r.keep _ _ (hB _ _ hb), Post.mk r (.v _) q⟩⟩
theorem op_ltpair {a b c d : Int} {Q : V → St → Prop} (q : Q (.v (.bool (decide (a < c ∨ (a = c ∧ b < d))))) σ) (hu : F.A.units < cLine) : Op2 G F (compareOp .Lt) (.tup [.int a, .int b]) (.tup [.int c, .int d]) σ Q := by
  intro B x y hx hy
  cases hx with
  | @tup a₁ _ xs n hb hr =>
    cases hy with
    | @tup a₂ _ ys m hb' hr' =>
      cases hr with
      | cons g1 g2 =>
        cases g2 with
        | cons g2 g3 =>
          cases g3
          cases hr' with
          | cons k1 k2 =>
            cases k2 with
            | cons k2 k3 =>
              cases k3
              cases g1 with
              | int _ ta =>
                cases g2 with
                | int _ tb =>
                  cases k1 with
                  | int _ tc =>
                    cases k2 with
                    | int _ td =>
                      exact ⟨fun B' hB s r => richCompare_meets_room (op := .Lt) ⟨_, r.keep _ _ (hB _ _ hb), rfl⟩ ⟨_, r.keep _ _ (hB _ _ hb'), rfl⟩ PySem.F.slot_tuple_lt PySem.F.entry_tuple_lt (PySem.F.args_tuple_lt_2 _ _) (tuple_lt2 _ _ _ _ _ _ _ _ _ _ _ _ _ _ rfl rfl)
                        ⟨r.keep _ _ (hB _ _ hb), r.keep _ _ (hB _ _ hb'), show Value.bool _ ≠ Value.notImplemented ∧ _ from ⟨(fun x => nomatch x), Post.mk r (.v _) q⟩⟩ hu⟩
-- range(n), walked
theorem cl_range {n : Int} {Q : V → St → Prop} (q : ∀ r t u v, Q (.v (.ref r)) { σ with hp := (r, .raw { cls := .type "range", data := .fields #[.int 0 t, .int n u, .int 1 v] }) :: σ.hp }) : Cl G F (.type "range") [.int n] σ Q := by
  intro B xs h
  cases h with
  | cons h1 h2 =>
    cases h2
    cases h1 with
    | int _ tn =>
      refine ⟨fun B' hB s r => call_range_1 ?_⟩
      refine Post.mk (r.newOwn (o := { cls := .type "range", data := .fields #[.int 0 s.toks, .int n tn, .int 1 (s.toks + 1)] }) (x := .raw { cls := .type "range", data := .fields #[.int 0 s.toks, .int n tn, .int 1 (s.toks + 1)] })
        (s' := { s with heap := s.heap.push { cls := .type "range", data := .fields #[.int 0 s.toks, .int n tn, .int 1 (s.toks + 1)] }, toks := s.toks + 1 + 1 }) rfl rfl rfl (Heap.get?_push_size _ rfl)) (.v _) (q _ _ _ _)
theorem small_nat {n : Nat} (hn : n ≤ sizeLine) : Builtin.Range.small 0 n 1 = true ∧ Builtin.Range.rangeSize 0 n 1 = n := by
  have e : Builtin.Range.rangeSize 0 n 1 = n := by
    unfold Builtin.Range.rangeSize
    rw [sizeLine_eq] at hn
    split <;> simp_all <;> omega
  refine ⟨?_, e⟩
  unfold Builtin.Range.small
  rw [e]
  rw [sizeLine_eq] at hn
  simp [Builtin.Range.rangeFitsLong]
  omega
theorem it_range {target : Expr} {n : Nat} {r t u v : Nat} {loc : Str → Option V} {hp : List (Addr × AO)} {gens : Array GenState} (hA : F.A.handled = none) (hn : n ≤ sizeLine) :
    Iters G F target (.v (.ref r)) ⟨loc, (r, .raw { cls := .type "range", data := .fields #[.int 0 t, .int n u, .int 1 v] }) :: hp, gens⟩ ⟨loc, hp, gens⟩ ((rangeFrom 0 n).map .int) (fun _ => True) (fun g => g = gens) := by
  intro B x hx B' hB s rel
  cases hx
  have hr : IsRange s.heap r 0 n 1 t u v := rel.hp (r, .raw _) (.head _)
  refine wpAny_pyIter_range hr (small_nat hn).1 ?_
  rw [(small_nat hn).2]
  have r' := (rel.forget (hp' := hp) (List.sublist_cons_self _ _)).newOwn (o := { cls := .type "range_iterator", data := .fields #[rawInt 0, rawInt n, rawInt 1] }) (x := .raw { cls := .type "range_iterator", data := .fields #[rawInt 0, rawInt n, rawInt 1] }) (s' := { s with heap := s.heap.push { cls := .type "range_iterator", data := .fields #[rawInt 0, rawInt n, rawInt 1] } }) rfl rfl rfl
    (Heap.get?_push_size _ rfl)
  refine ⟨B', _, [_], _, _, rfl, .rf, r', (walk_range hA).walk _, rfl, _, rfl, Nat.zero_le _, ?_⟩
  simp
-- sum, max of ints
theorem rvs_ints {B : PM} : ∀ {ns : List Int} {xs : List Value}, RVs B (ns.map .int) xs → ∃ ps : List (Int × Tok), xs = ps.map (fun p => .int p.1 p.2) ∧ ps.map (·.1) = ns
  | [], _, .nil => ⟨[], rfl, rfl⟩
  | n :: ns, _, .cons (.int _ t) h => let ⟨ps, e1, e2⟩ := rvs_ints h; ⟨(n, t) :: ps, by rw [e1]; rfl, by rw [List.map_cons, e2]⟩
theorem preSum_eq (ps : List (Int × Tok)) : ∀ n, preSum (numAt ps.toArray) n = ((ps.map (·.1)).take n).sum
  | 0 => rfl
  | n + 1 => by
    show preSum (numAt ps.toArray) n + numAt ps.toArray n = _
    rw [preSum_eq ps n, List.take_add_one, List.sum_append]
    congr 1
    unfold numAt
    simp only [List.getElem?_toArray, List.getElem?_map]
    cases ps[n]? <;> simp
theorem cl_sum {ns : List Int} {Q : V → St → Prop} (hA : F.A.handled = none) (q : Q (.int ns.sum) σ) : Cl G F (.builtin "sum") [.lst (ns.map .int)] σ Q := by
  intro B xs h
  cases h with
  | cons h1 h2 =>
    cases h2
    cases h1 with
    | @lst a _ xs n hb hr =>
      obtain ⟨ps, rfl, rfl⟩ := rvs_ints hr
      refine ⟨fun B' hB s r => ?_⟩
      have hl : s.heap.IsList a (intItems ps.toArray) := ⟨_, r.keep _ _ (hB _ _ hb), rfl, n, by simp [intItems]⟩
      refine call_sum_walkG (iter_intList hl fun s₂ e st hfp hlI => ?_)
      subst e
      refine ⟨_, _, _, _, _, _, numAt ps.toArray, rfl, Walks.list (A := F.A.in1) hA _ a hlI (intItems ps.toArray), st, hfp, (fun _ _ => intItems_at), fun h' tk t' hk => ?_⟩
      have e : preSum (numAt ps.toArray) (intItems ps.toArray).size = (ps.map (·.1)).sum := by
        rw [preSum_eq, show (intItems ps.toArray).size = (ps.map (·.1)).length by simp [intItems], List.take_length]
      rw [e]
      exact Post.mk (r.grow (s' := { s with heap := h', toks := tk }) rfl rfl (old_kept hk)) (.int _ _) q
noncomputable def maxOf : Int → List Int → Int
  | m, [] => m
  | m, n :: ns => maxOf (max m n) ns
theorem argBest_lt {bt : Nat → Nat → Bool} : ∀ k, argBest bt k ≤ k
  | 0 => Nat.le_refl _
  | k + 1 => by
    unfold argBest
    split
    · exact Nat.le_refl _
    · exact Nat.le_succ_of_le (argBest_lt k)
theorem maxOf_snoc : ∀ (ns : List Int) (m n : Int), maxOf m (ns ++ [n]) = max (maxOf m ns) n
  | [], _, _ => rfl
  | a :: ns, m, n => by rw [List.cons_append, maxOf, maxOf, maxOf_snoc ns]
theorem argBest_max (ps : List (Int × Tok)) (m : Int) (ns : List Int) (hm : ps.map (·.1) = m :: ns) : ∀ k, k ≤ ns.length → numAt ps.toArray (argBest (fun i j => decide (numAt ps.toArray i > numAt ps.toArray j)) k) = maxOf m (ns.take k)
  | 0, _ => by
    have : numAt ps.toArray 0 = m := by
      cases ps with
      | nil => cases hm
      | cons p ps => simp at hm; simp [numAt, hm.1]
    simpa [argBest, maxOf] using this
  | k + 1, hk => by
    have ih := argBest_max ps m ns hm k (by omega)
    have hv : numAt ps.toArray (k + 1) = ns[k]'(by omega) := by
      have h1 : (ps.map (·.1))[k + 1]? = some (ns[k]'(by omega)) := by rw [hm]; simp
      unfold numAt
      rw [List.getElem?_map] at h1
      simp only [List.getElem?_toArray, h1]; rfl
    have ht : ns.take (k + 1) = ns.take k ++ [ns[k]'(by omega)] := by simp
    rw [ht, maxOf_snoc, ← ih, ← hv]
    show numAt ps.toArray (if decide (numAt ps.toArray (k + 1) > numAt ps.toArray (argBest (fun i j => decide (numAt ps.toArray i > numAt ps.toArray j)) k)) = true then k + 1 else argBest (fun i j => decide (numAt ps.toArray i > numAt ps.toArray j)) k) = _
    generalize argBest (fun i j => decide (numAt ps.toArray i > numAt ps.toArray j)) k = z
    split
    · rename_i h; simp at h; omega
    · rename_i h; simp at h; omega
theorem cl_maxl {m : Int} {ns : List Int} {Q : V → St → Prop} (hA : F.A.handled = none) (q : Q (.int (maxOf m ns)) σ) : Cl G F (.builtin "max") [.lst ((m :: ns).map .int)] σ Q := by
  intro B xs h
  cases h with
  | cons h1 h2 =>
    cases h2
    cases h1 with
    | @lst a _ xs n hb hr =>
      obtain ⟨ps, rfl, hm⟩ := rvs_ints hr
      refine ⟨fun B' hB s r => ?_⟩
      have hl : s.heap.IsList a (intItems ps.toArray) := ⟨_, r.keep _ _ (hB _ _ hb), rfl, n, by simp [intItems]⟩
      have hlen : ps.length = ns.length + 1 := by have := congrArg List.length hm; simpa using this
      refine max_intList hA hl (by simp [hlen]) fun v h' tk hv hk => ?_
      have sz : ps.toArray.size - 1 = ns.length := by simp [hlen]
      rw [sz] at hv
      obtain ⟨t, rfl⟩ := intItems_at hv
      rw [argBest_max ps m ns hm ns.length (Nat.le_refl _), List.take_length]
      exact Post.mk (r.grow (s' := { s with heap := h', toks := tk }) rfl rfl hk) (.int _ _) q
theorem cl_max2 {a b : Int} {Q : V → St → Prop} (hA : F.A.handled = none) (q : Q (.int (max a b)) σ) : Cl G F (.builtin "max") [.int a, .int b] σ Q := by
  intro B xs h
  cases h with
  | cons h1 h2 =>
    cases h2 with
    | cons h2 h3 =>
      cases h3
      cases h1 with
      | int _ ta =>
        cases h2 with
        | int _ tb =>
          refine ⟨fun B' hB s r => max_two_ints hA fun h' tk hk => ?_⟩
          have r' := r.grow (s' := { s with heap := h', toks := tk }) rfl rfl hk
          by_cases c : b > a
          · rw [if_pos c]; exact Post.mk r' (by rw [show max a b = b by omega]; exact .int _ _) q
          · rw [if_neg c]; exact Post.mk r' (by rw [show max a b = a by omega]; exact .int _ _) q
end
end Mine
end
section
open PySem PySem.Spec PySem.Calls PyProof.Rows PySem.W
set_option Elab.async false
set_option maxRecDepth 100000
set_option linter.unusedVariables false
namespace Mine
section
variable {G : Gl} {F : Fm} {σ : St}
theorem cl_starts {x y : Str} {Q : V → St → Prop} (q : Q (.v (.bool (Txt.startswith x y))) σ) : Cl G F (.builtin "str.startswith") [.str x, .str y] σ Q := by
  intro B xs h
  cases h with
  | cons h1 h2 =>
    cases h2 with
    | cons h2 h3 =>
      cases h3; cases h1; cases h2
      exact ⟨fun B' hB s r => SC.startswith (Post.mk r (.v _) q)⟩
theorem cl_ends {x y : Str} {Q : V → St → Prop} (q : Q (.v (.bool (Txt.endswith x y))) σ) : Cl G F (.builtin "str.endswith") [.str x, .str y] σ Q := by
  intro B xs h
  cases h with
  | cons h1 h2 =>
    cases h2 with
    | cons h2 h3 =>
      cases h3; cases h1; cases h2
      exact ⟨fun B' hB s r => SC.endswith (Post.mk r (.v _) q)⟩
theorem cl_rfind {x y : Str} {Q : V → St → Prop} (q : Q (.int (Txt.rfind x y)) σ) : Cl G F (.builtin "str.rfind") [.str x, .str y] σ Q := by
  intro B xs h
  cases h with
  | cons h1 h2 =>
    cases h2 with
    | cons h2 h3 =>
      cases h3; cases h1; cases h2
      exact ⟨fun B' hB s r => SC.rfind (Post.mk r.toks (.int _ _) q)⟩
theorem rvs_strs {B : PM} : ∀ {ns : List Str} {xs : List Value}, RVs B (ns.map .str) xs → ∃ l : List (Str × Tok), xs = strValues l ∧ l.map (·.1) = ns
  | [], _, .nil => ⟨[], rfl, rfl⟩
  | n :: ns, _, .cons (.str _ t) h => let ⟨ps, e1, e2⟩ := rvs_strs h; ⟨(n, t) :: ps, by rw [e1]; rfl, by rw [List.map_cons, e2]⟩
theorem rvs_of_strs {B : PM} : ∀ (l : List (Str × Tok)), RVs B ((l.map (·.1)).map .str) (strValues l)
  | [] => .nil
  | (x, t) :: l => .cons (.str x t) (rvs_of_strs l)
theorem cl_join {x : Str} {ns : List Str} {Q : V → St → Prop} (q : Q (.str (Txt.join x ns)) σ) (hok : JoinOk x ns = true) : Cl G F (.builtin "str.join") [.str x, .lst (ns.map .str)] σ Q := by
  intro B xs h
  cases h with
  | cons h1 h2 =>
    cases h2 with
    | cons h2 h3 =>
      cases h3; cases h1
      cases h2 with
      | @lst a _ xs n hb hr =>
        obtain ⟨l, rfl, rfl⟩ := rvs_strs hr
        exact ⟨fun B' hB s r => SC.join ⟨_, r.keep _ _ (hB _ _ hb), rfl, _, rfl⟩ rfl hok fun t' k => Post.mk r.toks (.str _ _) q⟩
theorem cl_split {x y : Str} {Q : V → St → Prop} (q : Q (.lst ((Txt.split x y).map .str)) σ) (hy : (y.length == 0) = false) (hx : x.length ≤ sizeLine) (hn : (Txt.split x y).length ≤ sizeLine) : Cl G F (.builtin "str.split") [.str x, .str y] σ Q := by
  intro B xs h
  cases h with
  | cons h1 h2 =>
    cases h2 with
    | cons h2 h3 =>
      cases h3; cases h1 with
      | str _ t =>
        cases h2 with
        | str _ u =>
          refine ⟨fun B' hB s r => ?_⟩
          have fin : ∀ (l : List (Str × Tok)) (tk : Nat), l.map (·.1) = Txt.split x y → Post G F RV B' Q (.ref s.heap.objs.size) { s with toks := tk, heap := s.heap.push { cls := .type "list", data := .seq (strValues l).toArray } } := fun l tk e => by
            obtain ⟨r', le⟩ := r.new (o := { cls := .type "list", data := .seq (strValues l).toArray }) (s' := { s with toks := tk, heap := s.heap.push { cls := .type "list", data := .seq (strValues l).toArray } }) rfl rfl rfl rfl
            rw [← e] at q
            exact Post.mk' le r' (.lst (n := 0) PM.put_self (rvs_of_strs l)) q
          cases h1 : (decide (x.length < y.length) || decide (Builtin.Str.strKind x < Builtin.Str.strKind y))
          · cases hf : (Builtin.Str.occurrences x y 0 x.length (x.length + 1)).isEmpty
            · have e : Txt.split x y = Builtin.Str.partsBetween x (Builtin.Str.occurrences x y 0 x.length (x.length + 1)) y.length := (if_neg (ne_true_of_eq_false h1)).trans (if_neg (ne_true_of_eq_false hf))
              refine call_meets PySem.F.slot_str_split (typeIs_str _ _ _) PySem.F.entry_str_split (PySem.F.args_str_split_2 _ _) (meets_str_split_sep x y t u h1 hy hf hx (by rw [← e]; exact hn)) ?_
              show Post G F RV B' Q _ _
              rw [strsFrom_eq]
              exact fin (numbered s.toks _) _ ((numbered_texts _ _).trans e.symm)
            · exact call_meets PySem.F.slot_str_split (typeIs_str _ _ _) PySem.F.entry_str_split (PySem.F.args_str_split_2 _ _) (meets_str_split_not_found x y t u h1 hy hf)
                (fin [(x, t)] s.toks ((if_neg (ne_true_of_eq_false h1)).trans (if_pos hf)).symm)
          · exact call_meets PySem.F.slot_str_split (typeIs_str _ _ _) PySem.F.entry_str_split (PySem.F.args_str_split_2 _ _) (meets_str_split_cannot_occur x y t u h1)
              (fin [(x, t)] s.toks (if_pos h1).symm)
-- slices of texts
noncomputable def cut (x : Str) (a b : Nat) : Str := ⟨((x.cps.toList.drop a).take (b - a)).toArray⟩
theorem cut_full {x : Str} : cut x 0 x.length = x := by
  unfold cut
  have : x.length = x.cps.toList.length := by simp [Str.length]
  rw [List.drop_zero, Nat.sub_zero, this, List.take_length]
theorem pick_cut (x : Str) {a b : Nat} (hab : a ≤ b) (hb : b ≤ x.length) : (((List.range (b - a)).map (a + ·)).filterMap (x.cps[·]?)) = (x.cps.toList.drop a).take (b - a) := by
  apply List.ext_getElem?
  intro i
  by_cases h : i < b - a
  · rw [List.getElem?_take_of_lt h, List.getElem?_drop]
    have : ∀ (l : List Nat), (∀ j ∈ l, j < x.cps.size) → (l.filterMap (x.cps[·]?)) = l.map fun j => x.cps[j]! := by
      intro l
      induction l with
      | nil => intro _; rfl
      | cons j l ih =>
        intro h
        have hj := h j (.head _)
        rw [List.filterMap_cons, List.map_cons, ih fun k hk => h k (.tail _ hk)]
        simp [hj]
    rw [this _ (fun j hj => by
      obtain ⟨k, hk, rfl⟩ := List.mem_map.mp hj
      have := List.mem_range.mp hk
      have hl : x.length = x.cps.size := rfl
      omega)]
    have hl : x.length = x.cps.size := rfl
    have hi : a + i < x.cps.size := by omega
    simp [h, hi]
  · rw [List.getElem?_eq_none, List.getElem?_eq_none]
    · simp; omega
    · refine Nat.le_trans (List.length_filterMap_le _ _) ?_
      simp; omega
theorem gi_cut {x : Str} {l u : Option Int} {a b : Nat} {Q : V → St → Prop} (q : Q (.str (cut x a b)) σ) (hab : a ≤ b) (hb : b ≤ x.length) (hz : x.length ≤ sizeLine)
    (hi : Builtin.Str.strSliceIndices l u 1 x.length = (List.range (b - a)).map (a + ·)) : Op2 G F getItem (.str x) (.sl l u none) σ Q := by
  intro B v y hx' hy
  cases hx' with
  | str _ t =>
    cases hy with
    | @sl sa _ _ _ vl vu vst hs pl pu ps =>
      refine ⟨fun B' hB s r => ?_⟩
      have part : ∀ {o : Option Int} {w : Value}, Part o w → ∃ p : Option (Int × Tok), w = partValue p ∧ p.map (·.1) = o := by
        intro o w h
        cases h with
        | none => exact ⟨none, rfl, rfl⟩
        | int i t => exact ⟨some (i, t), rfl, rfl⟩
      obtain ⟨pl', rfl, el⟩ := part pl
      obtain ⟨pu', rfl, eu⟩ := part pu
      obtain ⟨ps', rfl, es⟩ := part ps
      refine wpAny_getItem_str_slice (l := pl') (u := pu') (st := ps') ⟨_, r.keep _ _ (hB _ _ hs), rfl, rfl⟩ (by rw [es]; rfl) ?_
      have e : slicePicked x pl' pu' ps' = (List.range (b - a)).map (a + ·) := by
        unfold slicePicked
        rw [el, eu, es]; exact hi
      unfold sliceMade
      rw [e, es]
      by_cases c : ((none : Option Int).getD 1 == 1 && ((List.range (b - a)).map (a + ·)).length == x.length) = true
      · rw [if_pos c]
        have h1 : b - a = x.length := by simpa using c
        have h2 : a = 0 := by omega
        have h3 : b = x.length := by omega
        subst h2 h3
        rw [cut_full] at q
        exact Post.mk r (.str _ _) q
      · rw [if_neg c]
        rw [pick_cut x hab hb]
        refine ⟨?_, Post.mk r.toks (.str _ _) q⟩
        show ((x.cps.toList.drop a).take (b - a)).toArray.size ≤ sizeLine
        have hl : x.length = x.cps.size := rfl
        simp; omega
theorem idx_both {a b n : Nat} (hab : a ≤ b) (hb : b ≤ n) : Builtin.Str.strSliceIndices (some (a : Int)) (some (b : Int)) 1 n = (List.range (b - a)).map (a + ·) := StrLaws.strSliceIndices_plain hab hb
theorem idx_from {a n : Nat} (ha : a ≤ n) : Builtin.Str.strSliceIndices (some (a : Int)) none 1 n = (List.range (n - a)).map (a + ·) := by
  rw [← StrLaws.strSliceIndices_plain ha (Nat.le_refl n)]
  unfold Builtin.Str.strSliceIndices
  have h2 : ¬ ((n : Int) < 0) := by omega
  have e2 : max (0 : Int) (min (n : Int) (n : Int)) = n := by omega
  simp only [h2, if_false, e2, show ((1 : Int) > 0) = True from by simp, if_true]
theorem idx_to {b n : Nat} (hb : b ≤ n) : Builtin.Str.strSliceIndices none (some (b : Int)) 1 n = (List.range (b - 0)).map (0 + ·) := by
  rw [← StrLaws.strSliceIndices_plain (Nat.zero_le b) hb]
  unfold Builtin.Str.strSliceIndices
  have h2 : ¬ (((0 : Nat) : Int) < 0) := by omega
  have e2 : max (0 : Int) (min ((0 : Nat) : Int) (n : Int)) = ((0 : Nat) : Int) := by omega
  simp only [h2, if_false, e2, show ((1 : Int) > 0) = True from by simp, if_true]
  rfl
end
end Mine
end
section
open PySem PySem.Spec PySem.Calls PyProof.Rows PySem.W
set_option Elab.async false
set_option maxRecDepth 100000
set_option linter.unusedVariables false
namespace Mine
noncomputable def dlook (kvs : List (Int × Int)) (k : Int) : Option Int := (kvs.find? fun p => p.1 = k).map (·.2)
noncomputable def dstore (kvs : List (Int × Int)) (k v : Int) : List (Int × Int) := if kvs.any (fun p => p.1 = k) then kvs.map (fun p => if p.1 = k then (p.1, v) else p) else kvs ++ [(k, v)]
theorem RKI.look {kvs : List (Int × Int)} {kxs : List (Int × Value)} (h : RKI kvs kxs) (k : Int) : match dlook kvs k with | none => valueAt kxs k = none | some v => ∃ t, valueAt kxs k = some (.int v t) := by
  induction h with
  | nil => rfl
  | @cons k' i t kvs kxs _ ih =>
    by_cases e : k' = k
    · subst e
      simp [dlook, valueAt]
    · simp only [dlook, valueAt, List.find?_cons, e, decide_false] at ih ⊢
      exact ih
theorem RKI.any {kvs : List (Int × Int)} {kxs : List (Int × Value)} (h : RKI kvs kxs) (k : Int) : kxs.any (fun p => p.1 = k) = kvs.any (fun p => p.1 = k) := by
  induction h with
  | nil => rfl
  | cons _ ih => rw [List.any_cons, List.any_cons, ih]
theorem RKI.map {kvs : List (Int × Int)} {kxs : List (Int × Value)} (h : RKI kvs kxs) (k v : Int) (t : Tok) : RKI (kvs.map fun p => if p.1 = k then (p.1, v) else p) (kxs.map fun p => if p.1 = k then (p.1, .int v t) else p) := by
  induction h with
  | nil => exact .nil
  | @cons k' i t' kvs kxs _ ih =>
    by_cases e : k' = k
    · simp only [List.map_cons, e, if_true]; exact .cons ih
    · simp only [List.map_cons, e, if_false]; exact .cons ih
theorem RKI.snoc {kvs : List (Int × Int)} {kxs : List (Int × Value)} (h : RKI kvs kxs) (k v : Int) (t : Tok) : RKI (kvs ++ [(k, v)]) (kxs ++ [(k, .int v t)]) := by
  induction h with
  | nil => exact .cons .nil
  | cons _ ih => exact .cons ih
theorem RKI.store {kvs : List (Int × Int)} {kxs : List (Int × Value)} (h : RKI kvs kxs) (k v : Int) (t : Tok) : RKI (dstore kvs k v) (stored kxs k (.int v t)) := by
  unfold dstore stored
  rw [h.any]
  split
  · exact h.map k v t
  · exact h.snoc k v t
theorem RKI.len {kvs : List (Int × Int)} {kxs : List (Int × Value)} (h : RKI kvs kxs) : kxs.length = kvs.length := by
  induction h with
  | nil => rfl
  | cons _ ih => simp [ih]
section
variable {G : Gl} {F : Fm} {σ : St}
theorem intIs (k : Int) (t : Tok) : (intKind G.prog G.w).is k (.int k t) = true := by
  show Value.isInt k (.int k t) = true
  simp [Value.isInt]
theorem Rel.notMods {B : PM} {s : Shared} (r : Rel G F B σ s) (hm : ∃ o, G.base sysModules = some o) {a : Addr} {x : AO} {i : Nat} (hi : σ.hp[i]? = some (a, x)) : (a == sysModules) = false := by
  rw [beq_eq_false_iff_ne]
  rintro rfl
  obtain ⟨o, ho⟩ := hm
  have := r.off sysModules (List.mem_append_right _ (List.mem_map.mpr ⟨_, List.mem_of_getElem? hi, rfl⟩))
  rw [r.base _ _ ho] at this; cases this
theorem Rel.notModsB {B B' : PM} {s : Shared} (r : Rel G F B' σ s) (hm : ∃ o, G.base sysModules = some o ∧ Inert o) {a : Addr} {o : Obj} {kvs : List (Int × Int)} (ne : kvs ≠ []) (hb : B' a = some o) (hd : DictO o kvs) : (a == sysModules) = false := by
  rw [beq_eq_false_iff_ne]
  rintro rfl
  obtain ⟨o', e, hi⟩ := hm
  have h1 := r.keep _ _ hb
  have h2 := r.keep _ _ (r.base _ _ e)
  rw [h1] at h2; cases h2
  exact hi.dct _ ne hd
/-- best[depth] -/
theorem gi_dct {kvs : List (Int × Int)} {k v : Int} {Q : V → St → Prop} (hv : dlook kvs k = some v) (q : Q (.int v) σ) : Op2 G F getItem (.dct kvs) (.int k) σ Q := by
  intro B x y hx hy
  cases hy with
  | int _ t =>
    cases hx with
    | @dct a o _ hb ne hd =>
      refine ⟨fun B' hB s r => ?_⟩
      obtain ⟨kxs, hdo, hr⟩ := hd.dictOf (prog := G.prog) (w := G.w) (r.keep _ _ (hB _ _ hb))
      have := hr.look k
      rw [hv] at this
      obtain ⟨u, e⟩ := this
      exact wpAny_getItem_of (knd := intKind G.prog G.w) (intIs k t) hdo.mapOf e (Post.mk r.toks (.int _ _) q)
theorem gi_dict {kvs : List (Int × Int)} {a : Addr} {i : Nat} {k v : Int} {Q : V → St → Prop} (hi : σ.hp[i]? = some (a, .dict kvs)) (hv : dlook kvs k = some v) (q : Q (.int v) σ) : Op2 G F getItem (.v (.ref a)) (.int k) σ Q := by
  intro B x y hx hy
  cases hx
  cases hy with
  | int _ t =>
    refine ⟨fun B' hB s r => ?_⟩
    obtain ⟨kxs, hdo, hr⟩ := r.hp _ (List.mem_of_getElem? hi)
    have := hr.look k
    rw [hv] at this
    obtain ⟨u, e⟩ := this
    exact wpAny_getItem_of (knd := intKind G.prog G.w) (intIs k t) hdo.mapOf e (Post.mk r.toks (.int _ _) q)
theorem ty_dct {kvs : List (Int × Int)} : Ty G F σ (.dct kvs) "dict" := fun B s y r h => by
  cases h with
  | @dct a o _ hb ne hd =>
    obtain ⟨kxs, hdo, hr⟩ := hd.dictOf (prog := G.prog) (w := G.w) (r.keep _ _ hb)
    refine ⟨hdo.typeIs, fun b e => ?_⟩
    cases e
    obtain ⟨_, _, _, _, hx, _⟩ := hd
    exact ⟨o, r.keep _ _ hb, hx.2.1⟩
/-- longer.get(k, v) -/
theorem cl_get2 {kvs : List (Int × Int)} {a : Addr} {i : Nat} {k d : Int} {Q : V → St → Prop} (hm : ∃ o, G.base sysModules = some o) (hi : σ.hp[i]? = some (a, .dict kvs)) (q : Q (.int ((dlook kvs k).getD d)) σ) : Cl G F (.builtin "dict.get") [.v (.ref a), .int k, .int d] σ Q := by
  intro B xs h
  cases h with
  | cons h1 h2 =>
    cases h2 with
    | cons h2 h3 =>
      cases h3 with
      | cons h3 h4 =>
        cases h4; cases h1
        cases h2 with
        | int _ t =>
          cases h3 with
          | int _ u =>
            refine ⟨fun B' hB s r => ?_⟩
            obtain ⟨kxs, hdo, hr⟩ := r.hp _ (List.mem_of_getElem? hi)
            refine call_meetsIn PySem.F.slot_dict_get hdo.typeIs PySem.F.entry_dict_get (PySem.F.args_dict_get_3 _ _ _) (meets_dict_get_default (intKind G.prog G.w) a (intIs k t) (r.notMods hm hi) (.int d u)) ⟨_, hdo.mapOf, ?_⟩
            have := hr.look k
            cases hl : dlook kvs k with
            | none => rw [hl] at this q; rw [this]; exact Post.mk r.toks (.int _ _) q
            | some v => rw [hl] at this q; obtain ⟨w, e⟩ := this; rw [e]; exact Post.mk r.toks (.int _ _) q
/-- longer[k] = v -/
theorem set_dict {kvs : List (Int × Int)} {a : Addr} {i : Nat} {k v : Int} {Q : St → Prop} (hi : σ.hp[i]? = some (a, .dict kvs)) (q : Q { σ with hp := σ.hp.set i (a, .dict (dstore kvs k v)) }) (hz : kvs.length ≤ sizeLine) : Set3 G F (.v (.ref a)) (.int k) (.int v) σ Q := by
  intro B x y z hx hy hz'
  cases hx
  cases hy with
  | int _ t =>
    cases hz' with
    | int _ u =>
      refine ⟨fun B' hB s r => ?_⟩
      obtain ⟨kxs, hdo, hr⟩ := r.hp _ (List.mem_of_getElem? hi)
      refine wpAny_setItem_pairs (knd := intKind G.prog G.w) (intIs k t) hdo (fun h' hd' hs => ?_) (by rw [hr.len]; exact hz)
      refine Post.mk (R := RU) (b := ()) (r.turn hi (s' := { s with heap := h', toks := s.toks + 1 }) (y := .dict (dstore kvs k v)) (fun b hb o e => (hs.2 b hb).trans e) rfl rfl ⟨_, hd', hr.store k v u⟩) trivial q
/-- dict(best) -/
theorem cl_dict {kvs : List (Int × Int)} {Q : V → St → Prop} (hm : ∃ o, G.base sysModules = some o ∧ Inert o) (q : ∀ a, Q (.v (.ref a)) { σ with hp := (a, .dict kvs) :: σ.hp }) (hz : kvs.length ≤ sizeLine) : Cl G F (.type "dict") [.dct kvs] σ Q := by
  intro B xs h
  cases h with
  | cons h1 h2 =>
    cases h2
    cases h1 with
    | @dct a o _ hb ne hd =>
      refine ⟨fun B' hB s r => ?_⟩
      obtain ⟨kxs, hdo, hr⟩ := hd.dictOf (prog := G.prog) (w := G.w) (r.keep _ _ (hB _ _ hb))
      refine kt_call_dict (knd := intKind G.prog G.w) (r.notModsB (B := B') hm ne (hB _ _ hb) hd) hdo (by rw [hr.len]; exact hz) fun h' hd' hs => ?_
      have r1 := r.newOwn (o := { cls := .type "dict", data := .dict #[] }) (x := .dict []) (s' := { s with heap := s.heap.push { cls := .type "dict", data := .dict #[] } }) rfl rfl rfl ⟨[], Heap.DictOf.new s.heap, .nil⟩
      have r2 := r1.turn (i := 0) rfl (s' := { s with heap := h' }) (y := .dict kvs) (fun b hb o e => (hs.2 b hb).trans e) rfl rfl ⟨_, hd', hr⟩
      exact Post.mk r2 (.v _) (q _)
/-- {0: 0} -/
theorem ev_dict1 {k v : Int} {kk k2 : Nat} {p1 p2 pos : Pos} {Q : V → St → Prop} (q : ∀ a, Q (.v (.ref a)) { σ with hp := (a, .dict [(k, v)]) :: σ.hp }) : Ev G F (.Dict [some (.Constant (.int k) kk p1)] [.Constant (.int v) kv p2] pos) σ Q := ⟨fun B hB s r => by
  refine wpAny_Dict_pairs (knd := intKind G.prog G.w) (pairs := [(eval (.Constant (.int k) kk p1) F.env, do let x ← eval (.Constant (.int v) k2 p2) F.env; standAt pos; pure x)]) rfl (by simp) (by simp) ?_
  have r1 := r.newOwn (o := { cls := .type "dict", data := .dict #[] }) (x := .dict []) (s' := { s with heap := s.heap.push { cls := .type "dict", data := .dict #[] } }) rfl rfl rfl ⟨[], Heap.DictOf.new s.heap, .nil⟩
  show wpAny (model G.prog G.w) F.A (do
      let kv ← eval (.Constant (.int k) kk p1) F.env
      let vv ← holding [kv] (do let x ← eval (.Constant (.int v) k2 p2) F.env; standAt pos; pure x)
      return (kv, vv) :: (← holding [kv, vv] (pure []))) _ _ _
  refine wpAny_bind (wpAny_Constant_int ?_)
  refine wpAny_bind (wpAny_holding (wpAny_bind (wpAny_Constant_int (wpAny_bind (wpAny_standAt (wpAny_pure ?_))))))
  refine wpAny_bind (wpAny_holding (wpAny_pure (wpAny_pure ?_)))
  refine ⟨[(k, .int v _)], ⟨intIs k _, rfl, trivial⟩, Heap.DictOf.new s.heap, fun h' hd' hs => ?_⟩
  have r2 := r1.turn (i := 0) rfl (s' := { s with heap := h', toks := s.toks + 1 + 1 + 1 }) (y := .dict [(k, v)]) (fun b hb o e => (hs.2 b hb).trans e) rfl rfl ⟨_, hd', .cons .nil⟩
  exact Post.mk r2 (.v _) (q _)⟩
end
end Mine
end
section
open PySem PySem.Spec PySem.Calls PyProof.Rows PySem.W
set_option Elab.async false
set_option maxRecDepth 100000
set_option linter.unusedVariables false
namespace Mine
section
variable {G : Gl} {F : Fm} {σ : St} {B B' : PM} {s : Shared}
theorem Rel.add (r : Rel G F B σ s) {a : Addr} {o : Obj} (ho : s.heap.get? a = some o) (hb : B a = none) (hn : a ∉ F.own ++ σ.hp.map (·.1)) : Rel G F B ⟨σ.loc, (a, .raw o) :: σ.hp, σ.gens⟩ s := by
  refine ⟨r.base, r.keep, r.os, r.gens, r.fr, fun p hp => ?_, ?_, fun b hb' => ?_⟩
  · rcases List.mem_cons.mp hp with rfl | hp
    · exact ho
    · exact r.hp p hp
  · have nd := List.nodup_append.mp r.nd
    refine List.nodup_append.mpr ⟨nd.1, List.nodup_cons.mpr ⟨fun q => hn (List.mem_append_right _ q), nd.2.1⟩, fun x hx y hy e => ?_⟩
    rcases List.mem_cons.mp hy with rfl | hy
    · exact hn (List.mem_append_left _ (by subst e; exact hx))
    · exact nd.2.2 x hx y hy e
  · rcases List.mem_append.mp hb' with h | h
    · exact r.off b (List.mem_append_left _ h)
    · rcases List.mem_cons.mp h with rfl | h
      · exact hb
      · exact r.off b (List.mem_append_right _ h)
/-- a comprehension's frame -/
noncomputable abbrev cmOf (F : Fm) (scope : Scope) (cl : List (Str × Addr)) (C : Addr) : Fm := ⟨F.A, compEnvC scope cl C F.env, [C]⟩
noncomputable def clo (cl : List (Str × Addr)) (loc : Str → Option V) : Str → Option V := fun n => if (cl.lookup n).isSome then loc n else none
noncomputable def ClOk (F : Fm) (scope : Scope) (cl : List (Str × Addr)) : Prop := ∀ p ∈ cl, F.env.cells.lookup p.1 = some p.2 ∧ F.env.kindOf p.1 ≠ some .local ∧ (relabel scope F.env).names.lookup p.1 ≠ some .local
theorem comp_rel (r : Rel G F B σ s) {scope : Scope} {cl : List (Str × Addr)} (hcl : ClOk F scope cl) {h' : Heap} {tk : Nat} {m : Str → Option Value} {o₀ : Obj} (hf : o₀.isFreed = false)
    (hn : h'.Ns s.heap.objs.size m) (hs : Heap.SameBut s.heap.objs.size (s.heap.push o₀) h') :
    Rel G (cmOf F scope cl s.heap.objs.size) (B.hide s.heap F.own) ⟨clo cl σ.loc, σ.hp, σ.gens⟩ { s with heap := h', toks := tk } := by
  have le := PM.le_hide (as := F.own) r.keep
  have kp : ∀ b o, s.heap.get? b = some o → h'.get? b = some o := fun b o e => (hs.2 b (Nat.ne_of_lt (Heap.lt_size e))).trans (Heap.get?_push_of_some _ e)
  have lu : ∀ {n c}, cl.lookup n = some c → F.env.cells.lookup n = some c ∧ F.env.kindOf n ≠ some .local ∧ (relabel scope F.env).names.lookup n ≠ some .local := fun e => hcl _ (mem_of_lookup e)
  refine ⟨r.base.tr le, fun b o e => ?_, r.os, r.gens, ⟨.head _, fun a ha => ?_, ?_, fun n c e => ?_, fun n c e => ?_⟩, fun p hp => (r.hp p hp).grow le kp, ?_, fun a ha => ?_⟩
  · unfold PM.hide at e
    by_cases q : b ∈ F.own
    · rw [if_pos q] at e; exact kp b o e
    · rw [if_neg q] at e; exact kp b o (r.keep b o e)
  · rcases List.mem_cons.mp ha with rfl | ha
    · exact Inert.ns hn
    · cases ha
  · refine ⟨m, hn, fun y W e k => ?_⟩
    have e : (if (cl.lookup y).isSome then σ.loc y else none) = some W := e
    split at e
    · rename_i h
      obtain ⟨c, hc⟩ := Option.isSome_iff_exists.mp h
      exact absurd k (lu hc).2.2
    · cases e
  · obtain ⟨h1, h2, h3⟩ := lu e
    obtain ⟨g1, g2, g3⟩ := r.fr.apart n c h1
    have ex : ∃ o, (B.hide s.heap F.own) c = some o := by
      rcases g2 with g2 | ⟨o, ho⟩
      · obtain ⟨o, ho, _⟩ := r.fr.here c g2
        exact ⟨o, by unfold PM.hide; rw [if_pos g2]; exact ho⟩
      · exact ⟨o, le _ _ ho⟩
    refine ⟨fun q => ?_, .inr ex, fun y e' => g3 y (lu e').1⟩
    obtain ⟨vo, ⟨o, ho, _⟩, _⟩ := r.fr.cell n c h1
    have q : c = s.heap.objs.size := q
    exact absurd (Heap.lt_size ho) (q ▸ Nat.lt_irrefl _)
  · obtain ⟨h1, h2, h3⟩ := lu e
    obtain ⟨vo, ⟨o, ho, hd⟩, g⟩ := r.fr.cell n c h1
    refine ⟨vo, ⟨o, kp _ _ ho, hd⟩, fun W e' k => ?_⟩
    have e' : (if (cl.lookup n).isSome then σ.loc n else none) = some W := e'
    split at e'
    · obtain ⟨v, q1, q2⟩ := g W e' h2
      exact ⟨v, q1, q2.mono le⟩
    · cases e'
  · refine List.nodup_append.mpr ⟨List.nodup_cons.mpr ⟨List.not_mem_nil, List.nodup_nil⟩, (List.nodup_append.mp r.nd).2.1, fun a ha b hb e => ?_⟩
    rcases List.mem_cons.mp ha with rfl | ha
    · exact absurd (r.lt (List.mem_append_right _ hb)) (by rw [← e]; exact Nat.lt_irrefl _)
    · cases ha
  · rcases List.mem_append.mp ha with ha | ha
    · rcases List.mem_cons.mp ha with rfl | ha
      · unfold PM.hide
        rw [if_neg (fun q => Nat.lt_irrefl _ (r.lt (List.mem_append_left _ q)))]
        exact r.fresh
      · cases ha
    · unfold PM.hide
      rw [if_neg (fun q => (List.nodup_append.mp r.nd).2.2 a q a ha rfl)]
      exact r.off a (List.mem_append_right _ ha)
noncomputable abbrev Tests (G : Gl) (F : Fm) (ifs : List Expr) (σ : St) (Q : Bool → St → Prop) : Prop :=
  Ok G F RB PM.bot (forIn ifs true fun c r => if r = true then do let ok ← isTrue c F.env (eval c F.env); pure (ForInStep.yield ok) else pure (ForInStep.yield r)) σ Q
theorem ts_nil {Q : Bool → St → Prop} (q : Q true σ) : Tests G F [] σ Q := ⟨fun B hB s r => wpAny_tests_nil (Post.mk r RB.rf q)⟩
theorem ts_one {c : Expr} {Q : Bool → St → Prop} (h : Tr G F c σ Q) : Tests G F [c] σ Q := ⟨fun B hB s r => wpAny_tests_one (h.go B hB s r)⟩
theorem codeAny_compLoop_all {prog : Program} {w : World} {A : Around} {elt target iter : Expr} {ifs : List Expr} {scope : Scope} {pos : Pos} {it acc : Value} {env : Env} {R : Result → Shared → Prop} (I : Nat → Shared → Prop)
    (turn : ∀ n s, I n s → wpAny (model prog w) A (pyNext it) (fun r s₁ => match r with
      | none => R (.ok .next) s₁
      | some v => wpAny (model prog w) A (letOwnedTupleGo target it v) (fun _ s₁' => wpAny (model prog w) A (assign target env v) (fun _ s₂ =>
          wpAny (model prog w) A (forIn ifs true fun c r => if r = true then do let ok ← isTrue c env (eval c env); pure (ForInStep.yield ok) else pure (ForInStep.yield r)) (fun ok s₃ =>
            if ok = true then wpAny (model prog w) A (eval elt env) (fun x s₄ =>
              wpAny (model prog w) A (call (.builtin "list.append") [acc, x]) (fun _ s₅ => ∃ m, m < n ∧ I m s₅) (fun _ _ => False) s₄) (fun _ _ => False) s₃
            else ∃ m, m < n ∧ I m s₃) (fun _ _ => False) s₂) (fun _ _ => False) s₁') (fun _ _ => False) s₁) (fun _ _ => False) s)
    (n : Nat) (s : Shared) (h : I n s) : codeAny (model prog w) A (.compLoop (.ListComp elt [⟨target, iter, ifs, 0⟩] scope pos) 0 it acc env) R s := by
  refine codeAny_loop rfl I (fun n s hI => ?_) n h
  show wpAny _ _ ((compTurn (.ListComp elt [⟨target, iter, ifs, 0⟩] scope pos) 0 it acc env).onRaise (fun x => do noteFrame x env; theTreesLotGoes x)) _ _ s
  refine wpAny_noted ?_
  rw [compTurn_list]
  refine wpAny_bind (wpAny_standAt (wpAny_bind (wpAny_mono (turn n s hI) (fun r s₁ h₁ => ?_) fun _ _ h' => h'.elim)))
  cases r with
  | none => exact wpAny_pure h₁
  | some v =>
    refine wpAny_bind (wpAny_mono h₁ (fun _ s₁' h₁' => ?_) fun _ _ h' => h'.elim)
    refine wpAny_bind (wpAny_mono h₁' (fun _ s₂ h₂ => wpAny_bind (wpAny_mono h₂ (fun ok s₃ h₃ => ?_) fun _ _ h' => h'.elim)) fun _ _ h' => h'.elim)
    cases ok with
    | false => exact wpAny_pure ⟨rfl, h₃⟩
    | true =>
      exact wpAny_bind (wpAny_bind (wpAny_mono h₃ (fun x s₄ h₄ => wpAny_bind (wpAny_mono h₄ (fun _ s₅ h₅ => wpAny_pure (wpAny_pure ⟨rfl, h₅⟩)) fun _ _ h' => h'.elim)) fun _ _ h' => h'.elim))

noncomputable def CompTurn {X : Type} (G : Gl) (F : Fm) (f : X → V) (xs : List X) (p : X → Bool) (g : X → V) (elt target : Expr) (ifs : List Expr) (scope : Scope) (cl : List (Str × Addr)) (loc : Str → Option V) (hp : List (Addr × AO)) : Prop :=
  ∀ C, ∀ x ∈ xs, ∀ e gens, To G (cmOf F scope cl C) target (f x) ⟨clo cl loc, hp ++ e, gens⟩ fun σ₁ => Tests G (cmOf F scope cl C) ifs σ₁ fun ok σ₂ => ok = p x ∧
    (p x = false → σ₂.hp = hp ++ e ∧ σ₂.gens = gens) ∧ (p x = true → Ev G (cmOf F scope cl C) elt σ₂ fun v σ₃ => v = g x ∧ σ₃.hp = hp ++ e ∧ σ₃.gens = gens)

theorem Rel.reclo {scope : Scope} {cl : List (Str × Addr)} (hcl : ClOk F scope cl) {Cf : Addr} {loc loc' : Str → Option V} {hp hp' : List (Addr × AO)} {gens gens' : Array GenState} {s' : Shared}
    (r0 : Rel G (cmOf F scope cl Cf) B ⟨clo cl loc, hp, gens⟩ s) (r1 : Rel G (cmOf F scope cl Cf) B' ⟨loc', hp', gens'⟩ s') (le : PM.le B B') : Rel G (cmOf F scope cl Cf) B' ⟨clo cl loc, hp', gens'⟩ s' := by
  have lu : ∀ {n c}, cl.lookup n = some c → F.env.cells.lookup n = some c ∧ F.env.kindOf n ≠ some .local ∧ (relabel scope F.env).names.lookup n ≠ some .local := fun e => hcl _ (mem_of_lookup e)
  refine ⟨r1.base, r1.keep, r1.os, r1.gens, ⟨r1.fr.own, r1.fr.here, ?_, r1.fr.apart, fun n c e => ?_⟩, r1.hp, r1.nd, r1.off⟩
  · obtain ⟨m, hn, _⟩ := r1.fr.vars
    refine ⟨m, hn, fun y W e k => ?_⟩
    have e : (if (cl.lookup y).isSome then loc y else none) = some W := e
    split at e
    · rename_i h
      obtain ⟨c, hc⟩ := Option.isSome_iff_exists.mp h
      exact absurd k (lu hc).2.2
    · cases e
  · obtain ⟨vo, ⟨o, ho, hd⟩, g⟩ := r0.fr.cell n c e
    obtain ⟨g1, g2, _⟩ := r0.fr.apart n c e
    rcases g2 with g2 | ⟨o', hb⟩
    · rcases List.mem_cons.mp g2 with q | q
      · exact absurd q g1
      · cases q
    · have := r0.keep _ _ hb
      rw [ho] at this; cases this
      refine ⟨vo, ⟨o, r1.keep _ _ (le _ _ hb), hd⟩, fun W e' k => ?_⟩
      obtain ⟨v, q1, q2⟩ := g W e' k
      exact ⟨v, q1, q2.mono le⟩
theorem mapfil {X : Type} {p : X → Bool} {g : X → V} {pre : List X} {x : X} : ((pre ++ [x]).filter p).map g = (pre.filter p).map g ++ (if p x then [g x] else []) := by
  rw [List.filter_append, List.map_append]
  congr 1
  cases h : p x <;> simp [h]

/-- the loop of a comprehension -/
theorem comp_loop {X : Type} {f : X → V} {xs : List X} {p : X → Bool} {g : X → V} {elt target iter : Expr} {ifs : List Expr} {scope : Scope} {pos : Pos} {cl : List (Str × Addr)} {loc : Str → Option V} {hp : List (Addr × AO)} {C : List (Addr × AO) → Prop} {D : Array GenState → Prop}
    {Cf acc it : Addr} {P : Nat → List (Addr × AO) → Array GenState → Prop} (turn : CompTurn G F f xs p g elt target ifs scope cl loc hp) (W : Walk G F.A B target it (xs.map f) P D C) (hC : ∀ a vs, C ((a, .list vs) :: hp)) (hz : xs.length ≤ sizeLine)
    (hcl : ClOk F scope cl) {R : Result → Shared → Prop} {e : List (Addr × AO)} {gens : Array GenState} (h0 : P 0 e gens) (r : Rel G (cmOf F scope cl Cf) B ⟨clo cl loc, e ++ (acc, .list []) :: hp, gens⟩ s)
    (hR : ∀ B' s' gens', PM.le B B' → D gens' → Rel G (cmOf F scope cl Cf) B' ⟨clo cl loc, (acc, .list ((xs.filter p).map g)) :: hp, gens'⟩ s' → R (.ok .next) s') :
    codeAny (model G.prog G.w) F.A (.compLoop (.ListComp elt [⟨target, iter, ifs, 0⟩] scope pos) 0 (.ref it) (.ref acc) (compEnvC scope cl Cf F.env)) R s := by
  refine codeAny_compLoop_all (fun k s' => ∃ pre post e' g' B', xs = pre ++ post ∧ k = post.length ∧ PM.le B B' ∧ P pre.length e' g' ∧ Rel G (cmOf F scope cl Cf) B' ⟨clo cl loc, e' ++ (acc, .list ((pre.filter p).map g)) :: hp, g'⟩ s') ?_ xs.length s
    ⟨[], xs, e, gens, B, rfl, rfl, .rf, h0, r⟩
  rintro k s' ⟨pre, post, e', g', B', hx, rfl, le, hP, rel⟩
  cases post with
  | nil =>
    have hx : xs = pre := by simpa using hx
    subst hx
    have hn : (xs.map f)[xs.length]? = none := by simp
    refine wpAny_mono (W.fin (F := cmOf F scope cl Cf) rfl hP (hC _ _) hn (Q := fun r σ => r = none ∧ σ.loc = clo cl loc ∧ σ.hp = (acc, .list ((xs.filter p).map g)) :: hp ∧ D σ.gens) (fun gens' hd => ⟨rfl, rfl, rfl, hd⟩) B' le s' rel) (fun r s₁ hr => ?_) fun _ _ e => e.elim
    cases r with
    | some v => exact wpAny_mono hr (fun _ s₂ ⟨_, _, _, _, _, _, q, _⟩ => by cases q) fun _ _ e => e.elim
    | none =>
      obtain ⟨⟨loc₂, hp₂, gens₂⟩, B₃, le', rel', _, rfl, rfl, hd⟩ := hr
      exact hR B₃ s₁ gens₂ (le.tr le') hd rel'
  | cons x post =>
    have hn : (xs.map f)[pre.length]? = some (f x) := by simp [hx]
    refine wpAny_mono (W.item (F := cmOf F scope cl Cf) rfl hP (hC _ _) hn (Q := fun r σ => ∃ e₂ g₂, r = some (f x) ∧ P (pre.length + 1) e₂ g₂ ∧ σ = ⟨clo cl loc, e₂ ++ (acc, .list ((pre.filter p).map g)) :: hp, g₂⟩) (fun e₂ g₂ h => ⟨e₂, g₂, rfl, h, rfl⟩) B' le s' rel) (fun r s₁ hr => ?_) fun _ _ e => e.elim
    cases r with
    | none => obtain ⟨_, _, _, _, _, _, q, _⟩ := hr; cases q
    | some v =>
      refine wpAny_mono hr (fun _ s₂ hr => ?_) fun _ _ e => e.elim
      obtain ⟨u, σ₂, B₃, le', rel', hu, e₂, g₂, q, hp₂, rfl⟩ := hr
      cases q
      have perm : (e₂ ++ (acc, AO.list ((pre.filter p).map g)) :: hp).Perm (hp ++ ((acc, AO.list ((pre.filter p).map g)) :: e₂)) := by
        refine List.perm_append_comm.trans ?_
        rw [List.cons_append]
        exact List.perm_middle.symm
      have rel'' := rel'.perm perm
      have hmem : x ∈ xs := by rw [hx]; simp
      have hlen : ((pre.filter p).map g).length ≤ sizeLine := by
        rw [List.length_map]
        refine Nat.le_trans (List.length_filter_le _ _) (Nat.le_trans ?_ hz)
        rw [hx]; simp
      refine wpAny_mono ((turn Cf x hmem _ g₂ B₃ v hu).go B₃ .rf s₂ rel'') (fun _ s₃ ⟨_, σ₃, B₄, le₄, rel₄, _, h₄⟩ => ?_) fun _ _ e => e.elim
      refine wpAny_mono (h₄.go B₄ PM.bot_le s₃ rel₄) (fun ok s₄ ⟨b, σ₄, B₅, le₅, rel₅, hok, h₅, h₆, h₇⟩ => ?_) fun _ _ e => e.elim
      cases hok
      subst h₅
      have perm2 : ∀ zs, (hp ++ ((acc, AO.list zs) :: e₂)).Perm (e₂ ++ (acc, AO.list zs) :: hp) := fun zs => by
        refine List.Perm.trans ?_ List.perm_middle.symm
        exact List.perm_middle.trans (List.Perm.cons _ List.perm_append_comm)
      cases hpx : p x with
      | false =>
        rw [if_neg Bool.false_ne_true]
        obtain ⟨q1, q2⟩ := h₆ hpx
        obtain ⟨loc₄, hp₄, gens₄⟩ := σ₄
        cases q1; cases q2
        refine ⟨post.length, by simp, pre ++ [x], post, e₂, _, B₅, by rw [hx]; simp, rfl, le.tr (le'.tr (le₄.tr le₅)), by simpa using hp₂, ?_⟩
        rw [mapfil, hpx, if_neg Bool.false_ne_true, List.append_nil]
        exact (r.reclo hcl rel₅ (le.tr (le'.tr (le₄.tr le₅)))).perm (perm2 _)
      | true =>
        rw [if_pos rfl]
        refine wpAny_mono ((h₇ hpx).go B₅ PM.bot_le s₄ rel₅) (fun y s₅ ⟨yv, σ₅, B₆, le₆, rel₆, hy, q0, q1, q2⟩ => ?_) fun _ _ e => e.elim
        obtain ⟨loc₅, hp₅, gens₅⟩ := σ₅
        cases q1; cases q2
        subst q0
        have hi : (hp ++ (acc, AO.list ((pre.filter p).map g)) :: e₂)[hp.length]? = some (acc, AO.list ((pre.filter p).map g)) := by simp
        refine wpAny_mono ((cl_append (G := G) (F := cmOf F scope cl Cf) (σ := ⟨loc₅, hp ++ (acc, .list ((pre.filter p).map g)) :: e₂, gens₅⟩) (Q := fun _ σ => σ = ⟨loc₅, (hp ++ (acc, .list ((pre.filter p).map g)) :: e₂).set hp.length (acc, .list ((pre.filter p).map g ++ [g x])), gens₅⟩) hi rfl hlen B₆ [.ref acc, y] (.cons (.v _) (.cons hy .nil))).go B₆ .rf s₅ rel₆) (fun _ s₆ ⟨_, σ₆, B₇, le₇, rel₇, _, q⟩ => ?_) fun _ _ e => e.elim
        subst q
        have le₇' := le.tr (le'.tr (le₄.tr (le₅.tr (le₆.tr le₇))))
        refine ⟨post.length, by simp, pre ++ [x], post, e₂, _, B₇, by rw [hx]; simp, rfl, le₇', by simpa using hp₂, ?_⟩
        rw [mapfil, hpx, if_pos rfl]
        have es : (hp ++ (acc, AO.list ((pre.filter p).map g)) :: e₂).set hp.length (acc, AO.list ((pre.filter p).map g ++ [g x])) = hp ++ (acc, AO.list ((pre.filter p).map g ++ [g x])) :: e₂ := by
          rw [List.set_append]; simp
        have rel₈ := r.reclo hcl rel₇ le₇'
        rw [es] at rel₈
        exact rel₈.perm (perm2 _)
end
end Mine
end
section
open PySem PySem.Spec PySem.Calls PyProof.Rows PySem.W
set_option Elab.async false
set_option maxRecDepth 100000
set_option linter.unusedVariables false
namespace Mine
section
variable {G : Gl} {F : Fm} {σ : St} {B B' : PM} {s : Shared}
theorem comp_core {X : Type} {f : X → V} {xs : List X} {p : X → Bool} {g : X → V} {elt target iter : Expr} {ifs : List Expr} {scope : Scope} {pos : Pos} {cl : List (Str × Addr)} {C : List (Addr × AO) → Prop} {D : Array GenState → Prop} {σ₂ : St} {a : V} {x : Value}
    (hcl : ClOk F scope cl) (hcell : ∀ y ∈ scope.names, y.2 ≠ .cell) (hkind : scope.kind = .function) (hx : RV B a x) (r₁ : Rel G F B σ s) (hI : Iters G F target a σ σ₂ (xs.map f) C D)
    (turn : CompTurn G F f xs p g elt target ifs scope cl σ₂.loc σ₂.hp) (hC : ∀ a vs, C ((a, .list vs) :: σ₂.hp)) (hz : xs.length ≤ sizeLine) {K : Value → Addr → Result → Shared → Prop}
    (hK : ∀ B' s' acc Cf oC gens' m, PM.le B B' → D gens' → Rel G F B' ⟨σ₂.loc, (acc, .list ((xs.filter p).map g)) :: (Cf, .raw oC) :: σ₂.hp, gens'⟩ s' → s'.heap.Ns Cf m → K (.ref acc) Cf (.ok .next) s') :
    wpAny (model G.prog G.w) F.A (pyIter x) (fun it s₂ => wpAny (model G.prog G.w) F.A (newList []) (fun acc s₃ => wpAny (model G.prog G.w) F.A (newFunctionEnv scope F.env.globals cl [] F.env.qual none .none (some F.env)) (fun cenv s₄ =>
      codeAny (model G.prog G.w) F.A (.compStart (.ListComp elt [⟨target, iter, ifs, 0⟩] scope pos) 0 it acc { cenv with scope := relabel scope F.env }) (K acc cenv.locals) s₄) (fun _ _ => False) s₃) (fun _ _ => False) s₂) (fun _ _ => False) s := by
  refine wpAny_mono (hI B x hx B .rf s r₁) (fun y s₂ ⟨B₂, it, e, gens, P, q, g1, g2, W, g4⟩ => ?_) fun _ _ e => e
  subst q
  refine wpAny_newObj_type (hd := by size_fits) ?_
  have r₃ := g2.newOwn (o := { cls := .type "list", data := .seq ([] : List Value).toArray }) (x := .list []) (s' := { s₂ with heap := s₂.heap.push { cls := .type "list", data := .seq ([] : List Value).toArray } }) rfl rfl rfl
    ⟨[], ⟨0, Heap.get?_push_size _ rfl⟩, .nil⟩
  generalize hs₃ : ({ s₂ with heap := s₂.heap.push { cls := .type "list", data := .seq ([] : List Value).toArray } } : Shared) = s₃ at r₃
  refine wpAny_newFunctionEnv hcell (by intro y hy; simp at hy) (fun h' hn hs => ?_) hkind
  have r₄ := comp_rel r₃ (scope := scope) (cl := cl) hcl (tk := s₃.toks + ([] : List (Str × Value)).length) rfl hn hs
  have r₅ : Rel G (cmOf F scope cl s₃.heap.objs.size) (B₂.hide s₃.heap F.own) ⟨clo cl σ₂.loc, e ++ (s₂.heap.objs.size, .list []) :: σ₂.hp, gens⟩ { s₃ with heap := h', toks := s₃.toks + ([] : List (Str × Value)).length } :=
    r₄.perm List.perm_middle.symm
  have leH := PM.le_hide (as := F.own) r₃.keep
  have loop : ∀ s₄ : Shared, s₄ = { s₃ with heap := h', toks := s₃.toks + ([] : List (Str × Value)).length } →
      codeAny (model G.prog G.w) F.A (.compLoop (.ListComp elt [⟨target, iter, ifs, 0⟩] scope pos) 0 (.ref it) (.ref s₂.heap.objs.size) (compEnvC scope cl s₃.heap.objs.size F.env)) (K (.ref s₂.heap.objs.size) s₃.heap.objs.size) s₄ := by
    rintro s₄ rfl
    refine comp_loop (B := B₂.hide s₃.heap F.own) turn (W := ⟨fun {F'} {i} {pre} {loc} {hp} {gens} {v} {Q} a b c d q B' hB => W.item a b c d q B' (leH.tr hB), fun {F'} {i} {pre} {loc} {hp} {gens} {Q} a b c d q B' hB => W.fin a b c d q B' (leH.tr hB), W.all, fun {F'} {i} {pre} {loc} {hp} {gens} a b c B' hB => W.self a b c B' (leH.tr hB)⟩) hC hz hcl g4 r₅ fun B' s' gens' le hd r' => ?_
    obtain ⟨k1, k2, k3⟩ := r₃.back r' le
    obtain ⟨m', hn', _⟩ := r'.fr.vars
    have hn'' : s'.heap.Ns s₃.heap.objs.size m' := hn'
    obtain ⟨oC, hoC⟩ : ∃ oC, s'.heap.get? s₃.heap.objs.size = some oC := let ⟨o, _, _, ho, _⟩ := hn''; ⟨o, ho⟩
    have offC : B' s₃.heap.objs.size = none := r'.off _ (List.mem_append_left _ (.head _))
    have kA := k1.add hoC (by unfold PM.cut; rw [offC]; exact ite_self _) (fun hm => by
      rcases List.mem_append.mp hm with hm | hm
      · exact Nat.lt_irrefl _ (r₃.lt (List.mem_append_left _ hm))
      · exact (List.nodup_append.mp r'.nd).2.2 _ (.head _) _ hm rfl)
    refine hK (B'.cut F.own) s' _ _ oC gens' m' (g1.tr k2) hd (kA.perm ?_) hn''
    exact List.Perm.swap _ _ _
  exact codeAny_compStart_list (loop _ rfl) (wpAny_mono (W.self (F := cmOf F scope cl s₃.heap.objs.size) rfl g4 (hC _ _) _ leH _ r₅ _ (loop _ rfl)) (fun _ _ h => h) fun _ _ h => h.elim)

/-- a comprehension as a value -/
theorem ev_comp {X : Type} {f : X → V} (xs : List X) (p : X → Bool) (g : X → V) {elt target iter : Expr} {ifs : List Expr} {scope : Scope} {pos : Pos} (cl : List (Str × Addr)) {C : List (Addr × AO) → Prop} {D : Array GenState → Prop} {Q : V → St → Prop}
    (h : Ev G F iter σ fun a σ₁ => ∃ σ₂, Iters G F target a σ₁ σ₂ (xs.map f) C D ∧ (∀ a vs, C ((a, .list vs) :: σ₂.hp)) ∧ CompTurn G F f xs p g elt target ifs scope cl σ₂.loc σ₂.hp ∧ (∀ gens', D gens' → Q (.lst ((xs.filter p).map g)) ⟨σ₂.loc, σ₂.hp, gens'⟩))
    (hcl : ClOk F scope cl) (hz : xs.length ≤ sizeLine)
    (hclos : closureFor scope F.env = pure cl := by rfl) (hcell : ∀ y ∈ scope.names, y.2 ≠ .cell := by decide) (hkind : scope.kind = .function := by rfl) (hnames : ∀ x ∈ scope.names, x.2 = .local → scope.names.lookup x.1 = some .local := by decide)
    (hs : ∀ x, foldedSetIterable iter F.env x = pure x := by intro _; rfl) : Ev G F (.ListComp elt [⟨target, iter, ifs, 0⟩] scope pos) σ Q := ⟨fun B hB s r => by
  rw [eval_ListComp]
  refine wpAny_comprehension_free (use := none) rfl hs hclos hkind hnames ?_
  refine Ok.run h hB r fun x s₁ a σ₁ B₁ h1 h2 h3 ⟨σ₂, h4, hC, turn, q⟩ => ?_
  refine comp_core hcl hcell hkind h3 h2 h4 turn hC hz fun B' s' acc Cf oC gens' m le hd rel hn => ?_
  refine ⟨m, hn, fun h' hs => ?_⟩
  have rel2 := rel.perm (List.Perm.swap _ _ _)
  have rel3 := rel2.lose (s' := { s' with heap := h' }) (fun b hb o e => (hs.2 b hb).trans e) rfl rfl
  obtain ⟨B₃, le₃, rel₄, rv⟩ := rel3.freeze (loc' := σ₂.loc) (fun H => HO.frozL H) (fun x V e => .inl e)
  exact Post.mk' (h1.tr (le.tr le₃)) rel₄ rv (q gens' hd)⟩
/-- x = [... for ...], where the stores are exchanged -/
theorem s_assignU {X : Type} {f : X → V} (xs : List X) (p : X → Bool) (g : X → V) {elt target iter : Expr} {ifs : List Expr} {scope : Scope} {y : Str} {py pos spos : Pos} (cl : List (Str × Addr)) {C : List (Addr × AO) → Prop} {D : Array GenState → Prop} {Q : Fl → St → Prop}
    (h : Ev G F iter σ fun a σ₁ => ∃ σ₂, Iters G F target a σ₁ σ₂ (xs.map f) C D ∧ (∀ a vs, C ((a, .list vs) :: σ₂.hp)) ∧ CompTurn G F f xs p g elt target ifs scope cl σ₂.loc σ₂.hp ∧
      (∀ gens', D gens' → Q .next ⟨upd σ₂.loc y (.lst ((xs.filter p).map g)), σ₂.hp, gens'⟩))
    (hcl : ClOk F scope cl) (hz : xs.length ≤ sizeLine) (hsw : swapsWith (.ListComp elt [⟨target, iter, ifs, 0⟩] scope pos) (some (.Name y py)) spos.line F.env = pure true)
    (hclos : closureFor scope F.env = pure cl := by rfl) (hcell : ∀ y ∈ scope.names, y.2 ≠ .cell := by decide) (hkind : scope.kind = .function := by rfl) (hnames : ∀ x ∈ scope.names, x.2 = .local → scope.names.lookup x.1 = some .local := by decide)
    (hs : ∀ x, foldedSetIterable iter F.env x = pure x := by intro _; rfl) (hk : F.env.scope.kind = .function := by rfl) (hl : F.env.kindOf y = some .local := by rfl) :
    S1 G F (.Assign [.Name y py] (.ListComp elt [⟨target, iter, ifs, 0⟩] scope pos) spos) σ Q := ⟨fun B hB s r => by
  rw [exec_Assign_Name_used _ _ _ _ hsw]
  refine wpAny_bind (wpAny_standAt (wpAny_bind ?_))
  show wpAny _ F.A (do let _ ← comprehension (.ListComp elt [⟨target, iter, ifs, 0⟩] scope pos) scope F.env _ (newList []) false (eval iter F.env) (some (assign (.Name y py) F.env))) _ _ s
  refine wpAny_bind (wpAny_mono (wpAny_comprehension_free (Q := fun _ s' => Post G F RF B Q .next s') (use := some (assign (.Name y py) F.env)) rfl hs hclos hkind hnames ?_)
    (fun _ s' hq => wpAny_pure (wpAny_pure hq)) fun _ _ e => e)
  refine Ok.run h hB r fun x s₁ a σ₁ B₁ h1 h2 h3 ⟨σ₂, h4, hC, turn, q⟩ => ?_
  refine comp_core hcl hcell hkind h3 h2 h4 turn hC hz fun B' s' acc Cf oC gens' m le hd rel hn => ?_
  obtain ⟨B₃, le₃, rel₄, rv⟩ := rel.freeze (loc' := σ₂.loc) (fun H => HO.frozL H) (fun x V e => .inl e)
  refine wpAny_mono ((to_name (G := G) (F := F) (σ := ⟨σ₂.loc, (Cf, .raw oC) :: σ₂.hp, gens'⟩) (x := y) (p := py) (Q := fun σ' => σ' = ⟨upd σ₂.loc y (.lst ((xs.filter p).map g)), (Cf, .raw oC) :: σ₂.hp, gens'⟩) rfl hk hl B₃ _ rv).go B₃ .rf s' rel₄) (fun _ s'' ⟨_, σ₅, B₅, le₅, rel₅, _, e⟩ => ?_) fun _ _ e => e
  subst e
  obtain ⟨o, es, ep, ho, hn'⟩ := hn
  have ho' : s'.heap.get? Cf = some oC := rel.hp (Cf, .raw oC) (.tail _ (.head _))
  rw [ho'] at ho; cases ho
  refine ⟨m, ⟨oC, es, ep, rel₅.hp (Cf, .raw oC) (.head _), hn'⟩, fun h' hs => ?_⟩
  have rel₆ := rel₅.lose (s' := { s'' with heap := h' }) (fun b hb o e => (hs.2 b hb).trans e) rfl rfl
  exact ⟨.next, _, B₅, h1.tr (le.tr (le₃.tr le₅)), rel₆, .next, q gens' hd⟩⟩
end
end Mine
end
section
open PySem PySem.Spec PySem.Calls PyProof.Rows PySem.W
set_option Elab.async false
set_option maxRecDepth 100000
set_option linter.unusedVariables false
namespace Mine
/-- the text's statements, by their number -/
noncomputable def stm (i : Nat) : Stmt := PySem.Challenge.pw_il0070_01.main.body.getD i (.Pass default)
noncomputable def recOf (i : Nat) : DefRec := match stm i with
  | .FunctionDef name args body _ _ _ scope _ _ pos => ⟨name, args, body, scope, pos⟩
  | _ => ⟨"", ⟨[], [], none, [], [], none, []⟩, [], { kind := .module, names := [], isGenerator := false, isCoroutine := false }, default⟩
noncomputable def fnOf (i : Nat) (x : Value × Value × Value) : FuncData := docDef (recOf i).name (recOf i).params (recOf i).body (recOf i).scope x.1 x.2.1 x.2.2
noncomputable def fdAt (G : Gl) (i : Nat) : FuncData := fnOf i (G.pmd i)
noncomputable def stmtsOf (fd : FuncData) : List Stmt := match fd.body with
  | .stmts b => b
  | _ => []
/-- the defs that a call of law can reach -/
noncomputable def fnIx : List Nat := [2, 3, 4, 6, 7, 8, 9, 18, 22, 23, 24, 25, 26, 28, 29, 30, 31, 32]
noncomputable def nameIx (i : Nat) : Str := (recOf i).name
noncomputable def isFn (i : Nat) : Bool := fnIx.contains i
noncomputable def globAt (G : Gl) (x : Str) : Option Value := (fnIx.find? fun i => nameIx i == x).map fun i => .ref (G.ad i)
noncomputable def bltNames : List Str := ["range", "len", "sum", "max", "dict", "type", "issubclass", "isinstance", "enumerate", "str", "bytes"]
structure Sta (G : Gl) : Prop where
  fn : ∀ {i}, isFn i = true → ∃ o, G.base (G.ad i) = some o ∧ o.data = .func (fdAt G i)
  code : ∀ {i}, isFn i = true → ∀ h : Heap, (∀ b o, G.base b = some o → h.get? b = some o) → h.CodeRec (fdAt G i).code (fdAt G i).qualname
  nolimit : ∀ h : Heap, (∀ b o, G.base b = some o → h.get? b = some o) → h.NoLimit
  glob : ∀ x v, globAt G x = some v → GlobV G x v
  blt : ∀ x v, bltNames.contains x = true → x ≠ "__name__" → bootBuiltins x = some v → GlobV G x v
  mods : ∃ o, G.base sysModules = some o ∧ Inert o
theorem Sta.stat {G : Gl} (S : Sta G) : Stat G := ⟨S.nolimit⟩
theorem cells_names : ∀ (names : List (Str × NameKind)) (n m : Nat) (a b : List (Str × Addr)), a.map (·.1) = b.map (·.1) → (cellsFrom n names a).map (·.1) = (cellsFrom m names b).map (·.1)
  | [], _, _, _, _, h => h
  | (x, k) :: r, n, m, a, b, h => by
    unfold cellsFrom
    split
    · exact cells_names r _ _ _ _ (by simp [h])
    · exact cells_names r _ _ _ _ h
noncomputable def sigOk (names : List Str) (sc : List (Str × NameKind)) : Bool :=
  names.all (fun x => sc.lookup x == some .local || (sc.lookup x == some .cell && ((cellsFrom 0 sc []).map (·.1)).contains x)) && decide names.Nodup && decide ((cellsFrom 0 sc []).map (·.1)).Nodup
theorem Sta.callee {G : Gl} (S : Sta G) {i : Nat} (h : isFn i = true := by rfl) : CalleeOk G (.ref (G.ad i)) := let ⟨_, ho, hd⟩ := S.fn h; .fn ho hd
theorem len1 {xs : List Value} (h : xs.length = 1) : ∃ x, xs = [x] := by
  match xs, h with
  | [x], _ => exact ⟨x, rfl⟩
theorem len2 {xs : List Value} (h : xs.length = 2) : ∃ x y, xs = [x, y] := by
  match xs, h with
  | [x, y], _ => exact ⟨x, y, rfl⟩
theorem len3 {xs : List Value} (h : xs.length = 3) : ∃ x y z, xs = [x, y, z] := by
  match xs, h with
  | [x, y, z], _ => exact ⟨x, y, z, rfl⟩
section
variable {G : Gl} {F : Fm} {σ : St}
theorem ex_mid {st : Stmt} {rest : List Stmt} {Q : Fl → St → Prop} (K : St → Prop) (h : S1 G F st σ fun fl σ' => fl = .next ∧ K σ') (hK : ∀ σ', K σ' → Ex G F rest σ' Q) : Ex G F (st :: rest) σ Q :=
  ex_cons (Ok.mono h fun fl σ' ⟨e, k⟩ => by subst e; exact hK σ' k)
theorem s_ifB {t : Expr} {bd o : List Stmt} {pos : Pos} {Q : Fl → St → Prop} (b : Bool) (h : Tr G F t σ fun c σ' => c = b ∧ σ' = σ) (h1 : b = true → Ex G F bd σ Q) (h2 : b = false → Ex G F o σ Q) : S1 G F (.If t bd o pos) σ Q :=
  s_if (Ok.mono h fun c σ' ⟨e1, e2⟩ => by subst e1 e2; exact ⟨h1, h2⟩)
theorem s_whileK {test : Expr} {body : List Stmt} {pos : Pos} (J : Nat → St → Prop) (K : St → Prop) {Q : Fl → St → Prop} (n : Nat) (h0 : J n σ)
    (turn : ∀ n σ', J n σ' → Tr G F test σ' fun c σ₂ => (c = true → Ex G F body σ₂ fun fl σ₃ => match fl with
      | .next | .cont => ∃ m, m < n ∧ J m σ₃
      | .brk => K σ₃
      | .ret v => Q (.ret v) σ₃) ∧ (c = false → K σ₂)) (hK : ∀ σ', K σ' → Q .next σ') : S1 G F (.While test body [] pos) σ Q := by
  refine s_while J n h0 fun n σ' hj => Ok.mono (turn n σ' hj) fun c σ₂ ⟨h1, h2⟩ => ⟨fun hc => Ok.mono (h1 hc) fun fl σ₃ h => ?_, fun hc => ex_nil (hK _ (h2 hc))⟩
  cases fl with
  | brk => exact hK _ h
  | next => exact h
  | cont => exact h
  | ret v => exact h
theorem s_for0 {X : Type} {f : X → V} (xs : List X) {target iter : Expr} {body : List Stmt} {pos : Pos} {C : List (Addr × AO) → Prop} {D : Array GenState → Prop} (J : List X → (Str → Option V) → List (Addr × AO) → Prop) {Q : Fl → St → Prop}
    (h : Ev G F iter σ fun a σ₁ => ∃ σ₂, Iters G F target a σ₁ σ₂ (xs.map f) C D ∧ J [] σ₂.loc σ₂.hp)
    (hC : ∀ ys loc hp, J ys loc hp → C hp)
    (turn : ∀ pre x post, xs = pre ++ x :: post → ∀ loc hp, J pre loc hp → ∀ e gens, D gens → To G F target (f x) ⟨loc, hp ++ e, gens⟩ fun σ₂ => Ex G F body σ₂ fun fl σ₃ =>
      match fl with
      | .next | .cont => ∃ loc' hp', σ₃ = ⟨loc', hp' ++ e, gens⟩ ∧ J (pre ++ [x]) loc' hp'
      | .brk => Q .next σ₃
      | .ret v => Q (.ret v) σ₃)
    (done : ∀ loc hp gens, D gens → J xs loc hp → Q .next ⟨loc, hp, gens⟩)
    (hs : ∀ x, foldedSetIterable iter F.env x = pure x := by intro _; rfl) : S1 G F (.For target iter body [] pos) σ Q :=
  s_for xs J h hC turn (fun loc hp gens hd hj => ex_nil (done loc hp gens hd hj)) hs
/-- a def of the text is called -/
theorem cl_def {a : Nat} {names : List Str} {vs : List V} {Q : V → St → Prop} (S : Sta G) (hroom : F.A.depth < recursionLimit)
    (hbind : ∀ xs : List Value, xs.length = vs.length → bindArgs (fdAt G a) ⟨xs, []⟩ = pure (names.zip xs))
    (h : ∀ L, Ex G (fmOf F.A (fdAt G a) (G.ad a) L) (stmtsOf (fdAt G a)) ⟨bnd names vs, σ.hp, σ.gens⟩ (RetTo Q σ))
    (hl : vs.length = names.length := by rfl)
    (hfn : isFn a = true := by rfl)
    (hbody : (fdAt G a).body = .stmts (stmtsOf (fdAt G a)) := by rfl)
    (hsig : sigOk names (fdAt G a).scope.names = true := by kernel_rfl) (hclo : (fdAt G a).closure = [] := by rfl)
    (hco : (fdAt G a).scope.isCoroutine = false := by rfl) (hgen : (fdAt G a).scope.isGenerator = false := by rfl) (hk : (fdAt G a).scope.kind = .function := by rfl) : Cl G F (.ref (G.ad a)) vs σ Q := by
  obtain ⟨o, ho, hd⟩ := S.fn hfn
  have hc : ∀ n, (cellsFrom n (fdAt G a).scope.names []).map (·.1) = (cellsFrom 0 (fdAt G a).scope.names []).map (·.1) := fun n => cells_names _ _ _ _ _ rfl
  unfold sigOk at hsig
  simp only [Bool.and_eq_true, decide_eq_true_eq] at hsig
  obtain ⟨⟨h1, h2⟩, h3⟩ := hsig
  refine cl_fn S.stat ho hd (S.code hfn) hroom h hbody hbind (fun x hx n => ?_) h2 (fun n => by rw [hc n]; exact h3) hclo hco hgen hk
  have q := List.all_eq_true.mp h1 x hx
  rw [Bool.or_eq_true] at q
  rcases q with q | q
  · exact .inl (eq_of_beq q)
  · rw [Bool.and_eq_true] at q
    refine .inr ⟨eq_of_beq q.1, ?_⟩
    have := List.contains_iff_mem.mp q.2
    rw [← hc n] at this
    obtain ⟨p, hp, rfl⟩ := List.mem_map.mp this
    cases q : (cellsFrom n (fdAt G a).scope.names []).lookup p.1 with
    | some c => rfl
    | none => exact absurd q (by rw [lookup_of_mem_nodup (by rw [hc n]; exact h3) hp]; simp)
end
end Mine
end
section
open PySem PySem.Spec PySem.Calls PyProof.Rows PySem.W
set_option Elab.async false
set_option pp.deepTerms false
set_option pp.deepTerms.threshold 8
set_option maxRecDepth 100000
set_option linter.unusedVariables false
namespace Mine
/-- room for so many calls yet -/
structure Rm (A : Around) (d : Nat) : Prop where
  hh : A.handled = none
  dp : A.depth + d < 990
  un : A.units + 3 * d < 9000
theorem Rm.sub {A : Around} {d : Nat} {env : Env} (r : Rm A (d + 1)) : Rm (A.deeper env) d := ⟨r.hh, by have := r.dp; show A.depth + 1 + d < 990; omega, by have := r.un; show A.units + 3 + 3 * d < 9000; omega⟩
theorem Rm.room {A : Around} {d : Nat} (r : Rm A d) : A.depth < recursionLimit := by have := r.dp; show A.depth < 1000; omega
theorem Rm.units {A : Around} {d : Nat} (r : Rm A d) : A.units < cLine := by have := r.un; show A.units < 9900; omega
theorem Rm.less {A : Around} {d d' : Nat} (r : Rm A d) (h : d' ≤ d) : Rm A d' := ⟨r.hh, by have := r.dp; omega, by have := r.un; omega⟩

noncomputable def pv (p : Int × Int) : V := .tup [.int p.1, .int p.2]
noncomputable def plt (p q : Int × Int) : Bool := decide (p.1 < q.1 ∨ (p.1 = q.1 ∧ p.2 < q.2))
noncomputable def sdL (new : Int × Int) : Nat → List (Int × Int) → Nat → List (Int × Int) × Nat
  | 0, h, p => (h, p)
  | n + 1, h, p => if p = 0 then (h, p) else match h[(p - 1) / 2]? with
    | some par => if plt new par then sdL new n (h.set p par) ((p - 1) / 2) else (h, p)
    | none => (h, p)
noncomputable def siftdownF (h : List (Int × Int)) (new : Int × Int) (pos : Nat) : List (Int × Int) := (sdL new pos h pos).1.set (sdL new pos h pos).2 new
structure SdJ (σ : St) (a : Addr) (i : Nat) (new : Int × Int) (h : List (Int × Int)) (ps n : Nat) (σ' : St) (h' : List (Int × Int)) (p f : Nat) : Prop where
  num : n = p
  le : p ≤ f
  lt : p < h'.length
  len : h'.length = h.length
  heap : σ'.loc "heap" = some (.v (.ref a))
  start : σ'.loc "startpos" = some (.int 0)
  pos : σ'.loc "pos" = some (.int p)
  item : σ'.loc "newitem" = some (pv new)
  hp : σ'.hp = σ.hp.set i (a, .list (h'.map pv))
  gens : σ'.gens = σ.gens
  sd : sdL new ps h ps = sdL new f h' p
structure SdK (σ : St) (a : Addr) (i : Nat) (new : Int × Int) (h : List (Int × Int)) (ps : Nat) (σ' : St) (h' : List (Int × Int)) (p : Nat) : Prop where
  lt : p < h'.length
  len : h'.length = h.length
  heap : σ'.loc "heap" = some (.v (.ref a))
  pos : σ'.loc "pos" = some (.int p)
  item : σ'.loc "newitem" = some (pv new)
  hp : σ'.hp = σ.hp.set i (a, .list (h'.map pv))
  gens : σ'.gens = σ.gens
  sd : sdL new ps h ps = (h', p)
theorem meth_append : MethOk "list" "append" "list.append" := ⟨PySem.F.plainAttrs_list, slot_list_append, by with_unfolding_all rfl⟩
theorem meth_pop : MethOk "list" "pop" "list.pop" := ⟨PySem.F.plainAttrs_list, PySem.F.slot_list_pop, by with_unfolding_all rfl⟩
theorem sub_list : typeLookup (.type "list") "__getitem__" = pure (some (.builtin "list.__getitem__")) := PySem.F.slot_list_getitem.lookup
theorem hp_at {hp : List (Addr × AO)} {i : Nat} {p q : Addr × AO} (h : hp[i]? = some p) : (hp.set i q)[i]? = some q := by
  have := (List.getElem?_eq_some_iff.mp h).1
  simp [this]
section
variable {G : Gl} {F : Fm} {σ : St}
theorem op_ltp {p q : Int × Int} {Q : V → St → Prop} (k : Q (.v (.bool (plt p q))) σ) (hu : F.A.units < cLine) : Op2 G F (compareOp .Lt) (pv p) (pv q) σ Q := op_ltpair k hu

theorem c_siftdown {a : Addr} {h : List (Int × Int)} {pos : Nat} {new : Int × Int} {i : Nat} {Q : V → St → Prop} (S : Sta G) (R : Rm F.A 2) (hi : σ.hp[i]? = some (a, .list (h.map pv))) (hp : h[pos]? = some new) (hz : h.length ≤ 100)
    (q : Q (.v .none) { σ with hp := σ.hp.set i (a, .list ((siftdownF h new pos).map pv)) }) : Cl G F (.ref (G.ad 8)) [.v (.ref a), .int 0, .int pos] σ Q := by
  refine cl_def (names := ["heap", "startpos", "pos"]) S R.room (fun xs hx => ?_) fun L => ?_
  · obtain ⟨x, y, z, rfl⟩ := len3 hx; kernel_rfl
  have R' : Rm (fmOf F.A (fdAt G 8) (G.ad 8) L).A 1 := R.sub
  have hl : h.length ≤ sizeLine := Nat.le_trans hz (by decide)
  have hlt := (List.getElem?_eq_some_iff.mp hp).1
  refine ex_cons (s_assign (ev_sub sub_list (ev_local rfl (ev_local rfl ⟨ty_list hi, ?_⟩))))
  refine gi_list (v := pv new) hi (by omega) (by simp [hp]) (to_name ?_) (by simpa using hl)
  refine ex_cons (s_whileK (fun n σ' => ∃ (h' : List (Int × Int)) (p f : Nat), SdJ σ a i new h pos n σ' h' p f) (fun σ' => ∃ (h' : List (Int × Int)) (p : Nat), SdK σ a i new h pos σ' h' p) pos ?_ ?_ ?_)
  · refine ⟨h, pos, pos, rfl, Nat.le_refl _, hlt, rfl, rfl, rfl, rfl, rfl, ?_, rfl, rfl⟩
    obtain ⟨hk, e⟩ := List.getElem?_eq_some_iff.mp hi
    rw [← e, List.set_getElem_self]
  · rintro p ⟨loc, hp₁, gens₁⟩ ⟨h', _, f, rfl, hf, hlt', hlen, e1, e2, e3, e4, rfl, rfl, hsd⟩
    have hi' : (σ.hp.set i (a, AO.list (h'.map pv)))[i]? = some (a, AO.list (h'.map pv)) := hp_at hi
    refine tr_compare (ev_local e3 (ev_local e2 (op_gti (tt_bool ⟨fun hc => ?_, fun hc => ?_⟩))))
    · have hc : 0 < p := by simpa using hc
      refine ex_cons (s_assign (ev_binop (ev_binop (ev_local e3 (ev_int (op_sub (ev_int (op_shr1 (to_name ?_) (by omega)))))))))
      have ep : ((p : Int) - 1) / 2 = (((p - 1) / 2 : Nat) : Int) := by omega
      rw [ep]
      have hpp : (p - 1) / 2 < h'.length := by omega
      obtain ⟨f', rfl⟩ : ∃ f', f = f' + 1 := ⟨f - 1, by omega⟩
      have hgo : sdL new (f' + 1) h' p = if plt new h'[(p - 1) / 2] then sdL new f' (h'.set p h'[(p - 1) / 2]) ((p - 1) / 2) else (h', p) := by
        rw [sdL, if_neg (by omega), List.getElem?_eq_getElem hpp]
      refine ex_cons (s_assign (ev_sub sub_list (ev_local e1 (ev_local rfl ⟨ty_list hi', ?_⟩))))
      refine gi_list (v := pv h'[(p - 1) / 2]) hi' (by omega) (by rw [Int.toNat_natCast, List.getElem?_map, List.getElem?_eq_getElem hpp]; rfl) (to_name ?_) (by simp; rw [hlen]; exact hl)
      refine ex_cons (s_if (tr_compare (ev_local e4 (ev_local rfl (op_ltp (tt_bool ⟨fun hc' => ?_, fun hc' => ?_⟩) R'.units)))))
      · refine ex_cons (s_assign (ev_local rfl (to_sub (ev_local e1 (ev_local e3 (set_list hi' (by omega) (by simp; omega) ?_ (by simp; rw [hlen]; exact hl)))))))
        refine ex_cons (s_assign (ev_local rfl (to_name ?_)))
        refine ex_cons (s_cont ?_)
        refine ⟨(p - 1) / 2, by omega, h'.set p h'[(p - 1) / 2], (p - 1) / 2, f', rfl, by omega, by simp; omega, by simp [hlen], e1, e2, rfl, e4, ?_, rfl, ?_⟩
        · show (σ.hp.set i (a, AO.list (h'.map pv))).set i (a, AO.list ((h'.map pv).set (p : Int).toNat (pv h'[(p - 1) / 2]))) = _
          rw [List.set_set, List.map_set, Int.toNat_natCast]
        · rw [hsd, hgo, if_pos hc']
      · refine ex_nil (ex_cons (s_brk ?_))
        exact ⟨h', p, hlt', hlen, e1, e3, e4, rfl, rfl, by rw [hsd, hgo, if_neg (by rw [hc']; exact Bool.false_ne_true)]⟩
    · have hc : p = 0 := by have : ¬ ((p : Int) > 0) := by simpa using hc
                            omega
      subst hc
      refine ⟨h', 0, hlt', hlen, e1, e3, e4, rfl, rfl, ?_⟩
      rw [hsd]
      cases f <;> simp [sdL]
  · rintro ⟨loc, hp₁, gens₁⟩ ⟨h', p, hlt', hlen, e1, e3, e4, rfl, rfl, hsd⟩
    have hi' : (σ.hp.set i (a, AO.list (h'.map pv)))[i]? = some (a, AO.list (h'.map pv)) := hp_at hi
    refine ex_cons (s_assign (ev_local e4 (to_sub (ev_local e1 (ev_local e3 (set_list hi' (by omega) (by simp; omega) (ex_nil ?_) (by simp; rw [hlen]; exact hl)))))))
    show Q (.v .none) ⟨σ.loc, (σ.hp.set i (a, AO.list (h'.map pv))).set i (a, AO.list ((h'.map pv).set (p : Int).toNat (pv new))), σ.gens⟩
    have e : (σ.hp.set i (a, AO.list (h'.map pv))).set i (a, AO.list ((h'.map pv).set (p : Int).toNat (pv new))) = σ.hp.set i (a, .list ((siftdownF h new pos).map pv)) := by
      rw [List.set_set, Int.toNat_natCast, ← List.map_set]
      unfold siftdownF
      rw [hsd]
    rw [e]
    exact q
end
end Mine
end
section
open PySem PySem.Spec PySem.Calls PyProof.Rows PySem.W
set_option Elab.async false
set_option pp.deepTerms false
set_option pp.deepTerms.threshold 8
set_option maxRecDepth 100000
set_option linter.unusedVariables false
namespace Mine
noncomputable def suC (h : List (Int × Int)) (p : Nat) : Nat := if 2 * p + 1 + 1 < h.length && !(plt (h.getD (2 * p + 1) (0, 0)) (h.getD (2 * p + 1 + 1) (0, 0))) then 2 * p + 1 + 1 else 2 * p + 1
noncomputable def suL : Nat → List (Int × Int) → Nat → List (Int × Int) × Nat
  | 0, h, p => (h, p)
  | n + 1, h, p => if 2 * p + 1 < h.length then suL n (h.set p (h.getD (suC h p) (0, 0))) (suC h p) else (h, p)
noncomputable def siftupF (h : List (Int × Int)) (new : Int × Int) : List (Int × Int) :=
  siftdownF ((suL h.length h 0).1.set (suL h.length h 0).2 new) new (suL h.length h 0).2
theorem suL_lt : ∀ (n : Nat) (h : List (Int × Int)) (p : Nat), p < h.length → (suL n h p).2 < h.length ∧ (suL n h p).1.length = h.length
  | 0, h, p, hp => ⟨hp, rfl⟩
  | n + 1, h, p, hp => by
    unfold suL
    split
    · have hc : suC h p < (h.set p (h.getD (suC h p) (0, 0))).length := by
        unfold suC
        split
        · rename_i h1 h2; simp at h2; simp; omega
        · simp; omega
      have := suL_lt n (h.set p (h.getD (suC h p) (0, 0))) (suC h p) hc
      simpa using this
    · exact ⟨hp, rfl⟩
section
variable {G : Gl} {F : Fm} {σ : St}
theorem c_heappush {a : Addr} {h : List (Int × Int)} {new : Int × Int} {i : Nat} {Q : V → St → Prop} (S : Sta G) (R : Rm F.A 3) (hi : σ.hp[i]? = some (a, .list (h.map pv))) (hz : h.length < 100)
    (q : Q (.v .none) { σ with hp := σ.hp.set i (a, .list ((siftdownF (h ++ [new]) new h.length).map pv)) }) : Cl G F (.ref (G.ad 6)) [.v (.ref a), pv new] σ Q := by
  refine cl_def (names := ["heap", "item"]) S R.room (fun xs hx => ?_) fun L => ?_
  · obtain ⟨x, y, rfl⟩ := len2 hx; kernel_rfl
  have R' : Rm (fmOf F.A (fdAt G 6) (G.ad 6) L).A 2 := R.sub
  have hl : h.length ≤ sizeLine := Nat.le_trans (Nat.le_of_lt hz) (by decide)
  have em : (h.map pv) ++ [pv new] = (h ++ [new]).map pv := by simp
  refine ex_cons (s_expr (ev_meth meth_append (ev_local rfl ⟨ty_list hi, el_cons (ev_local rfl (el_nil (cl_append hi ?_ (by simpa using hl))))⟩)))
  rw [em]
  have hi' : (σ.hp.set i (a, AO.list ((h ++ [new]).map pv)))[i]? = some (a, AO.list ((h ++ [new]).map pv)) := hp_at hi
  refine ex_cons (s_expr (ev_callG (f := .ref (G.ad 8)) (S.glob _ _ rfl) S.callee ?_))
  refine el_cons (ev_local rfl (el_cons (ev_int (el_cons (ev_binop (ev_callG (f := .builtin "len") (S.blt _ _ rfl (by decide) (by kernel_rfl)) .builtin (el_cons (ev_local rfl (el_nil (cl_len_list hi' (ev_int (op_sub (el_nil ?_))) ?_)))))))))) 
  · have e : (((h ++ [new]).map pv).length : Int) - 1 = (h.length : Nat) := by simp
    rw [e]
    refine c_siftdown (new := new) S R' hi' (by simp) (by simp; omega) (ex_nil ?_)
    show Q (.v .none) ⟨σ.loc, _, σ.gens⟩
    dsimp only
    rw [List.set_set]
    exact q
  · simp; exact Nat.le_trans (by omega : h.length + 1 ≤ 100) (by decide)
structure SuA (σ : St) (a : Addr) (i : Nat) (new : Int × Int) (h h' : List (Int × Int)) (p c : Nat) (σ' : St) : Prop where
  heap : σ'.loc "heap" = some (.v (.ref a))
  start : σ'.loc "startpos" = some (.int 0)
  pos : σ'.loc "pos" = some (.int p)
  item : σ'.loc "newitem" = some (pv new)
  endp : σ'.loc "endpos" = some (.int h.length)
  child : σ'.loc "childpos" = some (.int c)
  hp : σ'.hp = σ.hp.set i (a, .list (h'.map pv))
  gens : σ'.gens = σ.gens
structure SuJ (σ : St) (a : Addr) (i : Nat) (new : Int × Int) (h : List (Int × Int)) (n : Nat) (σ' : St) (h' : List (Int × Int)) (p f : Nat) : Prop where
  num : n = h.length - p
  le : h'.length - p ≤ f
  lt : p < h'.length
  len : h'.length = h.length
  sd : suL h.length h 0 = suL f h' p
  at_ : SuA σ a i new h h' p (2 * p + 1) σ'
structure SuK (σ : St) (a : Addr) (i : Nat) (new : Int × Int) (h : List (Int × Int)) (σ' : St) (h' : List (Int × Int)) (p : Nat) : Prop where
  lt : p < h'.length
  len : h'.length = h.length
  heap : σ'.loc "heap" = some (.v (.ref a))
  start : σ'.loc "startpos" = some (.int 0)
  pos : σ'.loc "pos" = some (.int p)
  item : σ'.loc "newitem" = some (pv new)
  hp : σ'.hp = σ.hp.set i (a, .list (h'.map pv))
  gens : σ'.gens = σ.gens
  sd : suL h.length h 0 = (h', p)
theorem c_siftup {a : Addr} {h : List (Int × Int)} {new : Int × Int} {i : Nat} {Q : V → St → Prop} (S : Sta G) (R : Rm F.A 3) (hi : σ.hp[i]? = some (a, .list (h.map pv))) (hp : h[0]? = some new) (hz : h.length ≤ 100)
    (q : Q (.v .none) { σ with hp := σ.hp.set i (a, .list ((siftupF h new).map pv)) }) : Cl G F (.ref (G.ad 9)) [.v (.ref a), .int 0] σ Q := by
  refine cl_def (names := ["heap", "pos"]) S R.room (fun xs hx => ?_) fun L => ?_
  · obtain ⟨x, y, rfl⟩ := len2 hx; kernel_rfl
  have R' : Rm (fmOf F.A (fdAt G 9) (G.ad 9) L).A 2 := R.sub
  have hl : h.length ≤ sizeLine := Nat.le_trans hz (by decide)
  have hlt := (List.getElem?_eq_some_iff.mp hp).1
  refine ex_cons (s_assign (ev_callG (f := .builtin "len") (S.blt _ _ rfl (by decide) (by kernel_rfl)) .builtin (el_cons (ev_local rfl (el_nil (cl_len_list hi (to_name ?_) (by simpa using hl)))))))
  refine ex_cons (s_assign (ev_local rfl (to_name ?_)))
  refine ex_cons (s_assign (ev_sub sub_list (ev_local rfl (ev_local rfl ⟨ty_list hi, ?_⟩))))
  refine gi_list (v := pv new) hi (by omega) (by simp [hp]) (to_name ?_) (by simpa using hl)
  refine ex_cons (s_assign (ev_binop (ev_binop (ev_int (ev_local rfl (op_mul (ev_int (op_add (to_name ?_))) ?_))))))
  · refine ex_cons (s_whileK (fun n σ' => ∃ (h' : List (Int × Int)) (p f : Nat), SuJ σ a i new h n σ' h' p f) (fun σ' => ∃ (h' : List (Int × Int)) (p : Nat), SuK σ a i new h σ' h' p) h.length ?_ ?_ ?_)
    · refine ⟨h, 0, h.length, rfl, Nat.le_refl _, hlt, rfl, rfl, rfl, rfl, rfl, rfl, ?_, rfl, ?_, rfl⟩
      · show some (V.int ((h.map pv).length : Nat)) = _
        simp
      · obtain ⟨hk, e⟩ := List.getElem?_eq_some_iff.mp hi
        rw [← e, List.set_getElem_self]
    · rintro n ⟨loc, hp₁, gens₁⟩ ⟨h', p, f, rfl, hf, hlt', hlen, hsd, e1, e2, e3, e4, e5, e6, rfl, rfl⟩
      have hi' : (σ.hp.set i (a, AO.list (h'.map pv)))[i]? = some (a, AO.list (h'.map pv)) := hp_at hi
      have hl' : (h'.map pv).length ≤ sizeLine := by simp; rw [hlen]; exact hl
      have at_ : ∀ k, k < h'.length → (h'.map pv)[(k : Int).toNat]? = some (pv (h'.getD k (0, 0))) := fun k hk => by
        rw [Int.toNat_natCast, List.getElem?_map, List.getElem?_eq_getElem hk, List.getD_eq_getElem?_getD, List.getElem?_eq_getElem hk]; rfl
      refine tr_compare (ev_local e6 (ev_local e5 (op_lti (tt_bool ⟨fun hc => ?_, fun hc => ?_⟩))))
      · have hc : 2 * p + 1 < h'.length := by have : ((2 * p + 1 : Nat) : Int) < h.length := by simpa using hc
                                              omega
        refine ex_cons (s_assign (ev_binop (ev_local e6 (ev_int (op_add (to_name ?_))))))
        have er : ((2 * p + 1 : Nat) : Int) + 1 = ((2 * p + 1 + 1 : Nat) : Int) := by push_cast; omega
        rw [er]
        refine ex_mid (SuA σ a i new h h' p (suC h' p)) ?_ ?_
        · refine s_if (tr_bool (tr_and_cons (tr_compare (ev_local rfl (ev_local e5 (op_lti (tt_bool ⟨fun hr => ?_, fun hr => ?_⟩)))))))
          · have hr : 2 * p + 1 + 1 < h'.length := by have : ((2 * p + 1 + 1 : Nat) : Int) < h.length := by simpa using hr
                                                      omega
            refine tr_and_cons (tr_not (tr_compare (ev_sub sub_list (ev_local e1 (ev_local e6 ⟨ty_list hi', gi_list hi' (by omega) (at_ _ hc) ?_ hl'⟩)))))
            refine ev_sub sub_list (ev_local e1 (ev_local rfl ⟨ty_list hi', gi_list hi' (by omega) (at_ _ hr) ?_ hl'⟩))
            refine op_ltp (tt_bool ⟨fun hq => ?_, fun hq => ?_⟩) R'.units
            · refine tr_and_nil ⟨fun _ => ?_, fun q => (by cases q)⟩
              refine ex_cons (s_assign (ev_local rfl (to_name (ex_nil ⟨rfl, e1, e2, e3, e4, e5, ?_, rfl, rfl⟩))))
              have : suC h' p = 2 * p + 1 + 1 := by
                unfold suC
                rw [if_pos]
                simpa [hr] using hq
              rw [this]; rfl
            · refine ⟨fun q => (by cases q), fun _ => ex_nil ⟨rfl, e1, e2, e3, e4, e5, ?_, rfl, rfl⟩⟩
              have : suC h' p = 2 * p + 1 := by
                unfold suC
                have hq : plt (h'.getD (2 * p + 1) (0, 0)) (h'.getD (2 * p + 1 + 1) (0, 0)) = true := by simpa using hq
                rw [if_neg (by rw [hq]; simp)]
              rw [this]; exact e6
          · refine ⟨fun q => (by cases q), fun _ => ex_nil ⟨rfl, e1, e2, e3, e4, e5, ?_, rfl, rfl⟩⟩
            have hr : ¬ 2 * p + 1 + 1 < h'.length := by have : ¬ ((2 * p + 1 + 1 : Nat) : Int) < h.length := by simpa using hr
                                                        omega
            have : suC h' p = 2 * p + 1 := by
              unfold suC
              rw [if_neg]
              simp [hr]
            rw [this]; exact e6
        · rintro ⟨loc₂, hp₂, gens₂⟩ ⟨e1, e2, e3, e4, e5, e6, rfl, rfl⟩
          have hcl : suC h' p < h'.length := by
            unfold suC
            split
            · rename_i h1; simp at h1; omega
            · omega
          have hcp : p < suC h' p := by unfold suC; split <;> omega
          refine ex_cons (s_assign (ev_sub sub_list (ev_local e1 (ev_local e6 ⟨ty_list hi', gi_list hi' (by omega) (at_ _ hcl) ?_ hl'⟩))))
          refine to_sub (ev_local e1 (ev_local e3 (set_list hi' (by omega) (by simp; omega) ?_ hl')))
          refine ex_cons (s_assign (ev_local e6 (to_name ?_)))
          refine ex_cons (s_assign (ev_binop (ev_binop (ev_int (ev_local rfl (op_mul (ev_int (op_add (to_name (ex_nil ?_)))) ?_))))))
          · obtain ⟨f', rfl⟩ : ∃ f', f = f' + 1 := ⟨f - 1, by omega⟩
            refine ⟨h.length - suC h' p, by omega, h'.set p (h'.getD (suC h' p) (0, 0)), suC h' p, f', rfl, by simp; omega, by simpa using hcl, by simp [hlen], ?_, e1, e2, rfl, e4, e5, ?_, ?_, rfl⟩
            · rw [hsd, suL, if_pos hc]
            · show some (V.int (2 * ((suC h' p : Nat) : Int) + 1)) = _
              congr 2
            · show (σ.hp.set i (a, AO.list (h'.map pv))).set i (a, AO.list ((h'.map pv).set (p : Int).toNat (pv (h'.getD (suC h' p) (0, 0))))) = _
              rw [List.set_set, List.map_set, Int.toNat_natCast]
          · exact .of_left (by decide)
      · have hc : ¬ 2 * p + 1 < h'.length := by have : ¬ ((2 * p + 1 : Nat) : Int) < h.length := by simpa using hc
                                                omega
        refine ⟨h', p, hlt', hlen, e1, e2, e3, e4, rfl, rfl, ?_⟩
        rw [hsd]
        cases f with
        | zero => rfl
        | succ f => rw [suL, if_neg hc]
    · rintro ⟨loc, hp₁, gens₁⟩ ⟨h', p, hlt', hlen, e1, e2, e3, e4, rfl, rfl, hsd⟩
      have hi' : (σ.hp.set i (a, AO.list (h'.map pv)))[i]? = some (a, AO.list (h'.map pv)) := hp_at hi
      have hl' : (h'.map pv).length ≤ sizeLine := by simp; rw [hlen]; exact hl
      refine ex_cons (s_assign (ev_local e4 (to_sub (ev_local e1 (ev_local e3 (set_list hi' (by omega) (by simp; omega) ?_ hl'))))))
      have e : (σ.hp.set i (a, AO.list (h'.map pv))).set i (a, AO.list ((h'.map pv).set (p : Int).toNat (pv new))) = σ.hp.set i (a, .list ((h'.set p new).map pv)) := by
        rw [List.set_set, Int.toNat_natCast, ← List.map_set]
      dsimp only
      rw [e]
      have hi'' : (σ.hp.set i (a, AO.list ((h'.set p new).map pv)))[i]? = some (a, AO.list ((h'.set p new).map pv)) := hp_at hi
      refine ex_cons (s_expr (ev_callG (f := .ref (G.ad 8)) (S.glob _ _ rfl) S.callee ?_))
      refine el_cons (ev_local e1 (el_cons (ev_local e2 (el_cons (ev_local e3 (el_nil ?_))))))
      refine c_siftdown (new := new) S R' hi'' (by simp [hlt']) (by simp; omega) (ex_nil ?_)
      show Q (.v .none) ⟨σ.loc, _, σ.gens⟩
      dsimp only
      rw [List.set_set]
      have : siftupF h new = siftdownF (h'.set p new) new p := by unfold siftupF; rw [hsd]
      rw [← this]
      exact q
  · exact .of_left (by decide)
noncomputable def heappopF (h : List (Int × Int)) : (Int × Int) × List (Int × Int) := match h.dropLast, h.getLast? with
  | _, none => ((0, 0), [])
  | [], some l => (l, [])
  | p :: b, some l => (p, siftupF (l :: b) l)
theorem c_heappop {a : Addr} {h : List (Int × Int)} {i : Nat} {Q : V → St → Prop} (S : Sta G) (R : Rm F.A 4) (hi : σ.hp[i]? = some (a, .list (h.map pv))) (hne : h ≠ []) (hz : h.length ≤ 100)
    (q : Q (pv (heappopF h).1) { σ with hp := σ.hp.set i (a, .list ((heappopF h).2.map pv)) }) : Cl G F (.ref (G.ad 7)) [.v (.ref a)] σ Q := by
  refine cl_def (names := ["heap"]) S R.room (fun xs hx => ?_) fun L => ?_
  · obtain ⟨x, rfl⟩ := len1 hx; kernel_rfl
  have R' : Rm (fmOf F.A (fdAt G 7) (G.ad 7) L).A 3 := R.sub
  obtain ⟨b, l, rfl⟩ : ∃ b l, h = b ++ [l] := (List.eq_nil_or_concat h).elim (fun e => absurd e hne) fun ⟨b, l, e⟩ => ⟨b, l, by simpa using e⟩
  have hb : b.length < 100 := by simp at hz; omega
  have hl : b.length < sizeLine := Nat.lt_of_lt_of_le hb (by decide)
  have em : (b ++ [l]).map pv = b.map pv ++ [pv l] := by simp
  rw [em] at hi
  refine ex_cons (s_assign (ev_meth0 meth_pop (ev_local rfl ⟨ty_list hi, cl_pop hi (to_name ?_) (by simpa using hl)⟩)))
  have hi' : (σ.hp.set i (a, AO.list (b.map pv)))[i]? = some (a, AO.list (b.map pv)) := hp_at hi
  refine ex_cons (s_if (tr_name (ev_local rfl (tt_list hi' ⟨fun hc => ?_, fun hc => ?_⟩ (by simpa using Nat.le_of_lt hl)))))
  · cases b with
    | nil => cases hc
    | cons p b =>
      refine ex_cons (s_assign (ev_sub sub_list (ev_local rfl (ev_int ⟨ty_list hi', gi_list (v := pv p) hi' (by omega) rfl (to_name ?_) (by simpa using Nat.le_of_lt hl)⟩))))
      refine ex_cons (s_assign (ev_local rfl (to_sub (ev_local rfl (ev_int (set_list hi' (by omega) (by simp) ?_ (by simpa using Nat.le_of_lt hl)))))))
      have e : (σ.hp.set i (a, AO.list ((p :: b).map pv))).set i (a, AO.list (((p :: b).map pv).set (0 : Int).toNat (pv l))) = σ.hp.set i (a, .list (((p :: b).set 0 l).map pv)) := by
        rw [List.set_set, ← List.map_set]; rfl
      dsimp only [St.put]
      rw [e]
      have hi'' : (σ.hp.set i (a, AO.list (((p :: b).set 0 l).map pv)))[i]? = some (a, AO.list (((p :: b).set 0 l).map pv)) := hp_at hi
      refine ex_cons (s_expr (ev_callG (f := .ref (G.ad 9)) (S.glob _ _ rfl) S.callee (el_cons (ev_local rfl (el_cons (ev_int (el_nil ?_)))))))
      refine c_siftup (new := l) S R' hi'' (by simp) (by simp; simp at hb; omega) (ex_cons (s_ret (ev_local rfl ?_)))
      show Q (pv p) ⟨σ.loc, _, σ.gens⟩
      dsimp only
      rw [List.set_set]
      have e2 : heappopF (p :: b ++ [l]) = (p, siftupF ((p :: b).set 0 l) l) := by
        unfold heappopF
        rw [List.dropLast_concat, List.getLast?_concat]
        rfl
      rw [e2] at q
      exact q
  · cases b with
    | cons p b => cases hc
    | nil =>
      refine ex_nil (ex_cons (s_ret (ev_local rfl ?_)))
      exact q
end
end Mine
end
section
set_option Elab.async false
set_option linter.unusedVariables false
namespace Mine
theorem set_perm {α : Type} {l : List α} {i j : Nat} (hi : i < l.length) (hj : j < l.length) : ((l.set i l[j]).set j l[i]).Perm l := List.set_set_perm hi hj
/-- the hole moves -/
theorem hole {l : List (Int × Int)} {p c : Nat} {new x : Int × Int} (hp : p < l.length) (hc : c < l.length) (hx : l[c]? = some x) (hne : p ≠ c) : ((l.set p x).set c new).Perm (l.set p new) := by
  have h := set_perm (l := l.set p new) (i := p) (j := c) (by simpa using hp) (by simpa using hc)
  have e1 : (l.set p new)[c]'(by simpa using hc) = x := by
    rw [List.getElem_set]
    rw [if_neg hne]
    obtain ⟨_, e⟩ := List.getElem?_eq_some_iff.mp hx
    exact e
  have e2 : (l.set p new)[p]'(by simpa using hp) = new := by simp
  rw [e1, e2, List.set_set] at h
  exact h
theorem sdL_perm (new : Int × Int) : ∀ (n : Nat) (h : List (Int × Int)) (p : Nat), p < h.length → ((sdL new n h p).1.set (sdL new n h p).2 new).Perm (h.set p new) ∧ (sdL new n h p).1.length = h.length
  | 0, h, p, hp => ⟨.refl _, rfl⟩
  | n + 1, h, p, hp => by
    unfold sdL
    split
    · exact ⟨.refl _, rfl⟩
    · rename_i h0
      have hpp : (p - 1) / 2 < h.length := by omega
      rw [List.getElem?_eq_getElem hpp]
      dsimp only
      split
      · have := sdL_perm new n (h.set p h[(p - 1) / 2]) ((p - 1) / 2) (by simpa using hpp)
        refine ⟨this.1.trans ?_, by simpa using this.2⟩
        exact hole hp hpp (List.getElem?_eq_getElem hpp) (by omega)
      · exact ⟨.refl _, rfl⟩
theorem siftdown_perm {h : List (Int × Int)} {new : Int × Int} {pos : Nat} (hp : pos < h.length) : (siftdownF h new pos).Perm (h.set pos new) := (sdL_perm new pos h pos hp).1
theorem suC_lt {h : List (Int × Int)} {p : Nat} (hp : 2 * p + 1 < h.length) : suC h p < h.length ∧ p < suC h p := by
  unfold suC
  split
  · rename_i h1; simp at h1; omega
  · omega
theorem suL_perm (new : Int × Int) : ∀ (n : Nat) (h : List (Int × Int)) (p : Nat), p < h.length → ((suL n h p).1.set (suL n h p).2 new).Perm (h.set p new)
  | 0, h, p, hp => .refl _
  | n + 1, h, p, hp => by
    unfold suL
    split
    · rename_i hc
      obtain ⟨h1, h2⟩ := suC_lt hc
      have := suL_perm new n (h.set p (h.getD (suC h p) (0, 0))) (suC h p) (by simpa using h1)
      refine this.trans (hole hp h1 ?_ (by omega))
      rw [List.getD_eq_getElem?_getD, List.getElem?_eq_getElem h1]; rfl
    · exact .refl _
theorem siftup_perm {h : List (Int × Int)} {new : Int × Int} (hp : 0 < h.length) : (siftupF h new).Perm (h.set 0 new) := by
  unfold siftupF
  have hl := suL_lt h.length h 0 hp
  refine (siftdown_perm (by simpa [hl.2] using hl.1)).trans ?_
  rw [List.set_set]
  exact suL_perm new h.length h 0 hp
theorem push_perm (h : List (Int × Int)) (new : Int × Int) : (siftdownF (h ++ [new]) new h.length).Perm (new :: h) := by
  refine (siftdown_perm (by simp)).trans ?_
  have : (h ++ [new]).set h.length new = h ++ [new] := by simp
  rw [this]
  exact List.perm_append_comm
theorem pop_perm {h : List (Int × Int)} (hne : h ≠ []) : h.Perm ((heappopF h).1 :: (heappopF h).2) := by
  obtain ⟨b, l, rfl⟩ : ∃ b l, h = b ++ [l] := (List.eq_nil_or_concat h).elim (fun e => absurd e hne) fun ⟨b, l, e⟩ => ⟨b, l, by simpa using e⟩
  unfold heappopF
  rw [List.dropLast_concat, List.getLast?_concat]
  cases b with
  | nil => exact .refl _
  | cons p b =>
    show (p :: b ++ [l]).Perm (p :: siftupF (l :: b) l)
    refine List.Perm.cons p ?_
    refine List.Perm.trans ?_ (siftup_perm (h := l :: b) (new := l) (by simp)).symm
    exact List.perm_append_comm
end Mine
end
section
open PySem PySem.Spec PySem.Calls PyProof.Rows PySem.W
set_option Elab.async false
set_option pp.deepTerms false
set_option pp.deepTerms.threshold 8
set_option maxRecDepth 100000
set_option linter.unusedVariables false
namespace Mine
theorem Froz.upd {loc : Str → Option V} {x : Str} {a : Addr} {v : V} (h : loc x = some (.v (.ref a))) : Froz loc (upd loc x v) a v := fun y V e => by
  unfold Mine.upd at e
  by_cases q : y = x
  · subst q; rw [if_pos rfl] at e; cases e; exact .inr ⟨rfl, h⟩
  · rw [if_neg q] at e; exact .inl e
section
variable {G : Gl} {F : Fm} {σ : St}
theorem s_try {body : List Stmt} {h₀ : ExceptHandler} {hs : List ExceptHandler} {pos : Pos} {Q : Fl → St → Prop} (h : Ex G F body σ Q) : S1 G F (.Try body (h₀ :: hs) [] [] pos) σ Q := ⟨fun B hB s r => by
  refine wpAny_Try_except (wpAny_mono (h.go B hB s r) (fun f s₁ p => ?_) fun _ _ e => e.elim)
  cases f with
  | next => exact wpAny_execs_nil p
  | brk => exact p
  | cont => exact p
  | ret v => exact p⟩
theorem cl_star {a : Nat} {n₁ n₂ : Str} {v₁ v₂ : V} {Q : V → St → Prop} (S : Sta G) (hroom : F.A.depth < recursionLimit)
    (hbind : ∀ x y : Value, bindArgs (fdAt G a) ⟨[x, y], []⟩ = (newTuple [y] >>= fun t => pure [(n₁, x), (n₂, t)]))
    (h : ∀ L, Ex G (fmOf F.A (fdAt G a) (G.ad a) L) (stmtsOf (fdAt G a)) ⟨bnd [n₁, n₂] [v₁, .tup [v₂]], σ.hp, σ.gens⟩ (RetTo Q σ))
    (hfn : isFn a = true := by rfl)
    (hbody : (fdAt G a).body = .stmts (stmtsOf (fdAt G a)) := by rfl)
    (hn : n₁ ≠ n₂ := by decide) (hk1 : (fdAt G a).scope.names.lookup n₁ = some .local := by rfl) (hk2 : (fdAt G a).scope.names.lookup n₂ = some .local := by rfl) (hnc : (fdAt G a).scope.names.all (fun x => x.2 != .cell) = true := by rfl) (hclo : (fdAt G a).closure = [] := by rfl)
    (hco : (fdAt G a).scope.isCoroutine = false := by rfl) (hgen : (fdAt G a).scope.isGenerator = false := by rfl) (hk : (fdAt G a).scope.kind = .function := by rfl) : Cl G F (.ref (G.ad a)) [v₁, v₂] σ Q := by
  intro B xs hxs
  cases hxs with
  | @cons _ x _ _ hv1 h2 =>
    cases h2 with
    | @cons _ y _ _ hv2 h3 =>
      cases h3
      refine ⟨fun B' hB s r => wpAny_call ?_⟩
      obtain ⟨o, ho, hd⟩ := S.fn hfn
      have stands : ∀ b o, G.base b = some o → s.heap.get? b = some o := fun b o e => r.keep b o (r.base b o e)
      have noc : ∀ (names : List (Str × NameKind)) n, names.all (fun x => x.2 != .cell) = true → cellsFrom n names [] = [] := by
        intro names
        induction names with
        | nil => intro n _; rfl
        | cons p names ih =>
          intro n h
          obtain ⟨z, k⟩ := p
          rw [List.all_cons, Bool.and_eq_true] at h
          unfold cellsFrom
          have : (k == NameKind.cell) = false := by simpa [bne] using h.1
          rw [this]
          exact ih n h.2
      refine codeAny_call_function hroom (stands _ _ ho) hd hco hgen hbody (S.code hfn _ stands) ?_
      rw [hbind, hclo]
      refine wpAny_bind (wpAny_newObj_type ?_ (by show 1 ≤ sizeLine; decide))
      obtain ⟨r', le⟩ := r.new (o := { cls := .type "tuple", data := .seq [y].toArray }) (s' := { s with heap := s.heap.push { cls := .type "tuple", data := .seq [y].toArray } }) rfl rfl rfl rfl
      generalize hs₁ : ({ s with heap := s.heap.push { cls := .type "tuple", data := .seq [y].toArray } } : Shared) = s₁ at r'
      have stands' : ∀ b o, G.base b = some o → s₁.heap.get? b = some o := fun b o e => r'.keep b o (r'.base b o e)
      refine wpAny_pure (wpAny_newFunctionEnv_cells hk (fun p hp => ?_) fun env he s' x => ?_)
      · rcases List.mem_cons.mp hp with rfl | hp
        · exact .inl hk1
        · rcases List.mem_cons.mp hp with rfl | hp
          · exact .inl hk2
          · cases hp
      · subst he
        refine ⟨(S.nolimit _ stands').keeps x.toInCall.keep, codeAny_func ?_⟩
        have hvs : RVs (B'.put s.heap.objs.size { cls := .type "tuple", data := .seq [y].toArray }) [v₁, .tup [v₂]] [_, .ref s.heap.objs.size] :=
          .cons (hv1.mono (hB.tr le)) (.one (.tup (n := 0) PM.put_self (.one (hv2.mono (hB.tr le)))))
        have r₁ := inCall_rel (A := F.A) (f := G.ad a) (fd := fdAt G a) (names := [n₁, n₂]) r' hvs (by simp [hn]) (by rw [noc _ _ hnc]; exact List.nodup_nil) x
        refine wpAny_mono ((h s₁.heap.objs.size).go _ PM.bot_le s' r₁) (fun fl s'' ⟨b, σ', B₂, g1, g2, g3, g4⟩ => ?_) fun _ _ e => e.elim
        obtain ⟨k1, k2, k3⟩ := r'.back g2 g1
        cases g3 with
        | next => exact ⟨_, _, _, le.tr k2, k1, .v _, g4⟩
        | ret hr => exact ⟨_, _, _, le.tr k2, k1, k3 hr, g4⟩
        | brk => exact g4.elim
        | cont => exact g4.elim

theorem c_fspath {x : Str} {Q : V → St → Prop} (S : Sta G) (R : Rm F.A 1) (q : Q (.str x) σ) : Cl G F (.ref (G.ad 18)) [.str x] σ Q := by
  refine cl_def (names := ["path"]) S R.room (fun xs hx => ?_) fun L => ?_
  · obtain ⟨x, rfl⟩ := len1 hx; kernel_rfl
  refine ex_cons (s_assign (ev_callG (f := .type "type") (S.blt _ _ rfl (by decide) (by kernel_rfl)) .type (el_cons (ev_local rfl (el_nil (cl_type ty_str (to_name ?_)))))))
  refine ex_cons (s_if (tr_call (ev_callG (f := .builtin "issubclass") (S.blt _ _ rfl (by decide) (by kernel_rfl)) .builtin (el_cons (ev_local rfl (el_cons (ev_tuple ?_)))))))
  refine el_cons (ev_glob (v := .type "str") (S.blt _ _ rfl (by decide) (by kernel_rfl)) (el_cons (ev_glob (v := .type "bytes") (S.blt _ _ rfl (by decide) (by kernel_rfl)) (el_nil ⟨by decide, ?_⟩))))
  refine el_nil (cl_issub (tt_bool ⟨fun _ => ex_cons (s_ret (ev_local rfl q)), fun e => (by cases e)⟩))
theorem c_getsep {x : Str} {Q : V → St → Prop} (S : Sta G) (R : Rm F.A 1) (q : Q (.str "/") σ) : Cl G F (.ref (G.ad 22)) [.str x] σ Q := by
  refine cl_def (names := ["path"]) S R.room (fun xs hx => ?_) fun L => ?_
  · obtain ⟨x, rfl⟩ := len1 hx; kernel_rfl
  refine ex_cons (s_if (tr_call (ev_callG (f := .builtin "isinstance") (S.blt _ _ rfl (by decide) (by kernel_rfl)) .builtin (el_cons (ev_local rfl (el_cons (ev_glob (v := .type "bytes") (S.blt _ _ rfl (by decide) (by kernel_rfl)) (el_nil ?_))))))))
  exact cl_isbytes (tt_bool ⟨fun e => (by cases e), fun _ => ex_cons (s_ret (ev_str q))⟩)
end
end Mine
end
section
open PySem PySem.Spec PySem.Calls PyProof.Rows PySem.W
set_option Elab.async false
set_option pp.deepTerms false
set_option pp.deepTerms.threshold 8
set_option maxRecDepth 100000
set_option linter.unusedVariables false
namespace Mine
theorem meth_starts : MethOk "str" "startswith" "str.startswith" := ⟨PySem.F.plainAttrs_str, PySem.F.slot_str_startswith, by with_unfolding_all rfl⟩
theorem meth_ends : MethOk "str" "endswith" "str.endswith" := ⟨PySem.F.plainAttrs_str, PySem.F.slot_str_endswith, by with_unfolding_all rfl⟩
theorem meth_rfind : MethOk "str" "rfind" "str.rfind" := ⟨PySem.F.plainAttrs_str, PySem.F.slot_str_rfind, by with_unfolding_all rfl⟩
theorem meth_split : MethOk "str" "split" "str.split" := ⟨PySem.F.plainAttrs_str, PySem.F.slot_str_split, by with_unfolding_all rfl⟩
theorem meth_join : MethOk "str" "join" "str.join" := ⟨PySem.F.plainAttrs_str, PySem.F.slot_str_join, by with_unfolding_all rfl⟩
theorem sub_str : typeLookup (.type "str") "__getitem__" = pure (some (.builtin "str.__getitem__")) := PySem.F.slot_str_getitem.lookup
noncomputable def joinF (a b : Str) : Str := if Txt.startswith b "/" || (a.length : Int) == 0 then b else if Txt.endswith a "/" then a ++ b else a ++ (("/" : Str) ++ b)
noncomputable def baseF (p : Str) : Str := cut p (Txt.rfind p "/" + 1).toNat p.length
noncomputable def nstep (acc : List Str) (c : Str) : List Str :=
  if (c.length : Int) == 0 || c == "." then acc else if c != ".." || acc.isEmpty || acc.getLast? == some (".." : Str) then acc ++ [c] else acc.dropLast
noncomputable def normF (path : Str) : Str :=
  let r := ("" : Str) ++ Txt.join "/" ((Txt.split path "/").foldl nstep [])
  if (r.length : Int) != 0 then r else "."
section
variable {G : Gl} {F : Fm} {σ : St}
theorem c_join {x y : Str} {Q : V → St → Prop} (S : Sta G) (R : Rm F.A 2) (hz : x.length + y.length ≤ 1000) (q : Q (.str (joinF x y)) σ) : Cl G F (.ref (G.ad 23)) [.str x, .str y] σ Q := by
  have hs : 1000 + 1 ≤ sizeLine := by decide
  refine cl_star (n₁ := "a") (n₂ := "p") S R.room (fun x y => by kernel_rfl) fun L => ?_
  have R' : Rm (fmOf F.A (fdAt G 23) (G.ad 23) L).A 1 := R.sub
  refine ex_cons (s_assign (ev_callG (f := .ref (G.ad 18)) (S.glob _ _ rfl) S.callee (el_cons (ev_local rfl (el_nil (c_fspath S R' (to_name ?_)))))))
  refine ex_cons (s_assign (ev_callG (f := .ref (G.ad 22)) (S.glob _ _ rfl) S.callee (el_cons (ev_local rfl (el_nil (c_getsep S R' (to_name ?_)))))))
  refine ex_cons (s_assign (ev_local rfl (to_name ?_)))
  refine ex_cons (s_try (ex_cons (s_for0 (f := .str) [y] (C := fun _ => True) (D := fun g => g = σ.gens) (fun pre loc hp => hp = σ.hp ∧ loc "sep" = some (.str "/") ∧ loc "path" = some (.str (if pre = [] then x else joinF x y))) ?_ ?_ ?_ ?_)))
  · refine ev_local rfl ⟨_, it_tup R'.hh, rfl, rfl, ?_⟩
    rw [if_pos rfl]; rfl
  · intros; trivial
  · intro pre z post e loc hp ⟨h1, h2, h3⟩ e' gens _
    have : pre = [] ∧ z = y := by
      cases pre with
      | nil => simp at e; exact ⟨rfl, e.1.symm⟩
      | cons a pre => simp at e
    obtain ⟨rfl, rfl⟩ := this
    rw [if_pos rfl] at h3
    subst h1
    refine to_name (ex_cons (s_assign (ev_callG (f := .ref (G.ad 18)) (S.glob _ _ rfl) S.callee (el_cons (ev_local rfl (el_nil (c_fspath S R' (to_name ?_))))))))
    refine ex_cons (s_if (tr_bool (tr_or_cons (tr_call (ev_meth meth_starts (ev_local rfl ⟨ty_str, el_cons (ev_local h2 (el_nil (cl_starts (tt_bool ⟨fun hc => ?_, fun hc => ?_⟩))))⟩))))))
    · refine tr_or_cons (tr_not (tr_name (ev_local h3 (tt_str ⟨fun hc2 => ?_, fun hc2 => ?_⟩ (by omega)))))
      · refine tr_or_nil ⟨fun q => (by cases q), fun _ => ?_⟩
        have hx : ((x.length : Int) == 0) = false := by simpa [bne] using hc2
        refine ex_cons (s_if (tr_call (ev_meth meth_ends (ev_local h3 ⟨ty_str, el_cons (ev_local h2 (el_nil (cl_ends (tt_bool ⟨fun hc3 => ?_, fun hc3 => ?_⟩))))⟩))))
        · refine ex_cons (s_aug (ev_local h3 (ev_local rfl (op_icat (to_name (ex_nil (ex_nil (ex_nil ?_)))) (by omega)))))
          refine ⟨_, _, rfl, rfl, h2, ?_⟩
          rw [if_neg (by simp)]
          show some (V.str (x ++ z)) = _
          unfold joinF
          rw [hc, hx, hc3]; try rfl
        · refine ex_cons (s_aug (ev_local h3 (ev_binop (ev_local h2 (ev_local rfl (op_cat (op_icat (to_name (ex_nil (ex_nil (ex_nil ?_)))) ?_) ?_))))))
          · refine ⟨_, _, rfl, rfl, h2, ?_⟩
            rw [if_neg (by simp)]
            show some (V.str (x ++ (("/" : Str) ++ z))) = _
            unfold joinF
            rw [hc, hx, hc3]; try rfl
          · have : (("/" : Str) ++ z).length = 1 + z.length := by rw [PySem.Str.length_append]; rfl
            omega
          · show 1 + z.length ≤ sizeLine
            omega
      · refine ⟨fun _ => ex_cons (s_assign (ev_local rfl (to_name (ex_nil (ex_nil ?_))))), fun q => (by cases q)⟩
        refine ⟨_, _, rfl, rfl, h2, ?_⟩
        rw [if_neg (by simp)]
        have hx : ((x.length : Int) == 0) = true := by simpa [bne] using hc2
        show some (V.str z) = _
        unfold joinF
        rw [hx, Bool.or_true, if_pos rfl]
    · refine ⟨fun _ => ex_cons (s_assign (ev_local rfl (to_name (ex_nil (ex_nil ?_))))), fun q => (by cases q)⟩
      refine ⟨_, _, rfl, rfl, h2, ?_⟩
      rw [if_neg (by simp)]
      show some (V.str z) = _
      unfold joinF
      rw [hc, Bool.true_or, if_pos rfl]
  · intro loc hp gens hd ⟨h1, h2, h3⟩
    subst h1 hd
    refine ex_nil (ex_cons (s_ret (ev_local h3 ?_)))
    rw [if_neg (by simp)]
    exact q
theorem c_splitroot {x : Str} {Q : V → St → Prop} (S : Sta G) (R : Rm F.A 2) (hz : x.length ≤ 1000) (h1 : 1 ≤ x.length) (hne : (cut x 0 1 != "/") = true) (q : Q (.tup [.str "", .str "", .str x]) σ) : Cl G F (.ref (G.ad 24)) [.str x] σ Q := by
  have hs : 1000 + 1 ≤ sizeLine := by decide
  refine cl_def (names := ["p"]) S R.room (fun xs hx => ?_) fun L => ?_
  · obtain ⟨x, rfl⟩ := len1 hx; kernel_rfl
  have R' : Rm (fmOf F.A (fdAt G 24) (G.ad 24) L).A 1 := R.sub
  refine ex_cons (s_assign (ev_callG (f := .ref (G.ad 18)) (S.glob _ _ rfl) S.callee (el_cons (ev_local rfl (el_nil (c_fspath S R' (to_name ?_)))))))
  refine ex_cons (s_if (tr_call (ev_callG (f := .builtin "isinstance") (S.blt _ _ rfl (by decide) (by kernel_rfl)) .builtin (el_cons (ev_local rfl (el_cons (ev_glob (v := .type "bytes") (S.blt _ _ rfl (by decide) (by kernel_rfl)) (el_nil ?_))))))))
  refine cl_isbytes (tt_bool ⟨fun e => (by cases e), fun _ => ?_⟩)
  refine ex_cons (s_assign (ev_str (to_name (ex_cons (s_assign (ev_str (to_name (ex_nil ?_))))))))
  refine ex_cons (s_if (tr_compare (ev_sub sub_str (ev_local rfl (ev_slice (ev_part ?_))))))
  refine ev_part (ev_int ⟨1, rfl, ev_part (o := none) ⟨ty_str, gi_cut (a := 0) (b := 1) ?_ (by omega) h1 (by omega) (idx_to h1)⟩⟩)
  refine ev_local rfl (op_nes (tt_bool ⟨fun _ => ?_, fun e => ?_⟩))
  · refine ex_cons (s_ret (ev_tuple (el_cons (ev_local rfl (el_cons (ev_local rfl (el_cons (ev_local rfl (el_nil ⟨by show 3 ≤ sizeLine; decide, ?_⟩)))))))))
    exact q
  · rw [hne] at e; cases e
theorem c_basename {x : Str} {k : Nat} {Q : V → St → Prop} (S : Sta G) (R : Rm F.A 2) (hz : x.length ≤ 1000) (hk : Txt.rfind x "/" + 1 = (k : Nat)) (hkl : k ≤ x.length) (q : Q (.str (cut x k x.length)) σ) : Cl G F (.ref (G.ad 25)) [.str x] σ Q := by
  have hs : 1000 + 1 ≤ sizeLine := by decide
  refine cl_def (names := ["p"]) S R.room (fun xs hx => ?_) fun L => ?_
  · obtain ⟨x, rfl⟩ := len1 hx; kernel_rfl
  have R' : Rm (fmOf F.A (fdAt G 25) (G.ad 25) L).A 1 := R.sub
  refine ex_cons (s_assign (ev_callG (f := .ref (G.ad 18)) (S.glob _ _ rfl) S.callee (el_cons (ev_local rfl (el_nil (c_fspath S R' (to_name ?_)))))))
  refine ex_cons (s_assign (ev_callG (f := .ref (G.ad 22)) (S.glob _ _ rfl) S.callee (el_cons (ev_local rfl (el_nil (c_getsep S R' (to_name ?_)))))))
  refine ex_cons (s_assign (ev_binop (ev_meth meth_rfind (ev_local rfl ⟨ty_str, el_cons (ev_local rfl (el_nil (cl_rfind (ev_int (op_add (to_name ?_))))))⟩))))
  refine ex_cons (s_ret (ev_sub sub_str (ev_local rfl (ev_slice (ev_part (ev_local rfl ⟨_, rfl, ?_⟩))))))
  rw [hk]
  exact ev_part (o := none) (ev_part (o := none) ⟨ty_str, gi_cut (a := k) (b := x.length) q hkl (Nat.le_refl _) (by omega) (idx_from hkl)⟩)
theorem nstep_len (acc : List Str) (c : Str) : (nstep acc c).length ≤ acc.length + 1 := by
  unfold nstep
  split
  · omega
  · split
    · simp
    · simp; omega
theorem nfold_len : ∀ (cs acc : List Str), (cs.foldl nstep acc).length ≤ acc.length + cs.length
  | [], acc => Nat.le_refl _
  | c :: cs, acc => by
    have := nfold_len cs (nstep acc c)
    have := nstep_len acc c
    simp only [List.foldl_cons, List.length_cons]
    omega
theorem c_normpath {x : Str} {Q : V → St → Prop} (S : Sta G) (R : Rm F.A 3) (hz : x.length ≤ 1000) (h1 : 1 ≤ x.length) (hne : (cut x 0 1 != "/") = true) (hn : (Txt.split x "/").length ≤ 1000) (hcs : ∀ c ∈ Txt.split x "/", c.length ≤ 1000)
    (hj : JoinOk "/" ((Txt.split x "/").foldl nstep []) = true) (hjl : (Txt.join "/" ((Txt.split x "/").foldl nstep [])).length ≤ 1000) (q : Q (.str (normF x)) σ) : Cl G F (.ref (G.ad 26)) [.str x] σ Q := by
  have hs : 1000 + 1 ≤ sizeLine := by decide
  refine cl_def (names := ["path"]) S R.room (fun xs hx => ?_) fun L => ?_
  · obtain ⟨x, rfl⟩ := len1 hx; kernel_rfl
  have R' : Rm (fmOf F.A (fdAt G 26) (G.ad 26) L).A 2 := R.sub
  refine ex_cons (s_assign (ev_callG (f := .ref (G.ad 18)) (S.glob _ _ rfl) S.callee (el_cons (ev_local rfl (el_nil (c_fspath S (R'.less (by omega)) (to_name ?_)))))))
  refine ex_cons (s_if (tr_call (ev_callG (f := .builtin "isinstance") (S.blt _ _ rfl (by decide) (by kernel_rfl)) .builtin (el_cons (ev_local rfl (el_cons (ev_glob (v := .type "bytes") (S.blt _ _ rfl (by decide) (by kernel_rfl)) (el_nil ?_))))))))
  refine cl_isbytes (tt_bool ⟨fun e => (by cases e), fun _ => ?_⟩)
  refine ex_cons (s_assign (ev_str (to_name (ex_cons (s_assign (ev_str (to_name (ex_cons (s_assign (ev_str (to_name (ex_nil ?_))))))))))))
  refine ex_cons (s_if (tr_not (tr_name (ev_local rfl (tt_str ⟨fun e => ?_, fun _ => ex_nil ?_⟩ (by omega))))))
  · have : ((x.length : Int) != 0) = true := by simp; omega
    rw [this] at e; cases e
  refine ex_cons (s_assign (ev_callG (f := .ref (G.ad 24)) (S.glob _ _ rfl) S.callee (el_cons (ev_local rfl (el_nil (c_splitroot S R' hz h1 hne ?_))))))
  refine to_tup R'.hh (te_cons (to_name (te_cons (to_name (te_cons (to_name (te_nil ?_)))))))
  refine ex_cons (s_assign (ev_meth meth_split (ev_local rfl ⟨ty_str, el_cons (ev_local rfl (el_nil (cl_split (to_name ?_) rfl (by omega) (by omega))))⟩)))
  refine ex_cons (s_assign (ev_listO (el_nil ⟨by decide, fun a => to_name ?_⟩)))
  refine ex_cons (s_for0 (f := .str) (Txt.split x "/") (C := fun _ => True) (D := fun g => g = σ.gens)
    (fun pre loc hp => hp = (a, .list ((pre.foldl nstep []).map .str)) :: σ.hp ∧ loc "sep" = some (.str "/") ∧ loc "dot" = some (.str ".") ∧ loc "dotdot" = some (.str "..") ∧ loc "initial_slashes" = some (.str "") ∧ loc "new_comps" = some (.v (.ref a))) ?_ ?_ ?_ ?_)
  · exact ev_local rfl ⟨_, it_lst R'.hh, rfl, rfl, rfl, rfl, rfl, rfl⟩
  · intros; trivial
  · intro pre c post e loc hp ⟨e0, e1, e2, e3, e4, e5⟩ e' gens _
    subst e0
    generalize hacc : pre.foldl nstep [] = acc
    have hl : acc.length ≤ 1000 := by
      have := nfold_len pre []
      rw [hacc] at this
      have h2 := congrArg List.length e
      simp at h2 this
      omega
    have hc : c.length ≤ sizeLine := by have := hcs c (by rw [e]; simp)
                                        omega
    have keep : (pre ++ [c]).foldl nstep [] = nstep acc c := by rw [List.foldl_append, hacc]; rfl
    have hlz : (acc.map V.str).length ≤ sizeLine := by simp; omega
    refine to_name ?_
    have hlc : (c.length : Int) = 0 ∨ ((c.length : Int) != 0) = true := by
      by_cases q : (c.length : Int) = 0
      · exact .inl q
      · exact .inr (by simpa using q)
    refine ex_cons (s_ifB ((c.length : Int) == 0 || c == ".") ?_ (fun hb => ex_cons (s_cont ?_)) (fun hb => ex_nil ?_))
    · refine tr_bool (tr_or_cons (tr_not (tr_name (ev_local rfl (tt_str ⟨fun h => ?_, fun h => ?_⟩ hc)))))
      · refine tr_or_cons (tr_compare (ev_local rfl (ev_local e2 (op_eqs (tt_bool ⟨fun h2 => tr_or_nil ⟨?_, rfl⟩, fun h2 => ⟨?_, rfl⟩⟩)))))
        · have h : ((c.length : Int) == 0) = false := by simpa [bne] using h
          rw [h, h2]; rfl
        · have h : ((c.length : Int) == 0) = false := by simpa [bne] using h
          rw [h, h2]; rfl
      · have h : ((c.length : Int) == 0) = true := by simpa [bne] using h
        refine ⟨?_, rfl⟩
        rw [h]; rfl
    · refine ⟨_, _, rfl, ?_, e1, e2, e3, e4, e5⟩
      rw [keep]
      unfold nstep
      rw [if_pos hb]
    · refine ex_cons (s_ifB (c != ".." || acc.isEmpty || acc.getLast? == some (".." : Str)) ?_ (fun hb2 => ?_) (fun hb2 => ?_))
      · have hemp : (!(acc.map V.str).isEmpty) = !acc.isEmpty := by cases acc <;> rfl
        refine tr_bool (tr_or_cons (tr_compare (ev_local rfl (ev_local e3 (op_nes (tt_bool ⟨fun h => ?_, fun h => ⟨by rw [h]; rfl, rfl⟩⟩))))))
        refine tr_or_cons (tr_bool (tr_and_cons (tr_not (tr_name (ev_local e4 (tt_str ⟨fun _ => ?_, fun q => (by cases q)⟩ (by decide)))))))
        refine tr_and_cons (tr_not (tr_name (ev_local e5 (tt_list (i := 0) rfl ⟨fun h2 => ?_, fun h2 => ?_⟩ hlz))))
        · rw [hemp] at h2
          refine tr_and_nil ⟨fun q => (by cases q), fun _ => ⟨?_, rfl⟩⟩
          have : acc.isEmpty = true := by simpa using h2
          rw [h, this]; rfl
        · rw [hemp] at h2
          have hne : acc.isEmpty = false := by simpa using h2
          refine ⟨fun _ => ?_, fun q => (by cases q)⟩
          refine tr_or_cons (tr_bool (tr_and_cons (tr_name (ev_local e5 (tt_list (i := 0) rfl ⟨fun h3 => ?_, fun h3 => ?_⟩ hlz)))))
          · obtain ⟨b, l, rfl⟩ : ∃ b l, acc = b ++ [l] := (List.eq_nil_or_concat acc).elim (fun e => by rw [e] at hne; cases hne) fun ⟨b, l, e⟩ => ⟨b, l, by simpa using e⟩
            refine tr_and_cons (tr_compare (ev_sub sub_list (ev_local e5 (ev_unary (ev_int (op_neg ⟨ty_list (i := 0) rfl, gi_listN (i := 0) (v := .str l) rfl (by decide) ?_ ?_ ?_ hlz⟩))))))
            · simp; omega
            · have e : (-1 + (((b ++ [l]).map V.str).length : Int)).toNat = b.length := by simp; omega
              rw [e]; simp
            · have key : (c != ".." || (b ++ [l]).isEmpty || (b ++ [l]).getLast? == some (".." : Str)) = (l == "..") := by
                rw [h, hne, List.getLast?_concat]; simp
              refine ev_local e3 (op_eqs (tt_bool ⟨fun h4 => tr_and_nil ⟨fun q => (by cases q), fun _ => ⟨?_, rfl⟩⟩, fun h4 => ⟨fun _ => tr_or_nil ⟨?_, rfl⟩, fun q => (by cases q)⟩⟩))
              · rw [key]; exact h4.symm
              · rw [key]; exact h4.symm
          · rw [hemp, hne] at h3; cases h3
      · refine ex_cons (s_expr (ev_meth meth_append (ev_local e5 ⟨ty_list (i := 0) rfl, el_cons (ev_local rfl (el_nil (cl_append (i := 0) rfl (ex_nil (ex_nil ?_)) hlz)))⟩)))
        have em : acc.map V.str ++ [V.str c] = (nstep acc c).map V.str := by
          unfold nstep
          rw [if_neg (by rw [hb]; exact Bool.false_ne_true), if_pos hb2]
          simp
        exact ⟨upd loc "comp" (.str c), (a, AO.list ((nstep acc c).map V.str)) :: σ.hp, by rw [← em]; rfl, by rw [keep], e1, e2, e3, e4, e5⟩
      · have hne : acc.isEmpty = false := by
          cases q : acc.isEmpty with
          | false => rfl
          | true => rw [q] at hb2; simp at hb2
        obtain ⟨b, l, rfl⟩ : ∃ b l, acc = b ++ [l] := (List.eq_nil_or_concat acc).elim (fun e => by rw [e] at hne; cases hne) fun ⟨b, l, e⟩ => ⟨b, l, by simpa using e⟩
        have emm : (b ++ [l]).map V.str = b.map V.str ++ [V.str l] := by simp
        have ek : nstep (b ++ [l]) c = b := by
          unfold nstep
          rw [if_neg (by rw [hb]; exact Bool.false_ne_true), if_neg (by rw [hb2]; exact Bool.false_ne_true), List.dropLast_concat]
        refine ex_cons (s_if (tr_name (ev_local e5 (tt_list (i := 0) rfl ⟨fun h3 => ?_, fun h3 => ?_⟩ hlz))))
        · rw [emm]
          refine ex_cons (s_expr (ev_meth0 meth_pop (ev_local e5 ⟨ty_list (i := 0) rfl, cl_pop (i := 0) (vs := b.map V.str) (v := .str l) rfl (ex_nil (ex_nil (ex_nil ?_))) (by simp at hl; simp; omega)⟩)))
          exact ⟨upd loc "comp" (.str c), (a, AO.list (b.map V.str)) :: σ.hp, rfl, by rw [keep, ek], e1, e2, e3, e4, e5⟩
        · simp at h3
  · intro loc hp gens hd ⟨e0, e1, e2, e3, e4, e5⟩
    subst e0 hd
    refine ex_cons (s_assign (ev_local e5 (to_name ?_)))
    refine Ok.freezeL (Froz.upd (x := "comps") rfl) ?_
    refine ex_cons (s_assign (ev_binop (ev_local e4 (ev_meth meth_join (ev_local e1 ⟨ty_str, el_cons (ev_local rfl (el_nil (cl_join (op_cat (to_name ?_) ?_) hj)))⟩)))))
    · refine ex_cons (s_ret (ev_or (ev_local rfl (tt_str ⟨fun hc => ev_bool1 (ev_local e2 ?_), fun hc => ?_⟩ ?_))))
      · have : normF x = "." := by unfold normF; simp only [hc]; rfl
        rw [this] at q; exact q
      · have : normF x = ("" : Str) ++ Txt.join "/" ((Txt.split x "/").foldl nstep []) := by unfold normF; simp only [hc]; rfl
        rw [this] at q; exact q
      · rw [PySem.Str.length_append]; show 0 + _ ≤ _; omega
    · show 0 + _ ≤ _; omega
end
end Mine
end
section
open PySem PySem.Spec PySem.Calls PyProof.Rows PySem.W
set_option Elab.async false
set_option pp.deepTerms false
set_option pp.deepTerms.threshold 8
set_option maxRecDepth 100000
set_option linter.unusedVariables false
namespace Mine
section
variable {M : Model} {A : Around} {R : GenEnd} {Y : Protocol} {n : Nat} {s₀ : Shared} {c : Code} {fs : List Frame} {s : Shared} {env : Env}
  {K : Flow → Sem Fin} {H : Value → Sem Fin} {gd : Bool → Bool} {lv : List Value → List Value}
theorem segq_bind {α β : Type} {m : Sem α} {k : α → Sem β} {K : β → Sem Fin}
    (h : wpAny M (A.over c fs) m (fun a s' => Seg M A R Y n s₀ c ((k a).wrap K H gd lv) fs s') (fun _ _ => False) s) : Seg M A R Y n s₀ c ((m >>= k).wrap K H gd lv) fs s := by
  rw [Sem.bind_eq_wrap', Sem.wrap_wrap]
  exact seg_wrap (wpAny_mono h (fun _ _ h => h) fun _ _ e => e.elim)
theorem segq_at {β : Type} {p : Pos} {k : Unit → Sem β} {K : β → Sem Fin} (h : Seg M A R Y n s₀ c ((k ()).wrap K H gd lv) fs s) : Seg M A R Y n s₀ c ((standAt p >>= k).wrap K H gd lv) fs s :=
  segq_bind (wpAny_standAt h)
theorem segq_If {t : Expr} {b o : List Stmt} {pos : Pos}
    (h : wpAny M (A.over c fs) (isTrue t env (eval t env)) (fun v s' => (v = true → Seg M A R Y n s₀ c ((execs b env).wrap K H gd lv) fs s') ∧ (v = false → Seg M A R Y n s₀ c ((execs o env).wrap K H gd lv) fs s')) (fun _ _ => False) s) :
    Seg M A R Y n s₀ c ((exec (.If t b o pos) env).wrap K H gd lv) fs s := by
  show Seg M A R Y n s₀ c ((do standAt pos; if ← isTrue t env (eval t env) then execs b env else execs o env : Sem Flow).wrap K H gd lv) fs s
  refine segq_at (segq_bind (wpAny_mono h (fun v s' h => ?_) fun _ _ e => e))
  cases v with
  | true => exact h.1 rfl
  | false => exact h.2 rfl
theorem segq_exec {st : Stmt} (h : wpAny M (A.over c fs) (exec st env) (fun f s' => Seg M A R Y n s₀ c (K f) fs s') (fun _ _ => False) s) : Seg M A R Y n s₀ c ((exec st env).wrap K H gd lv) fs s :=
  seg_wrap (wpAny_mono h (fun _ _ h => h) fun _ _ e => e.elim)
theorem segq_For {target iter : Expr} {body orelse : List Stmt} {pos : Pos}
    (h : wpAny M (A.over c fs) (eval iter env) (fun x s₁ => wpAny M (A.over c fs) (pyIter x) (fun it s₂ => ∀ p, Seg M A R Y n s₀ (.forLoop target it body orelse env) (M.den (.forLoop target it body orelse env))
      (.ret (fun r => ((match r with | .ok f => (.pure f : Sem Flow) | .error e => .raise e).onRaise fun (x : Value) => do
        if (← field x 1) == Value.none then unsupported "frame.own-activation:exception-without-traceback"
        setFlight x env.frame).wrap K H gd lv) none (gd false) (lv []) c p [] :: fs) s₂) (fun _ _ => False) s₁) (fun _ _ => False) s)
    (hs : ∀ x, foldedSetIterable iter env x = pure x := by intro _; rfl) : Seg M A R Y n s₀ c ((exec (.For target iter body orelse pos) env).wrap K H gd lv) fs s := by
  rw [exec_For]
  refine segq_at (segq_bind (wpAny_mono h (fun x s₁ h₁ => ?_) fun _ _ e => e))
  rw [hs]
  refine segq_bind (wpAny_pure (segq_at (segq_bind (wpAny_holding (wpAny_mono h₁ (fun it s₂ h₂ => ?_) fun _ _ e => e)))))
  exact seg_call h₂
end
section
variable {prog : Program} {w : World} {A : Around} {R : GenEnd} {Y : Protocol} {n : Nat} {s₀ : Shared} {fs : List Frame} {s : Shared} {env : Env}
noncomputable def loopK (target : Expr) (it : Value) (body orelse : List Stmt) (env : Env) : Flow → Sem Fin := fun f => match f with
  | .next | .cont => .pure (.again (.forLoop target it body orelse env))
  | .brk => .pure (.done .next)
  | .ret v => .pure (.done (.ret v))
noncomputable def raiseH (env : Env) : Value → Sem Fin := fun e => (do noteFrame e env; theTreesLotGoes e : Sem Unit).wrap (fun _ => .raise e) .raise id id
theorem segq_forLoop {target : Expr} {it : Value} {body orelse : List Stmt}
    (h : wpAny (model prog w) (A.over (.forLoop target it body orelse env) fs) (pyNext it) (fun r s₁ => match r with
      | none => Seg (model prog w) A R Y n s₀ (.block orelse env) ((execs orelse env).wrap (fun f => .pure (.done f)) (raiseH env) id id) fs s₁
      | some v => wpAny (model prog w) (A.over (.forLoop target it body orelse env) fs) (letOwnedTupleGo target it v) (fun _ s₂ => wpAny (model prog w) (A.over (.forLoop target it body orelse env) fs) (assign target env v) (fun _ s₃ =>
          Seg (model prog w) A R Y n s₀ (.forLoop target it body orelse env) ((execs body env).wrap (loopK target it body orelse env) (raiseH env) id id) fs s₃) (fun _ _ => False) s₂) (fun _ _ => False) s₁) (fun _ _ => False) s) :
    Seg (model prog w) A R Y n s₀ (.forLoop target it body orelse env) ((model prog w).den (.forLoop target it body orelse env)) fs s := by
  show Seg _ A R Y n s₀ _ ((forTurn target it body orelse env).onRaise (fun x => do noteFrame x env; theTreesLotGoes x)) fs s
  rw [Sem.onRaise_eq_wrap]
  unfold forTurn
  refine segq_at (segq_bind (wpAny_onRaise (wpAny_mono h (fun r s₁ h₁ => ?_) fun _ _ e => e.elim)))
  cases r with
  | none =>
    show Seg _ A R Y n s₀ _ (.pure (.again (.block orelse env))) fs s₁
    refine seg_again rfl ?_
    show Seg _ A R Y n s₀ _ ((execs orelse env).onRaise (fun x => do noteFrame x env; theTreesLotGoes x) >>= fun f => pure (.done f)) fs s₁
    rw [Sem.onRaise_eq_wrap, Sem.bind_eq_wrap', Sem.wrap_wrap]
    have go : ∀ t : Sem Fin, t = (execs orelse env).wrap (fun f => .pure (.done f)) (raiseH env) id id → Seg (model prog w) A R Y n s₀ (.block orelse env) t fs s₁ := fun t q => q ▸ h₁
    refine go _ (Sem.wrap_congr _ _ _ (fun f => rfl) (fun e => ?_))
    show (((do noteFrame e env; theTreesLotGoes e : Sem Unit).bind fun _ => .raise e : Sem Flow)).wrap _ _ _ _ = _
    rw [Sem.bind_eq_wrap, Sem.wrap_wrap]; rfl
  | some v =>
    refine segq_bind (wpAny_mono h₁ (fun _ s₂ h₂ => segq_bind (wpAny_mono h₂ (fun _ s₃ h₃ => ?_) fun _ _ e => e)) fun _ _ e => e)
    rw [Sem.bind_eq_wrap', Sem.wrap_wrap]
    have go : ∀ t : Sem Fin, t = (execs body env).wrap (loopK target it body orelse env) (raiseH env) id id → Seg (model prog w) A R Y n s₀ (.forLoop target it body orelse env) t fs s₃ := fun t q => q ▸ h₃
    refine go _ (Sem.wrap_congr _ _ _ (fun f => by cases f <;> rfl) (fun e => ?_))
    show ((do noteFrame e env; theTreesLotGoes e : Sem Unit).bind fun _ => .raise e) = _
    rw [Sem.bind_eq_wrap]; rfl
end
end Mine
end
section
open PySem PySem.Spec PySem.Calls PyProof.Rows PySem.W
set_option Elab.async false
set_option pp.deepTerms false
set_option pp.deepTerms.threshold 8
set_option maxRecDepth 100000
set_option linter.unusedVariables false
namespace Mine
noncomputable def escG : Bool → Nat → List Nat → List (Int × Str)
  | false, _, [] => []
  | true, i, [] => [((i : Int) - 1, "\\")]
  | true, i, c :: cs => ((i : Int), ("\\" : Str) ++ ⟨#[c]⟩) :: escG false (i + 1) cs
  | false, i, c :: cs => if c = 92 then escG true (i + 1) cs else ((i : Int), ⟨#[c]⟩) :: escG false (i + 1) cs
noncomputable def lastE : Bool → List Nat → Bool
  | b, [] => b
  | true, _ :: cs => lastE false cs
  | false, c :: cs => if c = 92 then lastE true cs else lastE false cs
noncomputable def escF (x : Str) : List (Int × Str) := escG false 0 x.cps.toList
noncomputable def ev2 (p : Int × Str) : V := .tup [.int p.1, .str p.2]
theorem escG_len : ∀ (b : Bool) (i : Nat) (cs : List Nat), (escG b i cs).length ≤ cs.length + 1
  | false, _, [] => by simp [escG]
  | true, _, [] => by simp [escG]
  | true, i, c :: cs => by have := escG_len false (i + 1) cs; simp [escG]; omega
  | false, i, c :: cs => by
    unfold escG
    split
    · have := escG_len true (i + 1) cs; simp; omega
    · have := escG_len false (i + 1) cs; simp; omega
section
variable {G : Gl} {F : Fm} {σ : St}
theorem Rel.reA {A A' : Around} {env : Env} {own : List Addr} {B : PM} {s : Shared} (r : Rel G ⟨A, env, own⟩ B σ s) : Rel G ⟨A', env, own⟩ B σ s :=
  ⟨r.base, r.keep, r.os, r.gens, ⟨r.fr.own, r.fr.here, r.fr.vars, r.fr.apart, r.fr.cell⟩, r.hp, r.nd, r.off⟩
theorem Rel.reG {B : PM} {s : Shared} (r : Rel G F B σ s) (g : Array GenState) : Rel G F B ⟨σ.loc, σ.hp, g⟩ { s with gens := g } :=
  ⟨r.base, r.keep, r.os, rfl, r.fr, r.hp, r.nd, r.off⟩
/-- all that stands, but the cluster -/
noncomputable def PM.but (h : Heap) (as : List Addr) : PM := fun b => if b ∈ as then none else h.get? b
theorem PM.le_but {B : PM} {h : Heap} {as : List Addr} (k : ∀ b o, B b = some o → h.get? b = some o) (off : ∀ a ∈ as, B a = none) : PM.le B (PM.but h as) := fun b o e => by
  unfold PM.but
  by_cases q : b ∈ as
  · rw [off b q] at e; cases e
  · rw [if_neg q]; exact k b o e
theorem Rel.full {B : PM} {s : Shared} (r : Rel G F B σ s) : PM.le B (PM.but s.heap (F.own ++ σ.hp.map (·.1))) ∧ Rel G F (PM.but s.heap (F.own ++ σ.hp.map (·.1))) σ s := by
  have le := PM.le_but r.keep r.off
  refine ⟨le, r.base.tr le, fun b o e => ?_, r.os, r.gens, r.fr.mono le, fun p hp => (r.hp p hp).congr le rfl, r.nd, fun a ha => by unfold PM.but; rw [if_pos ha]⟩
  unfold PM.but at e
  by_cases q : b ∈ F.own ++ σ.hp.map (·.1)
  · rw [if_pos q] at e; cases e
  · rw [if_neg q] at e; exact e
-- enumerate over a text
noncomputable def IsSI (x : Str) (t : Tok) (i : Nat) (o : Obj) : Prop := o.cls = .type (strIterType x) ∧ o.data = .fields #[.str x t, .int i 0]
theorem draws_str {prog : Program} {w : World} {A : Around} (hh : A.handled = none) (it : Addr) (x : Str) (t : Tok) :
    Draws prog w A it [it] x.cps.size (fun i v => ∃ c u, x.cps[i]? = some c ∧ v = .str ⟨#[c]⟩ u) (fun i h => h.IsStrIter it (strIterType x) x t i) := by
  unfold strIterType
  split
  · exact Draws.strAscii hh it x t
  · exact Draws.strWide hh it x t
noncomputable def enumItems (x : Str) : List V := (List.range x.cps.size).map fun i => .tup [.int (i : Nat), .str ⟨#[x.cps.getD i 0]⟩]
noncomputable def enumPre (x : Str) (t : Tok) (e it : Addr) (i : Nat) (pre : List (Addr × AO)) : Prop :=
  ∃ old oi, pre = [(e, .raw { cls := .type "enumerate", dict := none, data := .fields #[.none, .bool false, .ref it, rawInt (i : Nat), .none, old], slots := #[] }), (it, .raw oi)] ∧ IsSI x t i oi
theorem Rel.away {B : PM} {s s' : Shared} (r : Rel G F B σ s) {as : List Addr} (hoff : ∀ a ∈ as, B a = none ∧ a ∉ F.own ++ σ.hp.map (·.1)) (hs : ∀ b, b ∉ as → ∀ o, s.heap.get? b = some o → s'.heap.get? b = some o) (hos : s'.os = s.os) (hg : s'.gens = s.gens) : Rel G F B σ s' := by
  have nf : ∀ b ∈ F.own, b ∉ as := fun b hb q => (hoff b q).2 (List.mem_append_left _ hb)
  have nb : ∀ b o, B b = some o → b ∉ as := fun b o e q => by rw [(hoff b q).1] at e; cases e
  refine ⟨r.base, fun b o e => hs b (nb b o e) o (r.keep b o e), hos.trans r.os, hg.trans r.gens, ?_, fun p hp => ?_, r.nd, r.off⟩
  · have f := r.fr
    refine ⟨f.own, fun b hb => let ⟨o, ho, hi⟩ := f.here b hb; ⟨o, hs b (nf b hb) o ho, hi⟩, ?_, f.apart, fun z c e => ?_⟩
    · obtain ⟨m, h1, h2⟩ := f.vars
      obtain ⟨o, es, ep, ho, h3⟩ := h1
      exact ⟨m, ⟨o, es, ep, hs _ (nf _ f.own) o ho, h3⟩, h2⟩
    · obtain ⟨vo, h1, h2⟩ := f.cell z c e
      obtain ⟨o, ho, h3⟩ := h1
      refine ⟨vo, ⟨o, hs c ?_ o ho, h3⟩, h2⟩
      obtain ⟨_, w2, _⟩ := f.apart z c e
      rcases w2 with w2 | ⟨o', w2⟩
      · exact nf c w2
      · exact nb c o' w2
  · have H := r.hp p hp
    obtain ⟨o, ho⟩ := H.there
    exact H.congr .rf ((hs _ (fun q => (hoff _ q).2 (List.mem_append_right _ (List.mem_map.mpr ⟨p, hp, rfl⟩))) o ho).trans ho.symm)
/-- a cluster of raw objects turns as one -/
theorem Rel.swarm2 {B : PM} {s s' : Shared} {a b : Addr} {x y : AO} {o o' : Obj} {loc : Str → Option V} {hp : List (Addr × AO)} {gens : Array GenState} (r : Rel G F B ⟨loc, (a, x) :: (b, y) :: hp, gens⟩ s)
    (hs : ∀ c, c ≠ a → c ≠ b → ∀ o, s.heap.get? c = some o → s'.heap.get? c = some o) (hos : s'.os = s.os) (hg : s'.gens = s.gens) (ha : s'.heap.get? a = some o) (hb : s'.heap.get? b = some o') :
    Rel G F B ⟨loc, (a, .raw o) :: (b, .raw o') :: hp, gens⟩ s' := by
  have nd := List.nodup_append.mp r.nd
  have nd2 := List.nodup_cons.mp (show (a :: b :: hp.map (·.1)).Nodup from nd.2.1)
  have nd3 := List.nodup_cons.mp nd2.2
  have offa : B a = none := r.off a (List.mem_append_right _ (.head _))
  have offb : B b = none := r.off b (List.mem_append_right _ (.tail _ (.head _)))
  have r1 : Rel G F B ⟨loc, hp, gens⟩ s := r.forget (hp' := hp) (((List.sublist_cons_self _ _)).trans (List.sublist_cons_self _ _))
  have na : a ∉ F.own ++ hp.map (·.1) := fun q => by
    rcases List.mem_append.mp q with q | q
    · exact nd.2.2 a q a (.head _) rfl
    · exact nd2.1 (.tail _ q)
  have nb : b ∉ F.own ++ hp.map (·.1) := fun q => by
    rcases List.mem_append.mp q with q | q
    · exact nd.2.2 b q b (.tail _ (.head _)) rfl
    · exact nd3.1 q
  have r2 := r1.away (s' := s') (as := [a, b]) (fun c hc => by
    rcases List.mem_cons.mp hc with rfl | hc
    · exact ⟨offa, na⟩
    · rcases List.mem_cons.mp hc with rfl | hc
      · exact ⟨offb, nb⟩
      · cases hc) (fun c hc o e => hs c (fun q => hc (q ▸ .head _)) (fun q => hc (q ▸ .tail _ (.head _))) o e) hos hg
  have r3 := r2.add hb offb nb
  exact r3.add ha offa (fun q => by
    rcases List.mem_append.mp q with q | q
    · exact nd.2.2 a q a (.head _) rfl
    · exact nd2.1 q)
theorem enum_item {elts : List Expr} {k : Nat} {p : Pos} (hA : F.A.handled = none) {x : Str} {t : Tok} {e it : Addr} {i : Nat} {pre : List (Addr × AO)} (hP : enumPre x t e it i pre) {c : Nat} (hx : x.cps[i]? = some c) {loc : Str → Option V} {hp : List (Addr × AO)} {gens : Array GenState} {Q : Option V → St → Prop}
    (q : ∀ pre', enumPre x t e it (i + 1) pre' → Q (some (.tup [.int (i : Nat), .str ⟨#[c]⟩])) ⟨loc, pre' ++ hp, gens⟩) : Nxt G F PM.bot (.Tuple elts k p) e ⟨loc, pre ++ hp, gens⟩ Q := by
  intro B hB s r
  obtain ⟨old, oi, rfl, hoi⟩ := hP
  have he : IsEnum s.heap e it (i : Nat) old := r.hp _ (.head _)
  have hit : s.heap.IsStrIter it (strIterType x) x t i := ⟨oi, r.hp (it, .raw oi) (.tail _ (.head _)), hoi⟩
  have nd := List.nodup_append.mp r.nd
  have nd2 := List.nodup_cons.mp (show (e :: it :: hp.map (·.1)).Nodup from nd.2.1)
  have hne : e ≠ it := fun q => nd2.1 (q ▸ .head _)
  have hlt : i < x.cps.size := (Array.getElem?_eq_some_iff.mp hx).1
  refine wpAny_pyNext_enum_itemD (draws_str (A := F.A.in1) hA it x t) he hit hlt hne (fun q => by rcases List.mem_cons.mp q with q | q; exact hne q; cases q) fun v h' tk hv heo hst htup hsz hk => ?_
  obtain ⟨c', u, hc', rfl⟩ := hv
  rw [hx] at hc'; cases hc'
  refine wpAny_letOwnedTupleGo_enum heo fun h'' he'' hs'' => ?_
  obtain ⟨oi', hoi', hsi⟩ := hst
  have nT : B s.heap.objs.size = none := r.fresh
  have hi'' : h''.get? it = some oi' := (hs''.2 it hne.symm).trans hoi'
  have eT : e ≠ s.heap.objs.size := Nat.ne_of_lt (Heap.lt_size he)
  have ht'' : h''.get? s.heap.objs.size = some { cls := .type "tuple", data := .seq #[.int (i : Nat) tk, .str ⟨#[c]⟩ u] } := (hs''.2 _ eT.symm).trans htup
  have r2 := r.swarm2 (s' := { s with heap := h'', toks := tk + 1 }) (fun b hb hb' o e => (hs''.2 b hb).trans (hk b o hb hb' e)) rfl rfl he'' hi''
  have r3 := r2.put (a := s.heap.objs.size) ht'' nT (fun q => Nat.lt_irrefl _ (r.lt q))
  refine ⟨.tup [.int (i : Nat), .str ⟨#[c]⟩], _, _, PM.put_le nT, r3, .tup (xs := [_, _]) (n := 0) PM.put_self (.cons (.int _ _) (.one (.str _ _))), q _ ⟨_, oi', rfl, hsi⟩⟩
theorem enum_end {target : Expr} (hA : F.A.handled = none) {x : Str} {t : Tok} {e it : Addr} {i : Nat} {pre : List (Addr × AO)} (hP : enumPre x t e it i pre) (hx : i = x.cps.size) {loc : Str → Option V} {hp : List (Addr × AO)} {gens : Array GenState} {Q : Option V → St → Prop}
    (q : Q none ⟨loc, hp, gens⟩) : Nxt G F PM.bot target e ⟨loc, pre ++ hp, gens⟩ Q := by
  intro B hB s r
  obtain ⟨old, oi, rfl, hoi⟩ := hP
  subst hx
  have he : IsEnum s.heap e it (x.cps.size : Nat) old := r.hp _ (.head _)
  have hit : s.heap.IsStrIter it (strIterType x) x t x.cps.size := ⟨oi, r.hp (it, .raw oi) (.tail _ (.head _)), hoi⟩
  refine wpAny_pyNext_enum_endD (draws_str (A := F.A.in1) hA it x t) he hit fun h' hs => ?_
  have r1 := r.perm (List.Perm.swap _ _ _)
  have r2 := r1.lose (s' := { s with heap := h' }) (fun b hb o e => hs b o hb e) rfl rfl
  exact ⟨_, B, .rf, r2.forget (List.sublist_cons_self _ _), q⟩
/-- enumerate(text) -/
theorem cl_enum {x : Str} {Q : V → St → Prop} (q : ∀ e it t pre, enumPre x t e it 0 pre → Q (.v (.ref e)) ⟨σ.loc, pre ++ σ.hp, σ.gens⟩) : Cl G F (.type "enumerate") [.str x] σ Q := by
  intro B xs h
  cases h with
  | cons h1 h2 =>
    cases h2
    cases h1 with
    | str _ t =>
      refine ⟨fun B' hB s r => ?_⟩
      refine callType_new PySem.F.called_enumerate (by decide) (PySem.F.typeCall_enumerate_1 _) (PySem.F.newCall_enumerate_1 _) (fun obj => PySem.F.args_object_init_2 obj _) PySem.F.entry_enumerate_new (meets_enumerate_newS x t) ?_
      have r1 := r.newOwn (o := { cls := .type (strIterType x), data := .fields #[.str x t, .int 0 0] }) (x := .raw { cls := .type (strIterType x), data := .fields #[.str x t, .int 0 0] }) (s' := { s with heap := s.heap.push { cls := .type (strIterType x), data := .fields #[.str x t, .int 0 0] } }) rfl rfl rfl (Heap.get?_push_size _ rfl)
      have r2 := r1.newOwn (o := { cls := .type "enumerate", data := .fields #[.none, .bool false, .ref s.heap.objs.size, rawInt 0, .none, .none] }) (x := .raw { cls := .type "enumerate", data := .fields #[.none, .bool false, .ref s.heap.objs.size, rawInt 0, .none, .none] })
        (s' := { s with heap := (s.heap.push { cls := .type (strIterType x), data := .fields #[.str x t, .int 0 0] }).push { cls := .type "enumerate", data := .fields #[.none, .bool false, .ref s.heap.objs.size, rawInt 0, .none, .none] } }) rfl rfl rfl (Heap.get?_push_size _ rfl)
      exact ⟨⟨_, Heap.get?_push_size _ rfl, rfl⟩, Post.mk r2 (.v _) (q _ _ t [_, _] ⟨.none, _, rfl, rfl, rfl⟩)⟩
end
end Mine
end
section
open PySem PySem.Spec PySem.Calls PyProof.Rows PySem.W
set_option Elab.async false
set_option pp.deepTerms false
set_option pp.deepTerms.threshold 8
set_option maxRecDepth 100000
set_option linter.unusedVariables false
namespace Mine
noncomputable def gLoop (P : Gl) : Expr × List Stmt := match stmtsOf (fdAt P 2) with
  | _ :: _ :: .For t _ b _ _ :: _ => (t, b)
  | _ => (.Constant .none 0 ⟨0, 0, 0, 0⟩, [])
noncomputable abbrev gEnv (P : Gl) (L : Addr) : Env := callEnvC (fdAt P 2) L (P.ad 2)
noncomputable abbrev gCode (P : Gl) (L e : Addr) : Code := .forLoop (gLoop P).1 (.ref e) (gLoop P).2 [] (gEnv P L)
noncomputable abbrev gF (P : Gl) (L : Addr) (A : Around) : Fm := ⟨A, gEnv P L, [L]⟩
noncomputable def escL (b : Bool) : Str → Option V := upd (fun _ => none) "escape" (.v (.bool b))
theorem escL_of {b : Bool} {loc : Str → Option V} (h : loc "escape" = some (.v (.bool b))) : ∀ x V, escL b x = some V → loc x = some V := fun x V e => by
  unfold escL upd at e
  split at e
  · rename_i q; subst q; rw [h]; exact e
  · cases e
noncomputable def genP (G : Gl) (L e it : Addr) : Nat → Shared → Shared → Prop := fun n s₀ s₁ => n = 0 ∧ ∃ B' loc hp, PM.le (PM.but s₀.heap [L, e, it]) B' ∧ Rel G (gF G L {}) B' ⟨loc, hp, s₀.gens⟩ s₁
noncomputable abbrev genR (G : Gl) (L e it : Addr) : GenEnd := fun n s₀ r s₁ => r = .ok (.ret .none) ∧ genP G L e it n s₀ s₁
noncomputable def genY (G : Gl) (L e it : Addr) (x : Str) (t : Tok) (ys : List (Int × Str)) : Protocol := fun m s₀ v s₁ kap =>
  ∃ p, ys.reverse[m]? = some p ∧ ∃ B' b hp, (∃ i, enumPre x t e it i hp) ∧ PM.le (PM.but s₀.heap [L, e, it]) B' ∧ Rel G (gF G L {}) B' ⟨escL b, hp, s₀.gens⟩ s₁ ∧ RV B' (ev2 p) v ∧
    ∀ s'' B'', Rel G (gF G L {}) B'' ⟨escL b, hp, s''.gens⟩ s'' → kap (.send .none) s''
section
variable {G : Gl} {L e it : Addr} {x : Str} {t : Tok} {ys : List (Int × Str)} {A : Around}
theorem rev_at {ys done rest : List (Int × Str)} {p : Int × Str} (h : ys = done ++ p :: rest) : ys.reverse[rest.length]? = some p := by
  subst h
  rw [List.reverse_append, List.reverse_cons, List.append_assoc, List.getElem?_append_right (by simp)]
  simp
theorem enumPre_map {i : Nat} {pre : List (Addr × AO)} (h : enumPre x t e it i pre) : pre.map (·.1) = [e, it] := by
  obtain ⟨_, _, rfl, _⟩ := h; rfl
theorem gen_full {B : PM} {loc : Str → Option V} {i : Nat} {pre : List (Addr × AO)} {gens : Array GenState} {s : Shared} {P : Gl} (hP : enumPre x t e it i pre) (r : Rel G (gF P L A) B ⟨loc, pre, gens⟩ s) :
    Rel G (gF P L A) (PM.but s.heap [L, e, it]) ⟨loc, pre, gens⟩ s ∧ PM.le B (PM.but s.heap [L, e, it]) := by
  have := r.full
  rw [show (gF P L A).own ++ (⟨loc, pre, gens⟩ : St).hp.map (·.1) = [L, e, it] from by show [L] ++ pre.map (·.1) = _; rw [enumPre_map hP]; rfl] at this
  exact ⟨this.2, this.1⟩
/-- the generator's loop -/
theorem gen_loop {fs : List Frame} (hA : ∀ c, (A.over c fs).handled = none) (hfs : splitAtGen fs = none) (hfg : fs.any Frame.guarded = false)
    (after : ∀ (s₀ : Shared) (B : PM) (loc : Str → Option V) (s : Shared), loc "escape" = some (.v (.bool false)) →
      PM.le (PM.but s₀.heap [L, e, it]) B → Rel G (gF G L {}) B ⟨loc, [], s₀.gens⟩ s →
      Seg (model G.prog G.w) A (genR G L e it) (genY G L e it x t ys) 0 s₀ (.block [] (gEnv G L)) ((execs [] (gEnv G L)).wrap (fun f => .pure (.done f)) (raiseH (gEnv G L)) id id) fs s) :
    ∀ (cs : List Nat) (i : Nat) (esc : Bool) (n : Nat) (s₀ : Shared) (done : List (Int × Str)) (B : PM) (loc : Str → Option V) (pre : List (Addr × AO)) (s : Shared), x.cps.toList.drop i = cs → i ≤ x.cps.size → lastE esc cs = false → ys = done ++ escG esc i cs → n = (escG esc i cs).length →
      loc "escape" = some (.v (.bool esc)) → (esc = true → loc "pos" = some (.int ((i : Int) - 1))) → enumPre x t e it i pre → PM.le (PM.but s₀.heap [L, e, it]) B → Rel G (gF G L {}) B ⟨loc, pre, s₀.gens⟩ s →
      Seg (model G.prog G.w) A (genR G L e it) (genY G L e it x t ys) n s₀ (.forLoop (gLoop G).1 (.ref e) (gLoop G).2 [] (gEnv G L)) ((model G.prog G.w).den (.forLoop (gLoop G).1 (.ref e) (gLoop G).2 [] (gEnv G L))) fs s := by
  intro cs
  induction cs with
  | nil =>
    intro i esc n s₀ done B loc pre s hd hi hE hys hn he hpos hP le r
    have hsz : i = x.cps.size := by
      have := congrArg List.length hd
      simp at this; omega
    refine segq_forLoop (wpAny_mono ((enum_end (F := gF G L (A.over _ fs)) (target := (gLoop G).1) (hA _) hP hsz (hp := []) (Q := fun r σ => r = none ∧ σ = ⟨loc, [], s₀.gens⟩) ⟨rfl, rfl⟩) B PM.bot_le s (by rw [List.append_nil]; exact r.reA)) (fun v s₁ hv => ?_) fun _ _ e => e)
    cases v with
    | some v => exact wpAny_mono hv (fun _ _ ⟨_, _, _, _, _, _, q, _⟩ => by cases q) fun _ _ e => e
    | none =>
      obtain ⟨σ', B', le', r', _, rfl⟩ := hv
      have hE : esc = false := hE
      subst hE
      have hn : n = 0 := hn
      subst hn
      exact after s₀ B' loc s₁ he (le.tr le') r'.reA
  | cons c cs ih =>
    intro i esc n s₀ done B loc pre s hd hi hE hys hn he hpos hP le r
    have hc : x.cps[i]? = some c := by
      have := congrArg (·[0]?) hd
      simpa using this
    have hlt : i < x.cps.size := (Array.getElem?_eq_some_iff.mp hc).1
    have hd' : x.cps.toList.drop (i + 1) = cs := by
      rw [← List.drop_drop, hd]; rfl
    have epos : ((i + 1 : Nat) : Int) - 1 = (i : Nat) := by omega
    have nx : Nxt G (gF G L (A.over (.forLoop (gLoop G).1 (.ref e) (gLoop G).2 [] (gEnv G L)) fs)) PM.bot (gLoop G).1 e ⟨loc, pre ++ [], s₀.gens⟩ (fun r σ => r = some (.tup [.int (i : Nat), .str ⟨#[c]⟩]) ∧ ∃ pre', enumPre x t e it (i + 1) pre' ∧ σ = ⟨loc, pre', s₀.gens⟩) :=
      enum_item (hA _) hP hc fun pre' h => ⟨rfl, pre', h, by rw [List.append_nil]⟩
    refine segq_forLoop (wpAny_mono (nx B PM.bot_le s (by rw [List.append_nil]; exact r.reA)) (fun v s₁ hv => ?_) fun _ _ e => e)
    cases v with
    | none => obtain ⟨_, _, _, _, q, _⟩ := hv; cases q
    | some v =>
      refine wpAny_mono hv (fun _ s₂ ⟨u, σ', B', le', r', hu, q, pre', hP', eσ⟩ => ?_) fun _ _ e => e
      subst eσ
      cases q
      have nt : To G (gF G L (A.over (gCode G L e) fs)) (gLoop G).1 (.tup [.int (i : Nat), .str ⟨#[c]⟩]) ⟨loc, pre', s₀.gens⟩ (fun σ => σ = ⟨upd (upd loc "pos" (.int (i : Nat))) "ch" (.str ⟨#[c]⟩), pre', s₀.gens⟩) :=
        to_tup (hA _) (te_cons (to_name (te_cons (to_name (te_nil rfl)))))
      refine wpAny_mono ((nt B' v hu).go B' .rf s₂ r') (fun _ s₃ ⟨_, σ₃, B₃, le₃, r₃, _, eσ⟩ => ?_) fun _ _ e => e
      subst eσ
      have leB := le.tr (le'.tr le₃)
      have e1 : (⟨upd (upd loc "pos" (.int (i : Nat))) "ch" (.str ⟨#[c]⟩), pre', s₀.gens⟩ : St).loc "escape" = some (.v (.bool esc)) := he
      have ht : ∀ p, Tr G (gF G L (A.over (gCode G L e) fs)) (.Name "escape" p) ⟨upd (upd loc "pos" (.int (i : Nat))) "ch" (.str ⟨#[c]⟩), pre', s₀.gens⟩ (fun b σ => b = esc ∧ σ = ⟨upd (upd loc "pos" (.int (i : Nat))) "ch" (.str ⟨#[c]⟩), pre', s₀.gens⟩) :=
        fun p => tr_name (ev_local e1 (tt_bool ⟨rfl, rfl⟩))
      refine seg_execs_cons (segq_If (wpAny_mono ((ht _).go B₃ PM.bot_le s₃ r₃) (fun b s₄ ⟨_, σ₄, B₄, le₄, r₄, hb, hbe, eσ⟩ => ?_) fun _ _ e => e))
      cases hb
      have hbe := hbe.symm
      subst hbe eσ
      have e1' : (upd (upd loc "pos" (.int (i : Nat))) "ch" (.str ⟨#[c]⟩)) "escape" = some (.v (.bool esc)) := e1
      have leB4 := leB.tr le₄
      have asn : ∀ (b : Bool) (loc : Str → Option V) (g : Array GenState) (k : Nat) (p1 p2 p3 : Pos), S1 G (gF G L (A.over (gCode G L e) fs)) (.Assign [.Name "escape" p1] (.Constant (.bool b) k p2) p3) ⟨loc, pre', g⟩ (fun fl σ => fl = .next ∧ σ = ⟨upd loc "escape" (.v (.bool b)), pre', g⟩) :=
        fun b loc g k p1 p2 p3 => s_assign (ev_bool (to_name ⟨rfl, rfl⟩))
      have tup : ∀ (y : Str) (g : Array GenState) (ex : Expr) (p1 p2 : Pos) (k : Nat), Ev G (gF G L (A.over (gCode G L e) fs)) ex ⟨upd (upd loc "pos" (.int (i : Nat))) "ch" (.str ⟨#[c]⟩), pre', g⟩ (fun v σ => v = .str y ∧ σ = ⟨upd (upd loc "pos" (.int (i : Nat))) "ch" (.str ⟨#[c]⟩), pre', g⟩) → starEach [ex] (gEnv G L) = (false, eval ex (gEnv G L)) :: starEach [] (gEnv G L) →
          Ev G (gF G L (A.over (gCode G L e) fs)) (.Tuple [.Name "pos" p1, ex] k p2) ⟨upd (upd loc "pos" (.int (i : Nat))) "ch" (.str ⟨#[c]⟩), pre', g⟩ (fun v σ => v = ev2 ((i : Int), y) ∧ σ = ⟨upd (upd loc "pos" (.int (i : Nat))) "ch" (.str ⟨#[c]⟩), pre', g⟩) := fun y g ex p1 p2 k h hse => by
        refine ev_tuple (el_cons (ev_local rfl (el_cons (Ok.mono h fun v σ ⟨q1, q2⟩ => ?_) hse)) rfl)
        subst q1 q2
        exact el_nil ⟨(by show 2 ≤ sizeLine; decide), rfl, rfl⟩
      cases esc with
      | true =>
        refine ⟨fun _ => ?_, fun q => (by cases q)⟩
        rw [escG] at hys hn
        obtain ⟨n', rfl⟩ : ∃ n', n = n' + 1 := ⟨(escG false (i + 1) cs).length, by simpa using hn⟩
        have hn' : n' = (escG false (i + 1) cs).length := by simpa using hn
        refine seg_execs_cons (seg_Expr_Yield hfs rfl hfg ?_)
        refine wpAny_mono ((tup (("\\" : Str) ++ ⟨#[c]⟩) s₀.gens _ _ _ _ (ev_binop (ev_str (ev_local rfl (op_cat ⟨rfl, rfl⟩ (by show 1 + 1 ≤ sizeLine; decide))))) rfl).go B₄ PM.bot_le s₄ r₄) (fun w s₅ ⟨_, σ₅, B₅, le₅, r₅, hw, hwe, eσ⟩ => ?_) fun _ _ e => e.elim
        subst hwe eσ
        intro kap hk
        refine ⟨_, by rw [hn']; exact rev_at hys, B₅, true, pre', ⟨i + 1, hP'⟩, leB4.tr le₅, (r₅.reA.weak (escL_of e1')), hw, fun s'' B'' r'' => ?_⟩
        obtain ⟨rf, _⟩ := gen_full hP' r''
        refine hk .none s'' ?_
        show Seg _ A _ _ n' s'' _ _ fs s''
        refine seg_execs_cons (segq_exec (wpAny_mono ((asn false _ s''.gens _ _ _ _).go _ PM.bot_le s'' rf.reA) (fun f s₆ ⟨fl, σ₆, B₆, le₆, r₆, hf, hfe, eσ⟩ => ?_) fun _ _ e => e))
        subst hfe eσ
        cases hf
        refine seg_execs_nil (seg_execs_nil (seg_again rfl ?_))
        exact ih (i + 1) false n' s'' (done ++ [((i : Int), ("\\" : Str) ++ ⟨#[c]⟩)]) B₆ _ pre' s₆ hd' hlt hE (by rw [hys, List.append_assoc]; rfl) hn' rfl (fun q => by cases q) hP' le₆ r₆.reA
      | false =>
        refine ⟨fun q => (by cases q), fun _ => ?_⟩
        have hcmp : ∀ (k : Nat) (p1 p2 p3 : Pos), Tr G (gF G L (A.over (gCode G L e) fs)) (.Compare (.Name "ch" p1) [.Eq] [.Constant (.str "\\") k p2] p3) ⟨upd (upd loc "pos" (.int (i : Nat))) "ch" (.str ⟨#[c]⟩), pre', s₀.gens⟩
            (fun b σ => b = ((⟨#[c]⟩ : Str) == "\\") ∧ σ = ⟨upd (upd loc "pos" (.int (i : Nat))) "ch" (.str ⟨#[c]⟩), pre', s₀.gens⟩) := fun k p1 p2 p3 =>
          tr_compare (ev_local rfl (ev_str (op_eqs (tt_bool ⟨rfl, rfl⟩))))
        refine seg_execs_cons (segq_If (wpAny_mono ((hcmp _ _ _ _).go B₄ PM.bot_le s₄ r₄) (fun b s₅ ⟨_, σ₅, B₅, le₅, r₅, hb, hbe, eσ⟩ => ?_) fun _ _ e => e))
        cases hb
        subst hbe eσ
        have hcc : ((⟨#[c]⟩ : Str) == "\\") = decide (c = 92) := by
          have e92 : ("\\" : Str) = ⟨#[92]⟩ := by decide
          rw [e92]
          by_cases h : c = 92
          · subst h; rfl
          · rw [decide_eq_false h, beq_eq_false_iff_ne]
            intro q
            cases q
            exact h rfl
        rw [hcc]
        refine ⟨fun h92 => ?_, fun h92 => ?_⟩
        · have h92 : c = 92 := by simpa using h92
          rw [escG, if_pos h92] at hys hn
          refine seg_execs_cons (segq_exec (wpAny_mono ((asn true _ s₀.gens _ _ _ _).go _ PM.bot_le s₅ r₅) (fun f s₆ ⟨fl, σ₆, B₆, le₆, r₆, hf, hfe, eσ⟩ => ?_) fun _ _ e => e))
          subst hfe eσ
          cases hf
          refine seg_execs_nil (seg_execs_nil (seg_execs_nil (seg_again rfl ?_)))
          refine ih (i + 1) true n s₀ done B₆ _ pre' s₆ hd' hlt (by rw [lastE, if_pos h92] at hE; exact hE) hys hn rfl (fun _ => ?_) hP' (leB4.tr (le₅.tr le₆)) r₆.reA
          rw [epos]; rfl
        · have h92 : ¬ c = 92 := by simpa using h92
          rw [escG, if_neg h92] at hys hn
          obtain ⟨n', rfl⟩ : ∃ n', n = n' + 1 := ⟨(escG false (i + 1) cs).length, by simpa using hn⟩
          have hn' : n' = (escG false (i + 1) cs).length := by simpa using hn
          refine seg_execs_cons (seg_Expr_Yield hfs rfl hfg ?_)
          refine wpAny_mono ((tup ⟨#[c]⟩ s₀.gens _ _ _ _ (ev_local rfl ⟨rfl, rfl⟩) rfl).go B₅ PM.bot_le s₅ r₅) (fun w s₆ ⟨_, σ₆, B₆, le₆, r₆, hw, hwe, eσ⟩ => ?_) fun _ _ e => e.elim
          subst hwe eσ
          intro kap hk
          refine ⟨_, by rw [hn']; exact rev_at hys, B₆, false, pre', ⟨i + 1, hP'⟩, leB4.tr (le₅.tr le₆), (r₆.reA.weak (escL_of e1')), hw, fun s'' B'' r'' => ?_⟩
          obtain ⟨rf, _⟩ := gen_full hP' r''
          refine hk .none s'' ?_
          show Seg _ A _ _ n' s'' _ _ fs s''
          refine seg_execs_nil (seg_execs_nil (seg_execs_nil (seg_again rfl ?_)))
          exact ih (i + 1) false n' s'' (done ++ [((i : Int), (⟨#[c]⟩ : Str))]) _ _ pre' s'' hd' hlt (by rw [lastE, if_neg h92] at hE; exact hE) (by rw [hys, List.append_assoc]; rfl) hn' rfl (fun q => by cases q) hP' .rf rf
end
end Mine
end
section
open PySem PySem.Spec PySem.Calls PyProof.Rows PySem.W
set_option Elab.async false
set_option pp.deepTerms false
set_option pp.deepTerms.threshold 8
set_option maxRecDepth 100000
set_option linter.unusedVariables false
namespace Mine
section
variable {G : Gl} {F : Fm} {σ : St}
theorem ns_unique {h : Heap} {a : Addr} {m m' : Str → Option Value} (x : h.Ns a m) (y : h.Ns a m') : m = m' := by
  obtain ⟨o, es, ep, ho, hd, _, hm⟩ := x
  obtain ⟨o', es', ep', ho', hd', _, hm'⟩ := y
  rw [ho] at ho'; cases ho'
  rw [hd] at hd'; cases hd'
  funext n
  rw [← hm n, ← hm' n]
theorem Rel.storeL {B : PM} {s : Shared} (r : Rel G F B σ s) {x : Str} {V : Mine.V} {v : Value} (hv : RV B V v) (hl : F.env.kindOf x = some .local) {m : Str → Option Value} (hn : s.heap.Ns F.env.locals m)
    (hm : ∀ y W, σ.loc y = some W → F.env.kindOf y = some .local → ∃ v, m y = some v ∧ RV B W v) {h' : Heap} {tk : Nat} (hn' : h'.Ns F.env.locals (fun y => if y = x then some v else m y)) (hs : Heap.SameBut F.env.locals s.heap h') :
    Rel G F B (σ.put x V) { s with heap := h', toks := tk } := by
  refine r.turnOwn (a := F.env.locals) (s' := { s with heap := h', toks := tk }) r.fr.own (fun b hb o e => (hs.2 b hb).trans e) rfl rfl ?_
  refine ⟨r.fr.own, fun b hb => ?_, ⟨_, hn', fun y W e hy => ?_⟩, r.fr.apart, fun y c e => ?_⟩
  · obtain ⟨o, ho, hi⟩ := r.fr.here b hb
    by_cases q : b = F.env.locals
    · subst q; exact Inert.ns hn'
    · exact ⟨o, (hs.2 b q).trans ho, hi⟩
  · unfold upd at e
    by_cases q : y = x
    · subst q; rw [if_pos rfl] at e; cases e; exact ⟨v, if_pos rfl, hv⟩
    · rw [if_neg q] at e; obtain ⟨u, h1, h2⟩ := hm y W e hy; exact ⟨u, (if_neg q).trans h1, h2⟩
  · obtain ⟨vo, h1, h2⟩ := r.fr.cell y c e
    refine ⟨vo, h1.sameBut hs (r.fr.apart y c e).1, fun W e' hy => h2 W ?_ hy⟩
    unfold upd at e'
    rwa [if_neg (fun q => by subst q; exact hy hl)] at e'
theorem glob_at {x : Str} {pos : Pos} {v : Value} {B : PM} {s : Shared} {Q : Value → Shared → Prop} (hv : GlobV G x v) (r : Rel G F B σ s) (q : Q v s)
    (hk : F.env.scope.kind = .function := by rfl) (hl : F.env.kindOf x = some .globalImplicit := by rfl) (hg : F.env.globals = mainGlobals := by rfl) (hb : F.env.builtins = builtinsNs := by rfl)
    (hd : (x == ("__debug__" : Str)) = false := by decide) : wpAny (model G.prog G.w) F.A (eval (.Name x pos) F.env) Q (fun _ _ => False) s := by
  refine Name_function_global hk hl ?_ hd
  rcases hv s.heap (fun b o e => r.keep b o (r.base b o e)) with ⟨mg, h1, h2⟩ | ⟨mg, mb, h1, h2, h3, h4⟩
  · exact loadGlobal_global (by rw [hg]; exact h1) h2 q
  · exact loadGlobal_builtin (by rw [hg]; exact h1) h2 (by rw [hb]; exact h3) h4 q
theorem enum_at (S : Sta G) {A : Around} {x : Str} {t : Tok} {L : Addr} {B : PM} {loc : Str → Option V} {gens : Array GenState} {s : Shared} {m : Str → Option Value} (r : Rel G (gF G L A) B ⟨loc, [], gens⟩ s) (hn : s.heap.Ns L m) (hm : m "addr" = some (.str x t)) (p1 p2 p3 : Pos) :
    wpAny (model G.prog G.w) A (eval (.Call (.Name "enumerate" p1) [.Name "addr" p2] [] p3) (gEnv G L)) (fun v s' => v = .ref (s.heap.objs.size + 1) ∧ ∃ pre, enumPre x t (s.heap.objs.size + 1) s.heap.objs.size 0 pre ∧ Rel G (gF G L A) B ⟨loc, pre, gens⟩ s') (fun _ _ => False) s := by
  show wpAny _ _ (do callWith p3 (← eval (.Name "enumerate" p1) (gEnv G L)) [] (backTo p3 (starEach [.Name "addr" p2] (gEnv G L))) (backToKw p3 (keywordEach [] (gEnv G L)))) _ _ _
  refine wpAny_bind (glob_at (F := gF G L A) (v := .type "enumerate") (S.blt _ _ rfl (by decide) (by kernel_rfl)) r ?_)
  refine PyProof.Rows.callWith_type1 ?_
  show wpAny _ _ (do let v ← eval (.Name "addr" p2) (gEnv G L); let here ← pure [v]; return here ++ (← holding here (spliced (backTo p3 (starEach [] (gEnv G L)))))) _ _ s
  refine wpAny_bind (wpAny_Name (wpAny_loadName_local (by rfl) (by rfl) hn hm ?_) (by decide))
  refine wpAny_bind (wpAny_pure (wpAny_bind (wpAny_holding (wpAny_pure (wpAny_pure ?_)))))
  refine callType_new PySem.F.called_enumerate (by decide) (PySem.F.typeCall_enumerate_1 _) (PySem.F.newCall_enumerate_1 _) (fun obj => PySem.F.args_object_init_2 obj _) PySem.F.entry_enumerate_new (meets_enumerate_newS x t) ?_
  have r1 := r.newOwn (o := { cls := .type (strIterType x), data := .fields #[.str x t, .int 0 0] }) (x := .raw { cls := .type (strIterType x), data := .fields #[.str x t, .int 0 0] }) (s' := { s with heap := s.heap.push { cls := .type (strIterType x), data := .fields #[.str x t, .int 0 0] } }) rfl rfl rfl (Heap.get?_push_size _ rfl)
  have r2 := r1.newOwn (o := { cls := .type "enumerate", data := .fields #[.none, .bool false, .ref s.heap.objs.size, rawInt 0, .none, .none] }) (x := .raw { cls := .type "enumerate", data := .fields #[.none, .bool false, .ref s.heap.objs.size, rawInt 0, .none, .none] })
    (s' := { s with heap := (s.heap.push { cls := .type (strIterType x), data := .fields #[.str x t, .int 0 0] }).push { cls := .type "enumerate", data := .fields #[.none, .bool false, .ref s.heap.objs.size, rawInt 0, .none, .none] } }) rfl rfl rfl (Heap.get?_push_size _ rfl)
  have hz : (s.heap.push { cls := .type (strIterType x), data := .fields #[.str x t, .int 0 0] }).objs.size = s.heap.objs.size + 1 := Heap.size_push ..
  have r2' : Rel G (gF G L A) B ⟨loc, [(s.heap.objs.size + 1, _), _], gens⟩ _ := hz ▸ r2
  refine ⟨⟨_, Heap.get?_push_size _ rfl, rfl⟩, ?_⟩
  show Value.ref (s.heap.push { cls := .type (strIterType x), data := .fields #[.str x t, .int 0 0] }).objs.size = _ ∧ _
  rw [hz]
  exact ⟨rfl, _, ⟨.none, _, rfl, rfl, rfl⟩, r2'⟩
theorem gen_start (S : Sta G) {x : Str} (hE : lastE false x.cps.toList = false) {A : Around} (hA : A.handled = none) {s₀ : Shared} {L : Addr} {B : PM} {gens : Array GenState} (r₀ : Rel G (gF G L A) B ⟨bnd ["addr"] [.str x], [], gens⟩ s₀) :
    ∃ t, Seg (model G.prog G.w) A (genR G L (s₀.heap.objs.size + 1) s₀.heap.objs.size) (genY G L (s₀.heap.objs.size + 1) s₀.heap.objs.size x t (escF x)) (escF x).length s₀ (.func (stmtsOf (fdAt G 2)) (gEnv G L))
      ((model G.prog G.w).den (.func (stmtsOf (fdAt G 2)) (gEnv G L))) [] s₀ := by
  obtain ⟨_, r₁⟩ := r₀.full
  have ek : (gF G L A).own ++ (⟨bnd ["addr"] [.str x], [], gens⟩ : St).hp.map (·.1) = [L] := rfl
  rw [ek] at r₁
  obtain ⟨m, hn, hm⟩ := r₁.fr.vars
  obtain ⟨u, hmu, hu⟩ := hm "addr" (.str x) rfl rfl
  cases hu with
  | str _ t =>
    refine ⟨t, ?_⟩
    refine seg_func (seg_execs_cons (segq_exec (wpAny_Assign_Name (wpAny_Constant_int (wpAny_storeName_local (by rfl) hn (fun h₁ hn₁ hs₁ => ?_))))))
    have r₂ := (r₁.toks (k := s₀.toks + 1)).storeL (x := "pos") (V := .int 0) (.int 0 s₀.toks) rfl hn hm (tk := s₀.toks + 1 + 1) hn₁ hs₁
    refine seg_execs_cons (segq_exec (wpAny_Assign_Name (wpAny_Constant_bool (wpAny_storeName_local (by rfl) hn₁ (fun h₂ hn₂ hs₂ => ?_)))))
    have r₃ := r₂.storeL (x := "escape") (V := .v (.bool false)) (.v (.bool false)) rfl hn₁ (fun y W e k => by
      obtain ⟨m', a1, a2⟩ := r₂.fr.vars
      obtain ⟨v, b1, b2⟩ := a2 y W e k
      exact ⟨v, (congrFun (ns_unique hn₁ a1) y).trans b1, b2⟩) (tk := s₀.toks + 1 + 1 + 1) hn₂ hs₂
    have hsz : h₂.objs.size = s₀.heap.objs.size := hs₂.1.trans hs₁.1
    refine seg_execs_cons (segq_For (wpAny_mono (enum_at S (x := x) (t := t) r₃.reA hn₂ (by rw [if_neg (by decide), if_neg (by decide)]; exact hmu) _ _ _) (fun v s₁ hv => ?_) fun _ _ e => e))
    obtain ⟨rfl, pre, hP, r₄⟩ := hv
    have hsz' : (({ s₀ with heap := h₂, toks := s₀.toks + 1 + 1 + 1 } : Shared)).heap.objs.size = s₀.heap.objs.size := hsz
    rw [hsz'] at hP ⊢
    obtain ⟨old, hen⟩ : ∃ old, IsEnum s₁.heap (s₀.heap.objs.size + 1) s₀.heap.objs.size ((0 : Nat) : Int) old := by
      have hP2 := hP
      obtain ⟨old, oi, e1, e2⟩ := hP2
      refine ⟨old, r₄.hp (s₀.heap.objs.size + 1, .raw _) ?_⟩
      show _ ∈ pre
      rw [e1]
      exact .head _
    refine wpAny_pyIter_enum hen ?_
    intro p
    have leB' : ∀ s₀' : Shared, PM.le (PM.but s₀'.heap [L, s₀.heap.objs.size + 1, s₀.heap.objs.size]) (PM.but s₀'.heap [L]) := fun s₀' b o e => by
      unfold PM.but at e ⊢
      by_cases q : b ∈ [L]
      · rw [if_pos (by simp at q; simp [q])] at e; cases e
      · rw [if_neg q]
        split at e
        · cases e
        · exact e
    refine gen_loop (G := G) (fs := [_]) (ys := escF x) (fun c => ?_) ?_ ?_ ?_ x.cps.toList 0 false _ s₀ [] (PM.but s₀.heap [L]) (upd (upd (bnd ["addr"] [.str x]) "pos" (.int 0)) "escape" (.v (.bool false))) pre s₁ rfl (Nat.zero_le _) hE rfl rfl rfl (fun q => by cases q) hP (leB' s₀) ?_
    · show (marksOver [_] (A.handled, A.handled)).1 = none
      rw [hA]; rfl
    · rfl
    · rfl
    · intro s₀' B' loc s' he le' r'
      refine seg_execs_nil ?_
      show Seg _ _ _ _ _ _ _ (leafOf (.ok .next)) _ _
      refine seg_leaf (.ok .next) ?_
      show Seg _ _ _ _ _ _ _ ((execs _ _).wrap _ _ _ _) _ _
      have ht : ∀ p, Tr G (gF G L (A.over (.func (stmtsOf (fdAt G 2)) (gEnv G L)) [])) (.Name "escape" p) ⟨loc, [], s₀'.gens⟩ (fun b σ => b = false ∧ σ = ⟨loc, [], s₀'.gens⟩) := fun p => tr_name (ev_local he (tt_bool ⟨rfl, rfl⟩))
      refine seg_execs_cons (segq_If (wpAny_mono ((ht _).go B' PM.bot_le s' r'.reA) (fun b s₄ ⟨_, σ₄, B₄, le₄, r₄, hb, hbe, eσ⟩ => ?_) fun _ _ e => e))
      cases hb
      subst hbe eσ
      refine ⟨fun q => (by cases q), fun _ => ?_⟩
      refine seg_execs_nil (seg_execs_nil ?_)
      exact seg_end (.ok (.ret .none)) ⟨rfl, rfl, _, _, _, le'.tr le₄, r₄.reA⟩
    · have := r₄.reA (A' := {})
      have e := r₃.gens
      have e2 : s₀.gens = gens := r₁.gens
      rw [e2]
      exact this
end
end Mine
end
section
open PySem PySem.Spec PySem.Calls PyProof.Rows PySem.W
set_option Elab.async false
set_option pp.deepTerms false
set_option pp.deepTerms.threshold 8
set_option maxRecDepth 100000
set_option linter.unusedVariables false
namespace Mine
noncomputable def NoTup (hp : List (Addr × AO)) : Prop := ∀ a o, (a, AO.raw o) ∈ hp → o.cls ≠ .type "tuple"
noncomputable def NsO (o : Obj) (m : Str → Option Value) : Prop := ∃ es ep, o.data = .dict es ep ∧ StrKeys es ∧ ∀ n, nsFind es n = m n
noncomputable def GenO (o : Obj) (g : Nat) : Prop := ∃ nm qn, o.cls = .type "generator" ∧ o.data = .fields #[.int g 0, nm, qn] ∧ o.slots = #[]
noncomputable abbrev gFun (P : Gl) (L : Addr) : Code := .func (stmtsOf (fdAt P 2)) (gEnv P L)
noncomputable def GenPre (G : Gl) (A : Around) (a L : Addr) (x : Str) (g0 : Array GenState) : Nat → List (Addr × AO) → Array GenState → Prop
  | 0, pre, gens => gens = g0.push (.fresh (gFun G L)) ∧ ∃ oa oL m t, pre = [(a, .raw oa), (L, .raw oL)] ∧ GenO oa g0.size ∧ NsO oL m ∧ m "addr" = some (.str x t)
  | i + 1, pre, gens => ∃ oa oL m b e it t hp gs, pre = (a, .raw oa) :: (L, .raw oL) :: hp ∧ GenO oa g0.size ∧ NsO oL m ∧ m "escape" = some (.bool b) ∧ (∃ j, enumPre x t e it j hp) ∧ gens = g0.push gs ∧ gs.bare = true ∧
      ∀ s'' B'', Rel G (gF G L {}) B'' ⟨escL b, hp, s''.gens⟩ s'' → ∃ n, n + (i + 1) = (escF x).length ∧ gs.Goes (model G.prog G.w) A.in1 (genR G L e it) (genY G L e it x t (escF x)) n (.send .none) s''
section
variable {G : Gl} {F : Fm} {σ : St}
/-- the generator's frame, seen from outside -/
theorem gen_rel {B : PM} {s : Shared} {L : Addr} {oL : Obj} {m : Str → Option Value} {locg loc : Str → Option V} {hp hp0 : List (Addr × AO)} {gens : Array GenState} (r : Rel G F B ⟨loc, (L, .raw oL) :: (hp ++ hp0), gens⟩ s) (hn : NsO oL m)
    (hm : ∀ y V, locg y = some V → (gEnv G L).kindOf y = some .local → ∃ v, m y = some v ∧ RV G.base V v) (hraw : ∀ p ∈ hp, ∃ o, p.2 = .raw o) (g : Array GenState) : Rel G (gF G L {}) G.base ⟨locg, hp, g⟩ { s with gens := g } := by
  obtain ⟨es, ep, hd, hk, hf⟩ := hn
  have hL : s.heap.get? L = some oL := r.hp (L, .raw oL) (.head _)
  have nd := List.nodup_append.mp r.nd
  have nd2 : (L :: (hp ++ hp0).map (·.1)).Nodup := nd.2.1
  rw [List.map_append] at nd2
  have nd3 := List.nodup_cons.mp nd2
  have off : ∀ a ∈ L :: hp.map (·.1), G.base a = none := fun a ha => by
    have : B a = none := r.off a (List.mem_append_right _ (by
      rcases List.mem_cons.mp ha with rfl | ha
      · exact .head _
      · refine .tail _ ?_
        rw [List.map_append]
        exact List.mem_append_left _ ha))
    cases e : G.base a with
    | none => rfl
    | some o => rw [r.base _ _ e] at this; cases this
  refine ⟨.rf, fun b o e => r.keep b o (r.base b o e), r.os, rfl, ⟨.head _, fun a ha => ?_, ⟨m, ⟨oL, es, ep, hL, hd, hk, hf⟩, hm⟩, fun n c e => ?_, fun n c e => ?_⟩, fun p hp' => ?_, ?_, fun a ha => off a ha⟩
  · rcases List.mem_cons.mp ha with rfl | ha
    · exact ⟨oL, hL, .strs hd hk⟩
    · cases ha
  · have e : (cellsFrom (L + 1) (fdAt G 2).scope.names []).lookup n = some c := e
    have q : cellsFrom (L + 1) (fdAt G 2).scope.names [] = [] := rfl
    rw [q] at e; cases e
  · have e : (cellsFrom (L + 1) (fdAt G 2).scope.names []).lookup n = some c := e
    have q : cellsFrom (L + 1) (fdAt G 2).scope.names [] = [] := rfl
    rw [q] at e; cases e
  · obtain ⟨o, ho⟩ := hraw p hp'
    have := r.hp p (.tail _ (List.mem_append_left _ hp'))
    rw [ho] at this ⊢
    exact this
  · exact List.nodup_cons.mpr ⟨fun q => nd3.1 (List.mem_append_left _ q), (List.nodup_append.mp nd3.2).1⟩
theorem gen_back {B Bg : PM} {s s₁ : Shared} {a L e it : Addr} {oa oL : Obj} {hp hp' hp0 : List (Addr × AO)} {loc loc' : Str → Option V} {gens gg : Array GenState} (r : Rel G F B ⟨loc, (a, .raw oa) :: (L, .raw oL) :: (hp ++ hp0), gens⟩ s)
    (hcl : hp.map (·.1) = [e, it] ∨ (hp = [] ∧ e = s.heap.objs.size + 1 ∧ it = s.heap.objs.size)) {sg : Shared} (hsg : sg.heap = s.heap) (le : PM.le (PM.but sg.heap [L, e, it]) Bg) (rg : Rel G (gF G L {}) Bg ⟨loc', hp', gg⟩ s₁)
    (hraw' : hp' = [] ∨ ∃ o1 o2, hp' = [(e, .raw o1), (it, .raw o2)]) (g' : Array GenState) :
    ∃ oL' m', NsO oL' m' ∧ (∀ y V, loc' y = some V → (gEnv G L).kindOf y = some .local → ∃ v, m' y = some v ∧ RV Bg V v) ∧ Rel G F B ⟨loc, (a, .raw oa) :: (L, .raw oL') :: (hp' ++ hp0), g'⟩ { s₁ with gens := g' } := by
  have nd := List.nodup_append.mp r.nd
  have nd2 : (a :: L :: (hp ++ hp0).map (·.1)).Nodup := nd.2.1
  rw [List.map_append] at nd2
  have nd3 := List.nodup_cons.mp nd2
  have nd4 := List.nodup_cons.mp nd3.2
  have nd5 := List.nodup_append.mp nd4.2
  have mem : ∀ b, b ∈ L :: hp.map (·.1) → B b = none ∧ b ∉ F.own ++ (a :: hp0.map (·.1)) := fun b hb => by
    have hb' : b ∈ (a :: L :: (hp ++ hp0).map (·.1)) := by
      rcases List.mem_cons.mp hb with rfl | hb
      · exact .tail _ (.head _)
      · refine .tail _ (.tail _ ?_)
        rw [List.map_append]; exact List.mem_append_left _ hb
    refine ⟨r.off b (List.mem_append_right _ hb'), fun q => ?_⟩
    rcases List.mem_append.mp q with q | q
    · exact nd.2.2 b q b hb' rfl
    · rcases List.mem_cons.mp q with rfl | q
      · refine nd3.1 ?_
        rcases List.mem_cons.mp hb with rfl | hb
        · exact .head _
        · exact .tail _ (List.mem_append_left _ hb)
      · rcases List.mem_cons.mp hb with rfl | hb
        · exact nd4.1 (List.mem_append_right _ q)
        · exact nd5.2.2 b hb b q rfl
  have fresh : ∀ b, s.heap.objs.size ≤ b → B b = none ∧ b ∉ F.own ++ (a :: hp0.map (·.1)) := fun b hb => by
    refine ⟨?_, fun q => ?_⟩
    · cases h : B b with
      | none => rfl
      | some o => exact absurd (Heap.lt_size (r.keep _ _ h)) (Nat.not_lt_of_le hb)
    · refine absurd (r.lt (a := b) ?_) (Nat.not_lt_of_le hb)
      rcases List.mem_append.mp q with q | q
      · exact List.mem_append_left _ q
      · refine List.mem_append_right _ ?_
        rcases List.mem_cons.mp q with rfl | q
        · exact .head _
        · refine .tail _ (.tail _ ?_)
          rw [List.map_append]; exact List.mem_append_right _ q
  have offs : ∀ b ∈ [L, e, it], B b = none ∧ b ∉ F.own ++ (a :: hp0.map (·.1)) := by
    intro b hb
    rcases List.mem_cons.mp hb with rfl | hb
    · exact mem _ (.head _)
    · rcases hcl with h | ⟨_, h1, h2⟩
      · exact mem _ (.tail _ (by rw [h]; exact hb))
      · rcases List.mem_cons.mp hb with rfl | hb
        · exact fresh _ (by rw [h1]; exact Nat.le_succ _)
        · rcases List.mem_cons.mp hb with rfl | hb
          · exact fresh _ (by rw [h2]; exact Nat.le_refl _)
          · cases hb
  have r1 : Rel G F B ⟨loc, (a, .raw oa) :: hp0, gens⟩ s := r.forget (hp' := (a, .raw oa) :: hp0) (by
    refine List.Sublist.cons_cons _ ?_
    exact (List.sublist_append_right _ _).trans (List.sublist_cons_self _ _))
  have r2 : Rel G F B ⟨loc, (a, .raw oa) :: hp0, gens⟩ { s₁ with gens := s.gens } := r1.away (as := [L, e, it]) offs (fun b hb o ho => by
    refine rg.keep b o (le b o ?_)
    unfold PM.but
    rw [if_neg hb, hsg]; exact ho) (rg.os.trans r.os.symm) rfl
  have r3 := r2.reG g'
  obtain ⟨m', ⟨oL', es, ep, hL, hd, hk, hf⟩, hm'⟩ := rg.fr.vars
  have hL : s₁.heap.get? L = some oL' := hL
  have ndg := List.nodup_append.mp rg.nd
  refine ⟨oL', m', ⟨es, ep, hd, hk, hf⟩, hm', ?_⟩
  rcases hraw' with rfl | ⟨o1, o2, rfl⟩
  · have r4 := r3.add (a := L) hL (offs L (.head _)).1 (offs L (.head _)).2
    exact r4.perm (List.Perm.swap _ _ _)
  · have he : s₁.heap.get? e = some o1 := rg.hp (e, .raw o1) (.head _)
    have hi : s₁.heap.get? it = some o2 := rg.hp (it, .raw o2) (.tail _ (.head _))
    have ndg2 : [e, it].Nodup := ndg.2.1
    have nei : e ≠ it := fun q => (List.nodup_cons.mp ndg2).1 (q ▸ .head _)
    have nLe : L ≠ e := fun q => ndg.2.2 L (.head _) e (.head _) q
    have nLi : L ≠ it := fun q => ndg.2.2 L (.head _) it (.tail _ (.head _)) q
    have oi := offs it (by simp)
    have oe := offs e (by simp)
    have ol := offs L (by simp)
    have r4 := r3.add (a := it) hi oi.1 oi.2
    have r5 := r4.add (a := e) he oe.1 (fun q => by
      rcases List.mem_append.mp q with q | q
      · exact oe.2 (List.mem_append_left _ q)
      · rcases List.mem_cons.mp q with q | q
        · exact nei q
        · exact oe.2 (List.mem_append_right _ q))
    have r6 := r5.add (a := L) hL ol.1 (fun q => by
      rcases List.mem_append.mp q with q | q
      · exact ol.2 (List.mem_append_left _ q)
      · rcases List.mem_cons.mp q with q | q
        · exact nLe q
        · rcases List.mem_cons.mp q with q | q
          · exact nLi q
          · exact ol.2 (List.mem_append_right _ q))
    refine r6.perm ?_
    show ((L, AO.raw oL') :: (e, AO.raw o1) :: (it, AO.raw o2) :: (a, AO.raw oa) :: hp0).Perm ((a, AO.raw oa) :: (L, AO.raw oL') :: (e, AO.raw o1) :: (it, AO.raw o2) :: hp0)
    exact (List.perm_middle (l₁ := [(L, AO.raw oL'), (e, AO.raw o1), (it, AO.raw o2)]))
end
end Mine
end
section
open PySem PySem.Spec PySem.Calls PyProof.Rows PySem.W
set_option Elab.async false
set_option pp.deepTerms false
set_option pp.deepTerms.threshold 8
set_option maxRecDepth 100000
set_option linter.unusedVariables false
namespace Mine
theorem next_gen {prog : Program} {w : World} {A : Around} {E : Value → Shared → Prop} {s : Shared} {a : Addr} {g n : Nat} {gs : GenState} {P : Nat → Shared → Shared → Prop} {Y : Protocol} {Q : Option Value → Shared → Prop} (hh : A.handled = none) (hl : s.heap.NoLimit) (hroom : A.depth < recursionLimit)
    (hg : s.heap.IsGen a g) (hgs : s.gens[g]? = some gs) (hgo : gs.Goes (model prog w) A.in1 (fun n s₀ r s₁ => r = .ok (.ret .none) ∧ P n s₀ s₁) Y n (.send .none) (s.setGen g .running))
    (hY : ∀ v s₁ gs', gs'.bare = true → Y (n - 1) (s.setGen g .running) v s₁ (fun r' s'' => match n with
        | 0 => False
        | m + 1 => gs'.Goes (model prog w) A.in1 (fun n s₀ r s₁ => r = .ok (.ret .none) ∧ P n s₀ s₁) Y m r' s'') → Q (some v) (s₁.setGen g gs'))
    (hP : ∀ s₁, P n (s.setGen g .running) s₁ → ∀ h', (∀ b o, s₁.heap.get? b = some o → h'.get? b = some o) → Q none { s₁.setGen g .finished with heap := h' }) : wpAny (model prog w) A (pyNext (.ref a)) Q E s := by
  unfold pyNext
  refine wpAny_bind (wpAny_attempt (wpAny_callSpecial?_slot (name := Str.ofString "__next__") hg.typeIs slot_gen_next (wpAny_call_entry slot_gen_next hg.typeIs entry_gen_next ?_ (args_gen_next _))))
  show wpAny _ A.in1 (Builtin.Generator.genWake (.ref a) (.send .none)) _ _ s
  unfold Builtin.Generator.genWake
  refine wpAny_bind (wpAny_holding (wpAny_genNumber hg (wpAny_bind (wpAny_genState hgs ?_))))
  cases gs with
  | running => exact hgo.elim
  | finished => exact hgo.elim
  | _ =>
    refine wpAny_bind (wpAny_roomToWake hl hroom ?_)
    show wpAny _ A.in1 (.resume g (.send .none) [] _) _ _ s
    refine wpAny_resumeQ hgs hgo (fun x s₁ hx => ?_) (fun v s₁ gs' hb hv => wpAny_pure ⟨v, rfl, wpAny_pure (hY v s₁ gs' hb hv)⟩)
    obtain ⟨rfl, hp⟩ := hx
    show wpAny _ A.in1 (newExc (.type "StopIteration") [] >>= _) _ _ _
    refine wpAny_bind ?_
    simp only [newExc, newTuple]
    refine wpAny_bind (wpAny_newObj_type ?_ (by size_fits))
    refine wpAny_bind (m := firstArgMember _ _) (wpAny_of_eq (a := Value.none) (by first | rfl | (simp only [firstArgMember]; rfl)) ?_)
    refine wpAny_newObj_type ?_ (by size_fits)
    simp only [raiseNew]
    refine wpAny_bind (wpAny_bind (wpAny_handled ?_))
    rw [show A.in1.handled = none from hh]
    refine wpAny_throw ?_
    refine wpAny_bind (wpAny_isInstance (T := "StopIteration") (b := true) ⟨_, Heap.get?_push_size _ rfl, rfl⟩ isSubtype_stop ?_)
    exact wpAny_pure (hP s₁ hp _ fun b o hb => Heap.get?_push_of_some _ (Heap.get?_push_of_some _ hb))
section
variable {G : Gl} {F : Fm} {σ : St}
theorem Rel.putOld {B : PM} {s : Shared} (r : Rel G F B σ s) {T : Addr} {o : Obj} (ho : s.heap.get? T = some o) (hn : T ∉ F.own ++ σ.hp.map (·.1)) : ∃ B', PM.le B B' ∧ Rel G F B' σ s ∧ B' T = some o := by
  cases h : B T with
  | none => exact ⟨_, PM.put_le h, r.put ho h hn, PM.put_self⟩
  | some o' =>
    have := r.keep _ _ h
    rw [ho] at this; cases this
    exact ⟨B, .rf, r, h⟩
theorem gen_tup {B Bg : PM} {s₁ s₂ : Shared} {a L : Addr} {oa oL : Obj} {hp' hp0 : List (Addr × AO)} {loc loc' : Str → Option V} {g' gg : Array GenState} (r : Rel G F B ⟨loc, (a, .raw oa) :: (L, .raw oL) :: (hp' ++ hp0), g'⟩ s₂) (hh : s₂.heap = s₁.heap)
    (rg : Rel G (gF G L {}) Bg ⟨loc', hp', gg⟩ s₁) (hno : NoTup hp0) (hoa : oa.cls = .type "generator") {p : Int × Str} {v : Value} (hv : RV Bg (ev2 p) v) :
    ∃ B', PM.le B B' ∧ Rel G F B' ⟨loc, (a, .raw oa) :: (L, .raw oL) :: (hp' ++ hp0), g'⟩ s₂ ∧ RV B' (ev2 p) v := by
  cases hv with
  | @tup T _ xs n hT hr =>
    have hs : s₂.heap.get? T = some { cls := .type "tuple", data := .seq xs.toArray n } := by rw [hh]; exact rg.keep _ _ hT
    have hn : T ∉ F.own ++ (⟨loc, (a, .raw oa) :: (L, .raw oL) :: (hp' ++ hp0), g'⟩ : St).hp.map (·.1) := fun q => by
      rcases List.mem_append.mp q with q | q
      · obtain ⟨o, ho, hi⟩ := r.fr.here T q
        rw [hs] at ho; cases ho
        exact hi.tup _ _ rfl
      · obtain ⟨pp, hpp, rfl⟩ := List.mem_map.mp q
        have H := r.hp pp hpp
        rcases List.mem_cons.mp hpp with rfl | hpp
        · have : s₂.heap.get? a = some oa := H
          have e := Option.some.inj (hs.symm.trans this)
          exact absurd (show Value.type "tuple" = .type "generator" from (congrArg Obj.cls e).trans hoa) (by decide)
        · rcases List.mem_cons.mp hpp with rfl | hpp
          · have := rg.off L (List.mem_append_left _ (.head _))
            rw [hT] at this; cases this
          · rcases List.mem_append.mp hpp with hpp | hpp
            · have := rg.off pp.1 (List.mem_append_right _ (List.mem_map.mpr ⟨pp, hpp, rfl⟩))
              rw [hT] at this; cases this
            · obtain ⟨b, y⟩ := pp
              cases y with
              | list vs =>
                obtain ⟨_, ⟨_, h⟩, _⟩ := H
                exact absurd (show Value.type "tuple" = .type "list" from congrArg Obj.cls (Option.some.inj (hs.symm.trans h))) (by decide)
              | dict kvs =>
                obtain ⟨_, ⟨o, _, _, h, hx, _⟩, _⟩ := H
                have h : s₂.heap.get? b = some o := h
                exact absurd (show Value.type "tuple" = .type "dict" from (congrArg Obj.cls (Option.some.inj (hs.symm.trans h))).trans hx.1) (by decide)
              | raw o =>
                have : s₂.heap.get? b = some o := H
                rw [hs] at this; cases this
                exact hno b _ hpp rfl
    obtain ⟨B', le, r', hB⟩ := r.putOld hs hn
    refine ⟨B', le, r', .tup hB ?_⟩
    cases hr with
    | cons h1 h2 =>
      cases h2 with
      | cons h2 h3 =>
        cases h3; cases h1; cases h2
        exact .cons (.int _ _) (.one (.str _ _))
theorem setGen_push {g0 : Array GenState} {x y : GenState} {s : Shared} (h : s.gens = g0.push x) : (s.setGen g0.size y).gens = g0.push y := by
  unfold Shared.setGen
  rw [h]
  apply Array.toList_inj.mp
  simp
theorem rev_get {α : Type} {ys : List α} {i n : Nat} (h : n + i + 1 = ys.length) : ys.reverse[n]? = ys[i]? := by
  rw [List.getElem?_reverse (by omega)]
  congr 1; omega
theorem pre_cl {x : Str} {t : Tok} {e it : Addr} {hp : List (Addr × AO)} (h : ∃ j, enumPre x t e it j hp) : hp.map (·.1) = [e, it] ∧ (∃ o1 o2, hp = [(e, .raw o1), (it, .raw o2)]) ∧ ∀ p ∈ hp, ∃ o, p.2 = .raw o := by
  obtain ⟨j, old, oi, rfl, _⟩ := h
  refine ⟨rfl, ⟨_, _, rfl⟩, fun p hp => ?_⟩
  rcases List.mem_cons.mp hp with rfl | hp
  · exact ⟨_, rfl⟩
  · rcases List.mem_cons.mp hp with rfl | hp
    · exact ⟨_, rfl⟩
    · cases hp
theorem gen_isGen {B : PM} {s : Shared} {a : Addr} {oa : Obj} {hp : List (Addr × AO)} {loc : Str → Option V} {gens : Array GenState} {g : Nat} (r : Rel G F B ⟨loc, (a, .raw oa) :: hp, gens⟩ s) (h : GenO oa g) : s.heap.IsGen a g :=
  let ⟨nm, qn, h1, h2, h3⟩ := h; ⟨oa, nm, qn, r.hp (a, .raw oa) (.head _), h1, h2, h3⟩
/-- one turn of the generator, given how it goes on -/
theorem gen_turn (S : Sta G) {B : PM} {s : Shared} {target : Expr} {a L e it : Addr} {oa oL : Obj} {x : Str} {t : Tok} {hp hp0 : List (Addr × AO)} {loc : Str → Option V} {g0 : Array GenState} {gs : GenState} {n i : Nat} {p : Int × Str} {Q : Option V → St → Prop} (hh : F.A.handled = none) (hroom : F.A.depth < recursionLimit)
    (r : Rel G F B ⟨loc, (a, .raw oa) :: (L, .raw oL) :: (hp ++ hp0), g0.push gs⟩ s) (hoa : GenO oa g0.size) (hcl : hp.map (·.1) = [e, it] ∨ (hp = [] ∧ e = s.heap.objs.size + 1 ∧ it = s.heap.objs.size)) (hno : NoTup hp0) (hn : n + i = (escF x).length) (hp : (escF x)[i]? = some p)
    (hgo : gs.Goes (model G.prog G.w) F.A.in1 (genR G L e it) (genY G L e it x t (escF x)) n (.send .none) (s.setGen g0.size .running))
    (q : ∀ pre' gens', GenPre G F.A a L x g0 (i + 1) pre' gens' → Q (some (ev2 p)) ⟨loc, pre' ++ hp0, gens'⟩) :
    wpAny (model G.prog G.w) F.A (pyNext (.ref a)) (fun r s₁ => match r with
    | none => ∃ σ' B'', PM.le B B'' ∧ Rel G F B'' σ' s₁ ∧ Q none σ'
    | some v => wpAny (model G.prog G.w) F.A (letOwnedTupleGo target (.ref a) v) (fun _ s₂ => ∃ u σ' B'', PM.le B B'' ∧ Rel G F B'' σ' s₂ ∧ RV B'' u v ∧ Q (some u) σ') (fun _ _ => False) s₁) (fun _ _ => False) s := by
  have hlt : i < (escF x).length := (List.getElem?_eq_some_iff.mp hp).1
  obtain ⟨n, rfl⟩ : ∃ m, n = m + 1 := ⟨n - 1, by omega⟩
  have base : ∀ b o, G.base b = some o → s.heap.get? b = some o := fun b o e => r.keep b o (r.base b o e)
  have hgs : s.gens[g0.size]? = some gs := by rw [r.gens]; simp
  refine next_gen (P := genP G L e it) hh (S.nolimit _ base) hroom (gen_isGen r hoa) hgs hgo (fun v s₁ gs' hbare hy => ?_) (fun s₁ hp1 => ?_)
  · obtain ⟨p', hp', Bg, b, hpg, hj, le, rg, hv, hkap⟩ := hy
    rw [Nat.add_sub_cancel, rev_get (by omega : n + i + 1 = _), hp] at hp'
    cases hp'
    obtain ⟨c1, c2, c3⟩ := pre_cl hj
    obtain ⟨oL', m', hns, hm', r2⟩ := gen_back r hcl (sg := s.setGen g0.size .running) rfl le rg (.inr c2) (g0.push gs')
    have hg1 : s₁.gens = g0.push .running := by
      rw [rg.gens]; exact setGen_push r.gens
    have hg2 : (s₁.setGen g0.size gs').gens = g0.push gs' := setGen_push hg1
    have r3 : Rel G F B ⟨loc, (a, .raw oa) :: (L, .raw oL') :: (hpg ++ hp0), g0.push gs'⟩ (s₁.setGen g0.size gs') := by
      have : (s₁.setGen g0.size gs') = { s₁ with gens := g0.push gs' } := by
        have e := hg2
        unfold Shared.setGen at e ⊢
        rw [← e]
      rw [this]; exact r2
    obtain ⟨B', leB, r4, hv4⟩ := gen_tup (s₁ := s₁) r3 rfl rg hno (by obtain ⟨_, _, h, _⟩ := hoa; exact h) hv
    have hoa' : (s₁.setGen g0.size gs').heap.get? a = some oa := r4.hp (a, .raw oa) (.head _)
    refine lgo_other hoa' (by obtain ⟨_, _, h, _⟩ := hoa; exact h) (by decide) ?_
    obtain ⟨v', hv1, hv2⟩ := hm' "escape" (.v (.bool b)) rfl rfl
    cases hv2
    refine ⟨ev2 p, _, B', leB, r4, hv4, q ((a, .raw oa) :: (L, .raw oL') :: hpg) (g0.push gs') ?_⟩
    exact ⟨oa, oL', m', b, e, it, t, hpg, gs', rfl, hoa, hns, hv1, hj, rfl, hbare, fun s'' B'' r'' => ⟨n, by omega, hkap s'' B'' r''⟩⟩
  · exact absurd hp1.1 (by omega)
theorem gen_fin (S : Sta G) {B : PM} {s : Shared} {target : Expr} {a L e it : Addr} {oa oL : Obj} {x : Str} {t : Tok} {hp hp0 : List (Addr × AO)} {loc : Str → Option V} {g0 : Array GenState} {gs : GenState} {Q : Option V → St → Prop} (hh : F.A.handled = none) (hroom : F.A.depth < recursionLimit)
    (r : Rel G F B ⟨loc, (a, .raw oa) :: (L, .raw oL) :: (hp ++ hp0), g0.push gs⟩ s) (hoa : GenO oa g0.size) (hcl : hp.map (·.1) = [e, it] ∨ (hp = [] ∧ e = s.heap.objs.size + 1 ∧ it = s.heap.objs.size))
    (hgo : gs.Goes (model G.prog G.w) F.A.in1 (genR G L e it) (genY G L e it x t (escF x)) 0 (.send .none) (s.setGen g0.size .running))
    (q : Q none ⟨loc, hp0, g0.push .finished⟩) :
    wpAny (model G.prog G.w) F.A (pyNext (.ref a)) (fun r s₁ => match r with
    | none => ∃ σ' B'', PM.le B B'' ∧ Rel G F B'' σ' s₁ ∧ Q none σ'
    | some v => wpAny (model G.prog G.w) F.A (letOwnedTupleGo target (.ref a) v) (fun _ s₂ => ∃ u σ' B'', PM.le B B'' ∧ Rel G F B'' σ' s₂ ∧ RV B'' u v ∧ Q (some u) σ') (fun _ _ => False) s₁) (fun _ _ => False) s := by
  have base : ∀ b o, G.base b = some o → s.heap.get? b = some o := fun b o e => r.keep b o (r.base b o e)
  have hgs : s.gens[g0.size]? = some gs := by rw [r.gens]; simp
  refine next_gen (P := genP G L e it) hh (S.nolimit _ base) hroom (gen_isGen r hoa) hgs hgo (fun v s₁ gs' hbare hy => ?_) (fun s₁ hp1 h' hk => ?_)
  · obtain ⟨p', hp', Bg, b, hpg, hj, le, rg, hv, hkap⟩ := hy
    have e := rg.gens
    have e : s₁.gens = (s.setGen g0.size .running).gens := e
    exact (hkap s₁ Bg (by rw [e]; exact rg)).elim
  · obtain ⟨_, Bg, locg, hpg, le, rg⟩ := hp1
    obtain ⟨oL', m', hns, hm', r2⟩ := gen_back r hcl (sg := s.setGen g0.size .running) rfl le (rg.forget (hp' := []) (List.nil_sublist _)) (.inl rfl) (g0.push .finished)
    have hg1 : s₁.gens = g0.push .running := by
      rw [rg.gens]; exact setGen_push r.gens
    have hg2 : (s₁.setGen g0.size .finished).gens = g0.push .finished := setGen_push hg1
    have r3 : Rel G F B ⟨loc, hp0, g0.push .finished⟩ { s₁ with gens := g0.push .finished } := r2.forget (hp' := hp0) ((List.sublist_cons_self _ _).trans (List.sublist_cons_self _ _))
    have r4 : Rel G F B ⟨loc, hp0, g0.push .finished⟩ { s₁.setGen g0.size .finished with heap := h' } := r3.grow (s' := { s₁.setGen g0.size .finished with heap := h' }) rfl hg2 hk
    exact ⟨_, B, .rf, r4, q⟩
end
end Mine
end
section
open PySem PySem.Spec PySem.Calls PyProof.Rows PySem.W
set_option Elab.async false
set_option pp.deepTerms false
set_option pp.deepTerms.threshold 8
set_option maxRecDepth 100000
set_option linter.unusedVariables false
namespace Mine
section
variable {G : Gl} {F : Fm} {σ : St}
theorem gen_walk (S : Sta G) {A : Around} (R : Rm A 1) {B : PM} {target : Expr} {a L : Addr} {x : Str} {g0 : Array GenState} (hE : lastE false x.cps.toList = false) :
    Walk G A B target a ((escF x).map ev2) (GenPre G A a L x g0) (fun g => ∃ y : GenState, y.bare = true ∧ g = g0.push y) NoTup where
  item := by
    intro F i pre loc hp0 gens v Q hF hP hC hx q B' hB s r
    subst hF
    have hp : ∃ p, (escF x)[i]? = some p ∧ v = ev2 p := by
      rw [List.getElem?_map] at hx
      cases e : (escF x)[i]? with
      | none => rw [e] at hx; cases hx
      | some p => rw [e] at hx; exact ⟨p, rfl, by simpa using hx.symm⟩
    obtain ⟨p, hp, rfl⟩ := hp
    cases i with
    | zero =>
      obtain ⟨rfl, oa, oL, m, t0, rfl, hoa, hns, hm⟩ := hP
      have rg := gen_rel (locg := bnd ["addr"] [.str x]) (hp := []) (hp0 := hp0) (r.perm (List.Perm.swap _ _ _) |>.forget (hp' := (L, .raw oL) :: hp0) (List.Sublist.cons_cons _ (List.sublist_cons_self _ _))) hns (fun y W e k => by
        have e : (if y = "addr" then some (V.str x) else none) = some W := e
        split at e
        · rename_i q; subst q; cases e; exact ⟨_, hm, .str _ _⟩
        · cases e) (fun _ h => by cases h) (s.setGen g0.size .running).gens
      obtain ⟨t, hseg⟩ := gen_start S hE (A := F.A.in1) R.hh (s₀ := s.setGen g0.size .running) (rg.reA (A' := F.A.in1))
      exact gen_turn S (target := target) (t := t) (hp := []) R.hh R.room r hoa (.inr ⟨rfl, rfl, rfl⟩) hC (n := (escF x).length) (i := 0) rfl hp ⟨rfl, hseg⟩ q
    | succ i =>
      obtain ⟨oa, oL, m, b, e, it, t, hp', gs, rfl, hoa, hns, hm, hj, rfl, hbare, hgo⟩ := hP
      obtain ⟨c1, c2, c3⟩ := pre_cl hj
      have rg := gen_rel (locg := escL b) (hp := hp') (hp0 := hp0) (r.forget (hp' := (L, .raw oL) :: (hp' ++ hp0)) (List.sublist_cons_self _ _)) hns (fun y W e k => by
        have e : (if y = "escape" then some (V.v (.bool b)) else none) = some W := e
        split at e
        · rename_i q; subst q; cases e; exact ⟨_, hm, .v _⟩
        · cases e) c3 (s.setGen g0.size .running).gens
      obtain ⟨n, hn, hg⟩ := hgo (s.setGen g0.size .running) _ rg
      exact gen_turn S (target := target) (t := t) (hp := hp') R.hh R.room r hoa (.inl c1) hC hn hp hg q
  fin := by
    intro F i pre loc hp0 gens Q hF hP hC hx q B' hB s r
    subst hF
    have hlen : (escF x).length ≤ i := by simpa using hx
    cases i with
    | zero =>
      obtain ⟨rfl, oa, oL, m, t0, rfl, hoa, hns, hm⟩ := hP
      have rg := gen_rel (locg := bnd ["addr"] [.str x]) (hp := []) (hp0 := hp0) (r.perm (List.Perm.swap _ _ _) |>.forget (hp' := (L, .raw oL) :: hp0) (List.Sublist.cons_cons _ (List.sublist_cons_self _ _))) hns (fun y W e k => by
        have e : (if y = "addr" then some (V.str x) else none) = some W := e
        split at e
        · rename_i q; subst q; cases e; exact ⟨_, hm, .str _ _⟩
        · cases e) (fun _ h => by cases h) (s.setGen g0.size .running).gens
      obtain ⟨t, hseg⟩ := gen_start S hE (A := F.A.in1) R.hh (s₀ := s.setGen g0.size .running) (rg.reA (A' := F.A.in1))
      have h0 : (escF x).length = 0 := by omega
      rw [h0] at hseg
      exact gen_fin S (target := target) (t := t) (hp := []) R.hh R.room r hoa (.inr ⟨rfl, rfl, rfl⟩) ⟨rfl, hseg⟩ (q _ ⟨_, rfl, rfl⟩)
    | succ i =>
      obtain ⟨oa, oL, m, b, e, it, t, hp', gs, rfl, hoa, hns, hm, hj, rfl, hbare, hgo⟩ := hP
      obtain ⟨c1, c2, c3⟩ := pre_cl hj
      have rg := gen_rel (locg := escL b) (hp := hp') (hp0 := hp0) (r.forget (hp' := (L, .raw oL) :: (hp' ++ hp0)) (List.sublist_cons_self _ _)) hns (fun y W e k => by
        have e : (if y = "escape" then some (V.v (.bool b)) else none) = some W := e
        split at e
        · rename_i q; subst q; cases e; exact ⟨_, hm, .v _⟩
        · cases e) c3 (s.setGen g0.size .running).gens
      obtain ⟨n, hn, hg⟩ := hgo (s.setGen g0.size .running) _ rg
      have h0 : n = 0 := by omega
      subst h0
      exact gen_fin S (target := target) (t := t) (hp := hp') R.hh R.room r hoa (.inl c1) hg (q _ ⟨_, rfl, rfl⟩)
  all := by
    intro i pre gens hP
    cases i with
    | zero => exact ⟨_, rfl, hP.1⟩
    | succ i =>
      obtain ⟨oa, oL, m, b, e, it, t, hp', gs, rfl, hoa, hns, hm, hj, rfl, hbare, hgo⟩ := hP
      exact ⟨_, hbare, rfl⟩
  self := by
    intro F i pre loc hp0 gens hF hP hC B' hB s r Q q
    cases i with
    | zero =>
      obtain ⟨rfl, oa, oL, m, t0, rfl, hoa, hns, hm⟩ := hP
      exact wpAny_pyIter_gen (gen_isGen r hoa) q
    | succ i =>
      obtain ⟨oa, oL, m, b, e, it, t, hp', gs, rfl, hoa, hns, hm, hj, rfl, hbare, hgo⟩ := hP
      exact wpAny_pyIter_gen (gen_isGen r hoa) q
/-- the generator is made -/
theorem cl_gen (S : Sta G) (R : Rm F.A 1) {x : Str} {Q : V → St → Prop} (q : ∀ a L pre, GenPre G F.A a L x σ.gens 0 pre (σ.gens.push (.fresh (gFun G L))) → Q (.v (.ref a)) ⟨σ.loc, pre ++ σ.hp, σ.gens.push (.fresh (gFun G L))⟩) : Cl G F (.ref (G.ad 2)) [.str x] σ Q := by
  intro B xs h
  cases h with
  | cons h1 h2 =>
    cases h2
    cases h1 with
    | str _ t =>
      refine ⟨fun B' hB s r => wpAny_call ?_⟩
      obtain ⟨o, ho, hd⟩ := S.fn (i := 2) rfl
      have stands : ∀ b o, G.base b = some o → s.heap.get? b = some o := fun b o e => r.keep b o (r.base b o e)
      refine codeAny_call_generator (body := stmtsOf (fdAt G 2)) R.room (stands _ _ ho) hd rfl rfl rfl (S.code (i := 2) rfl _ stands) ?_
      have hb : bindArgs (fdAt G 2) ⟨[Value.str x t], []⟩ = pure [(("addr" : Str), Value.str x t)] := by kernel_rfl
      rw [hb]
      refine wpAny_pure ?_
      show wpAny _ _ (newFunctionEnv (fdAt G 2).scope (fdAt G 2).globals [] _ _ _ _ none _) _ _ s
      refine wpAny_newFunctionEnv_cells rfl (fun p hp => ?_) fun env he s' xc => ?_
      · rcases List.mem_cons.mp hp with rfl | hp
        · exact .inl rfl
        · cases hp
      · subst he
        have hvs : RVs B' [V.str x] [Value.str x t] := .one (.str x t)
        have r₁ := inCall_rel (A := F.A) (f := G.ad 2) (fd := fdAt G 2) (names := ["addr"]) r hvs (by decide) (by exact List.nodup_nil) xc
        obtain ⟨k1, k2, k3⟩ := r.back r₁ .rf
        obtain ⟨m, ⟨oL, es, ep, hoL, hdL, hkL, hfL⟩, hm⟩ := r₁.fr.vars
        have hoL : s'.heap.get? s.heap.objs.size = some oL := hoL
        have offL := r₁.off s.heap.objs.size (List.mem_append_left _ (.head _))
        have k4 := k1.add (a := s.heap.objs.size) hoL (by unfold PM.cut; rw [offL]; exact ite_self _) (fun q => Nat.lt_irrefl _ (r.lt q))
        have k5 := k4.newOwn (o := { cls := .type "generator", data := .fields #[.int s'.gens.size 0, .str (fdAt G 2).name s'.toks, .str (fdAt G 2).qualname (s'.toks + 1)] }) (x := .raw { cls := .type "generator", data := .fields #[.int s'.gens.size 0, .str (fdAt G 2).name s'.toks, .str (fdAt G 2).qualname (s'.toks + 1)] })
          (s' := { s' with toks := s'.toks + 1 + 1, heap := s'.heap.push { cls := .type "generator", data := .fields #[.int s'.gens.size 0, .str (fdAt G 2).name s'.toks, .str (fdAt G 2).qualname (s'.toks + 1)] } }) rfl rfl rfl (Heap.get?_push_size _ rfl)
        have hg : s'.gens = σ.gens := r₁.gens
        have k6 := k5.reG (σ.gens.push (.fresh (gFun G s.heap.objs.size)))
        have hk : (∀ b o, G.base b = some o → s'.heap.get? b = some o) := fun b o e => k1.keep b o (k1.base b o e)
        obtain ⟨v, hv1, hv2⟩ := hm "addr" (.str x) rfl rfl
        cases hv2 with
        | str _ t' =>
          refine ⟨S.nolimit _ hk, ?_⟩
          refine ⟨_, _, _, k2, ?_, .v _, q s'.heap.objs.size s.heap.objs.size [(_, _), (_, _)] ⟨rfl, { cls := .type "generator", data := .fields #[.int s'.gens.size 0, .str (fdAt G 2).name s'.toks, .str (fdAt G 2).qualname (s'.toks + 1)] }, oL, m, t', rfl, ⟨.str (fdAt G 2).name s'.toks, .str (fdAt G 2).qualname (s'.toks + 1), rfl, by show Data.fields #[.int s'.gens.size 0, _, _] = _; rw [hg], rfl⟩, ⟨es, ep, hdL, hkL, hfL⟩, hv1⟩⟩
          · have e : s'.gens.push (GenState.fresh (gFun G s.heap.objs.size)) = σ.gens.push (GenState.fresh (gFun G s.heap.objs.size)) := by rw [hg]
            have k7 := k6
            rw [← e] at k7 ⊢
            exact k7
theorem it_gen (S : Sta G) (R : Rm F.A 1) {target : Expr} {a L : Addr} {x : Str} {g0 gens : Array GenState} {pre hp : List (Addr × AO)} {loc : Str → Option V} (hE : lastE false x.cps.toList = false) (hP : GenPre G F.A a L x g0 0 pre gens) (hno : NoTup hp) :
    Iters G F target (.v (.ref a)) ⟨loc, pre ++ hp, gens⟩ ⟨loc, hp, gens⟩ ((escF x).map ev2) NoTup (fun g => ∃ y : GenState, y.bare = true ∧ g = g0.push y) := by
  intro B y hy B' hB s r
  cases hy
  have W := gen_walk S R (B := B') (target := target) (a := a) (L := L) (g0 := g0) hE
  exact W.self rfl hP hno B' .rf s r _ ⟨B', a, pre, gens, _, rfl, .rf, r, W, hP⟩
end
end Mine
end
section
open PySem PySem.Spec PySem.Calls PyProof.Rows PySem.W
set_option Elab.async false
set_option pp.deepTerms false
set_option pp.deepTerms.threshold 8
set_option maxRecDepth 100000
set_option linter.unusedVariables false
namespace Mine
/-- places that rise -/
noncomputable def Incr : Nat → Nat → List (Int × Str) → Prop
  | _, _, [] => True
  | lo, hi, p :: r => ∃ k : Nat, p.1 = k ∧ lo ≤ k ∧ k < hi ∧ Incr (k + 1) hi r
theorem Incr.le {lo lo' hi : Nat} (h : lo' ≤ lo) : ∀ {l : List (Int × Str)}, Incr lo hi l → Incr lo' hi l
  | [], _ => trivial
  | _ :: _, ⟨k, a, b, c, d⟩ => ⟨k, a, by omega, c, d⟩
theorem escG_incr : ∀ (cs : List Nat) (b : Bool) (i : Nat), lastE b cs = false → Incr i (i + cs.length) (escG b i cs)
  | [], false, _, _ => trivial
  | [], true, _, h => by cases h
  | c :: cs, true, i, h => by
    rw [escG]
    have := escG_incr cs false (i + 1) h
    refine ⟨i, rfl, Nat.le_refl _, by simp, ?_⟩
    rw [show i + (c :: cs).length = i + 1 + cs.length by simp; omega]
    exact this
  | c :: cs, false, i, h => by
    rw [escG]
    rw [lastE] at h
    split
    · rename_i h9
      rw [if_pos h9] at h
      have := escG_incr cs true (i + 1) h
      rw [show i + (c :: cs).length = i + 1 + cs.length by simp; omega]
      exact this.le (by omega)
    · rename_i h9
      rw [if_neg h9] at h
      have := escG_incr cs false (i + 1) h
      refine ⟨i, rfl, Nat.le_refl _, by simp, ?_⟩
      rw [show i + (c :: cs).length = i + 1 + cs.length by simp; omega]
      exact this
noncomputable abbrev SSt := Nat × Option Nat × List Str
noncomputable def sstep (x : Str) (st : SSt) (p : Int × Str) : SSt :=
  if p.2 == "\"" then match st.2.1 with
    | none => (st.1, some p.1.toNat, st.2.2)
    | some o => (p.1.toNat + 1, none, if st.1 != o then st.2.2 ++ [cut x st.1 o] else st.2.2)
  else st
noncomputable def sfold (x : Str) : SSt := (escF x).foldl (sstep x) (0, none, [])
noncomputable def sparts (x : Str) : List Str := if (sfold x).1 < x.length then (sfold x).2.2 ++ [cut x (sfold x).1 x.length] else (sfold x).2.2
noncomputable def stripF (x : Str) : Str := if !(!(Builtin.Str.occurrences x "\"" 0 x.length 1).isEmpty) then x else Txt.join "" (sparts x)
noncomputable def chk : Int → List (Int × Str) → Bool
  | n, [] => n == 0
  | n, p :: r => if p.2 == "(" then chk (n + 1) r else if p.2 == ")" then (if n - 1 < 0 then false else chk (n - 1) r) else chk n r
noncomputable def checkF (x : Str) : Bool := chk 0 (escF (stripF x))
theorem sstep_len (x : Str) (st : SSt) (p : Int × Str) : (sstep x st p).2.2.length ≤ st.2.2.length + 1 := by
  unfold sstep
  split
  · split
    · simp
    · simp only
      split <;> simp
  · omega
theorem sfold_len (x : Str) : ∀ (l : List (Int × Str)) (st : SSt), (l.foldl (sstep x) st).2.2.length ≤ st.2.2.length + l.length
  | [], st => Nat.le_refl _
  | p :: l, st => by
    have := sfold_len x l (sstep x st p)
    have := sstep_len x st p
    simp only [List.foldl_cons, List.length_cons]
    omega
/-- more generators, all bare -/
noncomputable def Gp (g g' : Array GenState) : Prop := ∃ l : List GenState, (∀ y ∈ l, y.bare = true) ∧ g' = l.foldl Array.push g
theorem Gp.rf {g : Array GenState} : Gp g g := ⟨[], (fun _ h => by cases h), rfl⟩
theorem Gp.tr {g g' g'' : Array GenState} (h : Gp g g') (h' : Gp g' g'') : Gp g g'' := by
  obtain ⟨l, h1, rfl⟩ := h
  obtain ⟨l', h1', rfl⟩ := h'
  refine ⟨l ++ l', fun y hy => (List.mem_append.mp hy).elim (h1 y) (h1' y), by rw [List.foldl_append]⟩
theorem Gp.one {g g' : Array GenState} (h : ∃ y : GenState, y.bare = true ∧ g' = g.push y) : Gp g g' := by
  obtain ⟨y, hy, rfl⟩ := h
  refine ⟨[y], fun z hz => ?_, rfl⟩
  rcases List.mem_cons.mp hz with rfl | hz
  · exact hy
  · cases hz
theorem NoTup.list {a : Addr} {vs : List V} {hp : List (Addr × AO)} (h : NoTup hp) : NoTup ((a, .list vs) :: hp) := fun b o hm => by
  rcases List.mem_cons.mp hm with e | hm
  · cases e
  · exact h b o hm
noncomputable def opV : Option Nat → V
  | none => .v .none
  | some o => .int o
structure StJ (σ : St) (a : Addr) (x : Str) (pre : List (Int × Str)) (st : SSt) (loc : Str → Option V) (hp : List (Addr × AO)) : Prop where
  hp : hp = (a, .list (st.2.2.map .str)) :: σ.hp
  addr : loc "addr" = some (.str x)
  start : loc "start" = some (.int st.1)
  openp : loc "open_pos" = some (opV st.2.1)
  result : loc "result" = some (.v (.ref a))
  rest : ∃ lo, (∀ post, escF x = pre ++ post → Incr lo x.length post) ∧ st.1 ≤ lo ∧ lo ≤ x.length ∧ ∀ o, st.2.1 = some o → st.1 ≤ o ∧ o < lo
section
variable {G : Gl} {F : Fm} {σ : St}
theorem c_strip {x : Str} {Q : V → St → Prop} (S : Sta G) (R : Rm F.A 2) (hno : NoTup σ.hp) (hE : lastE false x.cps.toList = false) (hz : x.length ≤ 1000) (hj : JoinOk "" (sparts x) = true)
    (q : ∀ gens, Gp σ.gens gens → Q (.str (stripF x)) ⟨σ.loc, σ.hp, gens⟩) : Cl G F (.ref (G.ad 3)) [.str x] σ Q := by
  have hs : 1000 + 1 ≤ sizeLine := by decide
  have hlen : x.cps.toList.length = x.length := by simp [Str.length]
  refine cl_def (names := ["addr"]) S R.room (fun xs hx => ?_) fun L => ?_
  · obtain ⟨x, rfl⟩ := len1 hx; kernel_rfl
  have R' : Rm (fmOf F.A (fdAt G 3) (G.ad 3) L).A 1 := R.sub
  refine ex_cons (s_if (tr_compare (ev_str (ev_local rfl (op_notins (tt_bool ⟨fun hc => ?_, fun hc => ex_nil ?_⟩))))))
  · refine ex_cons (s_ret (ev_local rfl ?_))
    have : stripF x = x := by unfold stripF; rw [if_pos hc]
    have q := q σ.gens .rf
    rw [this] at q
    exact q
  refine ex_cons (s_assign (ev_int (to_name ?_)))
  refine ex_cons (s_assign (ev_none (to_name ?_)))
  refine ex_cons (s_assign (ev_listO (el_nil ⟨by decide, fun a => to_name ?_⟩)))
  refine ex_cons (s_for0 (f := ev2) (escF x) (C := NoTup) (D := fun g => ∃ y : GenState, y.bare = true ∧ g = σ.gens.push y)
    (fun pre loc hp => StJ σ a x pre (pre.foldl (sstep x) (0, none, [])) loc hp) ?_ ?_ ?_ ?_)
  · refine ev_callG (f := .ref (G.ad 2)) (S.glob _ _ rfl) S.callee (el_cons (ev_local rfl (el_nil (cl_gen S R' fun ga gL pre hP => ?_))))
    refine ⟨_, it_gen S R' hE hP hno.list, rfl, rfl, rfl, rfl, rfl, 0, fun post e => ?_, Nat.le_refl _, Nat.zero_le _, fun o h => by cases h⟩
    have := escG_incr x.cps.toList false 0 hE
    rw [Nat.zero_add, hlen] at this
    rw [← (show escF x = post by simpa using e)]
    exact this
  · intro ys loc hp ⟨e, _, _, _, _, _⟩
    rw [e]; exact hno.list
  · intro pre p post e loc hp ⟨e0, e1, e2, e3, e4, lo, hinc, hlo, hlol, hop⟩ e' gens _
    subst e0
    generalize hst : pre.foldl (sstep x) (0, none, []) = st at *
    obtain ⟨start, op, res⟩ := st
    obtain ⟨k, hk, hk1, hk2, hk3⟩ := hinc _ e
    obtain ⟨pp, ch⟩ := p
    have hk : pp = k := hk
    subst hk
    have keep : (pre ++ [((k : Int), ch)]).foldl (sstep x) (0, none, []) = sstep x (start, op, res) ((k : Int), ch) := by rw [List.foldl_append, hst]; rfl
    have hlr : res.length ≤ 1001 := by
      have h1 := sfold_len x pre (0, none, [])
      rw [hst] at h1
      have h2 := congrArg List.length e
      have h3 := escG_len false 0 x.cps.toList
      unfold escF at h2
      simp at h1 h2
      rw [hlen] at h3
      omega
    have hlz : (res.map V.str).length ≤ sizeLine := by simp; omega
    have hinc' : ∀ post, escF x = pre ++ [((k : Int), ch)] ++ post → Incr (k + 1) x.length post := fun post2 e2 => by
      have : post2 = post := by rw [e, List.append_assoc] at e2; have := List.append_cancel_left e2; simpa using this.symm
      subst this; exact hk3
    refine to_tup R'.hh (te_cons (to_name (te_cons (to_name (te_nil ?_)))))
    refine ex_cons (s_if (tr_compare (ev_local rfl (ev_str (op_eqs (tt_bool ⟨fun hc => ?_, fun hc => ?_⟩))))))
    · cases op with
      | none =>
        refine ex_cons (s_if (tr_compare (ev_local e3 (ev_none (op_isnone (c := true) (tt_bool ⟨fun _ => ?_, fun q => (by cases q)⟩) fun B y h => none_is h)))))
        refine ex_cons (s_assign (ev_local rfl (to_name (ex_nil (ex_nil (ex_nil ?_))))))
        have es : sstep x (start, none, res) ((k : Int), ch) = (start, some k, res) := by unfold sstep; rw [if_pos hc]; rfl
        refine ⟨_, _, rfl, ?_⟩
        rw [keep, es]
        exact ⟨rfl, e1, e2, rfl, e4, k + 1, hinc', by simp at hlo ⊢; omega, by omega, fun o h => by cases h; simp at hlo; exact ⟨by simp; omega, Nat.lt_succ_self _⟩⟩
      | some o =>
        obtain ⟨ho1, ho2⟩ := hop o rfl
        simp only at ho1 hlo
        refine ex_cons (s_if (tr_compare (ev_local e3 (ev_none (op_isnone (c := false) (tt_bool ⟨fun q => (by cases q), fun _ => ?_⟩) fun B y h => int_isnt h)))))
        refine ex_mid (fun σ' => ∃ loc', σ' = ⟨loc', ((a, AO.list ((if start != o then res ++ [cut x start o] else res).map V.str)) :: σ.hp) ++ e', gens⟩ ∧ loc' "addr" = some (.str x) ∧ loc' "result" = some (.v (.ref a)) ∧ loc' "pos" = some (.int k)) ?_ ?_
        · refine s_if (tr_compare (ev_local e2 (ev_local e3 (op_nei (tt_bool ⟨fun hq => ?_, fun hq => ?_⟩)))))
          · have hq : (start != o) = true := by simp [bne] at hq ⊢; omega
            refine ex_cons (s_expr (ev_meth meth_append (ev_local e4 ⟨ty_list (i := 0) rfl, el_cons (ev_sub sub_str (ev_local e1 (ev_slice (ev_part (ev_local e2 ⟨_, rfl, ev_part (ev_local e3 ⟨_, rfl, ev_part (o := none) ⟨ty_str, gi_cut (a := start) (b := o) (el_nil (cl_append (i := 0) rfl (ex_nil ?_) hlz)) ho1 (by omega) (by omega) (idx_both ho1 (by omega))⟩⟩)⟩))))) ⟩)))
            refine ⟨rfl, upd (upd loc "pos" (.int k)) "ch" (.str ch), ?_, e1, e4, rfl⟩
            rw [hq]
            simp
          · have hq : (start != o) = false := by simp [bne] at hq ⊢; omega
            refine ex_nil ⟨rfl, upd (upd loc "pos" (.int k)) "ch" (.str ch), ?_, e1, e4, rfl⟩
            rw [hq]; rfl
        · rintro _ ⟨loc', rfl, f1, f4, f5⟩
          refine ex_cons (s_assign (ev_binop (ev_local f5 (ev_int (op_add (to_name ?_))))))
          refine ex_cons (s_assign (ev_none (to_name (ex_nil (ex_nil (ex_nil ?_))))))
          have es : sstep x (start, some o, res) ((k : Int), ch) = (k + 1, none, if start != o then res ++ [cut x start o] else res) := by unfold sstep; rw [if_pos hc]; rfl
          refine ⟨_, _, rfl, ?_⟩
          rw [keep, es]
          exact ⟨rfl, f1, rfl, rfl, f4, k + 1, hinc', Nat.le_refl _, by omega, fun o h => by cases h⟩
    · have es : sstep x (start, op, res) ((k : Int), ch) = (start, op, res) := by unfold sstep; rw [if_neg (by rw [hc]; exact Bool.false_ne_true)]
      refine ex_nil (ex_nil ?_)
      refine ⟨_, _, rfl, ?_⟩
      rw [keep, es]
      exact ⟨rfl, e1, e2, e3, e4, k + 1, hinc', by omega, by omega, fun o h => by have := hop o h; omega⟩
  · intro loc hp gens hd ⟨e0, e1, e2, e3, e4, lo, hinc, hlo, hlol, hop⟩
    subst e0
    have hst : (escF x).foldl (sstep x) (0, none, []) = sfold x := rfl
    rw [hst] at e2 e3 hlo hop ⊢
    have hlr : (sfold x).2.2.length ≤ 1001 := by
      have h1 := sfold_len x (escF x) (0, none, [])
      have h3 := escG_len false 0 x.cps.toList
      rw [hst] at h1
      unfold escF at h1
      simp at h1
      rw [hlen] at h3
      omega
    have hlz : ((sfold x).2.2.map V.str).length ≤ sizeLine := by simp; omega
    have hsl : (sfold x).1 ≤ x.length := by omega
    obtain ⟨y, hy, rfl⟩ := hd
    have eF : stripF x = Txt.join "" (sparts x) := by unfold stripF; rw [if_neg (by rw [hc]; exact Bool.false_ne_true)]
    refine ex_mid (fun σ' => ∃ loc', σ' = ⟨loc', (a, AO.list ((sparts x).map V.str)) :: σ.hp, σ.gens.push y⟩ ∧ loc' "result" = some (.v (.ref a))) ?_ ?_
    · refine s_if (tr_compare (ev_local e2 (ev_callG (f := .builtin "len") (S.blt _ _ rfl (by decide) (by kernel_rfl)) .builtin (el_cons (ev_local e1 (el_nil (cl_len_str (op_lti (tt_bool ⟨fun hq => ?_, fun hq => ?_⟩)) (by omega))))))))
      · have hq : (sfold x).1 < x.length := by simp at hq; omega
        refine ex_cons (s_expr (ev_meth meth_append (ev_local e4 ⟨ty_list (i := 0) rfl, el_cons (ev_sub sub_str (ev_local e1 (ev_slice (ev_part (ev_local e2 ⟨_, rfl, ev_part (o := none) (ev_part (o := none) ⟨ty_str, gi_cut (a := (sfold x).1) (b := x.length) (el_nil (cl_append (i := 0) rfl (ex_nil ?_) hlz)) hsl (Nat.le_refl _) (by omega) (idx_from hsl)⟩)⟩)))))⟩)))
        refine ⟨rfl, loc, ?_, e4⟩
        unfold sparts
        rw [if_pos hq, List.map_append]
        rfl
      · have hq : ¬ (sfold x).1 < x.length := by simp at hq; omega
        refine ex_nil ⟨rfl, loc, ?_, e4⟩
        unfold sparts
        rw [if_neg hq]
    · rintro _ ⟨loc', rfl, f4⟩
      refine Ok.freezeL (loc' := upd loc' "result" (.lst ((sparts x).map .str))) (Froz.upd f4) ?_
      refine ex_cons (s_ret (ev_meth meth_join (ev_str ⟨ty_str, el_cons (ev_local rfl (el_nil (cl_join ?_ hj)))⟩)))
      rw [← eF]
      exact q _ (Gp.one ⟨y, hy, rfl⟩)
theorem c_check {x : Str} {Q : V → St → Prop} (S : Sta G) (R : Rm F.A 3) (hno : NoTup σ.hp) (hE : lastE false x.cps.toList = false) (hE2 : lastE false (stripF x).cps.toList = false) (hz : x.length ≤ 1000) (hj : JoinOk "" (sparts x) = true)
    (q : ∀ gens, Gp σ.gens gens → Q (.v (.bool (checkF x))) ⟨σ.loc, σ.hp, gens⟩) : Cl G F (.ref (G.ad 4)) [.str x] σ Q := by
  refine cl_def (names := ["addr"]) S R.room (fun xs hx => ?_) fun L => ?_
  · obtain ⟨x, rfl⟩ := len1 hx; kernel_rfl
  have R' : Rm (fmOf F.A (fdAt G 4) (G.ad 4) L).A 2 := R.sub
  refine ex_cons (s_assign (ev_callG (f := .ref (G.ad 3)) (S.glob _ _ rfl) S.callee (el_cons (ev_local rfl (el_nil (c_strip S R' hno hE hz hj fun g1 hg1 => to_name ?_))))))
  refine ex_cons (s_assign (ev_int (to_name ?_)))
  refine ex_cons (s_for0 (f := ev2) (escF (stripF x)) (C := NoTup) (D := fun g => ∃ y : GenState, y.bare = true ∧ g = g1.push y)
    (fun pre loc hp => hp = σ.hp ∧ ∃ n : Int, loc "opens" = some (.int n) ∧ ∀ post, escF (stripF x) = pre ++ post → checkF x = chk n post) ?_ ?_ ?_ ?_)
  · refine ev_callG (f := .ref (G.ad 2)) (S.glob _ _ rfl) S.callee (el_cons (ev_local rfl (el_nil (cl_gen S (R'.less (by omega)) fun ga gL pre hP => ?_))))
    exact ⟨_, it_gen S (R'.less (by omega)) hE2 hP hno, rfl, 0, rfl, fun post e => by unfold checkF; rw [show escF (stripF x) = post by simpa using e]⟩
  · intro ys loc hp ⟨e, _⟩
    rw [e]; exact hno
  · intro pre p post e loc hp ⟨e0, n, e1, e2⟩ e' gens hd
    subst e0
    obtain ⟨pp, ch⟩ := p
    have h0 := e2 _ e
    refine to_tup R'.hh (te_cons (to_name (te_cons (to_name (te_nil ?_)))))
    have fin : ∀ (m : Int), checkF x = chk m post → ∀ post', escF (stripF x) = pre ++ [(pp, ch)] ++ post' → checkF x = chk m post' := fun m hm post' e3 => by
      have : post' = post := by rw [e, List.append_assoc] at e3; have := List.append_cancel_left e3; simpa using this.symm
      rw [this]; exact hm
    refine ex_cons (s_if (tr_compare (ev_local rfl (ev_str (op_eqs (tt_bool ⟨fun hc => ?_, fun hc => ?_⟩))))))
    · have hc : (ch == "(") = true := hc
      rw [chk, hc, if_pos rfl] at h0
      refine ex_cons (s_aug (ev_local e1 (ev_int (op_iadd (to_name (ex_nil (ex_nil ?_)))))))
      exact ⟨_, _, rfl, rfl, n + 1, rfl, fin _ h0⟩
    · have hc : (ch == "(") = false := hc
      refine ex_cons (s_if (tr_compare (ev_local rfl (ev_str (op_eqs (tt_bool ⟨fun hc2 => ?_, fun hc2 => ?_⟩))))))
      · have hc2 : (ch == ")") = true := hc2
        rw [chk, hc, hc2] at h0
        simp only [Bool.false_eq_true, if_false, if_true] at h0
        refine ex_cons (s_aug (ev_local e1 (ev_int (op_isub (to_name ?_)))))
        refine ex_cons (s_if (tr_compare (ev_local rfl (ev_int (op_lti (tt_bool ⟨fun hq => ?_, fun hq => ?_⟩))))))
        · have hq : n - 1 < 0 := by simpa using hq
          rw [if_pos hq] at h0
          refine Ok.forget σ.hp (ex_cons (s_ret (ev_bool ?_))) (List.sublist_append_left _ _)
          rw [h0] at q
          exact q gens (hg1.tr (Gp.one hd))
        · have hq : ¬ n - 1 < 0 := by simpa using hq
          rw [if_neg hq] at h0
          refine ex_nil (ex_nil (ex_nil (ex_nil ?_)))
          exact ⟨_, _, rfl, rfl, n - 1, rfl, fin _ h0⟩
      · have hc2 : (ch == ")") = false := hc2
        rw [chk, hc, hc2] at h0
        simp only [Bool.false_eq_true, if_false] at h0
        refine ex_nil (ex_nil (ex_nil ?_))
        exact ⟨_, _, rfl, rfl, n, e1, fin _ h0⟩
  · intro loc hp gens hd ⟨e0, n, e1, e2⟩
    subst e0
    refine ex_cons (s_ret (ev_compare (ev_local e1 (ev_int (op_eqi ?_)))))
    have h0 := e2 [] (by simp)
    have := q gens (hg1.tr (Gp.one hd))
    rw [h0] at this
    exact this
end
end Mine
end
section
open PySem PySem.Spec PySem.Calls PyProof.Rows PySem.W
set_option Elab.async false
set_option pp.deepTerms false
set_option pp.deepTerms.threshold 8
set_option maxRecDepth 100000
set_option linter.unusedVariables false
namespace Mine
noncomputable def uv (u : Str × Int) : V := .tup [.str u.1, .int u.2]
noncomputable def wstep (gone : List Int) (st : Int × List Str) (u : Str × Int) : Int × List Str :=
  if u.1 == "(" || u.1 == ")" then (st.1 + 1, if !(gone.any fun n => n == st.1) then st.2 ++ [u.1] else st.2) else (st.1, st.2 ++ [u.1])
noncomputable def wparts (us : List (Str × Int)) (gone : List Int) : List Str := (us.foldl (wstep gone) (0, [])).2
noncomputable def withoutF (us : List (Str × Int)) (gone : List Int) : Str := Txt.join "" (wparts us gone)
theorem wstep_len (gone : List Int) (st : Int × List Str) (u : Str × Int) : (wstep gone st u).2.length ≤ st.2.length + 1 := by
  unfold wstep
  split
  · simp only
    split <;> simp
  · simp
theorem wfold_len (gone : List Int) : ∀ (l : List (Str × Int)) (st : Int × List Str), (l.foldl (wstep gone) st).2.length ≤ st.2.length + l.length
  | [], st => Nat.le_refl _
  | p :: l, st => by
    have := wfold_len gone l (wstep gone st p)
    have := wstep_len gone st p
    simp only [List.foldl_cons, List.length_cons]
    omega
section
variable {G : Gl} {F : Fm} {σ : St}
theorem c_without {us : List (Str × Int)} {gone : List Int} {Q : V → St → Prop} (S : Sta G) (R : Rm F.A 1) (hz : us.length ≤ 1000) (hj : JoinOk "" (wparts us gone) = true)
    (q : Q (.str (withoutF us gone)) σ) : Cl G F (.ref (G.ad 31)) [.lst (us.map uv), .lst (gone.map .int)] σ Q := by
  have hs : 1000 + 1 ≤ sizeLine := by decide
  refine cl_def (names := ["units", "gone"]) S R.room (fun xs hx => ?_) fun L => ?_
  · obtain ⟨x, y, rfl⟩ := len2 hx; kernel_rfl
  have hA : (fmOf F.A (fdAt G 31) (G.ad 31) L).A.handled = none := R.hh
  refine ex_cons (s_assign (ev_listO (el_nil ⟨by decide, fun a => to_name ?_⟩)))
  refine ex_cons (s_assign (ev_int (to_name ?_)))
  refine ex_cons (s_for0 (f := uv) us (C := fun _ => True) (D := fun g => g = σ.gens)
    (fun pre loc hp => hp = (a, .list ((pre.foldl (wstep gone) (0, [])).2.map .str)) :: σ.hp ∧ loc "shown" = some (.v (.ref a)) ∧ loc "gone" = some (.lst (gone.map .int)) ∧ loc "number" = some (.int (pre.foldl (wstep gone) (0, [])).1)) ?_ ?_ ?_ ?_)
  · exact ev_local rfl ⟨_, it_lst hA, rfl, rfl, rfl, rfl⟩
  · intros; trivial
  · intro pre u post e loc hp ⟨e0, e1, e2, e3⟩ e' gens _
    subst e0
    generalize hst : pre.foldl (wstep gone) (0, []) = st at *
    obtain ⟨n, sh⟩ := st
    have keep : (pre ++ [u]).foldl (wstep gone) (0, []) = wstep gone (n, sh) u := by rw [List.foldl_append, hst]; rfl
    have hlz : (sh.map V.str).length ≤ sizeLine := by
      have h1 := wfold_len gone pre (0, [])
      rw [hst] at h1
      have h2 := congrArg List.length e
      simp at h1 h2
      simp; omega
    obtain ⟨t, w⟩ := u
    refine to_tup hA (te_cons (to_name (te_cons (to_name (te_nil ?_)))))
    refine ex_cons (s_ifB (t == "(" || t == ")") ?_ (fun hb => ?_) (fun hb => ?_))
    · refine tr_bool (tr_or_cons (tr_compare (ev_local rfl (ev_str (op_eqs (tt_bool ⟨fun hc => ?_, fun hc => ⟨?_, rfl⟩⟩))))))
      · have hc : (t == "(") = false := hc
        refine tr_or_cons (tr_compare (ev_local rfl (ev_str (op_eqs (tt_bool ⟨fun hc2 => tr_or_nil ⟨?_, rfl⟩, fun hc2 => ⟨?_, rfl⟩⟩)))))
        · have hc2 : (t == ")") = false := hc2
          rw [hc, hc2]; rfl
        · have hc2 : (t == ")") = true := hc2
          rw [hc, hc2]; rfl
      · have hc : (t == "(") = true := hc
        rw [hc]; rfl
    · refine ex_mid (fun σ' => σ' = ⟨upd (upd loc "unit" (.str t)) "weight" (.int w), ((a, AO.list ((if !(gone.any fun m => m == n) then sh ++ [t] else sh).map V.str)) :: σ.hp) ++ e', gens⟩) ?_ ?_
      · refine s_if (tr_compare (ev_local e3 (ev_local e2 (op_notinl (tt_bool ⟨fun hq => ?_, fun hq => ?_⟩)))))
        · have hq : (!(gone.any fun m => m == n)) = true := hq
          refine ex_cons (s_expr (ev_meth meth_append (ev_local e1 ⟨ty_list (i := 0) rfl, el_cons (ev_local rfl (el_nil (cl_append (i := 0) rfl (ex_nil ⟨rfl, ?_⟩) hlz)))⟩)))
          rw [hq, if_pos rfl, List.map_append]
          rfl
        · have hq : (!(gone.any fun m => m == n)) = false := hq
          refine ex_nil ⟨rfl, ?_⟩
          rw [hq, if_neg Bool.false_ne_true]
      · rintro _ rfl
        refine ex_cons (s_assign (ev_binop (ev_local e3 (ev_int (op_add (to_name (ex_nil (ex_nil ?_))))))))
        refine ⟨_, _, rfl, ?_, e1, e2, ?_⟩
        · rw [keep]; unfold wstep; rw [if_pos hb]
        · rw [keep]; unfold wstep; rw [if_pos hb]; rfl
    · refine ex_cons (s_expr (ev_meth meth_append (ev_local e1 ⟨ty_list (i := 0) rfl, el_cons (ev_local rfl (el_nil (cl_append (i := 0) rfl (ex_nil (ex_nil ?_)) hlz)))⟩)))
      refine ⟨upd (upd loc "unit" (.str t)) "weight" (.int w), (a, AO.list ((sh ++ [t]).map V.str)) :: σ.hp, ?_, ?_, e1, e2, ?_⟩
      · rw [List.map_append]; rfl
      · rw [keep]; unfold wstep; rw [if_neg (by rw [hb]; exact Bool.false_ne_true)]
      · rw [keep]; unfold wstep; rw [if_neg (by rw [hb]; exact Bool.false_ne_true)]; exact e3
  · intro loc hp gens hd ⟨e0, e1, e2, e3⟩
    subst e0 hd
    refine Ok.freezeL (loc' := upd loc "shown" (.lst ((wparts us gone).map .str))) (Froz.upd e1) ?_
    refine ex_cons (s_ret (ev_meth meth_join (ev_str ⟨ty_str, el_cons (ev_local rfl (el_nil (cl_join ?_ hj)))⟩)))
    exact q
end
end Mine
end
section
open PySem PySem.Spec PySem.Calls PyProof.Rows PySem.W
set_option Elab.async false
set_option pp.deepTerms false
set_option pp.deepTerms.threshold 8
set_option maxRecDepth 100000
set_option linter.unusedVariables false
namespace Mine
theorem pick_take {α : Type} (vs : List α) : ∀ m, m ≤ vs.length → ((List.range m).map (0 + ·)).filterMap (vs[·]?) = vs.take m := fun m hm => by
  have := StrLaws.picks vs m 0 (by omega)
  simpa using this
theorem slice_to (vs : List V) (k : Nat) : (clipPicks none (some (k : Int)) none vs.length).filterMap (vs[·]?) = vs.take k := by
  have e : clipPicks none (some (k : Int)) none vs.length = (List.range (min k vs.length)).map (0 + ·) := by
    unfold clipPicks sliceBounds
    have h1 : ¬ ((k : Int) < 0) := by omega
    simp only [Option.getD_none, show ((1 : Int) > 0) = True from by simp, if_true, h1, if_false]
    have h2 : max (0 : Int) (min (k : Int) vs.length) = ((min k vs.length : Nat) : Int) := by omega
    rw [h2]
    have := sliceRange_one 0 (min k vs.length)
    simpa using this
  rw [e, pick_take _ _ (Nat.min_le_right _ _)]
  rcases Nat.le_total k vs.length with h | h
  · rw [Nat.min_eq_left h]
  · rw [Nat.min_eq_right h, List.take_length, List.take_of_length_le h]
theorem slice_rev (vs : List V) : (clipPicks none none (some (-1)) vs.length).filterMap (vs[·]?) = vs.reverse := by
  have e : clipPicks none none (some (-1)) vs.length = (List.range vs.length).map fun k => vs.length - 1 - k := by
    have := picked_rev vs.length
    unfold Builtin.Str.strSliceIndices at this
    unfold clipPicks sliceBounds
    simpa using this
  rw [e]
  apply List.ext_getElem?
  intro i
  by_cases h : i < vs.length
  · have key : ∀ (l : List Nat), (∀ j ∈ l, j < vs.length) → ∀ i : Nat, (l.filterMap (vs[·]?))[i]? = (l[i]?).bind (vs[·]?) := by
      intro l
      induction l with
      | nil => intro _ i; simp
      | cons j l ih =>
        intro hl i
        have hj := hl j (.head _)
        rw [List.filterMap_cons, List.getElem?_eq_getElem hj]
        cases i with
        | zero => simp [hj]
        | succ i => simpa using ih (fun k hk => hl k (.tail _ hk)) i
    rw [key _ (fun j hj => by
      obtain ⟨k, hk, rfl⟩ := List.mem_map.mp hj
      have := List.mem_range.mp hk
      omega), List.getElem?_reverse h]
    simp [h]
  · rw [List.getElem?_eq_none, List.getElem?_eq_none]
    · simp; omega
    · refine Nat.le_trans (List.length_filterMap_le _ _) ?_
      simp; omega
noncomputable def unitOf (x : Int) : Str × Int :=
  (if x.fmod 6 == 0 || x.fmod 6 == 4 then "(" else if x.fmod 6 == 1 || x.fmod 6 == 5 then ")" else if x.fmod 6 == 2 then ((["\"(\"", "\")\"", "\"\\\")\""] : List Str).getD ((x.fdiv 6).fmod 3).toNat "") else ((["\\(", "\\)", "\\\"", "\\\\"] : List Str).getD ((x.fdiv 6).fmod 4).toNat ""), x.fdiv 6 + 1)
noncomputable def unitXs (ns : List Int) : List Int := [12, 25, 7] ++ (ns.take 9).map (fun y => y.fmod 54) ++ [8, 18, 4, 11]
noncomputable def unitsF (ns : List Int) : List (Str × Int) := (unitXs ns).map unitOf
section
variable {G : Gl} {F : Fm} {σ : St}
theorem idx3 (y : Int) : ∃ k : Nat, y.fmod 3 = k ∧ k < 3 := ⟨(y.fmod 3).toNat, by have := Int.fmod_nonneg_of_pos y (b := 3) (by decide); omega, by have := Int.fmod_lt_of_pos y (b := 3) (by decide); have := Int.fmod_nonneg_of_pos y (b := 3) (by decide); omega⟩
theorem idx4 (y : Int) : ∃ k : Nat, y.fmod 4 = k ∧ k < 4 := ⟨(y.fmod 4).toNat, by have := Int.fmod_nonneg_of_pos y (b := 4) (by decide); omega, by have := Int.fmod_lt_of_pos y (b := 4) (by decide); have := Int.fmod_nonneg_of_pos y (b := 4) (by decide); omega⟩
theorem c_units {ns : List Int} {Q : V → St → Prop} (S : Sta G) (R : Rm F.A 1) (hz : ns.length ≤ 1000) (q : Q (.lst ((unitsF ns).map uv)) σ) : Cl G F (.ref (G.ad 28)) [.lst (ns.map .int)] σ Q := by
  have hs : 1000 + 1 ≤ sizeLine := by decide
  refine cl_def (names := ["script"]) S R.room (fun xs hx => ?_) fun L => ?_
  · obtain ⟨x, rfl⟩ := len1 hx; kernel_rfl
  have hA : (fmOf F.A (fdAt G 28) (G.ad 28) L).A.handled = none := R.hh
  refine ex_cons (s_assign (ev_listO (el_nil ⟨by decide, fun a => to_name ?_⟩)))
  refine ex_cons (s_for0 (f := .int) (unitXs ns) (C := fun _ => True) (D := fun g => g = σ.gens)
    (fun pre loc hp => hp = (a, .list ((pre.map unitOf).map uv)) :: σ.hp ∧ loc "units" = some (.v (.ref a))) ?_ ?_ ?_ ?_)
  · refine ev_binop (ev_binop (ev_list (el_cons (ev_int (el_cons (ev_int (el_cons (ev_int (el_nil ⟨by decide, ?_⟩)))))))))
    refine ev_comp (f := .int) (ns.take 9) (fun _ => true) (fun y => .int (y.fmod 54)) [] (C := fun _ => True) (D := fun g => g = σ.gens) ?_ (fun p hp => by cases hp) (by simp; omega)
    refine ev_sub sub_list (ev_local rfl (ev_slice (ev_part (o := none) (ev_part (ev_int ⟨9, rfl, ev_part (o := none) ⟨ty_lst, gi_slice (by simp) ?_ (by simp; omega)⟩⟩)))))
    rw [show (9 : Int) = ((9 : Nat) : Int) from rfl, slice_to, ← List.map_take]
    refine ⟨_, it_lst hA, fun _ _ => trivial, ?_, ?_⟩
    · intro C y hy e gens
      refine to_name (ts_nil ⟨rfl, (fun h => by cases h), fun _ => ?_⟩)
      exact ev_binop (ev_local rfl (ev_int (op_mod ⟨rfl, rfl, rfl⟩ (by decide) hA)))
    · intro gens' hg
      subst hg
      have ef : (ns.take 9).filter (fun _ => true) = ns.take 9 := by simp
      rw [ef]
      refine op_addl ?_ (by simp; omega)
      refine ev_list (el_cons (ev_int (el_cons (ev_int (el_cons (ev_int (el_cons (ev_int (el_nil ⟨by decide, ?_⟩)))))))))
      refine op_addl ?_ (by simp; omega)
      have e : [V.int 12, .int 25, .int 7] ++ (ns.take 9).map (fun y => V.int (y.fmod 54)) ++ [.int 8, .int 18, .int 4, .int 11] = (unitXs ns).map V.int := by
        unfold unitXs
        simp [Function.comp_def]
      rw [e]
      exact ⟨_, it_lst hA, rfl, rfl⟩
  · intros; trivial
  · intro pre x post e loc hp ⟨e0, e1⟩ e' gens _
    subst e0
    have hlz : ((pre.map unitOf).map uv).length ≤ sizeLine := by
      have h2 := congrArg List.length e
      unfold unitXs at h2
      simp at h2
      simp; omega
    refine to_name (ex_cons (s_assign (ev_binop (ev_local rfl (ev_int (op_mod (to_name ?_) (by decide) hA))))))
    refine ex_cons (s_assign (ev_binop (ev_local rfl (ev_int (op_div (to_name ?_) (by decide) rfl)))))
    refine ex_mid (fun σ' => ∃ loc', σ' = ⟨loc', ((a, AO.list ((pre.map unitOf).map uv)) :: σ.hp) ++ e', gens⟩ ∧ loc' "shown" = some (.str (unitOf x).1) ∧ loc' "sixth" = some (.int (x.fdiv 6)) ∧ loc' "units" = some (.v (.ref a))) ?_ ?_
    · show S1 G _ _ (⟨upd (upd (upd loc "x" (.int x)) "kind" (.int (x.fmod 6))) "sixth" (.int (x.fdiv 6)), ((a, AO.list ((pre.map unitOf).map uv)) :: σ.hp) ++ e', gens⟩ : St) _
      generalize hl₀ : upd (upd (upd loc "x" (.int x)) "kind" (.int (x.fmod 6))) "sixth" (.int (x.fdiv 6)) = loc₀
      have g1 : loc₀ "kind" = some (.int (x.fmod 6)) := by rw [← hl₀]; rfl
      have g2 : loc₀ "sixth" = some (.int (x.fdiv 6)) := by rw [← hl₀]; rfl
      have g3 : loc₀ "units" = some (.v (.ref a)) := by rw [← hl₀]; exact e1
      have tor : ∀ (c d : Int) (k1 k2 : Nat) (p1 p2 p3 p4 p5 p6 p7 : Pos), Tr G (fmOf F.A (fdAt G 28) (G.ad 28) L) (.BoolOp .Or [.Compare (.Name "kind" p1) [.Eq] [.Constant (.int c) k1 p2] p3, .Compare (.Name "kind" p4) [.Eq] [.Constant (.int d) k2 p5] p6] p7)
          ⟨loc₀, ((a, AO.list ((pre.map unitOf).map uv)) :: σ.hp) ++ e', gens⟩ (fun b σ' => b = (x.fmod 6 == c || x.fmod 6 == d) ∧ σ' = ⟨loc₀, ((a, AO.list ((pre.map unitOf).map uv)) :: σ.hp) ++ e', gens⟩) := fun c d k1 k2 p1 p2 p3 p4 p5 p6 p7 => by
        refine tr_bool (tr_or_cons (tr_compare (ev_local g1 (ev_int (op_eqi (tt_bool ⟨fun h => ?_, fun h => ⟨by rw [h]; rfl, rfl⟩⟩))))))
        exact tr_or_cons (tr_compare (ev_local g1 (ev_int (op_eqi (tt_bool ⟨fun h2 => tr_or_nil ⟨by rw [h, h2]; rfl, rfl⟩, fun h2 => ⟨by rw [h, h2]; rfl, rfl⟩⟩)))))
      have fin : ∀ t : Str, (unitOf x).1 = t → ∃ loc', (⟨upd loc₀ "shown" (.str t), ((a, AO.list ((pre.map unitOf).map uv)) :: σ.hp) ++ e', gens⟩ : St) = ⟨loc', ((a, AO.list ((pre.map unitOf).map uv)) :: σ.hp) ++ e', gens⟩ ∧ loc' "shown" = some (.str (unitOf x).1) ∧ loc' "sixth" = some (.int (x.fdiv 6)) ∧ loc' "units" = some (.v (.ref a)) :=
        fun t ht => ⟨_, rfl, by rw [ht]; rfl, g2, g3⟩
      refine s_ifB _ (tor _ _ _ _ _ _ _ _ _ _ _) (fun h0 => ?_) (fun h0 => ?_)
      · exact ex_cons (s_assign (ev_str (to_name (ex_nil ⟨rfl, fin _ (by unfold unitOf; rw [if_pos h0])⟩))))
      · refine ex_cons (s_ifB _ (tor _ _ _ _ _ _ _ _ _ _ _) (fun h1 => ?_) (fun h1 => ?_))
        · exact ex_cons (s_assign (ev_str (to_name (ex_nil (ex_nil ⟨rfl, fin _ (by unfold unitOf; rw [if_neg (by rw [h0]; exact Bool.false_ne_true), if_pos h1])⟩)))))
        · refine ex_cons (s_ifB (x.fmod 6 == 2) (tr_compare (ev_local g1 (ev_int (op_eqi (tt_bool ⟨rfl, rfl⟩))))) (fun h2 => ?_) (fun h2 => ?_))
          · obtain ⟨k, hk, hk3⟩ := idx3 (x.fdiv 6)
            refine ex_cons (s_assign (ev_sub sub_list (ev_list (el_cons (ev_str (el_cons (ev_str (el_cons (ev_str (el_nil ⟨by decide, ?_⟩)))))))))) 
            refine ev_binop (ev_local g2 (ev_int (op_mod ⟨ty_lst, ?_⟩ (by decide) hA)))
            rw [hk]
            have hv : ∃ t : Str, ([.str "\"(\"", .str "\")\"", .str "\"\\\")\""] : List V)[k]? = some (.str t) ∧ (unitOf x).1 = t := by
              have : (unitOf x).1 = (["\"(\"", "\")\"", "\"\\\")\""] : List Str).getD k "" := by
                unfold unitOf; rw [if_neg (by rw [h0]; exact Bool.false_ne_true), if_neg (by rw [h1]; exact Bool.false_ne_true), if_pos h2, hk]; rfl
              rw [this]
              match k, hk3 with
              | 0, _ => exact ⟨_, rfl, rfl⟩
              | 1, _ => exact ⟨_, rfl, rfl⟩
              | 2, _ => exact ⟨_, rfl, rfl⟩
            obtain ⟨t, ht, hu⟩ := hv
            exact gi_lst (by omega) (by rw [Int.toNat_natCast]; exact ht) (to_name (ex_nil (ex_nil (ex_nil ⟨rfl, fin _ hu⟩)))) (by decide)
          · obtain ⟨k, hk, hk3⟩ := idx4 (x.fdiv 6)
            refine ex_cons (s_assign (ev_sub sub_list (ev_list (el_cons (ev_str (el_cons (ev_str (el_cons (ev_str (el_cons (ev_str (el_nil ⟨by decide, ?_⟩))))))))))))
            refine ev_binop (ev_local g2 (ev_int (op_mod ⟨ty_lst, ?_⟩ (by decide) hA)))
            rw [hk]
            have hv : ∃ t : Str, ([.str "\\(", .str "\\)", .str "\\\"", .str "\\\\"] : List V)[k]? = some (.str t) ∧ (unitOf x).1 = t := by
              have : (unitOf x).1 = (["\\(", "\\)", "\\\"", "\\\\"] : List Str).getD k "" := by
                unfold unitOf; rw [if_neg (by rw [h0]; exact Bool.false_ne_true), if_neg (by rw [h1]; exact Bool.false_ne_true), if_neg (by rw [h2]; exact Bool.false_ne_true), hk]; rfl
              rw [this]
              match k, hk3 with
              | 0, _ => exact ⟨_, rfl, rfl⟩
              | 1, _ => exact ⟨_, rfl, rfl⟩
              | 2, _ => exact ⟨_, rfl, rfl⟩
              | 3, _ => exact ⟨_, rfl, rfl⟩
            obtain ⟨t, ht, hu⟩ := hv
            exact gi_lst (by omega) (by rw [Int.toNat_natCast]; exact ht) (to_name (ex_nil (ex_nil (ex_nil ⟨rfl, fin _ hu⟩)))) (by decide)
    · rintro _ ⟨loc', rfl, f1, f2, f3⟩
      refine ex_cons (s_expr (ev_meth meth_append (ev_local f3 ⟨ty_list (i := 0) rfl, el_cons (ev_tuple (el_cons (ev_local f1 (el_cons (ev_binop (ev_local f2 (ev_int (op_add (el_nil ⟨by show 2 ≤ sizeLine; decide, ?_⟩))))))))) ⟩)))
      refine el_nil (cl_append (i := 0) rfl (ex_nil ?_) hlz)
      refine ⟨loc', (a, AO.list (((pre ++ [x]).map unitOf).map uv)) :: σ.hp, ?_, rfl, f3⟩
      rw [List.map_append, List.map_append]
      rfl
  · intro loc hp gens hd ⟨e0, e1⟩
    subst e0 hd
    refine Ok.freezeL (loc' := upd loc "units" (.lst (((unitXs ns).map unitOf).map uv))) (Froz.upd e1) ?_
    refine ex_cons (s_ret (ev_local rfl ?_))
    exact q
end
end Mine
end
section
open PySem PySem.Spec PySem.Calls PyProof.Rows PySem.W
set_option Elab.async false
set_option pp.deepTerms false
set_option pp.deepTerms.threshold 8
set_option maxRecDepth 100000
set_option linter.unusedVariables false
namespace Mine
noncomputable def wayOf : Nat → Str
  | 0 => "."
  | n + 1 => Txt.join "/" (List.replicate (n + 1) "in")
/-- what join and normpath want of a text -/
noncomputable def normOk (x y : Str) : Bool := decide (x.length ≤ 1000) && decide (1 ≤ x.length) && (cut x 0 1 != "/") && decide ((Txt.split x "/").length ≤ 1000) && (Txt.split x "/").all (fun c => decide (c.length ≤ 1000)) &&
  JoinOk "/" ((Txt.split x "/").foldl nstep []) && decide ((Txt.join "/" ((Txt.split x "/").foldl nstep [])).length ≤ 1000) && (normF x == y)
noncomputable def baseOk (x y : Str) : Bool := decide (x.length ≤ 1000) && decide (0 ≤ Txt.rfind x "/" + 1) && decide ((Txt.rfind x "/" + 1).toNat ≤ x.length) && (cut x (Txt.rfind x "/" + 1).toNat x.length == y)
noncomputable def wayOk (d : Nat) : Bool := decide ((wayOf d).length ≤ 900) && normOk (joinF (wayOf d) "in") (wayOf (d + 1)) && normOk (joinF (wayOf d) "..") (if d = 0 then ".." else wayOf (d - 1)) &&
  baseOk (if d = 0 then ".." else wayOf (d - 1)) (if d = 0 then ".." else if d = 1 then "." else "in")
/-- texts with a bar between them, as signs -/
noncomputable def bars : List (List Nat) → List Nat
  | [] => []
  | [a] => a
  | a :: b :: r => a ++ 47 :: bars (b :: r)
theorem bars_first : ∀ (a b x y : List Nat), 47 ∉ a → 47 ∉ b → a ++ 47 :: x = b ++ 47 :: y → a = b ∧ x = y
  | [], [], _, _, _, _, h => ⟨rfl, by cases h; rfl⟩
  | [], c :: b, _, _, _, hb, h => by cases h; exact absurd (.head _) hb
  | c :: a, [], _, _, ha, _, h => by cases h; exact absurd (.head _) ha
  | c :: a, d :: b, x, y, ha, hb, h => by
    have h : c :: (a ++ 47 :: x) = d :: (b ++ 47 :: y) := h
    injection h with h1 h2
    obtain ⟨e1, e2⟩ := bars_first a b x y (fun q => ha (.tail _ q)) (fun q => hb (.tail _ q)) h2
    exact ⟨by rw [h1, e1], e2⟩
theorem bars_one : ∀ (A B : List (List Nat)), A ≠ [] → B ≠ [] → (∀ a ∈ A, 47 ∉ a) → (∀ b ∈ B, 47 ∉ b) → bars A = bars B → A = B
  | [], _, h, _, _, _, _ => absurd rfl h
  | _, [], _, h, _, _, _ => absurd rfl h
  | [a], [b], _, _, _, _, h => by have h : a = b := h; rw [h]
  | [a], b :: c :: r, _, _, ha, _, h => by
    have h : a = b ++ 47 :: bars (c :: r) := h
    exact absurd (by rw [h]; exact List.mem_append_right _ (.head _)) (ha a (.head _))
  | a :: c :: r, [b], _, _, _, hb, h => by
    have h : a ++ 47 :: bars (c :: r) = b := h
    exact absurd (by rw [← h]; exact List.mem_append_right _ (.head _)) (hb b (.head _))
  | a :: c :: r, b :: d :: t, _, _, ha, hb, h => by
    obtain ⟨e1, e2⟩ := bars_first a b _ _ (ha a (.head _)) (hb b (.head _)) h
    rw [e1, bars_one (c :: r) (d :: t) (by simp) (by simp) (fun x hx => ha x (.tail _ hx)) (fun x hx => hb x (.tail _ hx)) e2]
theorem bars_join : ∀ ts : List Str, (Str.join "/" ts).cps.toList = bars (ts.map fun t => t.cps.toList)
  | [] => rfl
  | [_] => rfl
  | x :: y :: r => by
    show ((x.cps ++ #[47]) ++ (Str.join "/" (y :: r)).cps).toList = _
    rw [Array.toList_append, bars_join (y :: r)]
    simp [bars]
theorem split_is {x : Str} {ps : List Str} (h1 : Str.join "/" ps = x) (h2 : ps ≠ []) (h3 : ∀ p ∈ ps, 47 ∉ p.cps.toList) : Txt.split x "/" = ps := by
  have k1 : Str.join "/" (Txt.split x "/") = x := StrLaws.join_split x "/"
  have k2 : ∀ p ∈ Txt.split x "/", 47 ∉ p.cps.toList := StrLaws.split_free x 47
  have k3 : Txt.split x "/" ≠ [] := fun e => by have := split_pos x "/"; rw [e] at this; simp at this
  have e : bars ((Txt.split x "/").map fun t => t.cps.toList) = bars (ps.map fun t => t.cps.toList) := by rw [← bars_join, ← bars_join, k1, h1]
  have q := bars_one _ _ (by simpa using k3) (by simpa using h2) (fun a ha => by obtain ⟨p, hp, rfl⟩ := List.mem_map.mp ha; exact k2 p hp) (fun a ha => by obtain ⟨p, hp, rfl⟩ := List.mem_map.mp ha; exact h3 p hp) e
  exact List.map_inj_right (fun a b e => by cases a; cases b; exact congrArg Str.mk (Array.toList_inj.mp e)) |>.mp q
/-- the same, of the parts at hand -/
noncomputable def normOk2 (x y : Str) (ps : List Str) : Bool := (Txt.join "/" ps == x) && !ps.isEmpty && ps.all (fun p => !(p.cps.toList.contains 47)) && decide (x.length ≤ 1000) && decide (1 ≤ x.length) && (cut x 0 1 != "/") && decide (ps.length ≤ 1000) && ps.all (fun c => decide (c.length ≤ 1000)) &&
  JoinOk "/" (ps.foldl nstep []) && decide ((Txt.join "/" (ps.foldl nstep [])).length ≤ 1000) && ((if (((("" : Str) ++ Txt.join "/" (ps.foldl nstep [])).length : Int) != 0) = true then ("" : Str) ++ Txt.join "/" (ps.foldl nstep []) else ".") == y)
theorem normOk_of {x y : Str} {ps : List Str} (h : normOk2 x y ps = true) : normOk x y = true := by
  unfold normOk2 at h
  simp only [Bool.and_eq_true] at h
  obtain ⟨⟨⟨⟨⟨⟨⟨⟨⟨⟨h1, h2⟩, h3⟩, h4⟩, h5⟩, h6⟩, h7⟩, h8⟩, h9⟩, h10⟩, h11⟩ := h
  have ej : ∀ ts : List Str, Txt.join "/" ts = Str.join "/" ts := fun ts => StrLaws.glued_eq_join "/" ts
  have e : Txt.split x "/" = ps := split_is (by rw [← ej]; exact eq_of_beq h1) (fun q => by rw [q] at h2; cases h2) fun p hp => by
    have := List.all_eq_true.mp h3 p hp
    simpa using this
  unfold normOk normF
  rw [e]
  simp only [Bool.and_eq_true]
  exact ⟨⟨⟨⟨⟨⟨⟨h4, h5⟩, h6⟩, h7⟩, h8⟩, h9⟩, h10⟩, h11⟩
noncomputable def partsAt (d : Nat) (e : Str) : List Str := (if d = 0 then [("." : Str)] else List.replicate d ("in" : Str)) ++ [e]
noncomputable def wayOk2 (d : Nat) : Bool := decide ((wayOf d).length ≤ 900) && normOk2 (joinF (wayOf d) "in") (wayOf (d + 1)) (partsAt d "in") && normOk2 (joinF (wayOf d) "..") (if d = 0 then ".." else wayOf (d - 1)) (partsAt d "..") &&
  baseOk (if d = 0 then ".." else wayOf (d - 1)) (if d = 0 then ".." else if d = 1 then "." else "in")
theorem way_of {d : Nat} (h : wayOk2 d = true) : wayOk d = true := by
  unfold wayOk2 at h
  unfold wayOk
  simp only [Bool.and_eq_true] at h ⊢
  exact ⟨⟨⟨h.1.1.1, normOk_of h.1.1.2⟩, normOk_of h.1.2⟩, h.2⟩
theorem ways : ∀ d, d < 17 → wayOk d = true
  | 0, _ => way_of (by decide +kernel)
  | 1, _ => way_of (by decide +kernel)
  | 2, _ => way_of (by decide +kernel)
  | 3, _ => way_of (by decide +kernel)
  | 4, _ => way_of (by decide +kernel)
  | 5, _ => way_of (by decide +kernel)
  | 6, _ => way_of (by decide +kernel)
  | 7, _ => way_of (by decide +kernel)
  | 8, _ => way_of (by decide +kernel)
  | 9, _ => way_of (by decide +kernel)
  | 10, _ => way_of (by decide +kernel)
  | 11, _ => way_of (by decide +kernel)
  | 12, _ => way_of (by decide +kernel)
  | 13, _ => way_of (by decide +kernel)
  | 14, _ => way_of (by decide +kernel)
  | 15, _ => way_of (by decide +kernel)
  | 16, _ => way_of (by decide +kernel)
  | n + 17, h => absurd h (by omega)
end Mine
end
section
open PySem PySem.Spec PySem.Calls PyProof.Rows PySem.W
set_option Elab.async false
set_option pp.deepTerms false
set_option pp.deepTerms.threshold 8
set_option maxRecDepth 100000
set_option linter.unusedVariables false
namespace Mine
structure ASt where
  cl : List (Int × Int)
  d : Nat
  tk : List Int
  sums : List Int
noncomputable def wsum (bare : List (Str × Int)) (tk : List Int) : Int := (tk.map fun k => (bare.getD k.toNat ("", 0)).2).sum
noncomputable def astep (bare : List (Str × Int)) (st : ASt) (i : Nat) : ASt :=
  let u := bare.getD i ("", 0)
  if u.1 == "(" then ⟨st.cl, st.d + 1, st.tk, st.sums ++ [wsum bare st.tk]⟩
  else
    let h := siftdownF (st.cl ++ [(u.2, (i : Int))]) (u.2, (i : Int)) st.cl.length
    if st.d = 0 then ⟨(heappopF h).2, 0, st.tk ++ [(heappopF h).1.2], st.sums ++ [wsum bare (st.tk ++ [(heappopF h).1.2])]⟩
    else ⟨h, st.d - 1, st.tk, st.sums ++ [wsum bare st.tk]⟩
noncomputable def astate (bare : List (Str × Int)) : Nat → ASt
  | 0 => ⟨[], 0, [], [0]⟩
  | i + 1 => astep bare (astate bare i) i
/-- what stands in the state after i brackets -/
structure AOk (i : Nat) (st : ASt) : Prop where
  cl : st.cl.length ≤ i
  clIn : ∀ p ∈ st.cl, 0 ≤ p.2 ∧ p.2 < i
  d : st.d ≤ i
  tk : ∀ k ∈ st.tk, 0 ≤ k ∧ k < i
  tkl : st.tk.length ≤ i
  sl : st.sums.length = i + 1
noncomputable def aheap (bare : List (Str × Int)) (st : ASt) (i : Nat) : List (Int × Int) := siftdownF (st.cl ++ [((bare.getD i ("", 0)).2, (i : Int))]) ((bare.getD i ("", 0)).2, (i : Int)) st.cl.length
theorem astep_open {bare : List (Str × Int)} {st : ASt} {i : Nat} (h : ((bare.getD i ("", 0)).1 == "(") = true) : astep bare st i = ⟨st.cl, st.d + 1, st.tk, st.sums ++ [wsum bare st.tk]⟩ := if_pos h
theorem astep_low {bare : List (Str × Int)} {st : ASt} {i : Nat} (h : ((bare.getD i ("", 0)).1 == "(") = false) (hd : st.d = 0) : astep bare st i = ⟨(heappopF (aheap bare st i)).2, 0, st.tk ++ [(heappopF (aheap bare st i)).1.2], st.sums ++ [wsum bare (st.tk ++ [(heappopF (aheap bare st i)).1.2])]⟩ :=
  (if_neg (by rw [h]; exact Bool.false_ne_true)).trans (if_pos hd)
theorem astep_close {bare : List (Str × Int)} {st : ASt} {i : Nat} (h : ((bare.getD i ("", 0)).1 == "(") = false) (hd : ¬ st.d = 0) : astep bare st i = ⟨aheap bare st i, st.d - 1, st.tk, st.sums ++ [wsum bare st.tk]⟩ :=
  (if_neg (by rw [h]; exact Bool.false_ne_true)).trans (if_neg hd)
theorem astep_ok {bare : List (Str × Int)} {st : ASt} {i : Nat} (h : AOk i st) : AOk (i + 1) (astep bare st i) := by
  have up : ∀ k : Int, 0 ≤ k ∧ k < i → 0 ≤ k ∧ k < ((i + 1 : Nat) : Int) := fun k ⟨a, b⟩ => ⟨a, by push_cast; omega⟩
  have hp : (aheap bare st i).Perm _ := push_perm st.cl ((bare.getD i ("", 0)).2, (i : Int))
  have hin : ∀ p ∈ aheap bare st i, 0 ≤ p.2 ∧ p.2 < ((i + 1 : Nat) : Int) := fun p hm => by
    rcases List.mem_cons.mp (hp.mem_iff.mp hm) with rfl | hm
    · exact ⟨by show (0 : Int) ≤ (i : Int); omega, by show (i : Int) < ((i + 1 : Nat) : Int); push_cast; omega⟩
    · exact up _ (h.clIn p hm)
  have hlen := hp.length_eq
  simp only [List.length_cons] at hlen
  have hc := h.cl
  have hd' := h.d
  have ht := h.tkl
  cases hb : ((bare.getD i ("", 0)).1 == "(") with
  | true =>
    rw [astep_open hb]
    exact ⟨by show st.cl.length ≤ i + 1; omega, fun p hp => up _ (h.clIn p hp), by show st.d + 1 ≤ i + 1; omega, fun k hk => up _ (h.tk k hk), by show st.tk.length ≤ i + 1; omega, by simp [h.sl]⟩
  | false =>
    by_cases hd : st.d = 0
    · rw [astep_low hb hd]
      have hne : aheap bare st i ≠ [] := fun e => by rw [e] at hlen; simp at hlen
      have hq := pop_perm hne
      have hlq := hq.length_eq
      simp only [List.length_cons] at hlq
      refine ⟨by show (heappopF (aheap bare st i)).2.length ≤ i + 1; omega, fun p hm => hin p (hq.mem_iff.mpr (.tail _ hm)), Nat.zero_le _, fun k hk => ?_, by show (st.tk ++ [_]).length ≤ i + 1; simp; omega, by simp [h.sl]⟩
      rcases List.mem_append.mp hk with hk | hk
      · exact up _ (h.tk k hk)
      · rcases List.mem_cons.mp hk with rfl | hk
        · exact hin _ (hq.mem_iff.mpr (.head _))
        · cases hk
    · rw [astep_close hb hd]
      exact ⟨by show (aheap bare st i).length ≤ i + 1; omega, hin, by show st.d - 1 ≤ i + 1; omega, fun k hk => up _ (h.tk k hk), by show st.tk.length ≤ i + 1; omega, by simp [h.sl]⟩
theorem astate_ok (bare : List (Str × Int)) : ∀ i, AOk i (astate bare i)
  | 0 => ⟨by simp [astate], fun p h => by simp [astate] at h, by simp [astate], fun k h => by simp [astate] at h, by simp [astate], by simp [astate]⟩
  | i + 1 => astep_ok (astate_ok bare i)
section
variable {G : Gl} {F : Fm} {σ : St}
theorem c_norm {x y : Str} {Q : V → St → Prop} (S : Sta G) (R : Rm F.A 3) (h : normOk x y = true) (q : Q (.str y) σ) : Cl G F (.ref (G.ad 26)) [.str x] σ Q := by
  unfold normOk at h
  simp only [Bool.and_eq_true, decide_eq_true_eq, List.all_eq_true] at h
  obtain ⟨⟨⟨⟨⟨⟨⟨h1, h2⟩, h3⟩, h4⟩, h5⟩, h6⟩, h7⟩, h8⟩ := h
  have h8 := eq_of_beq h8
  subst h8
  exact c_normpath S R h1 h2 h3 h4 h5 h6 h7 q
theorem c_base {x y : Str} {Q : V → St → Prop} (S : Sta G) (R : Rm F.A 2) (h : baseOk x y = true) (q : Q (.str y) σ) : Cl G F (.ref (G.ad 25)) [.str x] σ Q := by
  unfold baseOk at h
  simp only [Bool.and_eq_true, decide_eq_true_eq] at h
  obtain ⟨⟨⟨h1, h2⟩, h3⟩, h4⟩ := h
  have h4 := eq_of_beq h4
  subst h4
  exact c_basename S R h1 (by omega) h3 q
theorem range_at {n : Nat} {pre post : List Int} {x : Int} (e : rangeFrom 0 n = pre ++ x :: post) : x = pre.length ∧ pre.length < n := by
  have hl : pre.length < n := by
    have := congrArg List.length e
    rw [rangeFrom_len] at this
    simp at this; omega
  have h1 : (rangeFrom 0 n)[pre.length]? = some x := by rw [e]; simp
  rw [rangeFrom_get hl] at h1
  exact ⟨by simpa using h1.symm, hl⟩
end
end Mine
end
section
open PySem PySem.Spec PySem.Calls PyProof.Rows PySem.W
set_option Elab.async false
set_option pp.deepTerms false
set_option pp.deepTerms.threshold 8
set_option maxRecDepth 100000
set_option linter.unusedVariables false
namespace Mine
structure AlJ (σ : St) (bare : List (Str × Int)) (as at_ ac : Addr) (st : ASt) (loc : Str → Option V) (hp : List (Addr × AO)) : Prop where
  hp : hp = (as, .list (st.sums.map .int)) :: (at_, .list (st.tk.map .int)) :: (ac, .list (st.cl.map pv)) :: σ.hp
  bare : loc "bare" = some (.lst (bare.map uv))
  closers : loc "closers" = some (.v (.ref ac))
  taken : loc "taken" = some (.v (.ref at_))
  sums : loc "sums" = some (.v (.ref as))
  way : loc "way" = some (.str (wayOf st.d))
section
variable {G : Gl} {F : Fm} {σ : St}
theorem hp1 {l : List (Addr × AO)} {p q : Addr × AO} : (p :: q :: l)[1]? = some q := rfl
theorem astep_sums (bare : List (Str × Int)) (st : ASt) (i : Nat) : (astep bare st i).sums = st.sums ++ [wsum bare (astep bare st i).tk] := by
  cases hb : ((bare.getD i ("", 0)).1 == "(") with
  | true => rw [astep_open hb]
  | false =>
    by_cases hd : st.d = 0
    · rw [astep_low hb hd]
    · rw [astep_close hb hd]
theorem c_along {bare : List (Str × Int)} {Q : V → St → Prop} (S : Sta G) (R : Rm F.A 5) (hz : bare.length ≤ 17)
    (q : Q (.tup [.str (wayOf (astate bare bare.length).d), .lst ((astate bare bare.length).tk.map .int), .lst ((astate bare bare.length).sums.map .int)]) σ) : Cl G F (.ref (G.ad 29)) [.lst (bare.map uv)] σ Q := by
  have hs : 1000 + 1 ≤ sizeLine := by decide
  refine cl_def (names := ["bare"]) S R.room (fun xs hx => ?_) fun L => ?_
  · obtain ⟨x, rfl⟩ := len1 hx; kernel_rfl
  have R' : Rm (fmOf F.A (fdAt G 29) (G.ad 29) L).A 4 := R.sub
  refine ex_cons (s_assign (ev_listO (el_nil ⟨by decide, fun ac => to_name ?_⟩)))
  refine ex_cons (s_assign (ev_str (to_name ?_)))
  refine ex_cons (s_assign (ev_listO (el_nil ⟨by decide, fun at_ => to_name ?_⟩)))
  refine ex_cons (s_assign (ev_listO (el_cons (ev_int (el_nil ⟨by decide, fun as => to_name ?_⟩)))))
  refine ex_cons (s_for0 (f := .int) (rangeFrom 0 bare.length) (C := fun _ => True) (D := fun g => g = σ.gens)
    (fun pre loc hp => AlJ σ bare as at_ ac (astate bare pre.length) loc hp) ?_ ?_ ?_ ?_)
  · refine ev_callG (f := .type "range") (S.blt _ _ rfl (by decide) (by kernel_rfl)) .type (el_cons (ev_callG (f := .builtin "len") (S.blt _ _ rfl (by decide) (by kernel_rfl)) .builtin (el_cons (ev_cell (c := L + 1) rfl (el_nil (cl_len_lst (by rw [List.length_map]; exact el_nil (cl_range fun r t u v => ⟨_, it_range R'.hh (by omega), rfl, rfl, rfl, rfl, rfl, rfl⟩)) (by simp; omega)))))))
  · intros; trivial
  · intro pre x post e loc hp ⟨e0, e1, e2, e3, e4, e5⟩ e' gens _
    subst e0
    obtain ⟨rfl, hlt⟩ := range_at e
    generalize hi : pre.length = i at *
    have ok := astate_ok bare i
    generalize hst : astate bare i = st at *
    have keep : astate bare (pre ++ [(i : Int)]).length = astep bare st i := by simp [hi, astate, hst]
    have hbi : bare.getD i ("", 0) = bare[i] := by rw [List.getD_eq_getElem?_getD, List.getElem?_eq_getElem hlt]; rfl
    have hcl := ok.cl
    have htl := ok.tkl
    have hsl := ok.sl
    have hd := ok.d
    have hw := ways st.d (by omega)
    unfold wayOk at hw
    simp only [Bool.and_eq_true, decide_eq_true_eq] at hw
    obtain ⟨⟨⟨w1, w2⟩, w3⟩, w4⟩ := hw
    have wl2 : (("in" : Str)).length = 2 := rfl
    have wl3 : (("..") : Str).length = 2 := rfl
    refine to_name (ex_cons (s_assign (ev_sub sub_list (ev_cell (c := L + 1) e1 (ev_local rfl ⟨ty_lst, gi_lst (v := uv bare[i]) (by omega) ?_ ?_ (by simp; omega)⟩)))))
    · rw [Int.toNat_natCast, List.getElem?_map, List.getElem?_eq_getElem hlt]; rfl
    refine to_tup R'.hh (te_cons (to_name (te_cons (to_name (te_nil ?_)))))
    refine ex_mid (fun σ' => ∃ loc', σ' = ⟨loc', ((as, AO.list (st.sums.map V.int)) :: (at_, AO.list ((astep bare st i).tk.map V.int)) :: (ac, AO.list ((astep bare st i).cl.map pv)) :: σ.hp) ++ e', gens⟩ ∧
      loc' "bare" = some (.lst (bare.map uv)) ∧ loc' "closers" = some (.v (.ref ac)) ∧ loc' "taken" = some (.v (.ref at_)) ∧ loc' "sums" = some (.v (.ref as)) ∧ loc' "way" = some (.str (wayOf (astep bare st i).d))) ?_ ?_
    · refine s_if (tr_compare (ev_local rfl (ev_str (op_eqs (tt_bool ⟨fun hc => ?_, fun hc => ?_⟩)))))
      · have hb : ((bare.getD i ("", 0)).1 == "(") = true := by rw [hbi]; exact hc
        refine ex_cons (s_assign (ev_callG (f := .ref (G.ad 26)) (S.glob _ _ rfl) S.callee (el_cons (ev_callG (f := .ref (G.ad 23)) (S.glob _ _ rfl) S.callee (el_cons (ev_local e5 (el_cons (ev_str (el_nil (c_join S (R'.less (by omega)) (by omega) (el_nil (c_norm S (R'.less (by omega)) w2 (to_name (ex_nil ?_))))))))))))))
        rw [astep_open hb]
        exact ⟨rfl, _, rfl, e1, e2, e3, e4, rfl⟩
      · have hb : ((bare.getD i ("", 0)).1 == "(") = false := by rw [hbi]; exact hc
        refine ex_cons (s_expr (ev_callG (f := .ref (G.ad 6)) (S.glob _ _ rfl) S.callee (el_cons (ev_local e2 (el_cons (ev_tuple (el_cons (ev_local rfl (el_cons (ev_local rfl (el_nil ⟨by show 2 ≤ sizeLine; decide, el_nil ?_⟩)))))))))))
        refine c_heappush (i := 2) (h := st.cl) (new := (bare[i].2, (i : Int))) S (R'.less (by omega)) rfl (by omega) ?_
        have eh : siftdownF (st.cl ++ [(bare[i].2, (i : Int))]) (bare[i].2, (i : Int)) st.cl.length = aheap bare st i := by unfold aheap; rw [hbi]
        rw [eh]
        have hpl : (aheap bare st i).length = st.cl.length + 1 := by
          have := (push_perm st.cl ((bare.getD i ("", 0)).2, (i : Int))).length_eq
          rw [List.length_cons] at this
          exact this
        refine ex_cons (s_assign (ev_callG (f := .ref (G.ad 26)) (S.glob _ _ rfl) S.callee (el_cons (ev_callG (f := .ref (G.ad 23)) (S.glob _ _ rfl) S.callee (el_cons (ev_local e5 (el_cons (ev_str (el_nil (c_join S (R'.less (by omega)) (by omega) (el_nil (c_norm S (R'.less (by omega)) w3 (to_name ?_)))))))))))))
        refine ex_cons (s_if (tr_compare (ev_callG (f := .ref (G.ad 25)) (S.glob _ _ rfl) S.callee (el_cons (ev_local rfl (el_nil (c_base S (R'.less (by omega)) w4 (ev_str (op_eqs (tt_bool ⟨fun h0 => ?_, fun h0 => ?_⟩))))))))))
        · have hd0 : st.d = 0 := by
            by_cases z : st.d = 0
            · exact z
            · rw [if_neg z] at h0
              split at h0 <;> exact absurd h0 (by decide)
          rw [astep_low hb hd0]
          have hne : aheap bare st i ≠ [] := fun z => by rw [z] at hpl; simp at hpl
          refine ex_cons (s_expr (ev_meth meth_append (ev_local e3 ⟨ty_list (i := 1) rfl, el_cons (ev_sub (T := "tuple") PySem.F.slot_tuple_getitem.lookup (ev_callG (f := .ref (G.ad 7)) (S.glob _ _ rfl) S.callee (el_cons (ev_local e2 (el_nil
            (c_heappop (i := 2) S (R'.less (by omega)) rfl hne (by omega) (ev_int ⟨ty_tup, gi_tup (v := .int (heappopF (aheap bare st i)).1.2) (by decide) rfl (el_nil (cl_append (i := 1) rfl ?_ (by simp; omega))) (by show 2 ≤ sizeLine; decide)⟩))))))) ⟩)))
          refine ex_cons (s_assign (ev_str (to_name (ex_nil (ex_nil ?_)))))
          refine ⟨rfl, upd (upd (upd (upd (upd loc "place" (.int (i : Nat))) "sign" (.str bare[i].1)) "weight" (.int bare[i].2)) "way" (.str (if st.d = 0 then ".." else wayOf (st.d - 1)))) "way" (.str "."), ?_, e1, e2, e3, e4, rfl⟩
          rw [List.map_append]
          rfl
        · have hd0 : ¬ st.d = 0 := fun z => by rw [if_pos z] at h0; exact absurd h0 (by decide)
          rw [astep_close hb hd0]
          refine ex_nil (ex_nil ⟨rfl, _, rfl, e1, e2, e3, e4, ?_⟩)
          show some (V.str (if st.d = 0 then ".." else wayOf (st.d - 1))) = _
          rw [if_neg hd0]
    · rintro _ ⟨loc', rfl, f1, f2, f3, f4, f5⟩
      have ok' := astep_ok (bare := bare) ok
      generalize hst' : astep bare st i = st' at *
      have hsum : st'.sums = st.sums ++ [wsum bare st'.tk] := by rw [← hst']; exact astep_sums bare st i
      have htk := ok'.tk
      have htl' := ok'.tkl
      refine ex_cons (s_expr (ev_meth meth_append (ev_local f4 ⟨ty_list (i := 0) rfl, el_cons (ev_callG (f := .builtin "sum") (S.blt _ _ rfl (by decide) (by kernel_rfl)) .builtin (el_cons (ev_comp (f := .int) st'.tk (fun _ => true) (fun k => .int (bare.getD k.toNat ("", 0)).2) [("bare", L + 1)] (C := fun hp => (at_, AO.list (st'.tk.map V.int)) ∈ hp) (D := fun g => g = gens)
        (ev_local f3 ⟨_, it_list (i := 1) R'.hh rfl, fun _ _ => .tail _ (.tail _ (.head _)), ?_, ?_⟩) ?_ (by omega))))⟩)))
      · intro C k hk e2' gens2
        obtain ⟨k0, k1⟩ := htk k hk
        have hkl : k.toNat < bare.length := by omega
        refine to_name (ts_nil ⟨rfl, (fun h => by cases h), fun _ => ?_⟩)
        refine ev_sub (T := "tuple") PySem.F.slot_tuple_getitem.lookup (ev_sub sub_list (ev_cell (c := L + 1) f1 (ev_local rfl ⟨ty_lst, gi_lst (v := uv bare[k.toNat]) k0 ?_ (ev_int ⟨ty_tup, gi_tup (v := .int bare[k.toNat].2) (by decide) rfl ⟨?_, rfl, rfl⟩ (by show 2 ≤ sizeLine; decide)⟩) (by simp; omega)⟩)))
        · rw [List.getElem?_map, List.getElem?_eq_getElem hkl]; rfl
        · show V.int bare[k.toNat].2 = V.int (bare.getD k.toNat ("", 0)).2
          rw [List.getD_eq_getElem?_getD, List.getElem?_eq_getElem hkl]; rfl
      · intro gens' hg
        subst hg
        have ef : (st'.tk.filter fun _ => true) = st'.tk := by simp
        rw [ef]
        have em : st'.tk.map (fun k => V.int (bare.getD k.toNat ("", 0)).2) = (st'.tk.map fun k => (bare.getD k.toNat ("", 0)).2).map V.int := by simp [Function.comp_def]
        rw [em]
        refine el_nil (cl_sum R'.hh (el_nil (cl_append (i := 0) rfl (ex_nil ?_) (by simp; omega))))
        refine ⟨loc', (as, AO.list (st'.sums.map V.int)) :: (at_, AO.list (st'.tk.map V.int)) :: (ac, AO.list (st'.cl.map pv)) :: σ.hp, ?_, ?_⟩
        · rw [hsum, List.map_append]; rfl
        · show AlJ σ bare as at_ ac (astate bare (pre ++ [(i : Int)]).length) loc' _
          rw [keep]
          exact ⟨rfl, f1, f2, f3, f4, f5⟩
      · intro p hp
        rcases List.mem_cons.mp hp with rfl | hp
        · exact ⟨rfl, (by intro z; cases z), (by intro z; cases z)⟩
        · cases hp
  · intro loc hp gens hd ⟨e0, e1, e2, e3, e4, e5⟩
    subst e0 hd
    have hlr : (rangeFrom 0 bare.length).length = bare.length := rangeFrom_len
    rw [hlr] at e5 ⊢
    refine Ok.freezeL (loc' := upd loc "sums" (.lst ((astate bare bare.length).sums.map .int))) (Froz.upd e4) ?_
    refine Ok.freezeL (loc' := upd (upd loc "sums" (.lst ((astate bare bare.length).sums.map .int))) "taken" (.lst ((astate bare bare.length).tk.map .int))) (Froz.upd e3) ?_
    refine Ok.forget σ.hp ?_ (List.sublist_cons_self _ _)
    refine ex_cons (s_ret (ev_tuple (el_cons (ev_local e5 (el_cons (ev_local rfl (el_cons (ev_local rfl (el_nil ⟨by show 3 ≤ sizeLine; decide, ?_⟩)))))))))
    exact q
end
end Mine
end
section
open PySem PySem.Spec PySem.Calls PyProof.Rows PySem.W
set_option Elab.async false
set_option pp.deepTerms false
set_option pp.deepTerms.threshold 8
set_option maxRecDepth 100000
set_option linter.unusedVariables false
namespace Mine
noncomputable def lands (s : Str) (d : Int) : Int := if s == "(" then d + 1 else d - 1
noncomputable def bin (kvs : List (Int × Int)) (u : Str × Int) (lo : List (Int × Int)) (d : Int) : List (Int × Int) :=
  if lands u.1 d ≥ 0 then dstore lo (lands u.1 d) (max ((dlook lo (lands u.1 d)).getD 0) ((dlook kvs d).getD 0 + u.2)) else lo
noncomputable def bnext (kvs : List (Int × Int)) (u : Str × Int) : List (Int × Int) := (kvs.map (·.1)).foldl (bin kvs u) kvs
noncomputable def dmax (kvs : List (Int × Int)) : Int := match kvs.map fun p => (dlook kvs p.1).getD 0 with
  | [] => 0
  | m :: ns => maxOf m ns
noncomputable def bfold (us : List (Str × Int)) : List (Int × Int) × List Int := us.foldl (fun st u => (bnext st.1 u, st.2 ++ [dmax (bnext st.1 u)])) ([(0, 0)], [0])
theorem dstore_len (kvs : List (Int × Int)) (k v : Int) : (dstore kvs k v).length ≤ kvs.length + 1 ∧ kvs.length ≤ (dstore kvs k v).length := by
  unfold dstore
  split
  · simp
  · simp
theorem bin_len (kvs : List (Int × Int)) (u : Str × Int) (lo : List (Int × Int)) (d : Int) : (bin kvs u lo d).length ≤ lo.length + 1 ∧ lo.length ≤ (bin kvs u lo d).length := by
  unfold bin
  split
  · exact dstore_len _ _ _
  · simp
theorem dlook_map {kvs : List (Int × Int)} {k v : Int} {p : Int × Int} (hm : p ∈ kvs) : ∃ w, dlook kvs p.1 = some w := by
  unfold dlook
  cases h : kvs.find? fun q => q.1 = p.1 with
  | some q => exact ⟨q.2, rfl⟩
  | none =>
    have := List.find?_eq_none.mp h p hm
    simp at this
theorem bfoldin_len (kvs : List (Int × Int)) (u : Str × Int) : ∀ (ds : List Int) (lo : List (Int × Int)), (ds.foldl (bin kvs u) lo).length ≤ lo.length + ds.length ∧ lo.length ≤ (ds.foldl (bin kvs u) lo).length
  | [], lo => ⟨Nat.le_refl _, Nat.le_refl _⟩
  | d :: ds, lo => by
    have h1 := bfoldin_len kvs u ds (bin kvs u lo d)
    have h2 := bin_len kvs u lo d
    simp only [List.foldl_cons, List.length_cons]
    omega
theorem bnext_len (kvs : List (Int × Int)) (u : Str × Int) : (bnext kvs u).length ≤ 2 * kvs.length ∧ kvs.length ≤ (bnext kvs u).length := by
  have := bfoldin_len kvs u (kvs.map (·.1)) kvs
  simp at this
  unfold bnext
  omega
theorem bfold_snoc (us : List (Str × Int)) (u : Str × Int) : bfold (us ++ [u]) = (bnext (bfold us).1 u, (bfold us).2 ++ [dmax (bnext (bfold us).1 u)]) := by
  unfold bfold; rw [List.foldl_append]; rfl
theorem bfold_len : ∀ (n : Nat) (us : List (Str × Int)), us.length = n → (bfold us).1.length ≤ 2 ^ n ∧ 1 ≤ (bfold us).1.length ∧ (bfold us).2.length = n + 1
  | 0, us, h => by
    have : us = [] := List.eq_nil_of_length_eq_zero h
    subst this; simp [bfold]
  | n + 1, us, h => by
    obtain ⟨b, l, rfl⟩ : ∃ b l, us = b ++ [l] := (List.eq_nil_or_concat us).elim (fun e => by rw [e] at h; simp at h) fun ⟨b, l, e⟩ => ⟨b, l, by simpa using e⟩
    have ih := bfold_len n b (by simpa using h)
    have hb := bnext_len (bfold b).1 l
    rw [bfold_snoc]
    refine ⟨by show (bnext (bfold b).1 l).length ≤ _; rw [Nat.pow_succ]; omega, by show 1 ≤ (bnext (bfold b).1 l).length; omega, by simp [ih.2.2]⟩
end Mine
end
section
open PySem PySem.Spec PySem.Calls PyProof.Rows PySem.W
set_option Elab.async false
set_option pp.deepTerms false
set_option pp.deepTerms.threshold 8
set_option maxRecDepth 100000
set_option linter.unusedVariables false
namespace Mine
theorem meth_get : MethOk "dict" "get" "dict.get" := ⟨PySem.F.plainAttrs_dict, PySem.F.slot_dict_get, by with_unfolding_all rfl⟩
structure BiJ (h0 : List (Addr × AO)) (kvs lo : List (Int × Int)) (al af : Addr) (t : Str) (w : Int) (loc : Str → Option V) (hp : List (Addr × AO)) : Prop where
  hp : hp = (al, .dict lo) :: h0
  best : loc "best" = some (.dct kvs)
  fronts : loc "fronts" = some (.v (.ref af))
  longer : loc "longer" = some (.v (.ref al))
  sign : loc "sign" = some (.str t)
  weight : loc "weight" = some (.int w)
section
variable {G : Gl} {F : Fm} {σ : St}
theorem c_best {us : List (Str × Int)} {m : Int} {Q : V → St → Prop} (S : Sta G) (R : Rm F.A 1) (hz : us.length ≤ 17) (hm : dlook (bfold us).1 0 = some m) (q : Q (.tup [.lst ((bfold us).2.map .int), .int m]) σ) : Cl G F (.ref (G.ad 30)) [.lst (us.map uv)] σ Q := by
  have hs : 2 ^ 17 + 1000 ≤ sizeLine := by decide
  refine cl_def (names := ["bare"]) S R.room (fun xs hx => ?_) fun L => ?_
  · obtain ⟨x, rfl⟩ := len1 hx; kernel_rfl
  have hA : (fmOf F.A (fdAt G 30) (G.ad 30) L).A.handled = none := R.hh
  have own : L + 1 ∈ (fmOf F.A (fdAt G 30) (G.ad 30) L).own := .tail _ (.head _)
  have mods : ∃ o, G.base sysModules = some o := let ⟨o, h, _⟩ := S.mods; ⟨o, h⟩
  refine ex_cons (s_assign (ev_dict1 (k2 := 0) fun a => to_cell (c := L + 1) ?_ own))
  refine Ok.freezeD (by simp) (Froz.upd (x := "best") rfl) ?_
  refine ex_cons (s_assign (ev_listO (el_cons (ev_int (el_nil ⟨by decide, fun af => to_name ?_⟩)))))
  refine ex_cons (s_for0 (f := uv) us (C := fun _ => True) (D := fun g => g = σ.gens)
    (fun pre loc hp => hp = (af, .list ((bfold pre).2.map .int)) :: σ.hp ∧ loc "best" = some (.dct (bfold pre).1) ∧ loc "fronts" = some (.v (.ref af))) ?_ ?_ ?_ ?_)
  · exact ev_local rfl ⟨_, it_lst hA, rfl, rfl, rfl⟩
  · intros; trivial
  · intro pre u post e loc hp ⟨e0, e1, e2⟩ e' gens _
    subst e0
    have hpl : pre.length ≤ 16 := by
      have := congrArg List.length e
      simp at this; omega
    obtain ⟨l1, l2, l3⟩ := bfold_len pre.length pre rfl
    have lp : 2 ^ pre.length ≤ 2 ^ 16 := Nat.pow_le_pow_right (by decide) hpl
    generalize hkv : (bfold pre).1 = kvs at *
    generalize hfr : (bfold pre).2 = fr at *
    have hne : kvs ≠ [] := fun z => by rw [z] at l2; simp at l2
    have keep : bfold (pre ++ [u]) = (bnext kvs u, fr ++ [dmax (bnext kvs u)]) := by rw [bfold_snoc, hkv, hfr]
    obtain ⟨t, w⟩ := u
    refine to_tup hA (te_cons (to_name (te_cons (to_name (te_nil ?_)))))
    refine ex_cons (s_assign (ev_callG (f := .type "dict") (S.blt _ _ rfl (by decide) (by kernel_rfl)) .type (el_cons (ev_cell (c := L + 1) e1 (el_nil (cl_dict S.mods (fun al => to_name ?_) (by omega)))))))
    refine ex_cons (s_for0 (f := fun p : Int × Int => .int p.1) kvs (C := fun _ => True) (D := fun g => g = gens)
      (fun pre2 loc hp => BiJ ((af, AO.list (fr.map V.int)) :: σ.hp ++ e') kvs ((pre2.map (·.1)).foldl (bin kvs (t, w)) kvs) al af t w loc hp) ?_ ?_ ?_ ?_)
    · exact ev_cell (c := L + 1) e1 ⟨_, it_dct hA S.mods hne, rfl, e1, e2, rfl, rfl, rfl⟩
    · intros; trivial
    · intro pre2 p post2 e3 loc2 hp2 ⟨f0, f1, f2, f3, f4, f5⟩ e'' gens2 _
      subst f0
      have hpm : p ∈ kvs := by rw [e3]; simp
      obtain ⟨v, hv⟩ := dlook_map (k := 0) (v := 0) hpm
      have hll := bfoldin_len kvs (t, w) (pre2.map (·.1)) kvs
      have hpl2 : pre2.length ≤ kvs.length := by have := congrArg List.length e3; simp at this; omega
      simp at hll
      generalize hlo : (pre2.map (·.1)).foldl (bin kvs (t, w)) kvs = lo at *
      have keep2 : ((pre2 ++ [p]).map (·.1)).foldl (bin kvs (t, w)) kvs = bin kvs (t, w) lo p.1 := by rw [List.map_append, List.foldl_append, hlo]; rfl
      refine to_name (ex_mid (fun σ' => σ' = ⟨upd (upd loc2 "depth" (.int p.1)) "lands" (.int (lands t p.1)), ((al, AO.dict lo) :: ((af, AO.list (fr.map V.int)) :: σ.hp ++ e')) ++ e'', gens2⟩) ?_ ?_)
      · refine s_assign (ev_ifexp (tr_compare (ev_local f4 (ev_str (op_eqs (tt_bool ⟨fun hc => ev_binop (ev_local rfl (ev_int (op_add (to_name ⟨rfl, ?_⟩)))), fun hc => ev_binop (ev_local rfl (ev_int (op_sub (to_name ⟨rfl, ?_⟩))))⟩))))))
        · have hc : (t == "(") = true := hc
          unfold lands; rw [hc, if_pos rfl]; try rfl
        · have hc : (t == "(") = false := hc
          unfold lands; rw [hc, if_neg Bool.false_ne_true]; try rfl
      · rintro _ rfl
        refine ex_cons (s_if (tr_compare (ev_local rfl (ev_int (op_gei (tt_bool ⟨fun hq => ?_, fun hq => ex_nil (ex_nil ?_)⟩))))))
        · have hq : lands t p.1 ≥ 0 := by simpa using hq
          refine ex_cons (s_assign (ev_callG (f := .builtin "max") (S.blt _ _ rfl (by decide) (by kernel_rfl)) .builtin (el_cons (ev_meth meth_get (ev_local f3 ⟨ty_dict (i := 0) rfl, el_cons (ev_local rfl (el_cons (ev_int (el_nil (cl_get2 (i := 0) mods rfl
            (el_cons (ev_binop (ev_sub (T := "dict") PySem.F.slot_dict_getitem.lookup (ev_cell (c := L + 1) f1 (ev_local rfl ⟨ty_dct, gi_dct hv (ev_local f5 (op_add (el_nil (cl_max2 hA ?_))))⟩))))))))))⟩)))))
          refine to_sub (ev_local f3 (ev_local rfl (set_dict (i := 0) rfl (ex_nil (ex_nil ?_)) (by omega))))
          refine ⟨upd (upd loc2 "depth" (.int p.1)) "lands" (.int (lands t p.1)), (al, AO.dict (dstore lo (lands t p.1) (max ((dlook lo (lands t p.1)).getD 0) (v + w)))) :: ((af, AO.list (fr.map V.int)) :: σ.hp ++ e'), rfl, ?_, f1, f2, f3, f4, f5⟩
          rw [keep2]
          unfold bin
          rw [if_pos hq, hv]
          rfl
        · have hq : ¬ lands t p.1 ≥ 0 := by simpa using hq
          refine ⟨upd (upd loc2 "depth" (.int p.1)) "lands" (.int (lands t p.1)), (al, AO.dict lo) :: ((af, AO.list (fr.map V.int)) :: σ.hp ++ e'), rfl, ?_, f1, f2, f3, f4, f5⟩
          rw [keep2]
          unfold bin
          rw [if_neg hq]
    · intro loc2 hp2 gens2 hd ⟨f0, f1, f2, f3, f4, f5⟩
      subst f0 hd
      have eb : (kvs.map (·.1)).foldl (bin kvs (t, w)) kvs = bnext kvs (t, w) := rfl
      rw [eb]
      have hbl := bnext_len kvs (t, w)
      generalize hk2 : bnext kvs (t, w) = kv2 at *
      have hne2 : kv2 ≠ [] := fun z => by
        have h0 : kvs.length ≤ 0 := by have := hbl.2; rw [z] at this; exact this
        omega
      refine ex_cons (s_assign (ev_local f3 (to_cell (c := L + 1) ?_ own)))
      refine Ok.freezeD hne2 (Froz.upd (x := "best") rfl) ?_
      obtain ⟨m0, ns0, hmn⟩ : ∃ m0 ns0, kv2.map (fun p => (dlook kv2 p.1).getD 0) = m0 :: ns0 := by
        cases kv2 with
        | nil => exact absurd rfl hne2
        | cons a b => exact ⟨_, _, rfl⟩
      have hdm : dmax kv2 = maxOf m0 ns0 := by unfold dmax; rw [hmn]
      refine ex_cons (s_expr (ev_meth meth_append (ev_local f2 ⟨ty_list (i := 0) rfl, el_cons (ev_callG (f := .builtin "max") (S.blt _ _ rfl (by decide) (by kernel_rfl)) .builtin (el_cons (ev_comp (f := fun p : Int × Int => .int p.1) kv2 (fun _ => true) (fun p => .int ((dlook kv2 p.1).getD 0)) [("best", L + 1)] (C := fun _ => True) (D := fun g => g = gens2)
        (ev_cell (c := L + 1) rfl ⟨_, it_dct hA S.mods hne2, fun _ _ => trivial, ?_, ?_⟩) ?_ (by omega))))⟩)))
      · intro C p hp e2' gens2'
        obtain ⟨v, hv⟩ := dlook_map (k := 0) (v := 0) hp
        refine to_name (ts_nil ⟨rfl, (fun h => by cases h), fun _ => ?_⟩)
        refine ev_sub (T := "dict") PySem.F.slot_dict_getitem.lookup (ev_cell (c := L + 1) rfl (ev_local rfl ⟨ty_dct, gi_dct hv ⟨?_, rfl, rfl⟩⟩))
        show V.int v = V.int ((dlook kv2 p.1).getD 0)
        rw [hv]; rfl
      · intro gens' hg
        subst hg
        have ef : (kv2.filter fun _ => true) = kv2 := by simp
        rw [ef]
        have em : kv2.map (fun p => V.int ((dlook kv2 p.1).getD 0)) = (m0 :: ns0).map V.int := by rw [← hmn]; simp [Function.comp_def]
        rw [em]
        refine el_nil (cl_maxl hA (el_nil (cl_append (i := 0) rfl (ex_nil ?_) (by simp; omega))))
        refine ⟨upd (upd loc2 "best" (.v (.ref al))) "best" (.dct kv2), (af, AO.list ((fr ++ [dmax kv2]).map V.int)) :: σ.hp, ?_, ?_, ?_, f2⟩
        · rw [hdm, List.map_append]; rfl
        · rw [keep]
        · rw [keep]; rfl
      · intro p hp
        rcases List.mem_cons.mp hp with rfl | hp
        · exact ⟨rfl, (by intro z; cases z), (by intro z; cases z)⟩
        · cases hp
  · intro loc hp gens hd ⟨e0, e1, e2⟩
    subst e0 hd
    refine Ok.freezeL (loc' := upd loc "fronts" (.lst ((bfold us).2.map .int))) (Froz.upd e2) ?_
    refine ex_cons (s_ret (ev_tuple (el_cons (ev_local rfl (el_cons (ev_sub (T := "dict") PySem.F.slot_dict_getitem.lookup (ev_cell (c := L + 1) (v := .dct (bfold us).1) e1 (ev_int ⟨ty_dct, gi_dct hm (el_nil ⟨by show 2 ≤ sizeLine; decide, ?_⟩)⟩))))))))
    exact q
end
end Mine
end
section
open PySem PySem.Spec PySem.Calls PyProof.Rows PySem.W
set_option Elab.async false
set_option pp.deepTerms false
set_option pp.deepTerms.threshold 8
set_option maxRecDepth 100000
set_option linter.unusedVariables false
namespace Mine
noncomputable def isBare (u : Str × Int) : Bool := u.1 == "(" || u.1 == ")"
noncomputable def turnU (u : Str × Int) : Str × Int := (if u.1 == "(" then ")" else "(", u.2)
noncomputable def at0 (bare : List (Str × Int)) (k : Int) : Str × Int := bare.getD k.toNat ("", 0)
noncomputable def keptI (n : Nat) (tk : List Int) : List Int := (rangeFrom 0 n).filter fun k => !(tk.any fun n => n == k)
noncomputable def sgn (p : Int × Str) : Bool := p.2 == "(" || p.2 == ")"
/-- all that the law asks, of the mirrors -/
structure LawOk (units bare turned : List (Str × Int)) (kept gone : List Int) (written : Str) : Prop where
  ul : units.length ≤ 17
  wl : written.length ≤ 1000
  eb : units.filter isBare = bare
  ew : Txt.join "" (units.map (·.1)) = written
  ek : (keptI bare.length (astate bare bare.length).tk).reverse = kept
  et : kept.map (fun k => turnU (at0 bare k)) = turned
  eg : (astate bare bare.length).tk ++ (astate turned turned.length).tk.map (fun k => kept.getD k.toNat 0) = gone
  j1 : JoinOk "" (units.map (·.1)) = true
  j2 : JoinOk "" (sparts written) = true
  j3 : JoinOk "/" ((astate turned turned.length).tk.map fun _ => ("in" : Str)) = true
  j4 : JoinOk "" (wparts units gone) = true
  j5 : JoinOk "" (sparts (withoutF units gone)) = true
  l1 : lastE false written.cps.toList = false
  l2 : lastE false (stripF written).cps.toList = false
  l3 : lastE false (withoutF units gone).cps.toList = false
  l4 : lastE false (stripF (withoutF units gone)).cps.toList = false
  wl2 : (withoutF units gone).length ≤ 1000
  wl3 : (stripF written).length ≤ 1000
  a1 : ((escF (stripF written)).filter sgn).map (·.2) = bare.map (·.1)
  a2 : (rangeFrom 0 (bare.length + 1)).map (fun k => ((bare.take k.toNat).map (·.2)).sum - (astate bare bare.length).sums.getD k.toNat 0) = (bfold bare).2
  a3 : wayOf (astate bare bare.length).d = Txt.join "/" ((astate turned turned.length).tk.map fun _ => ("in" : Str))
  a4 : wayOf (astate turned turned.length).d = "."
  a5 : dlook (bfold bare).1 0 = some ((bare.map (·.2)).sum - (astate bare bare.length).sums.getD bare.length 0 - (astate turned turned.length).sums.getD turned.length 0)
  a6 : checkF (withoutF units gone) = true
  a7 : checkF written = false
theorem veqs_ints (l : List Int) : veqs (l.map .int) (l.map .int) = some (l.map fun _ => true) := by
  induction l with
  | nil => rfl
  | cons a l ih => simp only [List.map_cons, veqs, ih, veq, beq_self_eq_true]
theorem veqs_strs (l : List Str) : veqs (l.map .str) (l.map .str) = some (l.map fun _ => true) := by
  induction l with
  | nil => rfl
  | cons a l ih => simp only [List.map_cons, veqs, ih, veq, beq_self_eq_true]
theorem all_true {α : Type} (l : List α) : (l.map fun _ => true).all id = true := by simp
theorem at0_get {bare : List (Str × Int)} {k : Int} (h0 : 0 ≤ k) (h : k < bare.length) : (bare.map uv)[k.toNat]? = some (uv (at0 bare k)) := by
  have hl : k.toNat < bare.length := by omega
  rw [List.getElem?_map, List.getElem?_eq_getElem hl]
  unfold at0
  rw [List.getD_eq_getElem?_getD, List.getElem?_eq_getElem hl]; rfl
theorem rangeFrom_mem : ∀ {n : Nat} {a k : Int}, k ∈ rangeFrom a n → a ≤ k ∧ k < a + n
  | 0, _, _, h => by cases h
  | n + 1, a, k, h => by
    rcases List.mem_cons.mp h with rfl | h
    · omega
    · have := rangeFrom_mem h
      omega
theorem rangeFrom_getD {f : Int → Int} {m j : Nat} (h : j < m) : ((rangeFrom 0 m).map f).getD j 0 = f j := by
  rw [List.getD_eq_getElem?_getD, List.getElem?_map, rangeFrom_get h]
  simp
theorem last_at {ns : List Int} {n : Nat} (h : ns.length = n + 1) : (ns.map V.int)[(-1 + ((ns.map V.int).length : Int)).toNat]? = some (.int (ns.getD n 0)) := by
  have e : (-1 + ((ns.map V.int).length : Int)).toNat = n := by rw [List.length_map]; omega
  have hl : n < ns.length := by omega
  rw [e, List.getElem?_map, List.getElem?_eq_getElem hl, List.getD_eq_getElem?_getD, List.getElem?_eq_getElem hl]; rfl
theorem int_at {ns : List Int} {k : Int} (h0 : 0 ≤ k) (h : k < ns.length) : (ns.map V.int)[k.toNat]? = some (.int (ns.getD k.toNat 0)) := by
  have hl : k.toNat < ns.length := by omega
  rw [List.getElem?_map, List.getElem?_eq_getElem hl, List.getD_eq_getElem?_getD, List.getElem?_eq_getElem hl]; rfl
section
variable {G : Gl} {F : Fm} {σ : St}
theorem Iters.dm {target : Expr} {a : V} {σ₂ : St} {items : List V} {C : List (Addr × AO) → Prop} {D D' : Array GenState → Prop} (h : Iters G F target a σ σ₂ items C D) (hd : ∀ g, D g → D' g) : Iters G F target a σ σ₂ items C D' :=
  fun B x hx B' hB s r => wpAny_mono (h B x hx B' hB s r) (fun y s' ⟨B'', it, pr, gens, P, h1, h2, h3, W, h5⟩ =>
    ⟨B'', it, pr, gens, P, h1, h2, h3, ⟨fun a b c d e => W.item a b c d e, fun a b c d e => W.fin a b c d fun g hg => e g (hd g hg), fun a => hd _ (W.all a), fun a b c => W.self a b c⟩, h5⟩) fun _ _ e => e
theorem cl_len_map {X : Type} {f : X → V} {l : List X} {Q : V → St → Prop} (q : Q (.int l.length) σ) (hz : l.length ≤ sizeLine) : Cl G F (.builtin "len") [.lst (l.map f)] σ Q :=
  cl_len_lst (by rw [List.length_map]; exact q) (by rw [List.length_map]; exact hz)
theorem gi_last {ns : List Int} {n : Nat} {Q : V → St → Prop} (h : ns.length = n + 1) (hz : n + 1 ≤ sizeLine) (q : Q (.int (ns.getD n 0)) σ) : Op2 G F getItem (.lst (ns.map .int)) (.int (-1)) σ Q :=
  gi_lstN (by decide) (by rw [List.length_map]; omega) (last_at h) q (by rw [List.length_map]; omega)
theorem ev_neg1 {p1 p2 : Pos} {k : Nat} {Q : V → St → Prop} (q : Q (.int (-1)) σ) : Ev G F (.UnaryOp .USub (.Constant (.int 1) k p1) p2) σ Q := ev_unary (ev_int (op_neg q))
theorem clok1 {scope : Scope} {n : Str} {a : Addr} (h : F.env.cells.lookup n = some a ∧ F.env.kindOf n ≠ some .local ∧ (relabel scope F.env).names.lookup n ≠ some .local) : ClOk F scope [(n, a)] := fun p hp => by
  rcases List.mem_cons.mp hp with rfl | hp
  · exact h
  · cases hp
theorem clok2 {scope : Scope} {n n' : Str} {a a' : Addr} (h : F.env.cells.lookup n = some a ∧ F.env.kindOf n ≠ some .local ∧ (relabel scope F.env).names.lookup n ≠ some .local)
    (h' : F.env.cells.lookup n' = some a' ∧ F.env.kindOf n' ≠ some .local ∧ (relabel scope F.env).names.lookup n' ≠ some .local) : ClOk F scope [(n, a), (n', a')] := fun p hp => by
  rcases List.mem_cons.mp hp with rfl | hp
  · exact h
  · exact clok1 h' p hp
/-- what the names hold, once the table is made -/
structure Lk (us bs : List (Str × Int)) (gn : List Int) (wr : Str) (A1 A2 : ASt) (mo : Int) (loc : Str → Option V) : Prop where
  units : loc "units" = some (.lst (us.map uv))
  written : loc "written" = some (.str wr)
  bare : loc "bare" = some (.lst (bs.map uv))
  seen : loc "seen" = some (.lst ((bs.map (·.1)).map .str))
  way : loc "way" = some (.str (wayOf A1.d))
  sums : loc "sums" = some (.lst (A1.sums.map .int))
  behind : loc "behind" = some (.lst (A2.tk.map .int))
  wayb : loc "way_back" = some (.str (wayOf A2.d))
  sumsb : loc "sums_back" = some (.lst (A2.sums.map .int))
  gone : loc "gone" = some (.lst (gn.map .int))
  fronts : loc "fronts" = some (.lst ((bfold bs).2.map .int))
  most : loc "most" = some (.int mo)
set_option maxHeartbeats 4000000 in
theorem x_ret {A : Around} {L : Addr} {units bare turned : List (Str × Int)} {kept gone tots : List Int} {written : Str} {A1 A2 : ASt} {most : Int} {loc : Str → Option V} {g : Array GenState} {Q : V → St → Prop}
    (S : Sta G) (R' : Rm (fmOf A (fdAt G 32) (G.ad 32) L).A 5) (hno : NoTup σ.hp) (H : LawOk units bare turned kept gone written) (hA1 : astate bare bare.length = A1) (hA2 : astate turned turned.length = A2)
    (hmost : (bare.map (·.2)).sum - A1.sums.getD bare.length 0 - A2.sums.getD turned.length 0 = most) (hbl : bare.length ≤ 17) (hs1 : A1.sums.length = bare.length + 1) (hs2 : A2.sums.length = turned.length + 1) (htl : turned.length ≤ 17) (ht2 : A2.tk.length ≤ 17)
    (htt : tots.length = bare.length + 1) (hta : ∀ j, j < bare.length + 1 → tots.getD j 0 = ((bare.take j).map (·.2)).sum) (K : Lk units bare gone written A1 A2 most loc) (hT : loc "totals" = some (.lst (tots.map .int)))
    (q : ∀ gens, Gp g gens → Q (.v (.bool true)) ⟨σ.loc, σ.hp, gens⟩) : Ex G (fmOf A (fdAt G 32) (G.ad 32) L) ((stmtsOf (fdAt G 32)).drop 11) ⟨loc, σ.hp, g⟩ (RetTo Q σ) := by
  have hs : 1000 + 1 ≤ sizeLine := by decide
  have hA : (fmOf A (fdAt G 32) (G.ad 32) L).A.handled = none := R'.hh
  have hul := H.ul
  have htz : (tots.map V.int).length ≤ sizeLine := by simp; omega
  have hsz : (A1.sums.map V.int).length ≤ sizeLine := by simp; omega
  have ha2 := H.a2
  have ha3 := H.a3
  have ha4 := H.a4
  have hj3 := H.j3
  rw [hA1] at ha2 ha3
  rw [hA2] at ha3 ha4 hj3
  -- seen
  refine ex_cons (s_ret (ev_and (ev_compare (ev_local K.seen (ev_comp (f := uv) bare (fun _ => true) (fun u => .str u.1) [] (C := fun _ => True) (D := fun h => h = g)
    (ev_cell (c := L + 1) K.bare ⟨_, it_lst hA, fun _ _ => trivial, ?_, ?_⟩) (fun p hp => by cases hp) (by omega))))))
  · intro C u hu e gens
    refine to_tup hA (te_cons (to_name (te_cons (to_name (te_nil (ts_nil ⟨rfl, (fun h => by cases h), fun _ => ?_⟩))))))
    exact ev_local rfl ⟨rfl, rfl, rfl⟩
  · intro g6 hg6
    subst hg6
    rw [show (bare.filter fun _ => true) = bare by simp, show bare.map (fun u => V.str u.1) = (bare.map (·.1)).map V.str by simp [Function.comp_def]]
    refine op_eql (veqs_strs _) (tt_bool ⟨fun _ => ?_, fun h => by { rw [all_true] at h; cases h }⟩) R'.units
    -- fronts
    refine ev_and (ev_compare (ev_comp (f := .int) (rangeFrom 0 tots.length) (fun _ => true) (fun k => .int (tots.getD k.toNat 0 - A1.sums.getD k.toNat 0)) [("totals", L + 5), ("sums", L + 3)] (C := fun _ => True) (D := fun g => g = g6)
      (ev_callG (f := .type "range") (S.blt _ _ rfl (by decide) (by kernel_rfl)) .type (el_cons (ev_callG (f := .builtin "len") (S.blt _ _ rfl (by decide) (by kernel_rfl)) .builtin (el_cons (ev_cell (c := L + 5) hT (el_nil (cl_len_map (el_nil (cl_range fun r t u v =>
        ⟨_, it_range hA (by omega), fun _ _ => trivial, ?_, ?_⟩)) (by omega))))))))
      ?_ (by rw [rangeFrom_len]; omega)))
    · intro C k hk e gens
      have hkr := rangeFrom_mem hk
      refine to_name (ts_nil ⟨rfl, (fun h => by cases h), fun _ => ?_⟩)
      exact ev_binop (ev_sub sub_list (ev_cell (c := L + 5) hT (ev_local rfl ⟨ty_lst, gi_lst (by omega) (int_at (by omega) (by omega)) (ev_sub sub_list (ev_cell (c := L + 3) K.sums (ev_local rfl ⟨ty_lst, gi_lst (by omega) (int_at (by omega) (by omega)) (op_sub ⟨rfl, rfl, rfl⟩) hsz⟩))) htz⟩)))
    · intro g7 hg7
      subst hg7
      have ef : ((rangeFrom 0 tots.length).filter fun _ => true).map (fun k => V.int (tots.getD k.toNat 0 - A1.sums.getD k.toNat 0)) = (bfold bare).2.map V.int := by
        rw [show ((rangeFrom 0 tots.length).filter fun _ => true) = rangeFrom 0 tots.length by simp, ← ha2, htt, List.map_map]
        refine List.map_congr_left fun k hk => ?_
        have hkr := rangeFrom_mem hk
        rw [hta k.toNat (by omega)]; rfl
      rw [ef]
      refine ev_local K.fronts (op_eql (veqs_ints _) (tt_bool ⟨fun _ => ?_, fun h => by { rw [all_true] at h; cases h }⟩) R'.units)
      -- way
      refine ev_and (ev_compare (ev_local K.way (ev_meth meth_join (ev_str ⟨ty_str, el_cons (ev_comp (f := .int) A2.tk (fun _ => true) (fun _ => .str "in") [] (C := fun _ => True) (D := fun g => g = g7)
        (ev_local K.behind ⟨_, it_lst hA, fun _ _ => trivial, ?_, ?_⟩) (fun p hp => by cases hp) (by omega))⟩))))
      · intro C k hk e gens
        exact to_name (ts_nil ⟨rfl, (fun h => by cases h), fun _ => ev_str ⟨rfl, rfl, rfl⟩⟩)
      · intro g8 hg8
        subst hg8
        rw [show (A2.tk.filter fun _ => true) = A2.tk by simp, show A2.tk.map (fun _ => V.str "in") = (A2.tk.map fun _ => ("in" : Str)).map V.str by simp [Function.comp_def]]
        refine el_nil (cl_join (op_eqs (tt_bool ⟨fun _ => ?_, fun h => by { rw [ha3, beq_self_eq_true] at h; cases h }⟩)) hj3)
        -- way_back
        refine ev_and (ev_compare (ev_local K.wayb (ev_str (op_eqs (tt_bool ⟨fun _ => ?_, fun h => by { rw [ha4, beq_self_eq_true] at h; cases h }⟩)))))
        -- most
        refine ev_and (ev_compare (ev_binop (ev_binop (ev_sub sub_list (ev_cell (c := L + 5) hT (ev_neg1 ⟨ty_lst, gi_last htt (by omega)
          (ev_sub sub_list (ev_cell (c := L + 3) K.sums (ev_neg1 ⟨ty_lst, gi_last hs1 (by omega) (op_sub
          (ev_sub sub_list (ev_local K.sumsb (ev_neg1 ⟨ty_lst, gi_last hs2 (by omega) (op_sub (ev_local K.most (op_eqi (tt_bool ⟨fun _ => ?_, fun h => ?_⟩))))⟩))))⟩)))⟩))))))
        · refine ev_and (ev_compare (ev_callG (f := .ref (G.ad 4)) (S.glob _ _ rfl) S.callee (el_cons (ev_callG (f := .ref (G.ad 31)) (S.glob _ _ rfl) S.callee (el_cons (ev_local K.units (el_cons (ev_local K.gone (el_nil (c_without S (R'.less (by omega)) (by omega) H.j4
            (el_nil (c_check S (R'.less (by omega)) hno H.l3 H.l4 H.wl2 H.j5 fun g9 hg9 => ev_bool (op_isbool (tt_bool ⟨fun _ => ?_, fun h => by { rw [H.a6] at h; cases h }⟩))))))))))))))
          refine ev_bool1 (ev_compare (ev_callG (f := .ref (G.ad 4)) (S.glob _ _ rfl) S.callee (el_cons (ev_local K.written (el_nil (c_check S (R'.less (by omega)) hno H.l1 H.l2 H.wl H.j2 fun g10 hg10 => ev_bool (op_isbool ?_)))))))
          rw [H.a7]
          exact q g10 (hg9.tr hg10)
        · rw [hta _ (Nat.lt_succ_self _), List.take_length, hmost, beq_self_eq_true] at h
          cases h
    · exact clok2 ⟨rfl, (by intro z; cases z), (by intro z; cases z)⟩ ⟨rfl, (by intro z; cases z), (by intro z; cases z)⟩
set_option maxHeartbeats 4000000 in
theorem x_tot {A : Around} {L : Addr} {units bare turned : List (Str × Int)} {kept gone : List Int} {written : Str} {A1 A2 : ASt} {most : Int} {loc : Str → Option V} {g : Array GenState} {Q : V → St → Prop}
    (S : Sta G) (R' : Rm (fmOf A (fdAt G 32) (G.ad 32) L).A 5) (hno : NoTup σ.hp) (H : LawOk units bare turned kept gone written) (hA1 : astate bare bare.length = A1) (hA2 : astate turned turned.length = A2)
    (hmost : (bare.map (·.2)).sum - A1.sums.getD bare.length 0 - A2.sums.getD turned.length 0 = most) (hbl : bare.length ≤ 17) (hs1 : A1.sums.length = bare.length + 1) (hs2 : A2.sums.length = turned.length + 1) (htl : turned.length ≤ 17) (ht2 : A2.tk.length ≤ 17)
    (K : Lk units bare gone written A1 A2 most loc) (q : ∀ gens, Gp g gens → Q (.v (.bool true)) ⟨σ.loc, σ.hp, gens⟩) : Ex G (fmOf A (fdAt G 32) (G.ad 32) L) ((stmtsOf (fdAt G 32)).drop 10) ⟨loc, σ.hp, g⟩ (RetTo Q σ) := by
  have hs : 1000 + 1 ≤ sizeLine := by decide
  have hA : (fmOf A (fdAt G 32) (G.ad 32) L).A.handled = none := R'.hh
  have oT : L + 5 ∈ (fmOf A (fdAt G 32) (G.ad 32) L).own := .tail _ (.head _)
  -- totals
  refine ex_cons (s_assign (ev_comp (f := .int) (rangeFrom 0 (bare.length + 1)) (fun _ => true) (fun k => .int ((bare.take k.toNat).map (·.2)).sum) [("bare", L + 1)] (C := fun _ => True) (D := fun h => h = g)
    (ev_callG (f := .type "range") (S.blt _ _ rfl (by decide) (by kernel_rfl)) .type (el_cons (ev_binop (ev_callG (f := .builtin "len") (S.blt _ _ rfl (by decide) (by kernel_rfl)) .builtin (el_cons (ev_cell (c := L + 1) K.bare (el_nil (cl_len_map (ev_int (op_add (el_nil (cl_range fun r t u v =>
      ⟨_, it_range (n := bare.length + 1) hA (by omega), fun _ _ => trivial, ?_, ?_⟩)))) (by omega)))))))))
    ?_ (by rw [rangeFrom_len]; omega)))
  · intro C k hk e gens
    have hkr := rangeFrom_mem hk
    obtain ⟨j, rfl⟩ : ∃ j : Nat, k = j := ⟨k.toNat, by omega⟩
    have hbz : (bare.map uv).length ≤ sizeLine := by simp; omega
    refine to_name (ts_nil ⟨rfl, (fun h => by cases h), fun _ => ?_⟩)
    refine ev_callG (f := .builtin "sum") (S.blt _ _ rfl (by decide) (by kernel_rfl)) .builtin (el_cons (ev_comp (f := uv) (bare.take j) (fun _ => true) (fun u => .int u.2) [] (C := fun _ => True) (D := fun g => g = gens)
      (ev_sub sub_list (ev_cell (c := L + 1) K.bare (ev_slice (ev_part (o := none) (ev_part (ev_local rfl ⟨_, rfl, ev_part (o := none) ⟨ty_lst, gi_slice (by simp) ?_ hbz⟩⟩)))))) (fun p hp => by cases hp) (by simp; omega)))
    rw [slice_to, ← List.map_take]
    refine ⟨_, it_lst hA, fun _ _ => trivial, ?_, ?_⟩
    · intro C2 u hu e2 gens2
      refine to_tup hA (te_cons (to_name (te_cons (to_name (te_nil (ts_nil ⟨rfl, (fun h => by cases h), fun _ => ?_⟩))))))
      exact ev_local rfl ⟨rfl, rfl, rfl⟩
    · intro gens' hg
      subst hg
      rw [show ((bare.take j).filter fun _ => true) = bare.take j by simp, show (bare.take j).map (fun u => V.int u.2) = ((bare.take j).map (·.2)).map V.int by simp [Function.comp_def]]
      exact el_nil (cl_sum hA ⟨rfl, rfl, rfl⟩)
  · intro g5 hg5
    subst hg5
    rw [show ((rangeFrom 0 (bare.length + 1)).filter fun _ => true) = rangeFrom 0 (bare.length + 1) by simp]
    obtain ⟨tots, htots⟩ : ∃ t : List Int, t = (rangeFrom 0 (bare.length + 1)).map fun k => ((bare.take k.toNat).map (·.2)).sum := ⟨_, rfl⟩
    have htt : tots.length = bare.length + 1 := by rw [htots, List.length_map, rangeFrom_len]
    have hta : ∀ j, j < bare.length + 1 → tots.getD j 0 = ((bare.take j).map (·.2)).sum := fun j hj => by rw [htots, rangeFrom_getD hj]; simp
    rw [show (rangeFrom 0 (bare.length + 1)).map (fun k => V.int ((bare.take k.toNat).map (·.2)).sum) = tots.map V.int by rw [htots]; simp [Function.comp_def]]
    clear htots
    refine to_cell (c := L + 5) ?_ oT
    exact x_ret S R' hno H hA1 hA2 hmost hbl hs1 hs2 htl ht2 htt hta ⟨K.units, K.written, K.bare, K.seen, K.way, K.sums, K.behind, K.wayb, K.sumsb, K.gone, K.fronts, K.most⟩ rfl q
  · exact clok1 ⟨rfl, (by intro z; cases z), (by intro z; cases z)⟩
set_option maxHeartbeats 4000000 in
theorem x_mid {A : Around} {L : Addr} {units bare turned : List (Str × Int)} {kept gone : List Int} {written : Str} {loc : Str → Option V} {g : Array GenState} {Q : V → St → Prop}
    (S : Sta G) (R' : Rm (fmOf A (fdAt G 32) (G.ad 32) L).A 5) (hno : NoTup σ.hp) (H : LawOk units bare turned kept gone written)
    (k1 : loc "units" = some (.lst (units.map uv))) (k2 : loc "written" = some (.str written)) (k3 : loc "bare" = some (.lst (bare.map uv))) (k4 : loc "seen" = some (.lst ((bare.map (·.1)).map .str)))
    (q : ∀ gens, Gp g gens → Q (.v (.bool true)) ⟨σ.loc, σ.hp, gens⟩) : Ex G (fmOf A (fdAt G 32) (G.ad 32) L) ((stmtsOf (fdAt G 32)).drop 4) ⟨loc, σ.hp, g⟩ (RetTo Q σ) := by
  have hs : 1000 + 1 ≤ sizeLine := by decide
  have hA : (fmOf A (fdAt G 32) (G.ad 32) L).A.handled = none := R'.hh
  have oB : L + 1 ∈ (fmOf A (fdAt G 32) (G.ad 32) L).own := .tail _ (.tail _ (.tail _ (.tail _ (.tail _ (.head _)))))
  have oA : L + 2 ∈ (fmOf A (fdAt G 32) (G.ad 32) L).own := .tail _ (.tail _ (.tail _ (.tail _ (.head _))))
  have oS : L + 3 ∈ (fmOf A (fdAt G 32) (G.ad 32) L).own := .tail _ (.tail _ (.tail _ (.head _)))
  have oK : L + 4 ∈ (fmOf A (fdAt G 32) (G.ad 32) L).own := .tail _ (.tail _ (.head _))
  have oT : L + 5 ∈ (fmOf A (fdAt G 32) (G.ad 32) L).own := .tail _ (.head _)
  have hul := H.ul
  have hbl : bare.length ≤ 17 := by rw [← H.eb]; exact Nat.le_trans (List.length_filter_le _ _) hul
  have hkl : kept.length ≤ bare.length := by
    rw [← H.ek, List.length_reverse]
    refine Nat.le_trans (List.length_filter_le _ _) ?_
    rw [rangeFrom_len]; exact Nat.le_refl _
  have htl : turned.length = kept.length := by rw [← H.et, List.length_map]
  have okb := astate_ok bare bare.length
  have okt := astate_ok turned turned.length
  have hkm : ∀ k ∈ kept, 0 ≤ k ∧ k < bare.length := fun k hk => by
    rw [← H.ek] at hk
    have := rangeFrom_mem (List.mem_filter.mp (List.mem_reverse.mp hk)).1
    omega
  -- the way ahead
  refine ex_cons (s_assign (ev_callG (f := .ref (G.ad 29)) (S.glob _ _ rfl) S.callee (el_cons (ev_cell (c := L + 1) k3 (el_nil (c_along S R' hbl ?_))))))
  refine to_tup hA (te_cons (to_name (te_cons (to_cell (c := L + 2) (te_cons (to_cell (c := L + 3) (te_nil ?_) oS)) oA))))
  -- kept
  generalize hA1 : astate bare bare.length = A1 at *
  have hs1 := okb.sl
  have hd1 := okb.d
  have ht1 := okb.tkl
  refine ex_cons (s_assign (ev_sub sub_list (ev_comp (f := .int) (rangeFrom 0 bare.length) (fun k => !(A1.tk.any fun n => n == k)) .int [("ahead", L + 2)] (C := fun _ => True) (D := fun h => h = g)
    (ev_callG (f := .type "range") (S.blt _ _ rfl (by decide) (by kernel_rfl)) .type (el_cons (ev_callG (f := .builtin "len") (S.blt _ _ rfl (by decide) (by kernel_rfl)) .builtin (el_cons (ev_cell (c := L + 1) k3 (el_nil (cl_len_map (el_nil (cl_range fun r t u v => ⟨_, it_range hA (by omega), fun _ _ => trivial, ?_, ?_⟩)) (by omega))))))))
    ?_ (by rw [rangeFrom_len]; omega))))
  · intro C k hk e gens
    refine to_name (ts_one (tr_compare (ev_local rfl (ev_cell (c := L + 2) rfl (op_notinl (tt_bool ⟨rfl, fun _ => ⟨rfl, rfl⟩, fun _ => ev_local rfl ⟨rfl, rfl, rfl⟩⟩))))))
  · intro g2 hg2
    subst hg2
    refine ev_slice (ev_part (o := none) (ev_part (o := none) (ev_part (ev_unary (ev_int (op_neg ⟨_, rfl, ⟨ty_lst, gi_slice (by simp) ?_ ?_⟩⟩))))))
    · have hkk := H.ek
      rw [hA1] at hkk
      unfold keptI at hkk
      rw [show -(1 : Int) = -1 from rfl, slice_rev, ← List.map_reverse, hkk]
      refine to_cell (c := L + 4) ?_ oK
      -- turned
      refine ex_cons (s_assignU (f := .int) kept (fun _ => true) (fun k => uv (turnU (at0 bare k))) [("bare", L + 1)] (C := fun _ => True) (D := fun g => g = g2)
        (ev_cell (c := L + 4) rfl ⟨_, it_lst hA, fun _ _ => trivial, ?_, ?_⟩) ?_ (by omega) ?_)
      · intro C k hk e gens
        obtain ⟨k0, k1⟩ := hkm k hk
        have hb := at0_get k0 k1
        have hbz : (bare.map uv).length ≤ sizeLine := by simp; omega
        refine to_name (ts_nil ⟨rfl, (fun h => by cases h), fun _ => ?_⟩)
        generalize hu : at0 bare k = u at *
        obtain ⟨t, w⟩ := u
        refine ev_tuple (el_cons (ev_ifexp (tr_compare (ev_sub (T := "tuple") PySem.F.slot_tuple_getitem.lookup (ev_sub sub_list (ev_cell (c := L + 1) k3 (ev_local rfl ⟨ty_lst, gi_lst (v := uv (t, w)) k0 hb (ev_int ⟨ty_tup, gi_tup (v := .str t) (by decide) rfl (ev_str (op_eqs (tt_bool ⟨fun hc => ev_str ?_, fun hc => ev_str ?_⟩))) (by show 2 ≤ sizeLine; decide)⟩) hbz⟩)))))))
        · have hc : (t == "(") = true := hc
          refine el_cons (ev_sub (T := "tuple") PySem.F.slot_tuple_getitem.lookup (ev_sub sub_list (ev_cell (c := L + 1) k3 (ev_local rfl ⟨ty_lst, gi_lst (v := uv (t, w)) k0 hb (ev_int ⟨ty_tup, gi_tup (v := .int w) (by decide) rfl (el_nil ⟨by show 2 ≤ sizeLine; decide, ?_, rfl, rfl⟩) (by show 2 ≤ sizeLine; decide)⟩) hbz⟩))))
          show _ = uv (turnU (at0 bare k))
          rw [hu]; unfold turnU; rw [if_pos hc]; rfl
        · have hc : (t == "(") = false := hc
          refine el_cons (ev_sub (T := "tuple") PySem.F.slot_tuple_getitem.lookup (ev_sub sub_list (ev_cell (c := L + 1) k3 (ev_local rfl ⟨ty_lst, gi_lst (v := uv (t, w)) k0 hb (ev_int ⟨ty_tup, gi_tup (v := .int w) (by decide) rfl (el_nil ⟨by show 2 ≤ sizeLine; decide, ?_, rfl, rfl⟩) (by show 2 ≤ sizeLine; decide)⟩) hbz⟩))))
          show _ = uv (turnU (at0 bare k))
          rw [hu]; unfold turnU; rw [if_neg (by rw [hc]; exact Bool.false_ne_true)]; rfl
      · intro g3 hg3
        subst hg3
        rw [show (kept.filter fun _ => true) = kept by simp, show kept.map (fun k => uv (turnU (at0 bare k))) = turned.map uv by rw [← H.et]; simp [Function.comp_def]]
        -- the way back
        refine ex_cons (s_assign (ev_callG (f := .ref (G.ad 29)) (S.glob _ _ rfl) S.callee (el_cons (ev_local rfl (el_nil (c_along S R' (by omega) ?_))))))
        refine to_tup hA (te_cons (to_name (te_cons (to_name (te_cons (to_name (te_nil ?_)))))))
        generalize hA2 : astate turned turned.length = A2 at *
        have hs2 := okt.sl
        have hd2 := okt.d
        have ht2 := okt.tkl
        have hkz : (kept.map V.int).length ≤ sizeLine := by simp; omega
        -- gone
        refine ex_cons (s_assign (ev_binop (ev_cell (c := L + 2) rfl (ev_comp (f := .int) A2.tk (fun _ => true) (fun k => .int (kept.getD k.toNat 0)) [("kept", L + 4)] (C := fun _ => True) (D := fun g => g = g3)
          (ev_local rfl ⟨_, it_lst hA, fun _ _ => trivial, ?_, ?_⟩) ?_ (by omega)))))
        · intro C k hk e gens
          obtain ⟨k0, k1⟩ := okt.tk k hk
          have hkl : k.toNat < kept.length := by omega
          refine to_name (ts_nil ⟨rfl, (fun h => by cases h), fun _ => ?_⟩)
          refine ev_sub sub_list (ev_cell (c := L + 4) rfl (ev_local rfl ⟨ty_lst, gi_lst (v := .int (kept.getD k.toNat 0)) k0 ?_ ⟨rfl, rfl, rfl⟩ hkz⟩))
          rw [List.getElem?_map, List.getElem?_eq_getElem hkl, List.getD_eq_getElem?_getD, List.getElem?_eq_getElem hkl]; rfl
        · intro g4 hg4
          subst hg4
          rw [show (A2.tk.filter fun _ => true) = A2.tk by simp, show A2.tk.map (fun k => V.int (kept.getD k.toNat 0)) = (A2.tk.map fun k => kept.getD k.toNat 0).map V.int by simp [Function.comp_def]]
          refine op_addl ?_ (by simp; omega)
          have heg := H.eg
          rw [hA1, hA2] at heg
          rw [← List.map_append, heg]
          refine to_name ?_
          -- the table
          refine ex_cons (s_assign (ev_callG (f := .ref (G.ad 30)) (S.glob _ _ rfl) S.callee (el_cons (ev_cell (c := L + 1) k3 (el_nil (c_best S (R'.less (by omega)) hbl H.a5 ?_))))))
          refine to_tup hA (te_cons (to_name (te_cons (to_name (te_nil ?_)))))
          exact x_tot S R' hno H hA1 hA2 (by rw [← hA1, ← hA2]) hbl hs1 hs2 (by omega) (by omega) ⟨k1, k2, k3, k4, rfl, rfl, rfl, rfl, rfl, rfl, rfl, rfl⟩ q
        · exact clok1 ⟨rfl, (by intro z; cases z), (by intro z; cases z)⟩
      · exact clok1 ⟨rfl, (by intro z; cases z), (by intro z; cases z)⟩
      · rfl
    · have h1 := List.length_filter_le (fun k => !(A1.tk.any fun n => n == k)) (rangeFrom 0 bare.length)
      rw [rangeFrom_len] at h1
      rw [List.length_map]; omega
  · exact clok1 ⟨rfl, (by intro z; cases z), (by intro z; cases z)⟩
set_option maxHeartbeats 4000000 in
theorem x_law {A : Around} {ns : List Int} {bare turned : List (Str × Int)} {kept gone : List Int} {written : Str} {Q : V → St → Prop} (S : Sta G) (R : Rm A 6) (hno : NoTup σ.hp) (hz : ns.length ≤ 1000) (H : LawOk (unitsF ns) bare turned kept gone written)
    (q : ∀ gens, Gp σ.gens gens → Q (.v (.bool true)) ⟨σ.loc, σ.hp, gens⟩) : ∀ L, Ex G (fmOf A (fdAt G 32) (G.ad 32) L) (stmtsOf (fdAt G 32)) ⟨bnd ["script"] [.lst (ns.map .int)], σ.hp, σ.gens⟩ (RetTo Q σ) := fun L => by
  have hs : 1000 + 1 ≤ sizeLine := by decide
  have R' : Rm (fmOf A (fdAt G 32) (G.ad 32) L).A 5 := R.sub
  have hA : (fmOf A (fdAt G 32) (G.ad 32) L).A.handled = none := R.hh
  have oB : L + 1 ∈ (fmOf A (fdAt G 32) (G.ad 32) L).own := .tail _ (.tail _ (.tail _ (.tail _ (.tail _ (.head _)))))
  have oA : L + 2 ∈ (fmOf A (fdAt G 32) (G.ad 32) L).own := .tail _ (.tail _ (.tail _ (.tail _ (.head _))))
  have oS : L + 3 ∈ (fmOf A (fdAt G 32) (G.ad 32) L).own := .tail _ (.tail _ (.tail _ (.head _)))
  have oK : L + 4 ∈ (fmOf A (fdAt G 32) (G.ad 32) L).own := .tail _ (.tail _ (.head _))
  have oT : L + 5 ∈ (fmOf A (fdAt G 32) (G.ad 32) L).own := .tail _ (.head _)
  have hul := H.ul
  have hbl : bare.length ≤ 17 := by rw [← H.eb]; exact Nat.le_trans (List.length_filter_le _ _) hul
  have hkl : kept.length ≤ bare.length := by
    rw [← H.ek, List.length_reverse]
    refine Nat.le_trans (List.length_filter_le _ _) ?_
    rw [rangeFrom_len]; exact Nat.le_refl _
  have htl : turned.length = kept.length := by rw [← H.et, List.length_map]
  have okb := astate_ok bare bare.length
  have okt := astate_ok turned turned.length
  have hkm : ∀ k ∈ kept, 0 ≤ k ∧ k < bare.length := fun k hk => by
    rw [← H.ek] at hk
    have := rangeFrom_mem (List.mem_filter.mp (List.mem_reverse.mp hk)).1
    omega
  refine ex_cons (s_assign (ev_callG (f := .ref (G.ad 28)) (S.glob _ _ rfl) S.callee (el_cons (ev_local rfl (el_nil (c_units S (R'.less (by omega)) hz (to_name ?_)))))))
  generalize unitsF ns = units at *
  -- written
  refine ex_cons (s_assign (ev_meth meth_join (ev_str ⟨ty_str, el_cons (ev_comp (f := uv) units (fun _ => true) (fun u => .str u.1) [] (C := fun _ => True) (D := fun g => g = σ.gens)
    (ev_local rfl ⟨_, it_lst hA, fun _ _ => trivial, ?_, ?_⟩) (fun p hp => by cases hp) (by omega))⟩)))
  · intro C u hu e gens
    refine to_tup hA (te_cons (to_name (te_cons (to_name (te_nil (ts_nil ⟨rfl, (fun h => by cases h), fun _ => ?_⟩))))))
    exact ev_local rfl ⟨rfl, rfl, rfl⟩
  intro gens' hg
  subst hg
  rw [show (units.filter fun _ => true) = units by simp, show units.map (fun u => V.str u.1) = (units.map (·.1)).map V.str by simp [Function.comp_def]]
  refine el_nil (cl_join (to_name ?_) H.j1)
  rw [H.ew]
  -- bare
  refine ex_cons (s_assign (ev_comp (f := uv) units isBare uv [] (C := fun _ => True) (D := fun g => g = σ.gens)
    (ev_local rfl ⟨_, it_lst hA, fun _ _ => trivial, ?_, ?_⟩) (fun p hp => by cases hp) (by omega)))
  · intro C u hu e gens
    obtain ⟨t, w⟩ := u
    refine to_tup hA (te_cons (to_name (te_cons (to_name (te_nil (ts_one ?_))))))
    refine tr_bool (tr_or_cons (tr_compare (ev_local rfl (ev_str (op_eqs (tt_bool ⟨fun hc => ?_, fun hc => ?_⟩))))))
    · have hc : (t == "(") = false := hc
      refine tr_or_cons (tr_compare (ev_local rfl (ev_str (op_eqs (tt_bool ⟨fun hc2 => tr_or_nil ?_, fun hc2 => ?_⟩)))))
      · have hc2 : (t == ")") = false := hc2
        have e0 : isBare (t, w) = false := by unfold isBare; show (t == "(" || t == ")") = false; rw [hc, hc2]; rfl
        exact ⟨e0.symm, fun _ => ⟨rfl, rfl⟩, fun h => by rw [e0] at h; cases h⟩
      · have hc2 : (t == ")") = true := hc2
        have e0 : isBare (t, w) = true := by unfold isBare; show (t == "(" || t == ")") = true; rw [hc, hc2]; rfl
        exact ⟨e0.symm, fun h => (by rw [e0] at h; cases h), fun _ => ev_tuple (el_cons (ev_local rfl (el_cons (ev_local rfl (el_nil ⟨by show 2 ≤ sizeLine; decide, rfl, rfl, rfl⟩)))))⟩
    · have hc : (t == "(") = true := hc
      have e0 : isBare (t, w) = true := by unfold isBare; show (t == "(" || t == ")") = true; rw [hc]; rfl
      exact ⟨e0.symm, fun h => (by rw [e0] at h; cases h), fun _ => ev_tuple (el_cons (ev_local rfl (el_cons (ev_local rfl (el_nil ⟨by show 2 ≤ sizeLine; decide, rfl, rfl, rfl⟩)))))⟩
  intro gens' hg
  subst hg
  rw [H.eb]
  refine to_cell (c := L + 1) ?_ oB
  -- seen
  refine ex_cons (s_assignU (f := ev2) (escF (stripF written)) sgn (fun p => .str p.2) [] (C := NoTup) (D := fun g => Gp σ.gens g)
    (ev_callG (f := .ref (G.ad 2)) (S.glob _ _ rfl) S.callee (el_cons (ev_callG (f := .ref (G.ad 3)) (S.glob _ _ rfl) S.callee (el_cons (ev_local rfl (el_nil (c_strip S (R'.less (by omega)) hno H.l1 H.wl H.j2 fun g1 hg1 =>
      el_nil (cl_gen S (R'.less (by omega)) fun ga gL pre hP => ⟨_, (it_gen S (R'.less (by omega)) H.l2 hP hno).dm fun g hg => hg1.tr (Gp.one hg), fun _ _ => hno.list, ?_, ?_⟩))))))))
    (fun p hp => by cases hp) ?_ ?_)
  · intro C p hp e gens
    obtain ⟨pp, t⟩ := p
    refine to_tup hA (te_cons (to_name (te_cons (to_name (te_nil (ts_one ?_))))))
    refine tr_bool (tr_or_cons (tr_compare (ev_local rfl (ev_str (op_eqs (tt_bool ⟨fun hc => ?_, fun hc => ?_⟩))))))
    · have hc : (t == "(") = false := hc
      refine tr_or_cons (tr_compare (ev_local rfl (ev_str (op_eqs (tt_bool ⟨fun hc2 => tr_or_nil ?_, fun hc2 => ?_⟩)))))
      · have hc2 : (t == ")") = false := hc2
        have e0 : sgn (pp, t) = false := by unfold sgn; show (t == "(" || t == ")") = false; rw [hc, hc2]; rfl
        exact ⟨e0.symm, fun _ => ⟨rfl, rfl⟩, fun h => by rw [e0] at h; cases h⟩
      · have hc2 : (t == ")") = true := hc2
        have e0 : sgn (pp, t) = true := by unfold sgn; show (t == "(" || t == ")") = true; rw [hc, hc2]; rfl
        exact ⟨e0.symm, fun h => (by rw [e0] at h; cases h), fun _ => ev_local rfl ⟨rfl, rfl, rfl⟩⟩
    · have hc : (t == "(") = true := hc
      have e0 : sgn (pp, t) = true := by unfold sgn; show (t == "(" || t == ")") = true; rw [hc]; rfl
      exact ⟨e0.symm, fun h => (by rw [e0] at h; cases h), fun _ => ev_local rfl ⟨rfl, rfl, rfl⟩⟩
  · intro g1 hg1
    rw [show ((escF (stripF written)).filter sgn).map (fun p => V.str p.2) = (bare.map (·.1)).map V.str by rw [← H.a1]; simp [Function.comp_def]]
    exact x_mid S R' hno H rfl rfl rfl rfl fun gens hg => q gens (hg1.tr hg)
  · have h1 := H.wl3
    have h2 := escG_len false 0 (stripF written).cps.toList
    have h3 : (stripF written).cps.toList.length = (stripF written).length := by simp [Str.length]
    unfold escF; omega
  · rfl
end
end Mine
end
section
set_option Elab.async false
set_option linter.unusedVariables false
namespace Mine
noncomputable def ple (p q : Int × Int) : Prop := p.1 < q.1 ∨ (p.1 = q.1 ∧ p.2 ≤ q.2)
theorem ple_of_lt {p q : Int × Int} (h : plt p q = true) : ple p q := by
  unfold plt at h; simp at h; unfold ple; omega
theorem ple_of_not {p q : Int × Int} (h : ¬ plt p q = true) : ple q p := by
  unfold plt at h; simp at h; unfold ple; omega
theorem ple.tr {p q r : Int × Int} (h : ple p q) (h' : ple q r) : ple p r := by
  unfold ple at *; omega
theorem ple.rf {p : Int × Int} : ple p p := by unfold ple; omega
noncomputable abbrev g0 (l : List (Int × Int)) (i : Nat) : Int × Int := l.getD i (0, 0)
noncomputable def Hp (l : List (Int × Int)) : Prop := ∀ i, 0 < i → i < l.length → ple (g0 l ((i - 1) / 2)) (g0 l i)
theorem g0_set {l : List (Int × Int)} {p i : Nat} {x : Int × Int} (hp : p < l.length) : g0 (l.set p x) i = if i = p then x else g0 l i := by
  unfold g0
  rw [List.getD_eq_getElem?_getD, List.getElem?_set]
  by_cases h : p = i
  · subst h; simp [hp]
  · rw [if_neg h, if_neg (fun q => h q.symm), List.getD_eq_getElem?_getD]
theorem Hp.root {l : List (Int × Int)} (h : Hp l) : ∀ n i, i ≤ n → i < l.length → ple (g0 l 0) (g0 l i)
  | n, 0, _, _ => .rf
  | 0, i + 1, hn, _ => by omega
  | n + 1, i + 1, hn, hi => (Hp.root h n ((i + 1 - 1) / 2) (by omega) (by omega)).tr (h (i + 1) (by omega) hi)
/-- the hole's pair as it rises -/
structure Up (l : List (Int × Int)) (p : Nat) : Prop where
  edge : ∀ i, 0 < i → i < l.length → i ≠ p → ple (g0 l ((i - 1) / 2)) (g0 l i)
  kids : 0 < p → ∀ i, 0 < i → i < l.length → (i - 1) / 2 = p → ple (g0 l ((p - 1) / 2)) (g0 l i)
theorem sdL_heap (new : Int × Int) : ∀ (n : Nat) (h : List (Int × Int)) (p : Nat), p < h.length → p ≤ n → Up (h.set p new) p → Hp ((sdL new n h p).1.set (sdL new n h p).2 new)
  | 0, h, p, hp, hn, U => by
    intro i h0 hi
    exact U.edge i h0 hi (by omega)
  | n + 1, h, p, hp, hn, U => by
    unfold sdL
    split
    · rename_i hz
      intro i h0 hi
      exact U.edge i h0 hi (by omega)
    · rename_i hz
      have hpp : (p - 1) / 2 < h.length := by omega
      rw [List.getElem?_eq_getElem hpp]
      dsimp only
      have hx : g0 h ((p - 1) / 2) = h[(p - 1) / 2] := by unfold g0; rw [List.getD_eq_getElem?_getD, List.getElem?_eq_getElem hpp]; rfl
      split
      · rename_i hlt
        refine sdL_heap new n _ _ (by simpa using hpp) (by omega) ?_
        rw [← hx] at hlt ⊢
        have e1 : ∀ i, g0 (h.set p new) i = if i = p then new else g0 h i := fun i => g0_set hp
        have e2 : ∀ i, g0 ((h.set p (g0 h ((p - 1) / 2))).set ((p - 1) / 2) new) i = if i = (p - 1) / 2 then new else if i = p then g0 h ((p - 1) / 2) else g0 h i := fun i => by
          rw [g0_set (by simpa using hpp), g0_set hp]
        have ln := ple_of_lt hlt
        have E := U.edge
        have K := U.kids
        simp only [List.length_set, e1] at E K
        refine ⟨fun i h0 hi hne => ?_, fun hp0 i h0 hi hpar => ?_⟩
        · simp only [List.length_set] at hi
          simp only [e2]
          by_cases c1 : i = p
          · subst c1
            rw [if_pos rfl, if_neg hne, if_pos rfl]
            exact ln
          · rw [if_neg hne, if_neg c1]
            by_cases c2 : (i - 1) / 2 = p
            · rw [if_neg (by omega), if_pos c2]
              have := K (by omega) i h0 hi c2
              rw [if_neg (by omega), if_neg c1] at this
              exact this
            · by_cases c3 : (i - 1) / 2 = (p - 1) / 2
              · rw [if_pos c3]
                have := E i h0 hi c1
                rw [if_neg c2, if_neg c1, c3] at this
                exact ln.tr this
              · rw [if_neg c3, if_neg c2]
                have := E i h0 hi c1
                rw [if_neg c2, if_neg c1] at this
                exact this
        · simp only [List.length_set] at hi
          simp only [e2]
          rw [if_neg (by omega), if_neg (by omega)]
          have top := E ((p - 1) / 2) hp0 hpp (by omega)
          rw [if_neg (by omega), if_neg (by omega)] at top
          rw [if_neg (by omega)]
          by_cases c1 : i = p
          · rw [if_pos c1]; exact top
          · rw [if_neg c1]
            have := E i h0 hi c1
            rw [if_neg (by omega), if_neg c1, hpar] at this
            exact top.tr this
      · rename_i hlt
        rw [← hx] at hlt
        have ln := ple_of_not hlt
        intro i h0 hi
        by_cases c1 : i = p
        · subst c1
          rw [g0_set hp, g0_set hp, if_neg (by omega), if_pos rfl]
          exact ln
        · exact U.edge i h0 hi c1
end Mine
end
section
set_option Elab.async false
set_option linter.unusedVariables false
namespace Mine
/-- the hole as it sinks -/
structure Dn (l : List (Int × Int)) (p : Nat) : Prop where
  edge : ∀ i, 0 < i → i < l.length → i ≠ p → (i - 1) / 2 ≠ p → ple (g0 l ((i - 1) / 2)) (g0 l i)
  kids : 0 < p → ∀ i, 0 < i → i < l.length → (i - 1) / 2 = p → ple (g0 l ((p - 1) / 2)) (g0 l i)
theorem suC_small {h : List (Int × Int)} {p i : Nat} (hp : 2 * p + 1 < h.length) (h0 : 0 < i) (hi : i < h.length) (hpar : (i - 1) / 2 = p) : ple (g0 h (suC h p)) (g0 h i) := by
  have hi2 : i = 2 * p + 1 ∨ i = 2 * p + 1 + 1 := by omega
  unfold suC
  split
  · rename_i hc
    simp only [Bool.and_eq_true, decide_eq_true_eq, Bool.not_eq_true'] at hc
    have ln := ple_of_not (by rw [hc.2]; exact Bool.false_ne_true : ¬ plt (h.getD (2 * p + 1) (0, 0)) (h.getD (2 * p + 1 + 1) (0, 0)) = true)
    rcases hi2 with rfl | rfl
    · exact ln
    · exact .rf
  · rename_i hc
    rcases hi2 with rfl | rfl
    · exact .rf
    · simp only [Bool.and_eq_true, decide_eq_true_eq, Bool.not_eq_true', not_and] at hc
      have := hc hi
      exact ple_of_lt (by simpa using this)
theorem suL_dn : ∀ (n : Nat) (h : List (Int × Int)) (p : Nat), p < h.length → h.length - p ≤ n → Dn h p → Dn (suL n h p).1 (suL n h p).2 ∧ (suL n h p).1.length ≤ 2 * (suL n h p).2 + 1 ∧ (suL n h p).2 < h.length ∧ (suL n h p).1.length = h.length
  | 0, h, p, hp, hn, D => by omega
  | n + 1, h, p, hp, hn, D => by
    unfold suL
    split
    · rename_i hc
      obtain ⟨c1, c2⟩ := suC_lt hc
      have cpar : (suC h p - 1) / 2 = p := by unfold suC; split <;> omega
      have e2 : ∀ i, g0 (h.set p (g0 h (suC h p))) i = if i = p then g0 h (suC h p) else g0 h i := fun i => g0_set hp
      have := suL_dn n (h.set p (g0 h (suC h p))) (suC h p) (by simpa using c1) (by simp; omega) ⟨fun i h0 hi hne hpar => ?_, fun hp0 i h0 hi hpar => ?_⟩
      · simpa using this
      · simp only [List.length_set] at hi
        simp only [e2]
        by_cases d1 : i = p
        · subst d1
          rw [if_neg (by omega), if_pos rfl]
          exact D.kids h0 (suC h i) (by omega) c1 cpar
        · rw [if_neg d1]
          by_cases d2 : (i - 1) / 2 = p
          · rw [if_pos d2]; exact suC_small hc h0 hi d2
          · rw [if_neg d2]; exact D.edge i h0 hi d1 d2
      · simp only [List.length_set] at hi
        simp only [e2]
        rw [cpar, if_pos rfl, if_neg (by omega)]
        have := D.edge i h0 hi (by omega) (by omega)
        rw [hpar] at this
        exact this
    · exact ⟨D, by show h.length ≤ 2 * p + 1; omega, hp, rfl⟩
end Mine
end
section
set_option Elab.async false
set_option linter.unusedVariables false
namespace Mine
theorem siftdown_heap {h : List (Int × Int)} {new : Int × Int} {pos : Nat} (hp : pos < h.length) (U : Up (h.set pos new) pos) : Hp (siftdownF h new pos) := sdL_heap new pos h pos hp (Nat.le_refl _) U
theorem push_heap {h : List (Int × Int)} (new : Int × Int) (H : Hp h) : Hp (siftdownF (h ++ [new]) new h.length) := by
  have es : (h ++ [new]).set h.length new = h ++ [new] := by simp
  have ea : ∀ i, i < h.length → g0 (h ++ [new]) i = g0 h i := fun i hi => by
    unfold g0
    rw [List.getD_eq_getElem?_getD, List.getD_eq_getElem?_getD, List.getElem?_append_left hi]
  refine siftdown_heap (by simp) ?_
  rw [es]
  refine ⟨fun i h0 hi hne => ?_, fun hp0 i h0 hi hpar => ?_⟩
  · simp at hi
    rw [ea _ (by omega), ea _ (by omega)]
    exact H i h0 (by omega)
  · simp at hi; omega
theorem siftup_heap {h : List (Int × Int)} {new : Int × Int} (hp : 0 < h.length) (D : Dn h 0) : Hp (siftupF h new) := by
  obtain ⟨D', hleaf, hlt, hlen⟩ := suL_dn h.length h 0 hp (by omega) D
  unfold siftupF
  have hl' : (suL h.length h 0).2 < (suL h.length h 0).1.length := by rw [hlen]; exact hlt
  refine siftdown_heap (by simpa using hl') ?_
  rw [List.set_set]
  have e2 : ∀ i, g0 ((suL h.length h 0).1.set (suL h.length h 0).2 new) i = if i = (suL h.length h 0).2 then new else g0 (suL h.length h 0).1 i := fun i => g0_set hl'
  refine ⟨fun i h0 hi hne => ?_, fun hp0 i h0 hi hpar => ?_⟩
  · simp only [List.length_set] at hi
    rw [e2, e2, if_neg hne, if_neg (by omega)]
    exact D'.edge i h0 hi hne (by omega)
  · simp only [List.length_set] at hi
    omega
theorem pop_heap {h : List (Int × Int)} (hne : h ≠ []) (H : Hp h) : Hp (heappopF h).2 ∧ ∀ p ∈ h, ple (heappopF h).1 p := by
  obtain ⟨b, l, rfl⟩ : ∃ b l, h = b ++ [l] := (List.eq_nil_or_concat h).elim (fun e => absurd e hne) fun ⟨b, l, e⟩ => ⟨b, l, by simpa using e⟩
  have root : ∀ p ∈ b ++ [l], ple (g0 (b ++ [l]) 0) p := fun p hp => by
    obtain ⟨i, hi, rfl⟩ := List.getElem_of_mem hp
    have := H.root i i (Nat.le_refl _) hi
    rwa [show g0 (b ++ [l]) i = (b ++ [l])[i] by unfold g0; rw [List.getD_eq_getElem?_getD, List.getElem?_eq_getElem hi]; rfl] at this
  unfold heappopF
  rw [List.dropLast_concat, List.getLast?_concat]
  cases b with
  | nil => exact ⟨fun i _ hi => by simp at hi, root⟩
  | cons p b =>
    refine ⟨siftup_heap (by simp) ?_, root⟩
    have ea : ∀ i, 0 < i → i < (l :: b).length → g0 (l :: b) i = g0 (p :: b ++ [l]) i := fun i h0 hi => by
      obtain ⟨j, rfl⟩ : ∃ j, i = j + 1 := ⟨i - 1, by omega⟩
      unfold g0
      simp only [List.length_cons] at hi
      rw [List.getD_eq_getElem?_getD, List.getD_eq_getElem?_getD, List.cons_append, List.getElem?_cons_succ, List.getElem?_cons_succ, List.getElem?_append_left (by omega)]
    refine ⟨fun i h0 hi hne hpar => ?_, fun hp0 => absurd hp0 (Nat.lt_irrefl _)⟩
    rw [ea i h0 hi, ea ((i - 1) / 2) (by omega) (by omega)]
    refine H i h0 ?_
    simp at hi ⊢; omega
end Mine
end
section
open PySem PySem.Spec PySem.Calls PyProof.Rows PySem.W
set_option Elab.async false
set_option linter.unusedVariables false
namespace Mine
noncomputable abbrev U := Str × Int
noncomputable def isOp (u : U) : Bool := u.1 == "("
noncomputable def run : Nat → List U → Option Nat
  | d, [] => some d
  | d, u :: r => if isOp u = true then run (d + 1) r else if d = 0 then none else run (d - 1) r
noncomputable def wt (us : List U) : Int := (us.map (·.2)).sum
theorem wt_app (a b : List U) : wt (a ++ b) = wt a + wt b := by unfold wt; rw [List.map_append, List.sum_append]
theorem wt_cons (u : U) (b : List U) : wt (u :: b) = u.2 + wt b := by unfold wt; rw [List.map_cons, List.sum_cons]
theorem wt_one (u : U) : wt [u] = u.2 := by rw [wt_cons]; unfold wt; simp
theorem run_op {d : Nat} {u : U} {r : List U} (h : isOp u = true) : run d (u :: r) = run (d + 1) r := if_pos h
theorem run_cl {d : Nat} {u : U} {r : List U} (h : isOp u = false) : run (d + 1) (u :: r) = run d r := by
  rw [run, if_neg (by rw [h]; exact Bool.false_ne_true), if_neg (by omega)]; rfl
theorem run_cl0 {u : U} {r : List U} (h : isOp u = false) : run 0 (u :: r) = none := by
  rw [run, if_neg (by rw [h]; exact Bool.false_ne_true), if_pos rfl]
theorem run_app : ∀ (a b : List U) (d : Nat), run d (a ++ b) = (run d a).bind (run · b)
  | [], _, _ => rfl
  | u :: a, b, d => by
    rw [List.cons_append]
    cases h : isOp u with
    | true => rw [run_op h, run_op h, run_app a b]
    | false =>
      cases d with
      | zero => rw [run_cl0 h, run_cl0 h]; rfl
      | succ d => rw [run_cl h, run_cl h, run_app a b]
theorem run_shift : ∀ (a : List U) {d e : Nat} (c : Nat), run d a = some e → run (d + c) a = some (e + c)
  | [], d, e, c, h => by cases h; rfl
  | u :: a, d, e, c, h => by
    cases ho : isOp u with
    | true =>
      rw [run_op ho] at h ⊢
      rw [show d + c + 1 = d + 1 + c by omega]
      exact run_shift a c h
    | false =>
      cases d with
      | zero => rw [run_cl0 ho] at h; cases h
      | succ d =>
        rw [run_cl ho] at h
        rw [show d + 1 + c = (d + c) + 1 by omega, run_cl ho]
        exact run_shift a c h
theorem isOp_turn (u : U) : isOp (turnU u) = !isOp u := by
  unfold isOp turnU
  cases h : u.1 == "(" with
  | true => simp; decide
  | false => simp
theorem run_rev : ∀ (a : List U) {d e : Nat}, run d a = some e → run e (a.map turnU).reverse = some d
  | [], d, e, h => by cases h; rfl
  | u :: a, d, e, h => by
    rw [List.map_cons, List.reverse_cons, run_app]
    cases ho : isOp u with
    | true =>
      rw [run_op ho] at h
      rw [run_rev a h]
      show run (d + 1) [turnU u] = some d
      rw [run_cl (by rw [isOp_turn, ho]; rfl)]; rfl
    | false =>
      cases d with
      | zero => rw [run_cl0 ho] at h; cases h
      | succ d =>
        rw [run_cl ho] at h
        rw [run_rev a h]
        show run d [turnU u] = some (d + 1)
        rw [run_op (by rw [isOp_turn, ho]; rfl)]; rfl
theorem sum_perm {a b : List Int} (h : a.Perm b) : a.sum = b.sum := by
  induction h with
  | nil => rfl
  | cons x _ ih => simp only [List.sum_cons, ih]
  | swap x y l => simp only [List.sum_cons]; omega
  | trans _ _ h1 h2 => exact h1.trans h2
theorem wt_perm {a b : List U} (h : a.Perm b) : wt a = wt b := sum_perm (h.map _)
theorem wt_turn (a : List U) : wt (a.map turnU).reverse = wt a := by
  rw [wt_perm (List.reverse_perm _)]
  unfold wt
  rw [List.map_map]; rfl
/-- a closer taken out -/
theorem run_out {A B : List U} {c : U} {e : Nat} (hc : isOp c = false) (h : run 0 (A ++ c :: B) = some e) : run 0 (A ++ B) = some (e + 1) := by
  rw [run_app] at h ⊢
  cases ha : run 0 A with
  | none => rw [ha] at h; cases h
  | some a =>
    rw [ha] at h
    cases a with
    | zero =>
      have h : run 0 (c :: B) = some e := h
      rw [run_cl0 hc] at h; cases h
    | succ a =>
      have h : run (a + 1) (c :: B) = some e := h
      rw [run_cl hc] at h
      exact run_shift B 1 h
theorem rangeFrom_snoc : ∀ (n : Nat) (a : Int), rangeFrom a (n + 1) = rangeFrom a n ++ [a + n]
  | 0, a => by simp [rangeFrom]
  | n + 1, a => by
    rw [rangeFrom, rangeFrom_snoc n (a + 1), rangeFrom, List.cons_append]
    congr 3
    push_cast; omega
theorem any_eq {tk : List Int} {k : Int} : (tk.any fun n => n == k) = decide (k ∈ tk) := by
  rw [Bool.eq_iff_iff, List.any_eq_true, decide_eq_true_eq]
  exact ⟨fun ⟨x, h1, h2⟩ => by rw [← eq_of_beq h2]; exact h1, fun h => ⟨k, h, beq_self_eq_true k⟩⟩
theorem keptI_mem {n : Nat} {tk : List Int} {k : Int} (h0 : 0 ≤ k) (h1 : k < n) (h2 : k ∉ tk) : k ∈ keptI n tk := by
  refine List.mem_filter.mpr ⟨?_, by rw [any_eq]; simp [h2]⟩
  have : (rangeFrom 0 n)[k.toNat]? = some k := by rw [rangeFrom_get (by omega)]; congr 1; omega
  exact List.mem_of_getElem? this
theorem keptI_succ {i : Nat} {tk : List Int} (h : (i : Int) ∉ tk) : keptI (i + 1) tk = keptI i tk ++ [(i : Int)] := by
  unfold keptI
  rw [rangeFrom_snoc, List.filter_append]
  congr 1
  rw [Int.zero_add, List.filter_cons, if_pos (by rw [any_eq]; simp [h])]; rfl
theorem keptI_out {i : Nat} {tk : List Int} {t : Int} : keptI i (tk ++ [t]) = (keptI i tk).filter fun k => !(t == k) := by
  unfold keptI
  rw [List.filter_filter]
  refine List.filter_congr fun k _ => ?_
  rw [List.any_append, Bool.not_or]
  simp [Bool.and_comm]
theorem rangeFrom_nodup : ∀ (n : Nat) (a : Int), (rangeFrom a n).Nodup
  | 0, _ => List.nodup_nil
  | n + 1, a => List.nodup_cons.mpr ⟨fun h => by have := rangeFrom_mem h; omega, rangeFrom_nodup n (a + 1)⟩
theorem keptI_nodup (n : Nat) (tk : List Int) : (keptI n tk).Nodup := (rangeFrom_nodup n 0).filter _
theorem filter_out {A B : List Int} {t : Int} (h : (A ++ t :: B).Nodup) : (A ++ t :: B).filter (fun k => !(t == k)) = A ++ B := by
  have hA : ∀ k ∈ A, (!(t == k)) = true := fun k hk => by
    have := (List.nodup_append.mp h).2.2 k hk t (.head _)
    simp; exact fun e => this e.symm
  have hB : ∀ k ∈ B, (!(t == k)) = true := fun k hk => by
    have := (List.nodup_cons.mp (List.nodup_append.mp h).2.1).1
    simp; rintro rfl; exact this hk
  rw [List.filter_append, List.filter_cons, if_neg (by simp), List.filter_eq_self.mpr hA, List.filter_eq_self.mpr hB]
theorem wsum_snoc (bare : List U) (tk : List Int) (t : Int) : wsum bare (tk ++ [t]) = wsum bare tk + (at0 bare t).2 := by
  unfold wsum at0; rw [List.map_append, List.sum_append]; simp
/-- the least is taken out of what has one too many -/
theorem least_out {ys zs rest : List Int} {t : Int} {m : Nat} (hp : (ys ++ zs).Perm (t :: rest)) (ht : ∀ y ∈ ys ++ zs, t ≤ y) (hl : ys.length = m + 1) : ∃ ys' zs' : List Int, (ys' ++ zs').Perm rest ∧ ys'.length = m ∧ ys'.sum + t ≤ ys.sum := by
  have hm : t ∈ ys ++ zs := hp.mem_iff.mpr (.head _)
  rcases List.mem_append.mp hm with h | h
  · have h1 := List.perm_cons_erase h
    refine ⟨ys.erase t, zs, (List.Perm.cons_inv ((h1.append_right zs).symm.trans hp)), ?_, ?_⟩
    · have := h1.length_eq; rw [List.length_cons] at this; omega
    · have := sum_perm h1; rw [List.sum_cons] at this; omega
  · have h1 := List.perm_cons_erase h
    cases ys with
    | nil => cases hl
    | cons y ys =>
      refine ⟨ys, y :: zs.erase t, ?_, by simpa using hl, ?_⟩
      · refine List.Perm.cons_inv (a := t) (List.Perm.trans ?_ hp)
        refine List.Perm.trans ?_ (h1.append_left (y :: ys)).symm
        refine List.Perm.trans (List.Perm.cons t List.perm_middle) ?_
        exact (List.perm_middle (l₁ := y :: ys) (a := t) (l₂ := zs.erase t)).symm
      · have := ht y (.head _)
        rw [List.sum_cons]; omega
end Mine
end
section
open PySem PySem.Spec PySem.Calls PyProof.Rows PySem.W
set_option Elab.async false
set_option linter.unusedVariables false
namespace Mine
/-- greedy, after i brackets: what is kept is an order, and no other order is heavier -/
structure GI (bare : List U) (i : Nat) (st : ASt) : Prop where
  hp : Hp st.cl
  clo : ∀ p ∈ st.cl, isOp (at0 bare p.2) = false ∧ p.1 = (at0 bare p.2).2
  nd : (st.cl.map (·.2) ++ st.tk).Nodup
  rn : run 0 ((keptI i st.tk).map (at0 bare)) = some st.d
  wk : wt ((keptI i st.tk).map (at0 bare)) + wsum bare st.tk = wt (bare.take i)
  ub : ∀ vs j, List.Sublist vs (bare.take i) → run 0 vs = some j → ∃ ys zs : List Int, (ys ++ zs).Perm (st.cl.map (·.1)) ∧ ys.length = j - st.d ∧ wt vs + ys.sum + wsum bare st.tk ≤ wt (bare.take i)
theorem at0_nat (bare : List U) (i : Nat) : at0 bare (i : Int) = bare.getD i ("", 0) := by unfold at0; rw [Int.toNat_natCast]
theorem take_snoc {bare : List U} {i : Nat} (h : i < bare.length) : bare.take (i + 1) = bare.take i ++ [at0 bare (i : Int)] := by
  rw [at0_nat, List.take_add_one, List.getElem?_eq_getElem h, List.getD_eq_getElem?_getD, List.getElem?_eq_getElem h]; rfl
theorem sub_snoc {α : Type} {vs l : List α} {u : α} (h : List.Sublist vs (l ++ [u])) : List.Sublist vs l ∨ ∃ v, vs = v ++ [u] ∧ List.Sublist v l := by
  obtain ⟨l₁, l₂, rfl, h1, h2⟩ := List.sublist_append_iff.mp h
  cases h2 with
  | cons _ h2 => cases h2; rw [List.append_nil]; exact .inl h1
  | cons_cons _ h2 => cases h2; exact .inr ⟨l₁, rfl, h1⟩
theorem sum_nonneg {l : List Int} (h : ∀ y ∈ l, 0 ≤ y) : 0 ≤ l.sum := by
  induction l with
  | nil => exact Int.le_refl _
  | cons a l ih =>
    have := h a (.head _)
    have := ih fun y hy => h y (.tail _ hy)
    rw [List.sum_cons]; omega
theorem at0_nonneg {bare : List U} (hw : ∀ u ∈ bare, 0 ≤ u.2) (k : Int) : 0 ≤ (at0 bare k).2 := by
  unfold at0
  rw [List.getD_eq_getElem?_getD]
  cases h : bare[k.toNat]? with
  | none => exact Int.le_refl _
  | some u => exact hw u (List.mem_of_getElem? h)
theorem cl_nonneg {bare : List U} {i : Nat} {st : ASt} (hw : ∀ u ∈ bare, 0 ≤ u.2) (G : GI bare i st) {ys zs : List Int} (hp : (ys ++ zs).Perm (st.cl.map (·.1))) : ∀ y ∈ ys, 0 ≤ y := fun y hy => by
  obtain ⟨p, hp', rfl⟩ := List.mem_map.mp (hp.mem_iff.mp (List.mem_append_left _ hy))
  rw [(G.clo p hp').2]
  exact at0_nonneg hw _
theorem GI.zero (bare : List U) : GI bare 0 ⟨[], 0, [], [0]⟩ :=
  ⟨fun i _ hi => absurd hi (Nat.not_lt_zero _), fun p h => (by cases h), List.nodup_nil, rfl, by simp [keptI, rangeFrom, wt, wsum], fun vs j h hr => by
    rw [List.take_zero] at h
    cases h; cases hr
    exact ⟨[], [], .refl _, rfl, by simp [wt, wsum]⟩⟩
section
variable {bare : List U} {i : Nat} {st : ASt}
theorem GI.openS (hw : ∀ u ∈ bare, 0 ≤ u.2) (hi : i < bare.length) (A : AOk i st) (G : GI bare i st) (h : isOp (at0 bare (i : Int)) = true) : GI bare (i + 1) ⟨st.cl, st.d + 1, st.tk, st.sums ++ [wsum bare st.tk]⟩ := by
  have hin : (i : Int) ∉ st.tk := fun q => by have := A.tk _ q; omega
  have hu := at0_nonneg hw (i : Int)
  refine ⟨G.hp, G.clo, G.nd, ?_, ?_, fun vs j hs hr => ?_⟩
  · rw [keptI_succ hin, List.map_append, run_app, G.rn]
    exact run_op h
  · have := G.wk
    rw [keptI_succ hin, List.map_append, wt_app, take_snoc hi, wt_app, List.map_singleton, wt_one]
    show _ + wsum bare st.tk = _
    omega
  · rw [take_snoc hi] at hs
    rw [take_snoc hi, wt_app, wt_one]
    show ∃ ys zs : List Int, (ys ++ zs).Perm (st.cl.map (·.1)) ∧ ys.length = j - (st.d + 1) ∧ wt vs + ys.sum + wsum bare st.tk ≤ _
    rcases sub_snoc hs with hs | ⟨v, rfl, hs2⟩
    · obtain ⟨ys, zs, h1, h2, h3⟩ := G.ub vs j hs hr
      have hn := cl_nonneg hw G h1
      cases ys with
      | nil =>
        simp at h2 h3
        exact ⟨[], zs, h1, by simp; omega, by simp; omega⟩
      | cons y ys =>
        have := hn y (.head _)
        rw [List.sum_cons] at h3
        rw [List.length_cons] at h2
        exact ⟨ys, y :: zs, List.perm_middle.trans h1, by omega, by omega⟩
    · rw [run_app] at hr
      cases hv : run 0 v with
      | none => rw [hv] at hr; cases hr
      | some j1 =>
        rw [hv] at hr
        have hr : run j1 [at0 bare (i : Int)] = some j := hr
        rw [run_op h] at hr
        cases hr
        obtain ⟨ys, zs, h1, h2, h3⟩ := G.ub v j1 hs2 hv
        exact ⟨ys, zs, h1, by omega, by rw [wt_app, wt_one]; omega⟩
/-- what stands with a closer more, none yet taken out: one too many may be asked for -/
theorem GI.mid (hw : ∀ u ∈ bare, 0 ≤ u.2) (hi : i < bare.length) (A : AOk i st) (G : GI bare i st) (h : isOp (at0 bare (i : Int)) = false) {vs : List U} {j : Nat} (hs : List.Sublist vs (bare.take (i + 1))) (hr : run 0 vs = some j) :
    ∃ ys zs : List Int, (ys ++ zs).Perm ((at0 bare (i : Int)).2 :: st.cl.map (·.1)) ∧ ys.length = j + 1 - st.d ∧ wt vs + ys.sum + wsum bare st.tk ≤ wt (bare.take (i + 1)) := by
  have hu := at0_nonneg hw (i : Int)
  rw [take_snoc hi] at hs
  rw [take_snoc hi, wt_app, wt_one]
  rcases sub_snoc hs with hs | ⟨v, rfl, hs2⟩
  · obtain ⟨ys, zs, h1, h2, h3⟩ := G.ub vs j hs hr
    by_cases hj : st.d ≤ j
    · exact ⟨(at0 bare (i : Int)).2 :: ys, zs, List.Perm.cons _ h1, by rw [List.length_cons]; omega, by rw [List.sum_cons]; omega⟩
    · have hy : ys = [] := List.eq_nil_of_length_eq_zero (by omega)
      subst hy
      simp at h3
      exact ⟨[], (at0 bare (i : Int)).2 :: zs, List.Perm.cons _ h1, by simp; omega, by simp; omega⟩
  · rw [run_app] at hr
    cases hv : run 0 v with
    | none => rw [hv] at hr; cases hr
    | some j1 =>
      rw [hv] at hr
      have hr : run j1 [at0 bare (i : Int)] = some j := hr
      cases j1 with
      | zero => rw [run_cl0 h] at hr; cases hr
      | succ j1 =>
        rw [run_cl h] at hr
        cases hr
        obtain ⟨ys, zs, h1, h2, h3⟩ := G.ub v _ hs2 hv
        exact ⟨ys, (at0 bare (i : Int)).2 :: zs, List.perm_middle.trans (List.Perm.cons _ h1), by omega, by rw [wt_app, wt_one]; omega⟩
theorem aheap_perm (bare : List U) (st : ASt) (i : Nat) : (aheap bare st i).Perm (((at0 bare (i : Int)).2, (i : Int)) :: st.cl) := by
  rw [at0_nat]; exact push_perm st.cl ((bare.getD i ("", 0)).2, (i : Int))
theorem GI.aclo (G : GI bare i st) (h : isOp (at0 bare (i : Int)) = false) : ∀ p ∈ aheap bare st i, isOp (at0 bare p.2) = false ∧ p.1 = (at0 bare p.2).2 := fun p hp => by
  rcases List.mem_cons.mp ((aheap_perm bare st i).mem_iff.mp hp) with rfl | hp
  · exact ⟨h, rfl⟩
  · exact G.clo p hp
theorem GI.and (A : AOk i st) (G : GI bare i st) : ((aheap bare st i).map (·.2) ++ st.tk).Nodup := by
  refine ((((aheap_perm bare st i).map (·.2)).append_right st.tk).nodup_iff).mpr ?_
  rw [List.map_cons, List.cons_append]
  refine List.nodup_cons.mpr ⟨fun q => ?_, G.nd⟩
  rcases List.mem_append.mp q with q | q
  · obtain ⟨p, hp, e⟩ := List.mem_map.mp q
    have := A.clIn p hp
    have e : p.2 = (i : Int) := e
    omega
  · have := A.tk _ q
    have : (i : Int) < i := this.2
    omega
theorem GI.closeS (hw : ∀ u ∈ bare, 0 ≤ u.2) (hi : i < bare.length) (A : AOk i st) (G : GI bare i st) (h : isOp (at0 bare (i : Int)) = false) (hd : ¬ st.d = 0) : GI bare (i + 1) ⟨aheap bare st i, st.d - 1, st.tk, st.sums ++ [wsum bare st.tk]⟩ := by
  have hin : (i : Int) ∉ st.tk := fun q => by have := A.tk _ q; omega
  refine ⟨push_heap _ G.hp, G.aclo h, G.and A, ?_, ?_, fun vs j hs hr => ?_⟩
  · rw [keptI_succ hin, List.map_append, run_app, G.rn]
    show run st.d [at0 bare (i : Int)] = some (st.d - 1)
    obtain ⟨d, e⟩ : ∃ d, st.d = d + 1 := ⟨st.d - 1, by omega⟩
    rw [e, run_cl h]; rfl
  · have := G.wk
    rw [keptI_succ hin, List.map_append, wt_app, take_snoc hi, wt_app, List.map_singleton, wt_one]
    show _ + wsum bare st.tk = _
    omega
  · obtain ⟨ys, zs, h1, h2, h3⟩ := G.mid hw hi A h hs hr
    exact ⟨ys, zs, h1.trans ((aheap_perm bare st i).map Prod.fst).symm, by show _ = j - (st.d - 1); omega, h3⟩
theorem GI.lowS (hw : ∀ u ∈ bare, 0 ≤ u.2) (hi : i < bare.length) (A : AOk i st) (G : GI bare i st) (h : isOp (at0 bare (i : Int)) = false) (hd : st.d = 0) :
    GI bare (i + 1) ⟨(heappopF (aheap bare st i)).2, 0, st.tk ++ [(heappopF (aheap bare st i)).1.2], st.sums ++ [wsum bare (st.tk ++ [(heappopF (aheap bare st i)).1.2])]⟩ := by
  have hin : (i : Int) ∉ st.tk := fun q => by have := A.tk _ q; omega
  have hlen := (aheap_perm bare st i).length_eq
  have hne : aheap bare st i ≠ [] := fun e => by rw [e] at hlen; simp at hlen
  have pp := pop_perm hne
  obtain ⟨ph, pl⟩ := pop_heap hne (push_heap ((bare.getD i ("", 0)).2, (i : Int)) G.hp : Hp (aheap bare st i))
  have cl := G.aclo h
  have nd := G.and A
  generalize (heappopF (aheap bare st i)).1 = t at *
  generalize (heappopF (aheap bare st i)).2 = rest at *
  obtain ⟨ct1, ct2⟩ := cl t (pp.mem_iff.mpr (.head _))
  have nd' : ((t :: rest).map (·.2) ++ st.tk).Nodup := (((pp.map (·.2)).append_right st.tk).nodup_iff).mp nd
  have ht : t.2 ∈ keptI i st.tk ++ [(i : Int)] := by
    rcases List.mem_cons.mp ((aheap_perm bare st i).mem_iff.mp (pp.mem_iff.mpr (.head _))) with e | hm
    · rw [e]; exact List.mem_append_right _ (.head _)
    · have := A.clIn t hm
      refine List.mem_append_left _ (keptI_mem this.1 this.2 fun q => ?_)
      exact (List.nodup_append.mp nd').2.2 t.2 (.head _) _ q rfl
  have hk : keptI (i + 1) (st.tk ++ [t.2]) = (keptI i st.tk ++ [(i : Int)]).filter fun k => !(t.2 == k) := by rw [keptI_out, keptI_succ hin]
  have hnd : (keptI i st.tk ++ [(i : Int)]).Nodup := by rw [← keptI_succ hin]; exact keptI_nodup _ _
  have hrun : run 0 ((keptI i st.tk).map (at0 bare)) = some 0 := by rw [G.rn, hd]
  have wk := G.wk
  refine ⟨ph, fun p hp => cl p (pp.mem_iff.mpr (.tail _ hp)), ?_, ?_, ?_, fun vs j hs hr => ?_⟩
  · have q : (t.2 :: (rest.map (·.2) ++ st.tk)).Perm (rest.map (·.2) ++ (st.tk ++ [t.2])) := by
      rw [← List.append_assoc]
      exact (List.perm_append_singleton t.2 (rest.map (·.2) ++ st.tk)).symm
    exact q.nodup_iff.mp nd'
  · show run 0 ((keptI (i + 1) (st.tk ++ [t.2])).map (at0 bare)) = some 0
    rw [hk]
    rcases List.mem_append.mp ht with hm | hm
    · obtain ⟨Aₗ, Bₗ, e⟩ := List.append_of_mem hm
      rw [e, List.append_assoc, List.cons_append] at hnd ⊢
      rw [filter_out hnd, ← List.append_assoc, List.map_append, run_app]
      rw [e, List.map_append, List.map_cons] at hrun
      rw [List.map_append, run_out ct1 hrun]
      exact run_cl h
    · have hm : t.2 = (i : Int) := by simpa using hm
      rw [hm]
      have := filter_out (A := keptI i st.tk) (B := []) (t := (i : Int)) hnd
      rw [this, List.append_nil, hrun]
  · show wt ((keptI (i + 1) (st.tk ++ [t.2])).map (at0 bare)) + wsum bare (st.tk ++ [t.2]) = _
    rw [hk, wsum_snoc, take_snoc hi, wt_app, wt_one]
    obtain ⟨Aₗ, Bₗ, e⟩ := List.append_of_mem ht
    have e2 : wt ((keptI i st.tk ++ [(i : Int)]).map (at0 bare)) = wt ((keptI i st.tk).map (at0 bare)) + (at0 bare (i : Int)).2 := by rw [List.map_append, wt_app, List.map_singleton, wt_one]
    rw [e] at hnd e2 ⊢
    rw [filter_out hnd, List.map_append, wt_app]
    rw [List.map_append, List.map_cons, wt_app, wt_cons] at e2
    omega
  · obtain ⟨ys, zs, h1, h2, h3⟩ := G.mid hw hi A h hs hr
    have h4 : (ys ++ zs).Perm (t.1 :: rest.map (·.1)) := h1.trans (((aheap_perm bare st i).map Prod.fst).symm.trans (pp.map Prod.fst))
    obtain ⟨ys', zs', k1, k2, k3⟩ := least_out (m := j) h4 (fun y hy => by
      obtain ⟨p, hp, rfl⟩ := List.mem_map.mp (((aheap_perm bare st i).map Prod.fst).symm.mem_iff.mp (h1.mem_iff.mp hy))
      have := pl p hp
      unfold ple at this
      show t.1 ≤ p.1
      omega) (by omega)
    refine ⟨ys', zs', k1, by show ys'.length = j - 0; omega, ?_⟩
    show _ + _ + wsum bare (st.tk ++ [t.2]) ≤ _
    rw [wsum_snoc, ← ct2]
    omega
end
theorem greedy {bare : List U} (hw : ∀ u ∈ bare, 0 ≤ u.2) : ∀ i, i ≤ bare.length → GI bare i (astate bare i)
  | 0, _ => GI.zero bare
  | i + 1, h => by
    have G := greedy hw i (by omega)
    have A := astate_ok bare i
    show GI bare (i + 1) (astep bare (astate bare i) i)
    cases hb : ((bare.getD i ("", 0)).1 == "(") with
    | true =>
      rw [astep_open hb]
      exact G.openS hw (by omega) A (by rw [at0_nat]; exact hb)
    | false =>
      by_cases hd : (astate bare i).d = 0
      · rw [astep_low hb hd]
        exact G.lowS hw (by omega) A (by rw [at0_nat]; exact hb) hd
      · rw [astep_close hb hd]
        exact G.closeS hw (by omega) A (by rw [at0_nat]; exact hb) hd
end Mine
end
section
open PySem PySem.Spec PySem.Calls PyProof.Rows PySem.W
set_option Elab.async false
set_option linter.unusedVariables false
namespace Mine
/-- the three ways of a step -/
theorem astep_ways (bare : List U) (st : ASt) (i : Nat) {P : ASt → Prop}
    (h1 : isOp (at0 bare (i : Int)) = true → P ⟨st.cl, st.d + 1, st.tk, st.sums ++ [wsum bare st.tk]⟩)
    (h2 : isOp (at0 bare (i : Int)) = false → ¬ st.d = 0 → P ⟨aheap bare st i, st.d - 1, st.tk, st.sums ++ [wsum bare st.tk]⟩)
    (h3 : isOp (at0 bare (i : Int)) = false → st.d = 0 → P ⟨(heappopF (aheap bare st i)).2, 0, st.tk ++ [(heappopF (aheap bare st i)).1.2], st.sums ++ [wsum bare (st.tk ++ [(heappopF (aheap bare st i)).1.2])]⟩) : P (astep bare st i) := by
  rw [at0_nat] at h1 h2 h3
  cases hb : ((bare.getD i ("", 0)).1 == "(") with
  | true => rw [astep_open hb]; exact h1 hb
  | false =>
    by_cases hd : st.d = 0
    · rw [astep_low hb hd]; exact h3 hb hd
    · rw [astep_close hb hd]; exact h2 hb hd
theorem run_snoc {a : List U} {u : U} {d x : Nat} (h : run d (a ++ [u]) = some x) : ∃ y, run d a = some y ∧ run y [u] = some x := by
  rw [run_app] at h
  cases ha : run d a with
  | none => rw [ha] at h; cases h
  | some y => rw [ha] at h; exact ⟨y, rfl, h⟩
/-- how often the way is begun anew, by the depth alone -/
theorem anew (ts : List U) (D : Nat) : ∀ i x, i ≤ ts.length → run D (ts.take i) = some x → (astate ts i).d + D = x + (astate ts i).tk.length ∧ (astate ts i).tk.length ≤ D
  | 0, x, _, h => by
    rw [List.take_zero] at h
    cases h
    exact ⟨by show 0 + D = D + 0; omega, Nat.zero_le _⟩
  | i + 1, x, hi, h => by
    rw [take_snoc (by omega)] at h
    obtain ⟨y, h1, h2⟩ := run_snoc h
    obtain ⟨k1, k2⟩ := anew ts D i y (by omega) h1
    show (astep ts (astate ts i) i).d + D = x + (astep ts (astate ts i) i).tk.length ∧ (astep ts (astate ts i) i).tk.length ≤ D
    refine astep_ways (P := fun s => s.d + D = x + s.tk.length ∧ s.tk.length ≤ D) ts _ i (fun ho => ?_) (fun ho hd => ?_) (fun ho hd => ?_)
    · rw [run_op ho] at h2
      have e := Option.some.inj (h2 : some (y + 1) = some x)
      exact ⟨by show (astate ts i).d + 1 + D = x + (astate ts i).tk.length; omega, k2⟩
    · cases y with
      | zero => rw [run_cl0 ho] at h2; cases h2
      | succ y =>
        rw [run_cl ho] at h2
        have e := Option.some.inj (h2 : some y = some x)
        exact ⟨by show (astate ts i).d - 1 + D = x + (astate ts i).tk.length; omega, k2⟩
    · cases y with
      | zero => rw [run_cl0 ho] at h2; cases h2
      | succ y =>
        rw [run_cl ho] at h2
        have e := Option.some.inj (h2 : some y = some x)
        simp only [List.length_append, List.length_singleton]
        omega
theorem tk_grows (ts : List U) (i : Nat) : ∀ m, ∃ l, (astate ts (i + m)).tk = (astate ts i).tk ++ l
  | 0 => ⟨[], by simp⟩
  | m + 1 => by
    obtain ⟨l, e⟩ := tk_grows ts i m
    show ∃ l, (astep ts (astate ts (i + m)) (i + m)).tk = _
    refine astep_ways (P := fun s => ∃ l, s.tk = (astate ts i).tk ++ l) ts _ (i + m) (fun _ => ⟨l, e⟩) (fun _ _ => ⟨l, e⟩) (fun _ _ => ⟨l ++ [_], by show _ ++ [_] = _; rw [e, List.append_assoc]⟩)
theorem getD_app {b c : List U} {i : Nat} (h : i < b.length) : (b ++ c).getD i ("", 0) = b.getD i ("", 0) := by
  rw [List.getD_eq_getElem?_getD, List.getD_eq_getElem?_getD, List.getElem?_append_left h]
theorem wsum_app {b c : List U} {tk : List Int} (h : ∀ k ∈ tk, k.toNat < b.length) : wsum (b ++ c) tk = wsum b tk := by
  unfold wsum
  congr 1
  exact List.map_congr_left fun k hk => by rw [getD_app (h k hk)]
/-- what stands behind does not count yet -/
theorem astate_app (b c : List U) : ∀ i, i ≤ b.length → astate (b ++ c) i = astate b i
  | 0, _ => rfl
  | i + 1, h => by
    have ih := astate_app b c i (by omega)
    have A := astate_ok b i
    have A' := astate_ok b (i + 1)
    show astep (b ++ c) (astate (b ++ c) i) i = astep b (astate b i) i
    have A' : AOk (i + 1) (astep b (astate b i) i) := A'
    rw [ih]
    have eg := getD_app (b := b) (c := c) (i := i) (by omega)
    have eh : aheap (b ++ c) (astate b i) i = aheap b (astate b i) i := by unfold aheap; rw [eg]
    have et : ∀ k ∈ (astep b (astate b i) i).tk, k.toNat < b.length := fun k hk => by have := A'.tk k hk; omega
    cases hb : ((b.getD i ("", 0)).1 == "(") with
    | true =>
      rw [astep_open hb] at et ⊢
      rw [astep_open (by rw [eg]; exact hb), wsum_app et]
    | false =>
      by_cases hd : (astate b i).d = 0
      · rw [astep_low hb hd] at et ⊢
        rw [astep_low (by rw [eg]; exact hb) hd, eh, wsum_app et]
      · rw [astep_close hb hd] at et ⊢
        rw [astep_close (by rw [eg]; exact hb) hd, eh, wsum_app et]
/-- where the way was begun anew for the last time -/
theorem last_anew (bare : List U) : ∀ i, i ≤ bare.length → ∃ P, P ≤ i ∧ (astate bare P).d = 0 ∧ (astate bare i).tk = (astate bare P).tk ∧ run 0 ((bare.take i).drop P) = some (astate bare i).d
  | 0, _ => ⟨0, Nat.le_refl _, rfl, rfl, rfl⟩
  | i + 1, h => by
    obtain ⟨P, p1, p2, p3, p4⟩ := last_anew bare i (by omega)
    have ed : (bare.take (i + 1)).drop P = (bare.take i).drop P ++ [at0 bare (i : Int)] := by
      rw [take_snoc (by omega), List.drop_append_of_le_length (by rw [List.length_take]; omega)]
    show ∃ P, P ≤ i + 1 ∧ (astate bare P).d = 0 ∧ (astep bare (astate bare i) i).tk = (astate bare P).tk ∧ run 0 ((bare.take (i + 1)).drop P) = some (astep bare (astate bare i) i).d
    cases hb : ((bare.getD i ("", 0)).1 == "(") with
    | true =>
      refine ⟨P, by omega, p2, by rw [astep_open hb]; exact p3, ?_⟩
      rw [ed, run_app, p4, astep_open hb]
      exact run_op (by rw [at0_nat]; exact hb)
    | false =>
      by_cases hd : (astate bare i).d = 0
      · refine ⟨i + 1, Nat.le_refl _, ?_, rfl, ?_⟩
        · show (astep bare (astate bare i) i).d = 0
          rw [astep_low hb hd]
        · rw [List.drop_eq_nil_of_le (by rw [List.length_take]; omega), astep_low hb hd]; rfl
      · refine ⟨P, by omega, p2, by rw [astep_close hb hd]; exact p3, ?_⟩
        rw [ed, run_app, p4, astep_close hb hd]
        show run (astate bare i).d [at0 bare (i : Int)] = some ((astate bare i).d - 1)
        obtain ⟨d, e⟩ : ∃ d, (astate bare i).d = d + 1 := ⟨(astate bare i).d - 1, by omega⟩
        rw [e, run_cl (by rw [at0_nat]; exact hb)]; rfl
theorem word_behind {bare : List U} {tk : List Int} {P : Nat} (ht : ∀ t ∈ tk, t < P) : ∀ m, P + m ≤ bare.length → (keptI (P + m) tk).map (at0 bare) = (keptI P tk).map (at0 bare) ++ (bare.take (P + m)).drop P
  | 0, h => by
    rw [Nat.add_zero, List.drop_eq_nil_of_le (by rw [List.length_take]; omega), List.append_nil]
  | m + 1, h => by
    rw [show P + (m + 1) = (P + m) + 1 by omega, keptI_succ (fun q => by have := ht _ q; omega), List.map_append, word_behind ht m (by omega), take_snoc (by omega), List.drop_append_of_le_length (by rw [List.length_take]; omega), List.append_assoc]
    rfl
theorem range_word (bare : List U) : ∀ n, n ≤ bare.length → (rangeFrom 0 n).map (at0 bare) = bare.take n
  | 0, _ => by rw [List.take_zero]; rfl
  | n + 1, h => by
    rw [rangeFrom_snoc, List.map_append, range_word bare n (by omega), take_snoc (by omega), Int.zero_add]; rfl
theorem kept_sub (bare : List U) (tk : List Int) {n : Nat} (h : n ≤ bare.length) : List.Sublist ((keptI n tk).map (at0 bare)) (bare.take n) := by
  rw [← range_word bare n h]
  exact List.filter_sublist.map _
theorem turn_turn {u : U} (h : isBare u = true) : turnU (turnU u) = u := by
  obtain ⟨t, w⟩ := u
  unfold isBare at h
  have h : (t == "(" || t == ")") = true := h
  rw [Bool.or_eq_true] at h
  rcases h with h | h
  · have := eq_of_beq h; subst this; rfl
  · have := eq_of_beq h; subst this; rfl
theorem rev_rev {a : List U} (h : ∀ u ∈ a, isBare u = true) : ((a.map turnU).reverse.map turnU).reverse = a := by
  rw [List.map_reverse, List.reverse_reverse, List.map_map]
  conv => rhs; rw [← List.map_id a]
  exact List.map_congr_left fun u hu => turn_turn (h u hu)
section
variable {bare : List U} (hw : ∀ u ∈ bare, 0 ≤ u.2) (hb : ∀ u ∈ bare, isBare u = true)
noncomputable abbrev keptW (bare : List U) : List U := (keptI bare.length (astate bare bare.length).tk).map (at0 bare)
noncomputable abbrev turnW (bare : List U) : List U := ((keptW bare).map turnU).reverse
include hw
theorem kept_run : run 0 (keptW bare) = some (astate bare bare.length).d := (greedy hw _ (Nat.le_refl _)).rn
theorem turn_run : run (astate bare bare.length).d (turnW bare) = some 0 := run_rev _ (kept_run hw)
theorem turn_end : (astate (turnW bare) (turnW bare).length).d = 0 ∧ (astate (turnW bare) (turnW bare).length).tk.length = (astate bare bare.length).d := by
  have := anew (turnW bare) (astate bare bare.length).d _ 0 (Nat.le_refl _) (by rw [List.take_length]; exact turn_run hw)
  omega
theorem kept_wt : wt (keptW bare) + wsum bare (astate bare bare.length).tk = wt bare := by
  have := (greedy hw _ (Nat.le_refl _)).wk
  rwa [List.take_length] at this
theorem turn_nonneg : ∀ u ∈ turnW bare, 0 ≤ u.2 := fun u hu => by
  obtain ⟨v, hv, rfl⟩ := List.mem_map.mp (List.mem_reverse.mp hu)
  obtain ⟨k, _, rfl⟩ := List.mem_map.mp hv
  exact at0_nonneg hw k
noncomputable abbrev backW (bare : List U) : List U := ((((keptI (turnW bare).length (astate (turnW bare) (turnW bare).length).tk).map (at0 (turnW bare))).map turnU).reverse)
theorem back_run : run 0 (backW bare) = some 0 := by
  refine run_rev _ ?_
  rw [(greedy (turn_nonneg hw) _ (Nat.le_refl _)).rn, (turn_end hw).1]
theorem back_wt : wt (backW bare) + wsum bare (astate bare bare.length).tk + wsum (turnW bare) (astate (turnW bare) (turnW bare).length).tk = wt bare := by
  have h1 := kept_wt hw
  have h2 := kept_wt (turn_nonneg hw)
  rw [wt_turn] at h2
  rw [wt_turn]
  show wt (keptW (turnW bare)) + _ + _ = _
  omega
include hb
omit hw in
theorem kept_bare : ∀ u ∈ keptW bare, isBare u = true := fun u hu => by
  have := (kept_sub bare (astate bare bare.length).tk (Nat.le_refl _)).mem hu
  rw [List.take_length] at this
  exact hb u this
omit hw in
theorem back_sub : List.Sublist (backW bare) bare := by
  have h1 := kept_sub (turnW bare) (astate (turnW bare) (turnW bare).length).tk (Nat.le_refl _)
  rw [List.take_length] at h1
  have h2 := (h1.map turnU).reverse
  have h3 := kept_sub bare (astate bare bare.length).tk (Nat.le_refl _)
  rw [List.take_length] at h3
  refine h2.trans ?_
  have : ((turnW bare).map turnU).reverse = keptW bare := rev_rev (kept_bare hb)
  rw [this]
  exact h3
omit hb in
theorem whole_ub {vs : List U} (hs : List.Sublist vs bare) (hr : run 0 vs = some 0) : wt vs + wsum bare (astate bare bare.length).tk + wsum (turnW bare) (astate (turnW bare) (turnW bare).length).tk ≤ wt bare := by
  obtain ⟨P, p1, p2, p3, p4⟩ := last_anew bare bare.length (Nat.le_refl _)
  rw [List.take_length] at p4
  have hsplit : bare = bare.take P ++ bare.drop P := (List.take_append_drop P bare).symm
  rw [hsplit] at hs
  obtain ⟨v1, v2, rfl, s1, s2⟩ := List.sublist_append_iff.mp hs
  rw [run_app] at hr
  cases h1 : run 0 v1 with
  | none => rw [h1] at hr; cases hr
  | some j =>
    rw [h1] at hr
    have hr : run j v2 = some 0 := hr
    have AP := astate_ok bare P
    have GP := greedy hw P p1
    obtain ⟨ys, zs, y1, y2, y3⟩ := GP.ub v1 j s1 h1
    have yn := sum_nonneg (cl_nonneg hw GP y1)
    have hw2 : ∀ u ∈ ((bare.drop P).map turnU).reverse, 0 ≤ u.2 := fun u hu => by
      obtain ⟨v, hv, rfl⟩ := List.mem_map.mp (List.mem_reverse.mp hu)
      exact hw v (List.mem_of_mem_drop hv)
    generalize hr2 : ((bare.drop P).map turnU).reverse = r2 at *
    have G2 := greedy hw2 r2.length (Nat.le_refl _)
    obtain ⟨ys', zs', z1, z2, z3⟩ := G2.ub (v2.map turnU).reverse j (by rw [List.take_length, ← hr2]; exact (s2.map turnU).reverse) (run_rev _ hr)
    have zn := sum_nonneg (cl_nonneg hw2 G2 z1)
    rw [List.take_length, wt_turn] at z3
    have ewr : wt r2 = wt (bare.drop P) := by rw [← hr2, wt_turn]
    have et : turnW bare = r2 ++ (((keptI P (astate bare P).tk).map (at0 bare)).map turnU).reverse := by
      have hwd := word_behind (bare := bare) (tk := (astate bare P).tk) (P := P) (fun t ht => (AP.tk t ht).2) (bare.length - P) (by omega)
      rw [show P + (bare.length - P) = bare.length by omega, List.take_length] at hwd
      show (((keptI bare.length (astate bare bare.length).tk).map (at0 bare)).map turnU).reverse = _
      rw [p3, hwd, List.map_append, List.reverse_append, hr2]
    have eA : astate (turnW bare) r2.length = astate r2 r2.length := by rw [et]; exact astate_app _ _ _ (Nat.le_refl _)
    have hl2 : (astate r2 r2.length).tk.length = (astate bare bare.length).d := by
      have := anew r2 (astate bare bare.length).d r2.length 0 (Nat.le_refl _) (by rw [List.take_length, ← hr2]; exact run_rev _ p4)
      omega
    have hle : r2.length ≤ (turnW bare).length := by rw [et, List.length_append]; omega
    obtain ⟨l, hl⟩ := tk_grows (turnW bare) r2.length ((turnW bare).length - r2.length)
    rw [show r2.length + ((turnW bare).length - r2.length) = (turnW bare).length by omega, eA] at hl
    have hz : l = [] := by
      have := congrArg List.length hl
      rw [List.length_append, (turn_end hw).2, hl2] at this
      exact List.eq_nil_of_length_eq_zero (by omega)
    rw [hz, List.append_nil] at hl
    have A2 := astate_ok r2 r2.length
    have ews : wsum (turnW bare) (astate (turnW bare) (turnW bare).length).tk = wsum r2 (astate r2 r2.length).tk := by
      rw [hl]
      conv => lhs; rw [et]
      exact wsum_app fun k hk => by have := A2.tk k hk; omega
    have ewb : wt bare = wt (bare.take P) + wt (bare.drop P) := by rw [← wt_app, ← hsplit]
    rw [ews, p3, ewb, wt_app]
    omega
end
end Mine
end
section
open PySem PySem.Spec PySem.Calls PyProof.Rows PySem.W
set_option Elab.async false
set_option linter.unusedVariables false
namespace Mine
theorem dlook_cons (p : Int × Int) (kvs : List (Int × Int)) (k : Int) : dlook (p :: kvs) k = if p.1 = k then some p.2 else dlook kvs k := by
  unfold dlook
  rw [List.find?_cons]
  by_cases h : p.1 = k
  · rw [if_pos h]; simp [h]
  · rw [if_neg h]; simp [h]
theorem dlook_app : ∀ (kvs : List (Int × Int)) (k v k' : Int), (kvs.any fun p => p.1 = k) = false → dlook (kvs ++ [(k, v)]) k' = if k = k' then some v else dlook kvs k'
  | [], k, v, k', _ => by rw [List.nil_append, dlook_cons]
  | p :: kvs, k, v, k', h => by
    simp only [List.any_cons, Bool.or_eq_false_iff, decide_eq_false_iff_not] at h
    rw [List.cons_append, dlook_cons, dlook_cons, dlook_app kvs k v k' h.2]
    by_cases h1 : p.1 = k'
    · rw [if_pos h1, if_neg (fun q => h.1 (h1.trans q.symm))]; simp [h1]
    · rw [if_neg h1, if_neg h1]
theorem dlook_upd : ∀ (kvs : List (Int × Int)) (k v k' : Int), dlook (kvs.map fun p => if p.1 = k then (p.1, v) else p) k' = if k = k' ∧ (kvs.any fun p => p.1 = k) = true then some v else dlook kvs k'
  | [], k, v, k' => by simp [dlook]
  | p :: kvs, k, v, k' => by
    rw [List.map_cons, dlook_cons, dlook_cons, dlook_upd kvs k v k']
    by_cases h : p.1 = k
    · rw [if_pos h]
      by_cases h2 : p.1 = k'
      · rw [if_pos (show (p.1, v).1 = k' from h2), if_pos ⟨h.symm.trans h2, by simp [h]⟩]
      · rw [if_neg (show ¬ (p.1, v).1 = k' from h2), if_neg h2, if_neg (fun q => h2 (h.trans q.1)), if_neg (fun q => h2 (h.trans q.1))]
    · rw [if_neg h]
      by_cases h2 : p.1 = k'
      · rw [if_pos h2, if_pos h2, if_neg (fun q => h (h2.trans q.1.symm))]
      · rw [if_neg h2, if_neg h2, List.any_cons, decide_eq_false h, Bool.false_or]
theorem dlook_store (kvs : List (Int × Int)) (k v k' : Int) : dlook (dstore kvs k v) k' = if k = k' then some v else dlook kvs k' := by
  unfold dstore
  cases h : kvs.any fun p => p.1 = k with
  | true =>
    rw [if_pos rfl, dlook_upd]
    simp [h]
  | false => rw [if_neg Bool.false_ne_true, dlook_app _ _ _ _ h]
theorem dlook_mem {kvs : List (Int × Int)} {k v : Int} (h : dlook kvs k = some v) : k ∈ kvs.map (·.1) := by
  unfold dlook at h
  cases e : kvs.find? fun p => p.1 = k with
  | none => rw [e] at h; cases h
  | some p =>
    have h1 := List.mem_of_find?_eq_some e
    have h2 := List.find?_some e
    refine List.mem_map.mpr ⟨p, h1, by simpa using h2⟩
/-- an order of brackets that ends at this depth and weighs so much -/
noncomputable def Sem (us : List U) (k v : Int) : Prop := ∃ vs, List.Sublist vs us ∧ ∃ j : Nat, k = j ∧ run 0 vs = some j ∧ wt vs = v
structure Tb (us : List U) (kvs : List (Int × Int)) : Prop where
  sound : ∀ k v, dlook kvs k = some v → Sem us k v
  whole : ∀ vs (j : Nat), List.Sublist vs us → run 0 vs = some j → ∃ v, dlook kvs j = some v ∧ wt vs ≤ v
theorem Sem.more {us : List U} {u : U} {k v : Int} (h : Sem us k v) : Sem (us ++ [u]) k v := let ⟨vs, h1, h2⟩ := h; ⟨vs, h1.trans (List.sublist_append_left _ _), h2⟩
theorem lands_op {u : U} {d : Int} (h : isOp u = true) : lands u.1 d = d + 1 := if_pos h
theorem lands_cl {u : U} {d : Int} (h : isOp u = false) : lands u.1 d = d - 1 := if_neg (by unfold isOp at h; rw [h]; exact Bool.false_ne_true)
theorem Sem.step {us : List U} {u : U} {k v : Int} (h : Sem us k v) (hl : lands u.1 k ≥ 0) : Sem (us ++ [u]) (lands u.1 k) (v + u.2) := by
  obtain ⟨vs, h1, j, rfl, h2, rfl⟩ := h
  cases ho : isOp u with
  | true => exact ⟨vs ++ [u], h1.append_right _, j + 1, by rw [lands_op ho]; rfl, by rw [run_app, h2]; exact run_op ho, by rw [wt_app, wt_one]⟩
  | false =>
    rw [lands_cl ho] at hl ⊢
    obtain ⟨i, rfl⟩ : ∃ i, j = i + 1 := ⟨j - 1, by omega⟩
    exact ⟨vs ++ [u], h1.append_right _, i, by push_cast; omega, by rw [run_app, h2]; exact run_cl ho, by rw [wt_app, wt_one]⟩
theorem wt_nonneg {us vs : List U} (hw : ∀ u ∈ us, 0 ≤ u.2) (h : List.Sublist vs us) : 0 ≤ wt vs := sum_nonneg fun y hy => by
  obtain ⟨u, hu, rfl⟩ := List.mem_map.mp hy
  exact hw u (h.mem hu)
structure Tm2 (us : List U) (u : U) (kvs lo : List (Int × Int)) (ds : List Int) : Prop where
  sound : ∀ k v, dlook lo k = some v → Sem (us ++ [u]) k v
  keep : ∀ k v, dlook kvs k = some v → ∃ v', dlook lo k = some v' ∧ v ≤ v'
  went : ∀ d ∈ ds, ∀ v, dlook kvs d = some v → lands u.1 d ≥ 0 → ∃ v', dlook lo (lands u.1 d) = some v' ∧ v + u.2 ≤ v'
theorem bin_step {us : List U} {u : U} {kvs lo : List (Int × Int)} {ds : List Int} {d : Int} (hw : ∀ x ∈ us ++ [u], 0 ≤ x.2) (T : Tb us kvs) (M : Tm2 us u kvs lo ds) (hd : d ∈ kvs.map (·.1)) : Tm2 us u kvs (bin kvs u lo d) (ds ++ [d]) := by
  obtain ⟨p, hp, rfl⟩ := List.mem_map.mp hd
  obtain ⟨v0, hv0⟩ := dlook_map (k := 0) (v := 0) hp
  have s0 := T.sound _ _ hv0
  unfold bin
  rw [hv0]
  show Tm2 us u kvs (if lands u.1 p.1 ≥ 0 then dstore lo (lands u.1 p.1) (max ((dlook lo (lands u.1 p.1)).getD 0) (v0 + u.2)) else lo) (ds ++ [p.1])
  by_cases hl : lands u.1 p.1 ≥ 0
  · rw [if_pos hl]
    have s1 := s0.step hl
    have n1 : 0 ≤ v0 + u.2 := by
      obtain ⟨vs, q1, _, _, _, q2⟩ := s1
      rw [← q2]; exact wt_nonneg hw q1
    generalize hl' : lands u.1 p.1 = l at *
    have up : ∀ k v, dlook lo k = some v → ∃ v', dlook (dstore lo l (max ((dlook lo l).getD 0) (v0 + u.2))) k = some v' ∧ v ≤ v' := fun k v e => by
      rw [dlook_store]
      by_cases q : l = k
      · subst q
        rw [if_pos rfl, e]
        exact ⟨_, rfl, by show v ≤ max v _; omega⟩
      · rw [if_neg q]; exact ⟨v, e, Int.le_refl _⟩
    refine ⟨fun k v e => ?_, fun k v e => ?_, fun d hd v e hln => ?_⟩
    · rw [dlook_store] at e
      by_cases q : l = k
      · subst q
        rw [if_pos rfl] at e
        have e := Option.some.inj e
        cases h : dlook lo l with
        | none =>
          rw [h] at e
          have : max (0 : Int) (v0 + u.2) = v := e
          rw [show v = v0 + u.2 by omega]; exact s1
        | some w =>
          rw [h] at e
          have : max w (v0 + u.2) = v := e
          by_cases q : v0 + u.2 ≤ w
          · rw [show v = w by omega]; exact M.sound _ _ h
          · rw [show v = v0 + u.2 by omega]; exact s1
      · rw [if_neg q] at e; exact M.sound _ _ e
    · obtain ⟨v', e1, h1⟩ := M.keep k v e
      obtain ⟨v'', e2, h2⟩ := up k v' e1
      exact ⟨v'', e2, by omega⟩
    · rcases List.mem_append.mp hd with hd | hd
      · obtain ⟨v', e1, h1⟩ := M.went d hd v e hln
        obtain ⟨v'', e2, h2⟩ := up _ v' e1
        exact ⟨v'', e2, by omega⟩
      · have hd : d = p.1 := by simpa using hd
        subst hd
        rw [hv0] at e; cases e
        rw [hl', dlook_store, if_pos rfl]
        exact ⟨_, rfl, by omega⟩
  · rw [if_neg hl]
    refine ⟨M.sound, M.keep, fun d hd v e hln => ?_⟩
    rcases List.mem_append.mp hd with hd | hd
    · exact M.went d hd v e hln
    · have hd : d = p.1 := by simpa using hd
      subst hd
      exact absurd hln hl
theorem bin_all {us : List U} {u : U} {kvs : List (Int × Int)} (hw : ∀ x ∈ us ++ [u], 0 ≤ x.2) (T : Tb us kvs) : ∀ (es ds : List Int) (lo : List (Int × Int)), (∀ d ∈ es, d ∈ kvs.map (·.1)) → Tm2 us u kvs lo ds → Tm2 us u kvs (es.foldl (bin kvs u) lo) (ds ++ es)
  | [], ds, lo, _, M => by rw [List.append_nil]; exact M
  | d :: es, ds, lo, h, M => by
    have := bin_all hw T es (ds ++ [d]) _ (fun x hx => h x (.tail _ hx)) (bin_step hw T M (h d (.head _)))
    rwa [List.append_assoc] at this
theorem Tb.next {us : List U} {u : U} {kvs : List (Int × Int)} (hw : ∀ x ∈ us ++ [u], 0 ≤ x.2) (T : Tb us kvs) : Tb (us ++ [u]) (bnext kvs u) := by
  have M : Tm2 us u kvs (bnext kvs u) ([] ++ kvs.map (·.1)) := bin_all hw T _ [] kvs (fun _ h => h) ⟨fun k v e => (T.sound k v e).more, fun k v e => ⟨v, e, Int.le_refl _⟩, fun d hd => by cases hd⟩
  refine ⟨M.sound, fun vs j hs hr => ?_⟩
  rcases sub_snoc hs with hs | ⟨v, rfl, hs2⟩
  · obtain ⟨v, e, h⟩ := T.whole vs j hs hr
    obtain ⟨v', e', h'⟩ := M.keep _ _ e
    exact ⟨v', e', by omega⟩
  · obtain ⟨i, h1, h2⟩ := run_snoc hr
    obtain ⟨w, e, h⟩ := T.whole v i hs2 h1
    have hl : lands u.1 (i : Int) = (j : Int) := by
      cases ho : isOp u with
      | true =>
        rw [run_op ho] at h2
        have e := Option.some.inj (h2 : some (i + 1) = some j)
        rw [lands_op ho]; omega
      | false =>
        cases i with
        | zero => rw [run_cl0 ho] at h2; cases h2
        | succ i =>
          rw [run_cl ho] at h2
          have e := Option.some.inj (h2 : some i = some j)
          rw [lands_cl ho]; omega
    obtain ⟨w', e', h'⟩ := M.went (i : Int) (by rw [List.nil_append]; exact dlook_mem e) w e (by omega)
    rw [hl] at e'
    exact ⟨w', e', by rw [wt_app, wt_one]; omega⟩
theorem Tb.zero : Tb [] [(0, 0)] := by
  refine ⟨fun k v e => ?_, fun vs j hs hr => ?_⟩
  · rw [dlook_cons] at e
    by_cases h : (0 : Int) = k
    · rw [if_pos h] at e
      cases e
      exact ⟨[], .slnil, 0, h.symm, rfl, rfl⟩
    · rw [if_neg h] at e; cases e
  · cases hs; cases hr
    exact ⟨0, rfl, Int.le_refl _⟩
theorem table {bare : List U} (hw : ∀ u ∈ bare, 0 ≤ u.2) : ∀ i, i ≤ bare.length → Tb (bare.take i) (bfold (bare.take i)).1
  | 0, _ => by rw [List.take_zero]; exact Tb.zero
  | i + 1, h => by
    have T := table hw i (by omega)
    rw [take_snoc (by omega), bfold_snoc]
    exact T.next fun x hx => by
      rw [← take_snoc (by omega)] at hx
      exact hw x (List.mem_of_mem_take hx)
theorem maxOf_spec : ∀ (ns : List Int) (m : Int), maxOf m ns ∈ m :: ns ∧ ∀ x ∈ m :: ns, x ≤ maxOf m ns
  | [], m => ⟨.head _, fun x hx => by have : x = m := by simpa using hx
                                      subst this; exact Int.le_refl _⟩
  | n :: ns, m => by
    obtain ⟨h1, h2⟩ := maxOf_spec ns (max m n)
    rw [maxOf]
    refine ⟨?_, fun x hx => ?_⟩
    · rcases List.mem_cons.mp h1 with h | h
      · rw [h]
        by_cases q : m ≤ n
        · rw [Int.max_eq_right q]; exact .tail _ (.head _)
        · rw [Int.max_eq_left (by omega)]; exact .head _
      · exact .tail _ (.tail _ h)
    · have h0 := h2 _ (.head _)
      rcases List.mem_cons.mp hx with rfl | hx
      · omega
      · rcases List.mem_cons.mp hx with rfl | hx
        · omega
        · exact h2 x (.tail _ hx)
theorem dmax_spec {kvs : List (Int × Int)} (hne : kvs ≠ []) : (∃ k, dlook kvs k = some (dmax kvs)) ∧ ∀ k v, dlook kvs k = some v → v ≤ dmax kvs := by
  obtain ⟨m, ns, hmn⟩ : ∃ m ns, kvs.map (fun p => (dlook kvs p.1).getD 0) = m :: ns := by
    cases kvs with
    | nil => exact absurd rfl hne
    | cons a b => exact ⟨_, _, rfl⟩
  have hd : dmax kvs = maxOf m ns := by unfold dmax; rw [hmn]
  obtain ⟨h1, h2⟩ := maxOf_spec ns m
  rw [← hmn] at h1 h2
  rw [hd]
  refine ⟨?_, fun k v e => ?_⟩
  · obtain ⟨p, hp, e⟩ := List.mem_map.mp h1
    obtain ⟨v, hv⟩ := dlook_map (k := 0) (v := 0) hp
    refine ⟨p.1, ?_⟩
    rw [hv] at e
    rw [hv, ← e]; rfl
  · obtain ⟨p, hp, rfl⟩ := List.mem_map.mp (dlook_mem e)
    have := h2 _ (List.mem_map.mpr ⟨p, hp, rfl⟩)
    rw [e] at this
    exact this
section
variable {bare : List U} (hw : ∀ u ∈ bare, 0 ≤ u.2) (hb : ∀ u ∈ bare, isBare u = true)
include hw
theorem front_at {i : Nat} (hi : i ≤ bare.length) : dmax (bfold (bare.take i)).1 = wt (bare.take i) - wsum bare (astate bare i).tk := by
  have T := table hw i hi
  have G := greedy hw i hi
  have hne : (bfold (bare.take i)).1 ≠ [] := fun z => by
    have := (bfold_len _ (bare.take i) rfl).2.1
    rw [z] at this; simp at this
  obtain ⟨⟨k, hk⟩, hub⟩ := dmax_spec hne
  obtain ⟨v, h1, h2⟩ := T.whole _ _ (kept_sub bare (astate bare i).tk hi) G.rn
  have h3 := hub _ _ h1
  have h4 := G.wk
  obtain ⟨vs, s1, j, _, s2, s3⟩ := T.sound _ _ hk
  obtain ⟨ys, zs, y1, _, y3⟩ := G.ub vs j s1 s2
  have := sum_nonneg (cl_nonneg hw G y1)
  omega
theorem fronts_eq : ∀ i, i ≤ bare.length → (bfold (bare.take i)).2 = (rangeFrom 0 (i + 1)).map fun k => wt (bare.take k.toNat) - wsum bare (astate bare k.toNat).tk
  | 0, _ => rfl
  | i + 1, h => by
    rw [rangeFrom_snoc, List.map_append, ← fronts_eq i (by omega), List.map_singleton, Int.zero_add, Int.toNat_natCast, ← front_at hw h, take_snoc (by omega), bfold_snoc]
omit hw in
theorem sums_eq : ∀ i, (astate bare i).sums = (rangeFrom 0 (i + 1)).map fun k => wsum bare (astate bare k.toNat).tk
  | 0 => rfl
  | i + 1 => by
    rw [rangeFrom_snoc, List.map_append, ← sums_eq i, List.map_singleton, Int.zero_add, Int.toNat_natCast]
    exact astep_sums bare (astate bare i) i
omit hw in
theorem sums_at {i k : Nat} (h : k ≤ i) : (astate bare i).sums.getD k 0 = wsum bare (astate bare k).tk := by
  rw [sums_eq, rangeFrom_getD (by omega), Int.toNat_natCast]
theorem law_a2 : (rangeFrom 0 (bare.length + 1)).map (fun k => ((bare.take k.toNat).map (·.2)).sum - (astate bare bare.length).sums.getD k.toNat 0) = (bfold bare).2 := by
  have := fronts_eq hw bare.length (Nat.le_refl _)
  rw [List.take_length] at this
  rw [this]
  refine List.map_congr_left fun k hk => ?_
  have hk := rangeFrom_mem hk
  rw [sums_at (by omega)]
  rfl
include hb
theorem law_a5 : dlook (bfold bare).1 0 = some ((bare.map (·.2)).sum - (astate bare bare.length).sums.getD bare.length 0 - (astate (turnW bare) (turnW bare).length).sums.getD (turnW bare).length 0) := by
  have T := table hw bare.length (Nat.le_refl _)
  rw [List.take_length] at T
  obtain ⟨v, h1, h2⟩ := T.whole _ 0 (back_sub hb) (back_run hw)
  obtain ⟨vs, s1, j, s2, s3, s4⟩ := T.sound _ _ h1
  have hj : j = 0 := by omega
  subst hj
  have h3 := whole_ub hw s1 s3
  have h4 := back_wt hw
  rw [sums_at (Nat.le_refl _), sums_at (Nat.le_refl _)]
  rw [show ((0 : Nat) : Int) = 0 from rfl] at h1
  rw [h1]
  congr 1
  show v = wt bare - _ - _
  omega
end
end Mine
end
section
open PySem PySem.Spec PySem.Calls PyProof.Rows PySem.W
set_option Elab.async false
set_option linter.unusedVariables false
namespace Mine
theorem lastE_app : ∀ (a b : List Nat) (e : Bool), lastE e a = false → lastE e (a ++ b) = lastE false b
  | [], b, e, h => by have h : e = false := h; subst h; rfl
  | c :: a, b, true, h => lastE_app a b false h
  | c :: a, b, false, h => by
    rw [List.cons_append, lastE]
    rw [lastE] at h
    split
    · rename_i h9
      rw [if_pos h9] at h
      exact lastE_app a b true h
    · rename_i h9
      rw [if_neg h9] at h
      exact lastE_app a b false h
theorem escG_app : ∀ (a b : List Nat) (e : Bool) (i : Nat), lastE e a = false → escG e i (a ++ b) = escG e i a ++ escG false (i + a.length) b
  | [], b, e, i, h => by have h : e = false := h; subst h; rfl
  | c :: a, b, true, i, h => by
    rw [List.cons_append, escG, escG, escG_app a b false (i + 1) h, List.length_cons, List.cons_append, show i + 1 + a.length = i + (a.length + 1) by omega]
  | c :: a, b, false, i, h => by
    rw [lastE] at h
    rw [List.cons_append, escG, escG, List.length_cons]
    split
    · rename_i h9
      rw [if_pos h9] at h
      rw [escG_app a b true (i + 1) h, show i + 1 + a.length = i + (a.length + 1) by omega]
    · rename_i h9
      rw [if_neg h9] at h
      rw [escG_app a b false (i + 1) h, List.cons_append, show i + 1 + a.length = i + (a.length + 1) by omega]
noncomputable def cat (ts : List Str) : List Nat := ts.flatMap fun t => t.cps.toList
theorem cat_cons (t : Str) (ts : List Str) : cat (t :: ts) = t.cps.toList ++ cat ts := rfl
theorem cat_app (a b : List Str) : cat (a ++ b) = cat a ++ cat b := by unfold cat; rw [List.flatMap_append]
theorem cat_one (t : Str) : cat [t] = t.cps.toList := by rw [cat_cons]; exact List.append_nil _
theorem join_cat : ∀ ts : List Str, (Str.join "" ts).cps.toList = cat ts
  | [] => rfl
  | [x] => (cat_one x).symm
  | x :: y :: r => by
    rw [cat_cons, ← join_cat (y :: r)]
    show ((x ++ ("" : Str)) ++ Str.join "" (y :: r)).cps.toList = _
    show ((x.cps ++ #[]) ++ (Str.join "" (y :: r)).cps).toList = _
    simp
theorem tjoin_cat (ts : List Str) : (Txt.join "" ts).cps.toList = cat ts := by
  rw [← join_cat]
  unfold Txt.join
  rw [StrLaws.glued_eq_join]
theorem str_len (x : Str) : x.length = x.cps.toList.length := by simp [Str.length]
theorem cat_len (ts : List Str) : (cat ts).length = (ts.map (·.length)).sum := by
  induction ts with
  | nil => rfl
  | cons t ts ih => rw [cat_cons, List.length_append, ih, List.map_cons, List.sum_cons, str_len]
noncomputable def quoT : List Str := ["\"(\"", "\")\"", "\"\\\")\""]
noncomputable def escT : List Str := ["\\(", "\\)", "\\\"", "\\\\"]
noncomputable def bareT : List Str := ["(", ")"]
noncomputable def isQuo (t : Str) : Bool := quoT.contains t
/-- the nine texts -/
noncomputable def Good (t : Str) : Prop := t ∈ bareT ∨ t ∈ quoT ∨ t ∈ escT
theorem good_cases {P : Str → Prop} (h1 : P "(") (h2 : P ")") (h3 : P "\"(\"") (h4 : P "\")\"") (h5 : P "\"\\\")\"") (h6 : P "\\(") (h7 : P "\\)") (h8 : P "\\\"") (h9 : P "\\\\") {t : Str} (h : Good t) : P t := by
  have e1 : ∀ {a b : Str}, t ∈ [a, b] → t = a ∨ t = b := fun h => by simpa using h
  have e2 : ∀ {a b c : Str}, t ∈ [a, b, c] → t = a ∨ t = b ∨ t = c := fun h => by simpa using h
  have e3 : ∀ {a b c d : Str}, t ∈ [a, b, c, d] → t = a ∨ t = b ∨ t = c ∨ t = d := fun h => by simpa using h
  rcases h with h | h | h
  · rcases e1 h with rfl | rfl
    · exact h1
    · exact h2
  · rcases e2 h with rfl | rfl | rfl
    · exact h3
    · exact h4
    · exact h5
  · rcases e3 h with rfl | rfl | rfl | rfl
    · exact h6
    · exact h7
    · exact h8
    · exact h9
theorem good_last {t : Str} (h : Good t) : lastE false t.cps.toList = false := good_cases (P := fun t => lastE false t.cps.toList = false) rfl rfl rfl rfl rfl rfl rfl rfl rfl h
theorem good_len {t : Str} (h : Good t) : t.length ≤ 5 := good_cases (P := fun t => t.length ≤ 5) (by decide) (by decide) (by decide) (by decide) (by decide) (by decide) (by decide) (by decide) (by decide) h
theorem goods_last : ∀ {ts : List Str}, (∀ t ∈ ts, Good t) → lastE false (cat ts) = false
  | [], _ => rfl
  | t :: ts, h => by
    rw [cat_cons, lastE_app _ _ _ (good_last (h t (.head _)))]
    exact goods_last fun s hs => h s (.tail _ hs)
theorem goods_len : ∀ {ts : List Str}, (∀ t ∈ ts, Good t) → (cat ts).length ≤ 5 * ts.length
  | [], _ => Nat.le_refl _
  | t :: ts, h => by
    have h1 := good_len (h t (.head _))
    have h2 := goods_len (ts := ts) fun s hs => h s (.tail _ hs)
    rw [str_len] at h1
    rw [cat_cons, List.length_append, List.length_cons]; omega
/-- what the turns of the strip make of one text -/
theorem sstep_plain {x : Str} {t : Str} (h : Good t) (hq : isQuo t = false) (st : SSt) (n : Nat) : (escG false n t.cps.toList).foldl (sstep x) st = st := by
  refine good_cases (P := fun t => isQuo t = false → (escG false n t.cps.toList).foldl (sstep x) st = st) (fun _ => rfl) (fun _ => rfl) (fun h => ?_) (fun h => ?_) (fun h => ?_) (fun _ => rfl) (fun _ => rfl) (fun _ => rfl) (fun _ => rfl) h hq
  · exact absurd h (by decide)
  · exact absurd h (by decide)
  · exact absurd h (by decide)
theorem sstep_quo {x : Str} {t : Str} (h : Good t) (hq : isQuo t = true) (start : Nat) (res : List Str) (n : Nat) :
    (escG false n t.cps.toList).foldl (sstep x) (start, none, res) = (n + t.cps.toList.length, none, if start != n then res ++ [cut x start n] else res) := by
  refine good_cases (P := fun t => isQuo t = true → (escG false n t.cps.toList).foldl (sstep x) (start, none, res) = (n + t.cps.toList.length, none, if start != n then res ++ [cut x start n] else res)) (fun h => ?_) (fun h => ?_) (fun _ => rfl) (fun _ => rfl) (fun _ => rfl) (fun h => ?_) (fun h => ?_) (fun h => ?_) (fun h => ?_) h hq
  all_goals exact absurd h (by decide)
theorem cut_pre {x : Str} {pre rest : List Nat} {a : Nat} (hx : x.cps.toList = pre ++ rest) (ha : a ≤ pre.length) : (cut x a pre.length).cps.toList = pre.drop a := by
  unfold cut
  rw [hx, List.drop_append_of_le_length ha]
  rw [List.take_append_of_le_length (by rw [List.length_drop]; omega), List.take_of_length_le (by rw [List.length_drop]; omega)]
theorem sfold_units {x : Str} : ∀ (ts : List Str) (pre : List Nat) (start : Nat) (res : List Str), (∀ t ∈ ts, Good t) → x.cps.toList = pre ++ cat ts → start ≤ pre.length →
    ∃ start' res', (escG false pre.length (cat ts)).foldl (sstep x) (start, none, res) = (start', none, res') ∧ start' ≤ x.cps.toList.length ∧ cat res' ++ x.cps.toList.drop start' = cat res ++ pre.drop start ++ cat (ts.filter fun t => !isQuo t)
  | [], pre, start, res, _, hx, hs => by
    have e : x.cps.toList = pre := by rw [hx]; exact List.append_nil _
    exact ⟨start, res, rfl, by rw [e]; exact hs, by rw [e]; exact (List.append_nil _).symm⟩
  | t :: ts, pre, start, res, hg, hx, hs => by
    have gt := hg t (.head _)
    have hx' : x.cps.toList = (pre ++ t.cps.toList) ++ cat ts := by rw [hx, cat_cons, List.append_assoc]
    rw [cat_cons, escG_app _ _ _ _ (good_last gt), List.foldl_append]
    have el : pre.length + t.cps.toList.length = (pre ++ t.cps.toList).length := by rw [List.length_append]
    cases hq : isQuo t with
    | false =>
      rw [sstep_plain gt hq, el]
      obtain ⟨s', r', h1, h2, h3⟩ := sfold_units ts (pre ++ t.cps.toList) start res (fun s h => hg s (.tail _ h)) hx' (by rw [← el]; omega)
      refine ⟨s', r', h1, h2, ?_⟩
      rw [h3, List.drop_append_of_le_length hs, List.filter_cons, if_pos (by rw [hq]; rfl), cat_cons]
      simp only [List.append_assoc]
    | true =>
      rw [sstep_quo gt hq, el]
      obtain ⟨s', r', h1, h2, h3⟩ := sfold_units ts (pre ++ t.cps.toList) (pre ++ t.cps.toList).length (if start != pre.length then res ++ [cut x start pre.length] else res) (fun s h => hg s (.tail _ h)) hx' (Nat.le_refl _)
      refine ⟨s', r', h1, h2, ?_⟩
      have hc : cat (if (start != pre.length) = true then res ++ [cut x start pre.length] else res) = cat res ++ pre.drop start := by
        by_cases q : start = pre.length
        · rw [if_neg (by simp [q]), q, List.drop_length, List.append_nil]
        · rw [if_pos (by simp [bne]; exact q), cat_app, cat_one, cut_pre hx hs]
      rw [h3, hc, List.drop_length, List.append_nil, List.filter_cons, hq, if_neg (by decide)]
theorem sparts_cat {x : Str} {ts : List Str} (hg : ∀ t ∈ ts, Good t) (hx : x.cps.toList = cat ts) : cat (sparts x) = cat (ts.filter fun t => !isQuo t) := by
  obtain ⟨s', r', h1, h2, h3⟩ := sfold_units (x := x) ts [] 0 [] hg hx (Nat.le_refl _)
  have e : sfold x = (s', none, r') := by unfold sfold escF; rw [hx]; exact h1
  have h3 : cat r' ++ x.cps.toList.drop s' = cat (ts.filter fun t => !isQuo t) := h3
  rw [← h3]
  unfold sparts
  rw [e]
  show cat (if s' < x.length then r' ++ [cut x s' x.length] else r') = _
  rw [str_len]
  split
  · rw [cat_app, cat_one, cut_pre (rest := []) (by rw [List.append_nil]) h2]
  · rw [List.drop_eq_nil_of_le (by omega), List.append_nil]
theorem quo_mem {t : Str} (h : Good t) (hq : isQuo t = true) : 34 ∈ t.cps.toList := by
  refine good_cases (P := fun t => isQuo t = true → 34 ∈ t.cps.toList) (fun h => ?_) (fun h => ?_) (fun _ => .head _) (fun _ => .head _) (fun _ => .head _) (fun h => ?_) (fun h => ?_) (fun h => ?_) (fun h => ?_) h hq
  all_goals exact absurd h (by decide)
theorem strip_cat {x : Str} {ts : List Str} (hg : ∀ t ∈ ts, Good t) (hx : x.cps.toList = cat ts) (hq : ∃ t ∈ ts, isQuo t = true) : (stripF x).cps.toList = cat (ts.filter fun t => !isQuo t) := by
  have h34 : 34 ∈ x.cps.toList := by
    obtain ⟨t, ht, h⟩ := hq
    rw [hx]
    exact List.mem_flatMap.mpr ⟨t, ht, quo_mem (hg t ht) h⟩
  have hf : (!(Builtin.Str.occurrences x "\"" 0 x.length 1).isEmpty) = true := by
    rw [show ("\"" : Str) = ⟨#[34]⟩ from rfl, StrLaws.found_one]
    exact decide_eq_true h34
  unfold stripF
  rw [hf, if_neg (by decide), tjoin_cat, sparts_cat hg hx]
theorem sparts_len (x : Str) : (sparts x).length ≤ x.length + 2 := by
  have h1 := sfold_len x (escF x) (0, none, [])
  have h2 := escG_len false 0 x.cps.toList
  rw [← str_len] at h2
  have h1 : (sfold x).2.2.length ≤ 0 + (escF x).length := h1
  have h2 : (escF x).length ≤ x.length + 1 := h2
  unfold sparts
  split
  · rw [List.length_append, List.length_singleton]; omega
  · omega
theorem parts_ok {ps : List Str} {n : Nat} (h1 : (cat ps).length ≤ n) (h2 : ps.length ≤ n) (hn : n ≤ 1000) : JoinOk "" ps = true :=
  joinOk_of_weight (by rw [← cat_len]; omega) (by decide)
end Mine
end
section
open PySem PySem.Spec PySem.Calls PyProof.Rows PySem.W
set_option Elab.async false
set_option linter.unusedVariables false
namespace Mine
noncomputable abbrev tx (us : List U) : List Str := us.map (·.1)
noncomputable def plain (us : List U) : List U := us.filter fun u => !isQuo u.1
theorem tx_plain (us : List U) : (tx us).filter (fun t => !isQuo t) = tx (plain us) := by
  unfold plain tx
  rw [List.filter_map]; rfl
theorem plain_bare (us : List U) (h : ∀ u ∈ us, Good u.1) : (plain us).filter isBare = us.filter isBare := by
  unfold plain
  rw [List.filter_filter]
  refine List.filter_congr fun u hu => ?_
  have g := h u hu
  obtain ⟨t, w⟩ := u
  exact good_cases (P := fun t => (isBare (t, w) && !isQuo t) = isBare (t, w)) (by rfl) (by rfl) (by rfl) (by rfl) (by rfl) (by rfl) (by rfl) (by rfl) (by rfl) g
/-- the readers, of texts without quotation marks -/
theorem sgn_plain : ∀ (us : List U) (n : Nat), (∀ u ∈ us, Good u.1 ∧ isQuo u.1 = false) → ((escG false n (cat (tx us))).filter sgn).map (·.2) = (us.filter isBare).map (·.1)
  | [], _, _ => rfl
  | u :: us, n, h => by
    obtain ⟨g, q⟩ := h u (.head _)
    show ((escG false n (cat (u.1 :: tx us))).filter sgn).map (·.2) = _
    rw [cat_cons, escG_app _ _ _ _ (good_last g), List.filter_append, List.map_append, sgn_plain us _ fun v hv => h v (.tail _ hv), List.filter_cons]
    obtain ⟨t, w⟩ := u
    refine good_cases (P := fun t => isQuo t = false → ((escG false n t.cps.toList).filter sgn).map (·.2) ++ (us.filter isBare).map (·.1) = (if isBare (t, w) = true then (t, w) :: us.filter isBare else us.filter isBare).map (·.1)) (fun _ => rfl) (fun _ => rfl) (fun h => ?_) (fun h => ?_) (fun h => ?_) (fun _ => rfl) (fun _ => rfl) (fun _ => rfl) (fun _ => rfl) g q
    all_goals exact absurd h (by decide)
theorem chk_plain : ∀ (us : List U) (n d : Nat), (∀ u ∈ us, Good u.1 ∧ isQuo u.1 = false) → chk (d : Int) (escG false n (cat (tx us))) = (run d (us.filter isBare) == some 0)
  | [], n, d, _ => by
    show ((d : Int) == 0) = (some d == some 0)
    cases d with
    | zero => rfl
    | succ d => rfl
  | u :: us, n, d, h => by
    obtain ⟨g, q⟩ := h u (.head _)
    show chk (d : Int) (escG false n (cat (u.1 :: tx us))) = _
    rw [cat_cons, escG_app _ _ _ _ (good_last g), List.filter_cons]
    have ih := fun (m e : Nat) => chk_plain us m e fun v hv => h v (.tail _ hv)
    obtain ⟨t, w⟩ := u
    refine good_cases (P := fun t => isQuo t = false → chk (d : Int) (escG false n t.cps.toList ++ escG false (n + t.cps.toList.length) (cat (tx us))) = (run d (if isBare (t, w) = true then (t, w) :: us.filter isBare else us.filter isBare) == some 0)) (fun _ => ?_) (fun _ => ?_) (fun h => ?_) (fun h => ?_) (fun h => ?_) (fun _ => ih _ _) (fun _ => ih _ _) (fun _ => ih _ _) (fun _ => ih _ _) g q
    · rw [if_pos (by rfl), run_op (by rfl)]
      exact ih (n + 1) (d + 1)
    · rw [if_pos (by rfl)]
      cases d with
      | zero => rw [run_cl0 (by rfl)]; rfl
      | succ d =>
        rw [run_cl (by rfl)]
        refine Eq.trans ?_ (ih (n + 1) d)
        show (if (((d + 1 : Nat) : Int) - 1 < 0) then false else chk (((d + 1 : Nat) : Int) - 1) (escG false (n + 1) (cat (tx us)))) = _
        rw [if_neg (by omega), show ((d + 1 : Nat) : Int) - 1 = (d : Int) by omega]
    all_goals exact absurd h (by decide)
theorem plain_good {us : List U} (h : ∀ u ∈ us, Good u.1) : ∀ u ∈ plain us, Good u.1 ∧ isQuo u.1 = false := fun u hu => by
  obtain ⟨h1, h2⟩ := List.mem_filter.mp hu
  exact ⟨h u h1, by simpa using h2⟩
theorem tx_good {us : List U} (h : ∀ u ∈ us, Good u.1) : ∀ t ∈ tx us, Good t := fun t ht => by
  obtain ⟨u, hu, rfl⟩ := List.mem_map.mp ht
  exact h u hu
/-- what the law asks of one text -/
structure Text (us : List U) (x : Str) : Prop where
  cat : x.cps.toList = cat (tx us)
  good : ∀ u ∈ us, Good u.1
  quo : ∃ u ∈ us, isQuo u.1 = true
  len : us.length ≤ 17
section
variable {us : List U} {x : Str} (T : Text us x)
include T
theorem Text.strip : (stripF x).cps.toList = Mine.cat (tx (plain us)) := by
  rw [← tx_plain]
  obtain ⟨u, hu, hq⟩ := T.quo
  exact strip_cat (tx_good T.good) T.cat ⟨u.1, List.mem_map.mpr ⟨u, hu, rfl⟩, hq⟩
theorem Text.xl : x.length ≤ 85 := by
  have := goods_len (tx_good T.good)
  have h2 := T.len
  rw [str_len, T.cat]
  rw [List.length_map] at this
  omega
omit T in
theorem plain_len (us : List U) : (plain us).length ≤ us.length := List.length_filter_le _ _
theorem Text.sl : (stripF x).length ≤ 85 := by
  have := goods_len (tx_good fun u hu => (plain_good T.good u hu).1)
  have h2 := T.len
  have h3 := plain_len us
  rw [str_len, T.strip]
  rw [List.length_map] at this
  omega
theorem Text.l1 : lastE false x.cps.toList = false := by rw [T.cat]; exact goods_last (tx_good T.good)
theorem Text.l2 : lastE false (stripF x).cps.toList = false := by rw [T.strip]; exact goods_last (tx_good fun u hu => (plain_good T.good u hu).1)
theorem Text.js : JoinOk "" (sparts x) = true := by
  have h1 := sparts_len x
  have h2 := T.xl
  have h3 := T.sl
  rw [str_len, T.strip] at h3
  refine parts_ok (n := 1000) ?_ (by omega) (Nat.le_refl _)
  rw [sparts_cat (tx_good T.good) T.cat, tx_plain]
  omega
theorem Text.seen : ((escF (stripF x)).filter sgn).map (·.2) = (us.filter isBare).map (·.1) := by
  unfold escF
  rw [T.strip, sgn_plain _ _ (plain_good T.good), plain_bare _ T.good]
theorem Text.check : checkF x = (run 0 (us.filter isBare) == some 0) := by
  unfold checkF escF
  rw [T.strip]
  have := chk_plain (plain us) 0 0 (plain_good T.good)
  rw [plain_bare _ T.good] at this
  exact this
end
/-- what is left of the units, by the number of the bare ones -/
noncomputable def wout (gone : List Int) : Nat → List U → List U
  | _, [] => []
  | n, u :: r => if isBare u = true then (if (gone.any fun m => m == (n : Int)) = true then wout gone (n + 1) r else u :: wout gone (n + 1) r) else u :: wout gone n r
theorem wfold_eq (gone : List Int) : ∀ (us : List U) (n : Nat) (sh : List Str), (us.foldl (wstep gone) ((n : Int), sh)).2 = sh ++ tx (wout gone n us)
  | [], n, sh => (List.append_nil _).symm
  | u :: us, n, sh => by
    rw [List.foldl_cons, wout]
    unfold wstep
    show (us.foldl (wstep gone) (if isBare u = true then ((n : Int) + 1, if (!(gone.any fun m => m == (n : Int))) = true then sh ++ [u.1] else sh) else ((n : Int), sh ++ [u.1]))).2 = _
    cases hb : isBare u with
    | true =>
      rw [if_pos rfl, if_pos rfl]
      cases hg : gone.any fun m => m == (n : Int) with
      | true => rw [if_neg (by decide), if_pos rfl]; exact wfold_eq gone us (n + 1) sh
      | false =>
        rw [if_pos (by decide), if_neg (by decide)]
        refine (wfold_eq gone us (n + 1) (sh ++ [u.1])).trans ?_
        rw [List.append_assoc]; rfl
    | false =>
      rw [if_neg (by decide), if_neg (by decide), wfold_eq gone us n (sh ++ [u.1]), List.append_assoc]; rfl
theorem wparts_eq (us : List U) (gone : List Int) : wparts us gone = tx (wout gone 0 us) := wfold_eq gone us 0 []
theorem wout_sub (gone : List Int) : ∀ (us : List U) (n : Nat), List.Sublist (wout gone n us) us
  | [], _ => .slnil
  | u :: us, n => by
    rw [wout]
    split
    · split
      · exact (wout_sub gone us _).cons _
      · exact (wout_sub gone us _).cons_cons _
    · exact (wout_sub gone us _).cons_cons _
theorem wout_keeps (gone : List Int) {u : U} (hq : isBare u = false) : ∀ (us : List U) (n : Nat), u ∈ us → u ∈ wout gone n us
  | v :: us, n, h => by
    rw [wout]
    rcases List.mem_cons.mp h with rfl | h
    · rw [if_neg (by rw [hq]; decide)]; exact .head _
    · split
      · split
        · exact wout_keeps gone hq us _ h
        · exact .tail _ (wout_keeps gone hq us _ h)
      · exact .tail _ (wout_keeps gone hq us _ h)
/-- the bare ones that are left, by their number -/
theorem wout_snoc (gone : List Int) (b : U) (hb : isBare b = true) : ∀ (bs : List U) (n : Nat), (∀ u ∈ bs, isBare u = true) → wout gone n (bs ++ [b]) = wout gone n bs ++ (if (gone.any fun m => m == ((n + bs.length : Nat) : Int)) = true then [] else [b])
  | [], n, _ => by
    show wout gone n [b] = if (gone.any fun m => m == (n : Int)) = true then [] else [b]
    rw [wout, if_pos hb]; rfl
  | u :: bs, n, h => by
    have ih := wout_snoc gone b hb bs (n + 1) fun v hv => h v (.tail _ hv)
    rw [List.cons_append, wout, wout, if_pos (h u (.head _)), if_pos (h u (.head _)), List.length_cons, show n + (bs.length + 1) = n + 1 + bs.length by omega]
    split
    · exact ih
    · rw [ih]; rfl
theorem wout_bare (gone : List Int) : ∀ (us : List U) (n : Nat), (wout gone n us).filter isBare = wout gone n (us.filter isBare)
  | [], _ => rfl
  | u :: us, n => by
    cases hb : isBare u with
    | true =>
      rw [wout, if_pos hb, List.filter_cons, if_pos hb, wout, if_pos hb]
      split
      · exact wout_bare gone us _
      · rw [List.filter_cons, if_pos hb, wout_bare gone us _]
    | false => rw [wout, if_neg (by rw [hb]; decide), List.filter_cons, if_neg (by rw [hb]; decide), List.filter_cons, if_neg (by rw [hb]; decide), wout_bare gone us _]
theorem wout_kept (gone : List Int) {bare : List U} (hb : ∀ u ∈ bare, isBare u = true) : ∀ i, i ≤ bare.length → wout gone 0 (bare.take i) = (keptI i gone).map (at0 bare)
  | 0, _ => by rw [List.take_zero]; rfl
  | i + 1, h => by
    have hu : isBare (at0 bare (i : Int)) = true := hb _ (by
      rw [at0_nat, List.getD_eq_getElem?_getD, List.getElem?_eq_getElem (by omega)]
      exact List.getElem_mem (by omega))
    rw [take_snoc (by omega), wout_snoc gone _ hu _ _ fun u hu => hb u (List.mem_of_mem_take hu), wout_kept gone hb i (by omega), List.length_take, Nat.min_eq_left (by omega), Nat.zero_add]
    unfold keptI
    rw [rangeFrom_snoc, List.filter_append, List.map_append, Int.zero_add, List.filter_cons]
    cases hg : gone.any fun m => m == (i : Int) with
    | true => rw [if_pos rfl, if_neg (by decide)]; rfl
    | false => rw [if_neg (by decide), if_pos (by decide)]; rfl
end Mine
end
section
open PySem PySem.Spec PySem.Calls PyProof.Rows PySem.W
set_option Elab.async false
set_option linter.unusedVariables false
namespace Mine
theorem keptI_more (i : Nat) (tk X : List Int) : keptI i (tk ++ X) = (keptI i tk).filter fun k => !(X.any fun n => n == k) := by
  unfold keptI
  rw [List.filter_filter]
  refine List.filter_congr fun k _ => ?_
  rw [List.any_append, Bool.not_or, Bool.and_comm]
theorem range_get (L : List Int) : (rangeFrom 0 L.length).map (fun j => L.getD j.toNat 0) = L := by
  apply List.ext_getElem?
  intro i
  by_cases h : i < L.length
  · rw [List.getElem?_map, rangeFrom_get h, List.getElem?_eq_getElem h]
    simp [h]
  · rw [List.getElem?_eq_none (by rw [List.length_map, rangeFrom_len]; omega), List.getElem?_eq_none (by omega)]
theorem nodup_inj {L : List Int} (h : L.Nodup) {i j : Nat} (hi : i < L.length) (hj : j < L.length) (e : L[i] = L[j]) : i = j := by
  have nn := List.pairwise_iff_getElem.mp h
  rcases Nat.lt_trichotomy i j with q | q | q
  · exact absurd e (nn i j hi hj q)
  · exact q
  · exact absurd e.symm (nn j i hj hi q)
theorem kept_image {L S : List Int} (hn : L.Nodup) (hS : ∀ s ∈ S, 0 ≤ s ∧ s < L.length) :
    (keptI L.length S).map (fun j => L.getD j.toNat 0) = L.filter fun k => !((S.map fun j => L.getD j.toNat 0).any fun n => n == k) := by
  conv => rhs; arg 2; rw [← range_get L]
  rw [List.filter_map]
  congr 1
  unfold keptI
  refine List.filter_congr fun j hj => ?_
  have hj := rangeFrom_mem hj
  show (!(S.any fun n => n == j)) = !((S.map fun j => L.getD j.toNat 0).any fun n => n == L.getD j.toNat 0)
  congr 1
  rw [Bool.eq_iff_iff, List.any_eq_true, List.any_eq_true]
  constructor
  · rintro ⟨s, hs, e⟩
    have e := eq_of_beq e
    subst e
    exact ⟨_, List.mem_map.mpr ⟨s, hs, rfl⟩, beq_self_eq_true _⟩
  · rintro ⟨_, hm, e⟩
    obtain ⟨s, hs, rfl⟩ := List.mem_map.mp hm
    have e := eq_of_beq e
    have h1 := hS s hs
    have a1 : s.toNat < L.length := by omega
    have a2 : j.toNat < L.length := by omega
    rw [List.getD_eq_getElem?_getD, List.getD_eq_getElem?_getD, List.getElem?_eq_getElem a1, List.getElem?_eq_getElem a2] at e
    have e : L[s.toNat] = L[j.toNat] := e
    have := nodup_inj hn a1 a2 e
    exact ⟨s, hs, by rw [show s = j by omega]; exact beq_self_eq_true _⟩
theorem at0_mem {bare : List U} {k : Int} (h0 : 0 ≤ k) (h1 : k < bare.length) : at0 bare k ∈ bare := by
  unfold at0
  rw [List.getD_eq_getElem?_getD, List.getElem?_eq_getElem (by omega)]
  exact List.getElem_mem (by omega)
theorem gone_word {bare : List U} (hb : ∀ u ∈ bare, isBare u = true) {kept : List Int} (hk : (keptI bare.length (astate bare bare.length).tk).reverse = kept) :
    (keptI bare.length ((astate bare bare.length).tk ++ (astate (turnW bare) (turnW bare).length).tk.map fun k => kept.getD k.toNat 0)).map (at0 bare) = backW bare := by
  have hl : (turnW bare).length = kept.length := by rw [← hk]; simp
  have okt := astate_ok (turnW bare) (turnW bare).length
  have hn : kept.Nodup := by rw [← hk]; exact (List.reverse_perm _).nodup_iff.mpr (keptI_nodup _ _)
  have hS : ∀ s ∈ (astate (turnW bare) (turnW bare).length).tk, 0 ≤ s ∧ s < kept.length := fun s hs => by have := okt.tk s hs; omega
  have hkm : ∀ k ∈ kept, 0 ≤ k ∧ k < bare.length := fun k hkk => by
    rw [← hk] at hkk
    have := rangeFrom_mem (List.mem_filter.mp (List.mem_reverse.mp hkk)).1
    omega
  have ht : turnW bare = kept.map fun k => turnU (at0 bare k) := by rw [← hk]; simp [Function.comp_def]
  have hat : ∀ j ∈ keptI kept.length (astate (turnW bare) (turnW bare).length).tk, turnU (at0 (turnW bare) j) = at0 bare (kept.getD j.toNat 0) := fun j hj => by
    have hj := rangeFrom_mem (List.mem_filter.mp hj).1
    have a1 : j.toNat < kept.length := by omega
    have e1 : at0 (turnW bare) j = turnU (at0 bare kept[j.toNat]) := by
      unfold at0
      rw [List.getD_eq_getElem?_getD]
      conv => lhs; rw [ht]
      rw [List.getElem?_map, List.getElem?_eq_getElem a1]; rfl
    rw [e1, List.getD_eq_getElem?_getD, List.getElem?_eq_getElem a1]
    have := hkm kept[j.toNat] (List.getElem_mem a1)
    exact turn_turn (hb _ (at0_mem this.1 this.2))
  rw [keptI_more]
  show _ = (((keptI (turnW bare).length (astate (turnW bare) (turnW bare).length).tk).map (at0 (turnW bare))).map turnU).reverse
  rw [hl, List.map_map]
  generalize hS2 : (astate (turnW bare) kept.length).tk = S
  rw [hl, hS2] at hat hS
  have e2 : (keptI kept.length S).map (turnU ∘ at0 (turnW bare)) = ((keptI kept.length S).map fun j => kept.getD j.toNat 0).map (at0 bare) := by
    rw [List.map_map]
    exact List.map_congr_left hat
  rw [e2, kept_image hn hS, ← List.map_reverse, ← List.filter_reverse]
  congr 2
  rw [← hk, List.reverse_reverse]
theorem unit_good (x : Int) : Good (unitOf x).1 := by
  unfold unitOf
  show Good (if (x.fmod 6 == 0 || x.fmod 6 == 4) = true then "(" else if (x.fmod 6 == 1 || x.fmod 6 == 5) = true then ")" else if (x.fmod 6 == 2) = true then quoT.getD ((x.fdiv 6).fmod 3).toNat "" else escT.getD ((x.fdiv 6).fmod 4).toNat "")
  split
  · exact .inl (.head _)
  · split
    · exact .inl (.tail _ (.head _))
    · split
      · obtain ⟨k, hk, h3⟩ := idx3 (x.fdiv 6)
        rw [hk, Int.toNat_natCast]
        match k, h3 with
        | 0, _ => exact .inr (.inl (.head _))
        | 1, _ => exact .inr (.inl (.tail _ (.head _)))
        | 2, _ => exact .inr (.inl (.tail _ (.tail _ (.head _))))
      · obtain ⟨k, hk, h4⟩ := idx4 (x.fdiv 6)
        rw [hk, Int.toNat_natCast]
        match k, h4 with
        | 0, _ => exact .inr (.inr (.head _))
        | 1, _ => exact .inr (.inr (.tail _ (.head _)))
        | 2, _ => exact .inr (.inr (.tail _ (.tail _ (.head _))))
        | 3, _ => exact .inr (.inr (.tail _ (.tail _ (.tail _ (.head _)))))
theorem xs_nonneg (ns : List Int) : ∀ x ∈ unitXs ns, 0 ≤ x := fun x hx => by
  unfold unitXs at hx
  rcases List.mem_append.mp hx with hx | hx
  · rcases List.mem_append.mp hx with hx | hx
    · simp at hx; omega
    · obtain ⟨y, _, rfl⟩ := List.mem_map.mp hx
      exact Int.fmod_nonneg_of_pos y (by decide)
  · simp at hx; omega
theorem way_up {bare m : List U} {o1 o2 c : U} (e : bare = m ++ [o1, o2, c]) (h1 : isOp o1 = true) (h2 : isOp o2 = true) (h3 : isOp c = false) : 1 ≤ (astate bare bare.length).d := by
  have hl : bare.length = m.length + 1 + 1 + 1 := by rw [e]; simp
  have g1 : at0 bare ((m.length : Nat) : Int) = o1 := by rw [at0_nat, e, List.getD_eq_getElem?_getD, List.getElem?_append_right (Nat.le_refl _), Nat.sub_self]; rfl
  have g2 : at0 bare ((m.length + 1 : Nat) : Int) = o2 := by rw [at0_nat, e, List.getD_eq_getElem?_getD, List.getElem?_append_right (by omega), show m.length + 1 - m.length = 1 by omega]; rfl
  have g3 : at0 bare ((m.length + 1 + 1 : Nat) : Int) = c := by rw [at0_nat, e, List.getD_eq_getElem?_getD, List.getElem?_append_right (by omega), show m.length + 1 + 1 - m.length = 2 by omega]; rfl
  have d1 : (astate bare (m.length + 1)).d = (astate bare m.length).d + 1 := by
    show (astep bare (astate bare m.length) m.length).d = _
    exact astep_ways (P := fun s => s.d = _) bare _ _ (fun _ => rfl) (fun h => by rw [g1, h1] at h; cases h) (fun h => by rw [g1, h1] at h; cases h)
  have d2 : (astate bare (m.length + 1 + 1)).d = (astate bare (m.length + 1)).d + 1 := by
    show (astep bare (astate bare (m.length + 1)) (m.length + 1)).d = _
    exact astep_ways (P := fun s => s.d = _) bare _ _ (fun _ => rfl) (fun h => by rw [g2, h2] at h; cases h) (fun h => by rw [g2, h2] at h; cases h)
  rw [hl]
  show 1 ≤ (astep bare (astate bare (m.length + 1 + 1)) (m.length + 1 + 1)).d
  refine astep_ways (P := fun s => 1 ≤ s.d) bare _ _ (fun h => by rw [g3, h3] at h; cases h) (fun _ _ => ?_) (fun _ h => ?_)
  · show 1 ≤ _ - 1
    omega
  · omega
theorem in_ok {tk : List Int} (h : tk.length ≤ 1000) : JoinOk "/" (tk.map fun _ => ("in" : Str)) = true := by
  refine joinOk_of_weight ?_ (by decide)
  have : ∀ l : List Int, ((l.map fun _ => ("in" : Str)).map (·.length)).sum = 2 * l.length := by
    intro l
    induction l with
    | nil => rfl
    | cons a l ih =>
      rw [List.map_cons, List.map_cons, List.sum_cons, ih, List.length_cons]
      show 2 + _ = _
      omega
  rw [this, List.length_map]
  omega
theorem way_in (tk : List Int) {d : Nat} (h : tk.length = d) (hd : 1 ≤ d) : wayOf d = Txt.join "/" (tk.map fun _ => ("in" : Str)) := by
  obtain ⟨n, rfl⟩ : ∃ n, d = n + 1 := ⟨d - 1, by omega⟩
  rw [List.map_const', h]; rfl
theorem lawOk (ns : List Int) : ∃ bare turned kept gone written, LawOk (unitsF ns) bare turned kept gone written := by
  have gu : ∀ u ∈ unitsF ns, Good u.1 := fun u hu => by
    obtain ⟨x, _, rfl⟩ := List.mem_map.mp hu
    exact unit_good x
  have wu : ∀ u ∈ unitsF ns, 0 ≤ u.2 := fun u hu => by
    obtain ⟨x, hx, rfl⟩ := List.mem_map.mp hu
    have h0 := xs_nonneg ns x hx
    have : 0 ≤ x.fdiv 6 := Int.fdiv_nonneg h0 (by decide)
    show 0 ≤ x.fdiv 6 + 1
    omega
  have e0 : unitsF ns = [unitOf 12, unitOf 25, unitOf 7] ++ (((ns.take 9).map fun y => y.fmod 54).map unitOf) ++ [unitOf 8, unitOf 18, unitOf 4, unitOf 11] := by
    unfold unitsF unitXs
    rw [List.map_append, List.map_append]; rfl
  have lu : (unitsF ns).length ≤ 17 := by rw [e0]; simp; omega
  have qu : unitOf 8 ∈ unitsF ns := by rw [e0]; exact List.mem_append_right _ (.head _)
  have q8 : isQuo (unitOf 8).1 = true := by rfl
  have b8 : isBare (unitOf 8) = false := by rfl
  have eb : (unitsF ns).filter isBare = ([unitOf 12, unitOf 25, unitOf 7] ++ (((ns.take 9).map fun y => y.fmod 54).map unitOf).filter isBare) ++ [unitOf 18, unitOf 4, unitOf 11] := by
    rw [e0, List.filter_append, List.filter_append]; rfl
  generalize unitsF ns = units at *
  obtain ⟨bare, hbare⟩ : ∃ b, units.filter isBare = b := ⟨_, rfl⟩
  rw [hbare] at eb
  have hb : ∀ u ∈ bare, isBare u = true := fun u hu => by rw [← hbare] at hu; exact (List.mem_filter.mp hu).2
  have hw : ∀ u ∈ bare, 0 ≤ u.2 := fun u hu => by rw [← hbare] at hu; exact wu u (List.mem_filter.mp hu).1
  have lb : bare.length ≤ 17 := by rw [← hbare]; exact Nat.le_trans (List.length_filter_le _ _) lu
  have hd := way_up eb (by rfl) (by rfl) (by rfl)
  have h7 : run 0 bare = none := by rw [eb]; rfl
  obtain ⟨kept, hk⟩ : ∃ k, (keptI bare.length (astate bare bare.length).tk).reverse = k := ⟨_, rfl⟩
  obtain ⟨gone, hg⟩ : ∃ g, (astate bare bare.length).tk ++ (astate (turnW bare) (turnW bare).length).tk.map (fun k => kept.getD k.toNat 0) = g := ⟨_, rfl⟩
  have gw := gone_word hb hk
  rw [hg] at gw
  have te := turn_end hw
  have okt := (astate_ok bare bare.length).d
  have T : Text units (Txt.join "" (tx units)) := ⟨tjoin_cat _, gu, ⟨_, qu, q8⟩, lu⟩
  have T2 : Text (wout gone 0 units) (withoutF units gone) := ⟨by unfold withoutF; rw [tjoin_cat, wparts_eq], fun u hu => gu u ((wout_sub gone units 0).mem hu), ⟨_, wout_keeps gone b8 units 0 qu, q8⟩, Nat.le_trans (wout_sub gone units 0).length_le lu⟩
  have hlu := goods_len (tx_good gu)
  have hl2 := goods_len (tx_good T2.good)
  have hl3 := T2.len
  rw [List.length_map] at hlu hl2
  have x1 := T.xl
  have x2 := T.sl
  have x3 := T2.xl
  refine ⟨bare, turnW bare, kept, gone, Txt.join "" (tx units), ⟨lu, by omega, hbare, rfl, hk, ?_, hg, ?_, T.js, ?_, ?_, T2.js, T.l1, T.l2, T2.l1, T2.l2, by omega, by omega, ?_, law_a2 hw, ?_, ?_, law_a5 hw hb, ?_, ?_⟩⟩
  · rw [← hk, List.map_reverse]
    show _ = ((keptW bare).map turnU).reverse
    rw [List.map_map]; rfl
  · exact parts_ok (n := 85) (by show (cat (tx units)).length ≤ 85; omega) (by rw [List.length_map]; omega) (by decide)
  · exact in_ok (by omega)
  · rw [wparts_eq]
    exact parts_ok (n := 85) (by omega) (by rw [List.length_map]; omega) (by decide)
  · rw [T.seen, hbare]
  · exact way_in _ te.2 hd
  · rw [te.1]; rfl
  · rw [T2.check, wout_bare, hbare]
    have := wout_kept gone hb bare.length (Nat.le_refl _)
    rw [List.take_length] at this
    rw [this, gw, back_run hw]; rfl
  · rw [T.check, hbare, h7]; rfl
end Mine
end
section
open PySem PySem.Spec PySem.Calls PyProof.Rows PySem.W
set_option Elab.async false
set_option pp.deepTerms false
set_option pp.deepTerms.threshold 12
set_option maxRecDepth 100000
set_option linter.unusedVariables false
namespace Mine
section
variable {G : Gl} {F : Fm} {σ : St} {B B' : PM} {s : Shared}
/-- into the first frame -/
theorem first_rel {fd : FuncData} {f : Addr} {names : List Str} {vs : List V} {xs : List Value} {A : Around} {s s₁ : Shared} (hb : G.base = s.heap.get?) (hos : s.os = G.os) (hv : RVs G.base vs xs) (nd : names.Nodup) (nc : ((cellsFrom (s.heap.objs.size + 1) fd.scope.names []).map (·.1)).Nodup)
    (x : InCallC s (callEnvC fd s.heap.objs.size f).locals (bindL (callEnvC fd s.heap.objs.size f).kindOf (names.zip xs) fun _ => none) (callEnvC fd s.heap.objs.size f).cells
        (bindC (callEnvC fd s.heap.objs.size f).kindOf (names.zip xs) fun _ => none) s₁) :
    Rel G (fmOf A fd f s.heap.objs.size) G.base ⟨bnd names vs, [], s.gens⟩ s₁ := by
  obtain ⟨h₁, tk, e₁, keep⟩ := x.done
  have hh : s₁.heap = h₁ := by rw [e₁]
  have kp : ∀ b o, s.heap.get? b = some o → s₁.heap.get? b = some o := by rw [hh]; exact keep
  have lk : ∀ {n c}, (n, c) ∈ cellsFrom (s.heap.objs.size + 1) fd.scope.names [] → (cellsFrom (s.heap.objs.size + 1) fd.scope.names []).lookup n = some c := fun hm => lookup_of_mem_nodup nc hm
  have lo : ∀ a ∈ s.heap.objs.size :: (cellsFrom (s.heap.objs.size + 1) fd.scope.names []).map (·.2), s.heap.objs.size ≤ a := fun a ha => by
    rcases List.mem_cons.mp ha with rfl | ha
    · exact Nat.le_refl _
    · obtain ⟨⟨n, c⟩, hm, rfl⟩ := List.mem_map.mp ha
      exact Nat.le_of_lt (x.above n c hm)
  refine ⟨.rf, fun b o e => kp b o (by rw [← hb]; exact e), by rw [e₁]; exact hos, by rw [e₁], ⟨.head _, fun a ha => ?_, ?_, fun n c e => ?_, fun n c e => ?_⟩, fun p hp => (by cases hp), ?_, fun a ha => ?_⟩
  · rcases List.mem_cons.mp ha with rfl | ha
    · exact Inert.ns x.toInCall.ns
    · obtain ⟨⟨n, c⟩, hm, rfl⟩ := List.mem_map.mp ha
      obtain ⟨o, ho, hd⟩ := x.cell n c (lk hm)
      exact ⟨o, ho, .cell hd⟩
  · exact ⟨_, x.toInCall.ns, fun y W e k => (bnd_binds _ (fun _ => none) hv nd e).1 k⟩
  · have hm := mem_of_lookup e
    refine ⟨Nat.ne_of_gt (x.above n c hm), .inl (.tail _ (List.mem_map.mpr ⟨_, hm, rfl⟩)), fun y e' => name_of_addr x.apart (mem_of_lookup e') hm⟩
  · exact ⟨_, x.cell n c e, fun W e' k => (bnd_binds (fun _ => none) _ hv nd e').2 k⟩
  · rw [List.map_nil, List.append_nil]
    refine List.nodup_cons.mpr ⟨fun hm => ?_, ?_⟩
    · obtain ⟨⟨n, c⟩, hm, q⟩ := List.mem_map.mp hm
      have q' : c = s.heap.objs.size := q
      exact absurd (x.above n c hm) (q' ▸ Nat.lt_irrefl _)
    · have := x.apart
      rw [List.nodup_iff_pairwise_ne, List.pairwise_map]
      exact this
  · rw [List.map_nil, List.append_nil] at ha
    cases e : G.base a with
    | none => rfl
    | some o => rw [hb] at e; exact absurd (Heap.lt_size e) (Nat.not_lt_of_le (lo a ha))
/-- where the wanted defs stand among the records -/
noncomputable def recAt : List Nat := [1, 2, 3, 4, 5, 6, 7, 10, 12, 13, 14, 15, 16, 17, 18, 19, 20, 21]
noncomputable def bltOk (p : Program) (loose : List Str) : Bool := bltNames.all fun x =>
  !(startupNames.contains x) && !(loose.contains x) && !(((recsOf p).map (·.name)).contains x) && !(((litsOf p).map (·.1)).contains x) && !(((clssOf p loose).map (·.name)).contains x)
theorem notIn {l : List Str} {x : Str} (h : (!(l.contains x)) = true) : x ∉ l := fun q => by
  rw [List.contains_iff_mem.mpr q] at h; cases h
/-- what stands at the first call -/
theorem sta_of {prog : Program} {w : World} {s : Shared} {p : Program} {loose : List Str} {mean : ExcName → Option Value} {mg mb : Str → Option Value} (T : Top p loose mean mg mb s.heap) (hi : importsNone p = true)
    (hrec : recAt.map (fun j => (recsOf p)[j]?) = fnIx.map fun i => some (recOf i)) (hblt : bltOk p loose = true) : ∃ ad pmd, Sta ⟨prog, w, s.heap.get?, s.os, ad, pmd⟩ ∧ mg "law" = some (.ref (ad 32)) := by
  have hm : ∀ i ∈ fnIx, recOf i ∈ recsOf p := fun i hi => by
    have : some (recOf i) ∈ recAt.map (fun j => (recsOf p)[j]?) := by rw [hrec]; exact List.mem_map.mpr ⟨i, hi, rfl⟩
    obtain ⟨j, _, e⟩ := List.mem_map.mp this
    exact List.mem_of_getElem? e
  have ex : ∀ i, ∃ f : Addr × Value × Value × Value, i ∈ fnIx → mg (recOf i).name = some (.ref f.1) ∧ (∃ o, s.heap.get? f.1 = some o ∧ o.data = .func (fnOf i f.2)) ∧ s.heap.CodeRec f.2.2.1 (recOf i).name := fun i => by
    by_cases h : i ∈ fnIx
    · obtain ⟨a, o, pm, code, doc, h1, h2, h3, h4⟩ := T.fn _ (hm i h)
      exact ⟨(a, pm, code, doc), fun _ => ⟨h1, ⟨o, h2, h3⟩, h4⟩⟩
    · exact ⟨default, fun q => absurd q h⟩
  obtain ⟨f, hf⟩ := Classical.axiomOfChoice ex
  have mem : ∀ {i}, isFn i = true → i ∈ fnIx := fun h => List.contains_iff_mem.mp h
  refine ⟨fun i => (f i).1, fun i => (f i).2, ⟨fun h => (hf _ (mem h)).2.1, fun h h' hk => (hf _ (mem h)).2.2.keeps hk, fun h hk => T.nolimit.keeps hk, fun x v e h hk => ?_, fun x v e hn hv h hk => ?_, ?_⟩, (hf 32 (by decide)).1⟩
  · unfold globAt at e
    cases q : fnIx.find? fun i => nameIx i == x with
    | none => rw [q] at e; cases e
    | some i =>
      rw [q] at e
      cases e
      have h1 := List.mem_of_find?_eq_some q
      have h2 := List.find?_some q
      have h2 : nameIx i = x := eq_of_beq h2
      subst h2
      exact .inl ⟨mg, T.g.keeps hk, (hf i h1).1⟩
  · have q := List.all_eq_true.mp hblt x (List.contains_iff_mem.mp e)
    simp only [Bool.and_eq_true] at q
    obtain ⟨⟨⟨⟨q1, q2⟩, q3⟩, q4⟩, q5⟩ := q
    exact .inr ⟨mg, mb, T.g.keeps hk, T.free x (notIn q1) (notIn q2) (notIn q3) (notIn q4) (notIn q5), T.b.keeps hk, (T.builtins x hn).trans hv⟩
  · obtain ⟨_, ⟨m, hm, _⟩⟩ := T.seer hi
    exact Inert.ns hm
end
theorem bare_push : ∀ (l : List GenState), (∀ y ∈ l, y.bare = true) → ∀ g : Array GenState, AllBare g → AllBare (l.foldl Array.push g)
  | [], _, _, h => h
  | y :: l, hl, g, h => bare_push l (fun z hz => hl z (.tail _ hz)) _ (h.push (hl y (.head _)))
theorem well_list {P : Params} {h : Heap} {l : Addr} {xs : List WData} {items : List Value} (W : Well P h (.ref l) (.list xs)) (hL : h.IsList l items.toArray) : h.get? l = some { cls := .type "list", data := .seq items.toArray } := by
  cases W with
  | list h1 _ =>
    obtain ⟨o, ho, _, n, hd⟩ := hL
    rw [h1] at ho
    cases ho
    have hd : Data.seq _ _ = Data.seq _ _ := hd
    cases hd
    exact h1
theorem law_val {w : World} {s₁ : Shared} {prog : Program} {ad : Nat → Addr} {pmd : Nat → Value × Value × Value} (S : Sta ⟨prog, w, s₁.heap.get?, s₁.os, ad, pmd⟩) (hg : s₁.gens = #[]) {l : Addr} {items : List Value} {ns : List Int} (hL : s₁.heap.get? l = some { cls := .type "list", data := .seq items.toArray }) (hI : IntsAre items ns) (hz : ns.length ≤ 1000)
    {K : Value → Shared → Prop} {E : Value → Shared → Prop} (k : ∀ s', (∀ b o, s₁.heap.get? b = some o → s'.heap.get? b = some o) → s'.os = s₁.os → AllBare s'.gens → K (.bool true) s') :
    wpAny (model prog w) callerA (call (.ref (ad 32)) [.ref l]) K E s₁ := by
  obtain ⟨bare, turned, kept, gone, written, H⟩ := lawOk ns
  have R : Rm callerA 6 := ⟨rfl, by decide, by decide⟩
  obtain ⟨o, ho, hd⟩ := S.fn (i := 32) rfl
  have stands : ∀ b o, Gl.base ⟨prog, w, s₁.heap.get?, s₁.os, ad, pmd⟩ b = some o → s₁.heap.get? b = some o := fun b o e => e
  have hc : ∀ n, (cellsFrom n (fdAt ⟨prog, w, s₁.heap.get?, s₁.os, ad, pmd⟩ 32).scope.names []).map (·.1) = (cellsFrom 0 (fdAt ⟨prog, w, s₁.heap.get?, s₁.os, ad, pmd⟩ 32).scope.names []).map (·.1) := fun n => cells_names _ _ _ _ _ rfl
  have hsig : sigOk ["script"] (fdAt ⟨prog, w, s₁.heap.get?, s₁.os, ad, pmd⟩ 32).scope.names = true := by kernel_rfl
  unfold sigOk at hsig
  simp only [Bool.and_eq_true, decide_eq_true_eq] at hsig
  have hn : ∀ n, ((cellsFrom n (fdAt ⟨prog, w, s₁.heap.get?, s₁.os, ad, pmd⟩ 32).scope.names []).map (·.1)).Nodup := fun n => by rw [hc n]; exact hsig.2
  refine wpAny_call ?_
  refine codeAny_call_cells R.room ho hd (S.nolimit _ stands) (S.code (i := 32) rfl _ stands) (body := stmtsOf (fdAt ⟨prog, w, s₁.heap.get?, s₁.os, ad, pmd⟩ 32)) rfl (binds := [("script", .ref l)]) (by kernel_rfl) rfl (fun x hx => ?_) (fun s' x => ?_) rfl rfl rfl
  · rcases List.mem_cons.mp hx with rfl | hx
    · exact .inl rfl
    · cases hx
  · have hv : RVs s₁.heap.get? [V.lst (ns.map .int)] [Value.ref l] := by
      refine .one (.lst (n := 0) hL ?_)
      clear H hL hz
      induction hI with
      | nil => exact .nil
      | cons n t _ ih => exact .cons (.int n t) ih
    have r₁ := first_rel (A := callerA) (G := ⟨prog, w, s₁.heap.get?, s₁.os, ad, pmd⟩) (f := ad 32) (fd := fdAt ⟨prog, w, s₁.heap.get?, s₁.os, ad, pmd⟩ 32) (names := ["script"]) rfl rfl hv (by decide) (hn _) x
    refine wpAny_mono ((x_law (σ := ⟨fun _ => none, [], s₁.gens⟩) (Q := fun v σ' => v = .v (.bool true) ∧ Gp s₁.gens σ'.gens) S R (fun _ _ h => by cases h) hz H (fun g hg => ⟨rfl, hg⟩) s₁.heap.objs.size).go _ PM.bot_le s' r₁) (fun fl s'' ⟨b, σ', B₂, g1, g2, g3, g4⟩ => ?_) fun _ _ e => e.elim
    have fin : Gp s₁.gens σ'.gens → (∀ b o, s₁.heap.get? b = some o → s''.heap.get? b = some o) ∧ s''.os = s₁.os ∧ AllBare s''.gens := fun hG => by
      refine ⟨fun b o e => g2.keep b o (g1 b o e), g2.os, ?_⟩
      obtain ⟨l', hl', e⟩ := hG
      rw [g2.gens, e, hg]
      exact bare_push l' hl' #[] .empty
    cases g3 with
    | ret hr =>
      obtain ⟨e1, e2⟩ := g4
      subst e1
      cases hr
      obtain ⟨k1, k2, k3⟩ := fin e2
      exact k s'' k1 k2 k3
    | next => exact absurd g4.1 (by intro e; cases e)
    | brk => exact g4.elim
    | cont => exact g4.elim
end Mine
set_option maxRecDepth 100000 in
set_option maxHeartbeats 8000000 in
theorem PySem.Challenge.cw_il0070_01_holds : PySem.Challenge.rw_il0070_01.Holds := by
  w_on
  o_law
  o_head Hook.none
  case hw => w_witness2
  intro w s₀ s₁ mg mb G Y fa o pm cd doc dV kV ho hd hcd hD hmg hg args vals as hpre hlay hrd hwl hlo
  refine Ground.open G ?_
  intro T B D TE TW
  obtain ⟨ad, pmd, S, hlaw⟩ := Mine.sta_of (prog := PySem.Challenge.rw_il0070_01.row.prog) (w := w) T rfl (by kernel_rfl) (by kernel_rfl)
  have hfa : fa = ad 32 := by
    have e2 := hmg.symm.trans hlaw
    cases e2; rfl
  subst hfa
  clear hd hcd hD hmg ho B D TE TW G
  wrow_args hpre hlay hrd hwl hlo
  rename_i hL ra w1 r0 hI hr hc1 hc2
  refine Mine.law_val S hg (Mine.well_list w1 hL) hI (by omega) fun s' hk hos hb => ?_
  exact ⟨.inl ⟨.bool true, .bool true, [], rfl, fun _ => rfl, .bool true, postW_of (X := true) rfl (by kernel_rfl) rfl, unshared_nil⟩, .of_keep hk, hos, hb⟩
end
