import PyProof.Rows.All
import Wide.All
import OpenK.AllK
import Wide.FinOn
import PySem.Challenge.RW_xg0007_01
open PySem PySem.W PyProof.Rows PySem.Calls
set_option Elab.async false
set_option linter.unusedVariables false
set_option linter.unusedSimpArgs false

/-! # F1 -/
namespace Mine

/-- names of the things that the call may change -/
inductive Key where
  | n (i : Nat) | s (i : Nat) | f (i : Nat) | r (i : Nat) | fr (i : Nat)
  deriving DecidableEq
/-- frames and cells: no value refers to them -/
noncomputable def Key.isFr : Key → Bool
  | .fr _ => true
  | _ => false

/-- pure data: what a value says -/
inductive D where
  | val (v : Value)
  | int (i : Int)
  | str (s : Str)
  | bytes (b : Array UInt8)
  | list (xs : List D)
  | tup (xs : List D)
  | dict (kvs : List (Int × Int))
  | rng (lo hi : Int)
  | res (k : Key)

/-- what a changeable thing holds -/
inductive Sp where
  | ns (g : Str → Option D)
  | list (xs : List D)
  | dict (kvs : List (Int × Int))
  | cell (d : Option D)
  | junk

noncomputable abbrev prog : Program := PySem.Challenge.pw_xg0007_01

noncomputable abbrev H := Key → Option Sp
noncomputable def H.set (σ : H) (k : Key) (sp : Sp) : H := fun k' => if k' = k then some sp else σ k'
noncomputable def gset (g : Str → Option D) (x : Str) (d : D) : Str → Option D := fun y => if y = x then some d else g y

structure Cfg where
  M : Addr → Prop
  α : Key → Option Addr
  h : Heap

/-- a list's object, to the letter -/
noncomputable abbrev lobj (vs : List Value) (n : Nat) : Obj := { cls := .type "list", dict := none, data := .seq vs.toArray n, slots := #[] }
noncomputable abbrev tobj (vs : List Value) (n : Nat) : Obj := { cls := .type "tuple", dict := none, data := .seq vs.toArray n, slots := #[] }

noncomputable def IntVals (kv : List (Int × Value)) (kvs : List (Int × Int)) : Prop := Paired (fun (p : Int × Value) (q : Int × Int) => p.1 = q.1 ∧ ∃ t, p.2 = .int q.2 t) kv kvs

noncomputable def DictObj (w : World) (o : Obj) (kvs : List (Int × Int)) : Prop := ∃ kv, o.IsDictOf (intKind prog w) kv ∧ IntVals kv kvs

mutual
inductive Rep (w : World) (x : Cfg) : Value → D → Prop
  | val {v} : Rep w x v (.val v)
  | int {i t} : Rep w x (.int i t) (.int i)
  | str {s t} : Rep w x (.str s t) (.str s)
  | bytes {b t} : Rep w x (.bytes b t) (.bytes b)
  | list {a vs n xs} : ¬ x.M a → x.h.get? a = some (lobj vs n) → Reps w x vs xs → Rep w x (.ref a) (.list xs)
  | tup {a vs n xs} : ¬ x.M a → x.h.get? a = some (tobj vs n) → Reps w x vs xs → Rep w x (.ref a) (.tup xs)
  | dict {a o kvs} : ¬ x.M a → (a == sysModules) = false → x.h.get? a = some o → DictObj w o kvs → Rep w x (.ref a) (.dict kvs)
  | rng {a lo hi t u v} : ¬ x.M a → IsRange x.h a lo hi 1 t u v → Rep w x (.ref a) (.rng lo hi)
  | res {k a} : k.isFr = false → x.α k = some a → Rep w x (.ref a) (.res k)
inductive Reps (w : World) (x : Cfg) : List Value → List D → Prop
  | nil : Reps w x [] []
  | cons {v d vs ds} : Rep w x v d → Reps w x vs ds → Reps w x (v :: vs) (d :: ds)
end

/-- the thing at `a` is as `sp` says -/
noncomputable def Is (w : World) (x : Cfg) (a : Addr) : Sp → Prop
  | .ns g => ∃ m, x.h.Ns a m ∧ ∀ y d, g y = some d → ∃ v, m y = some v ∧ Rep w x v d
  | .list xs => ∃ vs n, x.h.get? a = some (lobj vs n) ∧ Reps w x vs xs
  | .dict kvs => (a == sysModules) = false ∧ ∃ o, x.h.get? a = some o ∧ DictObj w o kvs
  | .cell none => ∃ o, x.h.get? a = some o ∧ o.data = .cell none
  | .cell (some d) => ∃ o v, x.h.get? a = some o ∧ o.data = .cell (some v) ∧ Rep w x v d
  | .junk => True

/-- growth: what an honest step leaves as it was -/
structure Grow (x x' : Cfg) : Prop where
  keep : ∀ b o, ¬ x.M b → x.h.get? b = some o → x'.h.get? b = some o
  still : ∀ b, b < x.h.objs.size → ¬ x.M b → ¬ x'.M b
  names : ∀ k a, x.α k = some a → x'.α k = some a

theorem Grow.refl (x : Cfg) : Grow x x := ⟨fun _ _ _ e => e, fun _ _ e => e, fun _ _ e => e⟩

mutual
theorem Rep.grow {w : World} {x x' : Cfg} (g : Grow x x') : ∀ {v d}, Rep w x v d → Rep w x' v d
  | _, _, .val => .val
  | _, _, .int => .int
  | _, _, .str => .str
  | _, _, .bytes => .bytes
  | _, _, .list hm hg hr => .list (g.still _ (Heap.lt_size hg) hm) (g.keep _ _ hm hg) (Reps.grow g hr)
  | _, _, .tup hm hg hr => .tup (g.still _ (Heap.lt_size hg) hm) (g.keep _ _ hm hg) (Reps.grow g hr)
  | _, _, .dict hm hq hg hr => .dict (g.still _ (Heap.lt_size hg) hm) hq (g.keep _ _ hm hg) hr
  | _, _, .rng hm hg => .rng (g.still _ (Heap.lt_size hg) hm) (g.keep _ _ hm hg)
  | _, _, .res q e => .res q (g.names _ _ e)
theorem Reps.grow {w : World} {x x' : Cfg} (g : Grow x x') : ∀ {vs ds}, Reps w x vs ds → Reps w x' vs ds
  | _, _, .nil => .nil
  | _, _, .cons a b => .cons (Rep.grow g a) (Reps.grow g b)
end

theorem Reps.length {w : World} {x : Cfg} : ∀ {vs : List Value} {ds : List D}, Reps w x vs ds → vs.length = ds.length
  | _, _, .nil => rfl
  | _, _, .cons _ b => by rw [List.length_cons, List.length_cons, Reps.length b]
theorem Reps.append {w : World} {x : Cfg} : ∀ {vs : List Value} {ds : List D} {us es}, Reps w x vs ds → Reps w x us es → Reps w x (vs ++ us) (ds ++ es)
  | _, _, _, _, .nil, h => h
  | _, _, _, _, .cons a b, h => .cons a (Reps.append b h)
theorem Reps.get {w : World} {x : Cfg} : ∀ {vs : List Value} {ds : List D} {i : Nat} {d : D}, Reps w x vs ds → ds[i]? = some d → ∃ v, vs[i]? = some v ∧ Rep w x v d
  | _, _, i, d, .nil, h => by simp at h
  | _, _, 0, d, .cons (v := v) a b, h => by
    simp only [List.getElem?_cons_zero, Option.some.injEq] at h; subst h; exact ⟨v, rfl, a⟩
  | _, _, i + 1, d, .cons a b, h => by
    simp only [List.getElem?_cons_succ] at h ⊢; exact Reps.get b h

/-- all that a step of the call finds -/
structure Ok (w : World) (h₀ : Heap) (σ : H) (x : Cfg) : Prop where
  base : ∀ b o, h₀.get? b = some o → x.h.get? b = some o
  off : ∀ b, x.M b → h₀.get? b = none
  live : ∀ k sp, σ k = some sp → ∃ a, x.α k = some a ∧ x.M a ∧ a < x.h.objs.size ∧ Is w x a sp
  dom : ∀ k a, x.α k = some a → (σ k).isSome
  inj : ∀ k k' a, x.α k = some a → x.α k' = some a → k = k'
  lim : ∀ b, x.M b → b < x.h.objs.size

/-- the step's own ground: the addresses that it may change -/
noncomputable def own (x : Cfg) (b : Addr) : Prop := ∃ k, x.α k = some b

structure After (x x' : Cfg) : Prop where
  size : x.h.objs.size ≤ x'.h.objs.size
  keep : ∀ b o, ¬ own x b → x.h.get? b = some o → x'.h.get? b = some o
  marks : ∀ b, b < x.h.objs.size → ¬ own x b → (x'.M b ↔ x.M b)
  names : ∀ k a, x.α k = some a → x'.α k = some a
  fresh : ∀ k a, x'.α k = some a → x.α k = some a ∨ x.h.objs.size ≤ a

theorem After.refl (x : Cfg) : After x x := ⟨Nat.le_refl _, fun _ _ _ e => e, fun _ _ _ => Iff.rfl, fun _ _ e => e, fun _ _ e => .inl e⟩

theorem After.trans {x y z : Cfg} (a : After x y) (b : After y z) : After x z where
  size := Nat.le_trans a.size b.size
  keep := fun c o hc e => b.keep c o (fun ⟨k, hk⟩ => by
    rcases a.fresh k c hk with h | h
    · exact hc ⟨k, h⟩
    · exact absurd (Heap.lt_size e) (Nat.not_lt.mpr h)) (a.keep c o hc e)
  marks := fun c hlt hc => (b.marks c (Nat.lt_of_lt_of_le hlt a.size) (fun ⟨k, hk⟩ => by
    rcases a.fresh k c hk with h | h
    · exact hc ⟨k, h⟩
    · exact absurd hlt (Nat.not_lt.mpr h))).trans (a.marks c hlt hc)
  names := fun k c e => b.names k c (a.names k c e)
  fresh := fun k c e => by
    rcases b.fresh k c e with h | h
    · exact a.fresh k c h
    · exact .inr (Nat.le_trans a.size h)

/-- what lies off the marks stays -/
theorem After.grow {w : World} {h₀ : Heap} {σ : H} {x x' : Cfg} (ok : Ok w h₀ σ x) (a : After x x') : Grow x x' where
  keep := fun b o hm e => a.keep b o (fun ⟨k, hk⟩ => by
    obtain ⟨sp, hs⟩ := Option.isSome_iff_exists.mp (ok.dom k b hk)
    obtain ⟨c, hc, hM, _⟩ := ok.live k sp hs
    rw [hk] at hc; cases hc; exact hm hM) e
  still := fun b hlt hm h => hm ((a.marks b hlt (fun ⟨k, hk⟩ => by
    obtain ⟨sp, hs⟩ := Option.isSome_iff_exists.mp (ok.dom k b hk)
    obtain ⟨c, hc, hM, _⟩ := ok.live k sp hs
    rw [hk] at hc; cases hc; exact hm hM)).mp h)
  names := a.names

/-- the names of a frame, bound to keys: `c` its locals, `ck` its cells -/
structure InEnv (env : Env) (c : Key) (ck : List (Str × Key)) (x : Cfg) : Prop where
  loc : x.α c = some env.locals
  cell : ∀ y k, ck.lookup y = some k → ∃ a, env.cells.lookup y = some a ∧ x.α k = some a

theorem InEnv.after {env : Env} {c : Key} {ck : List (Str × Key)} {x x' : Cfg} (e : InEnv env c ck x) (a : After x x') : InEnv env c ck x' :=
  ⟨a.names _ _ e.loc, fun y k h => let ⟨b, h1, h2⟩ := e.cell y k h; ⟨b, h1, a.names _ _ h2⟩⟩

/-- how a run ends: another heap, other tokens, all else as it was -/
noncomputable def Post {β : Type} (w : World) (h₀ : Heap) (σ' : H) (x : Cfg) (s : Shared) (R : β → Cfg → Prop) (b : β) (s' : Shared) : Prop :=
  ∃ x' tk, s' = { s with heap := x'.h, toks := tk } ∧ Ok w h₀ σ' x' ∧ After x x' ∧ R b x'
/-- a run of `t` from `x` that ends well -/
noncomputable def Runs {β : Type} (w : World) (h₀ : Heap) (A : Around) (σ' : H) (x : Cfg) (t : Sem β) (R : β → Cfg → Prop) : Prop :=
  ∀ s : Shared, s.heap = x.h → wpAny (model prog w) A t (Post w h₀ σ' x s R) (fun _ _ => False) s

theorem Post.back {β γ : Type} {w : World} {h₀ : Heap} {σ' : H} {x y : Cfg} {s : Shared} {tk : Nat} {R : β → Cfg → Prop} {R' : γ → Cfg → Prop} {b : β} {b' : γ} {s' : Shared}
    (af : After x y) (h : Post w h₀ σ' y { s with heap := y.h, toks := tk } R b s') (hr : ∀ z, Ok w h₀ σ' z → After y z → R b z → R' b' z) : Post w h₀ σ' x s R' b' s' :=
  let ⟨z, tk', e, ok, af', r⟩ := h; ⟨z, tk', e, ok, af.trans af', hr z ok af' r⟩

section
variable {w : World} {h₀ : Heap} {A : Around} {β γ : Type}

/-- the value of an expression -/
noncomputable def Ev (w : World) (h₀ : Heap) (A : Around) (env : Env) (c : Key) (ck : List (Str × Key)) (e : Expr) (σ : H) (d : D) (σ' : H) : Prop :=
  ∀ x, Ok w h₀ σ x → InEnv env c ck x → Runs w h₀ A σ' x (eval e env) (fun v y => Rep w y v d)

/-- how a statement goes out -/
inductive Out where
  | next
  | ret (d : D)

noncomputable def FRep (w : World) (y : Cfg) : Flow → Out → Prop
  | .next, .next => True
  | .ret v, .ret d => Rep w y v d
  | _, _ => False

noncomputable def Ex (w : World) (h₀ : Heap) (A : Around) (env : Env) (c : Key) (ck : List (Str × Key)) (st : Stmt) (σ : H) (o : Out) (σ' : H) : Prop :=
  ∀ x, Ok w h₀ σ x → InEnv env c ck x → Runs w h₀ A σ' x (exec st env) (fun f y => FRep w y f o)
noncomputable def Exs (w : World) (h₀ : Heap) (A : Around) (env : Env) (c : Key) (ck : List (Str × Key)) (sts : List Stmt) (σ : H) (o : Out) (σ' : H) : Prop :=
  ∀ x, Ok w h₀ σ x → InEnv env c ck x → Runs w h₀ A σ' x (execs sts env) (fun f y => FRep w y f o)
noncomputable def Tst (w : World) (h₀ : Heap) (A : Around) (env : Env) (c : Key) (ck : List (Str × Key)) (e : Expr) (σ : H) (b : Bool) (σ' : H) : Prop :=
  ∀ x, Ok w h₀ σ x → InEnv env c ck x → Runs w h₀ A σ' x (isTrue e env (eval e env)) (fun v y => v = b)

/-- weakening: forgetting -/
noncomputable def Sp.Le : Sp → Sp → Prop
  | _, .junk => True
  | .ns g, .ns g' => ∀ y d, g' y = some d → g y = some d
  | a, b => a = b
noncomputable def H.Le (σ σ' : H) : Prop := ∀ k, match σ k, σ' k with
  | some a, some b => Sp.Le a b
  | none, none => True
  | _, _ => False

theorem Is.le {x : Cfg} {a : Addr} {p q : Sp} (h : Is w x a p) (l : Sp.Le p q) : Is w x a q := by
  cases q with
  | junk => trivial
  | ns g' =>
    cases p with
    | ns g => obtain ⟨m, hn, hm⟩ := h; exact ⟨m, hn, fun y d e => hm y d (l y d e)⟩
    | _ => simp [Sp.Le] at l
  | list xs => cases p <;> simp [Sp.Le] at l; subst l; exact h
  | dict xs => cases p <;> simp [Sp.Le] at l; subst l; exact h
  | cell d => cases p <;> simp [Sp.Le] at l; subst l; exact h

theorem Ok.le {σ σ' : H} {x : Cfg} (ok : Ok w h₀ σ x) (l : H.Le σ σ') : Ok w h₀ σ' x where
  base := ok.base
  off := ok.off
  live := fun k sp h => by
    have := l k
    rw [h] at this
    cases hs : σ k with
    | none => rw [hs] at this; exact this.elim
    | some p =>
      rw [hs] at this
      obtain ⟨a, h1, h2, h3, h4⟩ := ok.live k p hs
      exact ⟨a, h1, h2, h3, h4.le this⟩
  dom := fun k a h => by
    have := l k
    have h1 := ok.dom k a h
    cases hs : σ k with
    | none => rw [hs] at h1; cases h1
    | some p =>
      rw [hs] at this
      cases ht : σ' k with
      | none => rw [ht] at this; exact this.elim
      | some q => rfl
  inj := ok.inj
  lim := ok.lim

theorem Runs.le {σ σ' : H} {x : Cfg} {m : Sem β} {R : β → Cfg → Prop} (hm : Runs w h₀ A σ x m R) (l : H.Le σ σ') : Runs w h₀ A σ' x m R := by
  intro s hs
  refine wpAny_mono (hm s hs) (fun b s₁ h₁ => ?_) fun _ _ e => e
  obtain ⟨y, tk, rfl, ok, af, r⟩ := h₁
  exact ⟨y, tk, rfl, ok.le l, af, r⟩

/-! ## how the ground changes -/
theorem Is.grow {x x' : Cfg} {a : Addr} {sp : Sp} (g : Grow x x') (hk : ∀ o, x.h.get? a = some o → x'.h.get? a = some o) (h : Is w x a sp) : Is w x' a sp := by
  cases sp with
  | ns gm =>
    obtain ⟨m, ⟨o, es, ep, ho, r⟩, hm⟩ := h
    exact ⟨m, ⟨o, es, ep, hk o ho, r⟩, fun y d e => let ⟨v, h1, h2⟩ := hm y d e; ⟨v, h1, h2.grow g⟩⟩
  | list xs => obtain ⟨vs, n, h1, h2⟩ := h; exact ⟨vs, n, hk _ h1, h2.grow g⟩
  | dict kvs => obtain ⟨q, o, h1, h2⟩ := h; exact ⟨q, o, hk _ h1, h2⟩
  | cell d =>
    cases d with
    | none => obtain ⟨o, h1, h2⟩ := h; exact ⟨o, hk _ h1, h2⟩
    | some d => obtain ⟨o, v, h1, h2, h3⟩ := h; exact ⟨o, v, hk _ h1, h2, h3.grow g⟩
  | junk => trivial

/-- the same names and marks on a heap that changed at one own place `a` alone -/
theorem Ok.upd {σ : H} {x : Cfg} {k : Key} {a : Addr} {sp : Sp} {h' : Heap} (ok : Ok w h₀ σ x) (ha : x.α k = some a)
    (hh : ∀ b o, b ≠ a → x.h.get? b = some o → h'.get? b = some o) (hsz : x.h.objs.size ≤ h'.objs.size) (his : Is w { x with h := h' } a sp) :
    Ok w h₀ (σ.set k sp) { x with h := h' } ∧ After x { x with h := h' } := by
  have hs : (σ k).isSome := ok.dom k a ha
  obtain ⟨sp0, h0⟩ := Option.isSome_iff_exists.mp hs
  obtain ⟨a', ha', hM, hlt, _⟩ := ok.live k sp0 h0
  rw [ha] at ha'; cases ha'
  have g : Grow x { x with h := h' } := ⟨fun b o hb e => hh b o (fun q => hb (q ▸ hM)) e, fun _ _ e => e, fun _ _ e => e⟩
  refine ⟨⟨fun b o e => hh b o (fun q => by rw [q, ok.off a hM] at e; cases e) (ok.base b o e), ok.off, ?_, ?_, ok.inj, fun b hb => Nat.lt_of_lt_of_le (ok.lim b hb) hsz⟩,
    ⟨hsz, fun b o hb e => hh b o (fun q => hb ⟨k, q ▸ ha⟩) e, fun _ _ _ => Iff.rfl, fun _ _ e => e, fun _ _ e => .inl e⟩⟩
  · intro k' sp' h
    unfold H.set at h
    split at h
    · rename_i e; cases h; subst e
      exact ⟨a, ha, hM, Nat.lt_of_lt_of_le hlt hsz, his⟩
    · rename_i e
      obtain ⟨b, h1, h2, h3, h4⟩ := ok.live k' sp' h
      refine ⟨b, h1, h2, Nat.lt_of_lt_of_le h3 hsz, h4.grow g fun o ho => hh b o (fun q => e (ok.inj k' k a (q ▸ h1) ha)) ho⟩
  · intro k' b h
    unfold H.set
    split
    · rfl
    · exact ok.dom k' b h

/-- new things that no one will change -/
theorem Ok.more {σ : H} {x : Cfg} {h' : Heap} (ok : Ok w h₀ σ x) (hh : ∀ b o, x.h.get? b = some o → h'.get? b = some o) (hsz : x.h.objs.size ≤ h'.objs.size) :
    Ok w h₀ σ { x with h := h' } ∧ After x { x with h := h' } := by
  have g : Grow x { x with h := h' } := ⟨fun b o _ e => hh b o e, fun _ _ e => e, fun _ _ e => e⟩
  refine ⟨⟨fun b o e => hh b o (ok.base b o e), ok.off, fun k sp h => ?_, ok.dom, ok.inj, fun b hb => Nat.lt_of_lt_of_le (ok.lim b hb) hsz⟩,
    ⟨hsz, fun b o _ e => hh b o e, fun _ _ _ => Iff.rfl, fun _ _ e => e, fun _ _ e => .inl e⟩⟩
  obtain ⟨b, h1, h2, h3, h4⟩ := ok.live k sp h
  exact ⟨b, h1, h2, Nat.lt_of_lt_of_le h3 hsz, h4.grow g fun o ho => hh b o ho⟩

noncomputable def Cfg.named (x : Cfg) (k : Key) (a : Addr) (h' : Heap) : Cfg := { M := fun b => x.M b ∨ b = a, α := fun k' => if k' = k then some a else x.α k', h := h' }

/-- a new thing that will be changed, under a new name -/
theorem Ok.alloc {σ : H} {x : Cfg} {k : Key} {a : Addr} {sp : Sp} {h' : Heap} (ok : Ok w h₀ σ x) (hk : σ k = none)
    (hh : ∀ b o, x.h.get? b = some o → h'.get? b = some o) (hsz : x.h.objs.size ≤ h'.objs.size) (hge : x.h.objs.size ≤ a) (hlt : a < h'.objs.size) (his : Is w (x.named k a h') a sp) :
    Ok w h₀ (σ.set k sp) (x.named k a h') ∧ After x (x.named k a h') := by
  have hα : x.α k = none := by
    cases e : x.α k with
    | none => rfl
    | some b => have := ok.dom k b e; rw [hk] at this; cases this
  have g : Grow x (x.named k a h') := ⟨fun b o _ e => hh b o e, fun b hb hm h => h.elim hm (fun q => Nat.lt_irrefl _ (Nat.lt_of_lt_of_le hb (q ▸ hge))), fun k' b e => by
    show (if k' = k then some a else x.α k') = some b
    rw [if_neg (by rintro rfl; rw [hα] at e; cases e)]; exact e⟩
  have hM : ∀ b, x.M b → b ≠ a := fun b hb q => Nat.lt_irrefl _ (Nat.lt_of_lt_of_le (ok.lim b hb) (q ▸ hge))
  refine ⟨⟨fun b o e => hh b o (ok.base b o e), ?_, ?_, ?_, ?_, ?_⟩, ⟨hsz, fun b o _ e => hh b o e, ?_, g.names, ?_⟩⟩
  · rintro b (hb | rfl)
    · exact ok.off b hb
    · cases e : h₀.get? b with
      | none => rfl
      | some o => exact absurd (Heap.lt_size (ok.base b o e)) (Nat.not_lt.mpr hge)
  · intro k' sp' h
    unfold H.set at h
    split at h
    · rename_i e; cases h; subst e
      exact ⟨a, if_pos rfl, .inr rfl, hlt, his⟩
    · rename_i e
      obtain ⟨b, h1, h2, h3, h4⟩ := ok.live k' sp' h
      exact ⟨b, g.names _ _ h1, .inl h2, Nat.lt_of_lt_of_le h3 hsz, h4.grow g fun o ho => hh b o ho⟩
  · intro k' b h
    unfold H.set
    split
    · rfl
    · rename_i e
      have h' : (if k' = k then some a else x.α k') = some b := h
      rw [if_neg e] at h'
      exact ok.dom k' b h'
  · intro k₁ k₂ b h1 h2
    have h1' : (if k₁ = k then some a else x.α k₁) = some b := h1
    have h2' : (if k₂ = k then some a else x.α k₂) = some b := h2
    have lt : ∀ k' c, x.α k' = some c → c ≠ a := fun k' c e => by
      obtain ⟨sp, hs⟩ := Option.isSome_iff_exists.mp (ok.dom k' c e)
      obtain ⟨c', h1, h2, _⟩ := ok.live k' sp hs
      rw [e] at h1; cases h1; exact hM c h2
    split at h1' <;> split at h2'
    · rename_i e1 e2; rw [e1, e2]
    · cases h1'; exact absurd rfl (lt _ _ h2')
    · cases h2'; exact absurd rfl (lt _ _ h1')
    · exact ok.inj k₁ k₂ b h1' h2'
  · rintro b (hb | rfl)
    · exact Nat.lt_of_lt_of_le (ok.lim b hb) hsz
    · exact hlt
  · intro b hb _
    exact ⟨fun h => h.elim id (fun q => absurd hb (Nat.not_lt.mpr (q ▸ hge))), .inl⟩
  · intro k' b h
    have h' : (if k' = k then some a else x.α k') = some b := h
    split at h'
    · cases h'; exact .inr hge
    · exact .inl h'

/-! ## a frame is let go -/
noncomputable def H.erase (σ : H) (k : Key) : H := fun k' => if k' = k then none else σ k'
noncomputable def Cfg.drop (x : Cfg) (k : Key) : Cfg := { x with α := fun k' => if k' = k then none else x.α k' }
mutual
theorem Rep.dropF {x : Cfg} {k : Key} (hk : k.isFr = true) : ∀ {v d}, Rep w x v d → Rep w (x.drop k) v d
  | _, _, .val => .val
  | _, _, .int => .int
  | _, _, .str => .str
  | _, _, .bytes => .bytes
  | _, _, .list hm hg hr => .list hm hg (Reps.dropF hk hr)
  | _, _, .tup hm hg hr => .tup hm hg (Reps.dropF hk hr)
  | _, _, .dict hm hq hg hr => .dict hm hq hg hr
  | _, _, .rng hm hg => .rng hm hg
  | _, _, .res (k := k') (a := a) q e => .res q (show (if k' = k then none else x.α k') = some a by rw [if_neg (by rintro rfl; rw [hk] at q; cases q)]; exact e)
theorem Reps.dropF {x : Cfg} {k : Key} (hk : k.isFr = true) : ∀ {vs ds}, Reps w x vs ds → Reps w (x.drop k) vs ds
  | _, _, .nil => .nil
  | _, _, .cons a b => .cons (Rep.dropF hk a) (Reps.dropF hk b)
end
theorem Is.dropF {x : Cfg} {k : Key} {a : Addr} {sp : Sp} (hk : k.isFr = true) (h : Is w x a sp) : Is w (x.drop k) a sp := by
  cases sp with
  | ns g => obtain ⟨m, hn, hm⟩ := h; exact ⟨m, hn, fun y d e => let ⟨v, h1, h2⟩ := hm y d e; ⟨v, h1, h2.dropF hk⟩⟩
  | list xs => obtain ⟨vs, n, h1, h2⟩ := h; exact ⟨vs, n, h1, h2.dropF hk⟩
  | dict kvs => exact h
  | cell d =>
    cases d with
    | none => exact h
    | some d => obtain ⟨o, v, h1, h2, h3⟩ := h; exact ⟨o, v, h1, h2, h3.dropF hk⟩
  | junk => trivial
theorem Ok.dropF {σ : H} {x : Cfg} {k : Key} (ok : Ok w h₀ σ x) (hk : k.isFr = true) : Ok w h₀ (σ.erase k) (x.drop k) where
  base := ok.base
  off := ok.off
  live := fun k' sp h => by
    unfold H.erase at h
    split at h
    · cases h
    · rename_i e
      obtain ⟨a, h1, h2, h3, h4⟩ := ok.live k' sp h
      exact ⟨a, by show (if k' = k then none else x.α k') = some a; rw [if_neg e]; exact h1, h2, h3, h4.dropF hk⟩
  dom := fun k' a h => by
    have h' : (if k' = k then none else x.α k') = some a := h
    unfold H.erase
    split at h'
    · cases h'
    · rename_i e; rw [if_neg e]; exact ok.dom k' a h'
  inj := fun k₁ k₂ a h1 h2 => by
    have h1' : (if k₁ = k then none else x.α k₁) = some a := h1
    have h2' : (if k₂ = k then none else x.α k₂) = some a := h2
    split at h1' <;> split at h2' <;> first | cases h1' | cases h2' | exact ok.inj k₁ k₂ a h1' h2'
  lim := ok.lim
theorem After.dropF {x y : Cfg} {k : Key} (a : After x y) (hk : x.α k = none) : After x (y.drop k) where
  size := a.size
  keep := a.keep
  marks := a.marks
  names := fun k' b e => by
    show (if k' = k then none else y.α k') = some b
    rw [if_neg (by rintro rfl; rw [hk] at e; cases e)]; exact a.names k' b e
  fresh := fun k' b e => by
    have e' : (if k' = k then none else y.α k') = some b := e
    split at e'
    · cases e'
    · exact a.fresh k' b e'
theorem Ok.noname {σ : H} {x : Cfg} {k : Key} (ok : Ok w h₀ σ x) (hk : σ k = none) : x.α k = none := by
  cases e : x.α k with
  | none => rfl
  | some b => have := ok.dom k b e; rw [hk] at this; cases this
theorem H.erase_set {σ : H} {k : Key} {sp : Sp} (hk : σ k = none) : (σ.set k sp).erase k = σ := by
  funext k'
  unfold H.erase H.set
  by_cases e : k' = k
  · rw [if_pos e, e, hk]
  · rw [if_neg e, if_neg e]
end
end Mine

/-! # F2 -/
namespace Mine
section
variable {w : World} {h₀ : Heap} {A : Around} {env : Env} {c : Key} {ck : List (Str × Key)} {σ σ' σ₁ σ₂ σ₃ : H} {d d₁ d₂ d₃ : D} {pos : Pos}

theorem toksOnly {x : Cfg} {s : Shared} {tk : Nat} (hs : s.heap = x.h) : ({ s with toks := tk } : Shared) = { s with heap := x.h, toks := tk } := by rw [← hs]
theorem noToks {x : Cfg} {s : Shared} (hs : s.heap = x.h) : s = { s with heap := x.h, toks := s.toks } := by rw [← hs]

/-! ## constants and names -/
theorem Ev.intC {i : Int} {k : Nat} : Ev w h₀ A env c ck (.Constant (.int i) k pos) σ (.int i) σ := fun x ok _ s hs =>
  wpAny_Constant_int ⟨x, _, toksOnly hs, ok, .refl x, .int⟩
theorem Ev.strC {y : Str} {k : Nat} : Ev w h₀ A env c ck (.Constant (.str y) k pos) σ (.str y) σ := fun x ok _ s hs =>
  wpAny_Constant_str ⟨x, _, toksOnly hs, ok, .refl x, .str⟩
theorem Ev.bytesC {y : List UInt8} {k : Nat} : Ev w h₀ A env c ck (.Constant (.bytes y) k pos) σ (.bytes y.toArray) σ := fun x ok _ s hs =>
  Constant_bytes ⟨x, _, toksOnly hs, ok, .refl x, .bytes⟩
theorem Ok.ns {x : Cfg} {k : Key} {g : Str → Option D} {a : Addr} (ok : Ok w h₀ σ x) (h : σ k = some (.ns g)) (ha : x.α k = some a) :
    ∃ m, x.h.Ns a m ∧ ∀ y d, g y = some d → ∃ v, m y = some v ∧ Rep w x v d := by
  obtain ⟨b, h1, _, _, h2⟩ := ok.live k _ h
  rw [ha] at h1; cases h1; exact h2

theorem Ld.loc {y : Str} {g : Str → Option D} (hk : env.scope.kind = .function) (hl : env.kindOf y = some .local) (hc : σ c = some (.ns g)) (hg : g y = some d) :
    ∀ x, Ok w h₀ σ x → InEnv env c ck x → Runs w h₀ A σ x (loadName env y) (fun v z => Rep w z v d) := fun x ok en s hs => by
  obtain ⟨m, hn, hm⟩ := ok.ns hc en.loc
  obtain ⟨v, hv, hr⟩ := hm y d hg
  exact wpAny_loadName_local hk hl (hs ▸ hn) hv ⟨x, s.toks, noToks hs, ok, .refl x, hr⟩
theorem Ld.cell {y : Str} {k : Key} (hk : env.scope.kind = .function) (hl : env.kindOf y = some .cell) (hc : ck.lookup y = some k) (hg : σ k = some (.cell (some d))) :
    ∀ x, Ok w h₀ σ x → InEnv env c ck x → Runs w h₀ A σ x (loadName env y) (fun v z => Rep w z v d) := fun x ok en s hs => by
  obtain ⟨a, ha, hα⟩ := en.cell y k hc
  obtain ⟨b, h1, _, _, h2⟩ := ok.live k _ hg
  rw [hα] at h1; cases h1
  obtain ⟨o, v, h3, h4, h5⟩ := h2
  exact wpAny_loadName_cell hk hl ha ⟨o, hs ▸ h3, h4⟩ ⟨x, s.toks, noToks hs, ok, .refl x, h5⟩

theorem Ev.loc {y : Str} {g : Str → Option D} (hk : env.scope.kind = .function) (hl : env.kindOf y = some .local) (hc : σ c = some (.ns g)) (hg : g y = some d)
    (hd : (y == ("__debug__" : Str)) = false) : Ev w h₀ A env c ck (.Name y pos) σ d σ := fun x ok en s hs => wpAny_Name (Ld.loc hk hl hc hg x ok en s hs) hd
theorem Ev.cell {y : Str} {k : Key} (hk : env.scope.kind = .function) (hl : env.kindOf y = some .cell) (hc : ck.lookup y = some k) (hg : σ k = some (.cell (some d)))
    (hd : (y == ("__debug__" : Str)) = false) : Ev w h₀ A env c ck (.Name y pos) σ d σ := fun x ok en s hs => wpAny_Name (Ld.cell hk hl hc hg x ok en s hs) hd

/-- what a name of the text's top, or of the interpreter's, says -/
noncomputable def Glb (h₀ : Heap) (y : Str) (v : Value) : Prop := ∃ mg, h₀.Ns mainGlobals mg ∧ (mg y = some v ∨ (mg y = none ∧ ∃ mb, h₀.Ns builtinsNs mb ∧ mb y = some v))

theorem Ev.glob {y : Str} {v : Value} (G : Glb h₀ y v) (hk : env.scope.kind = .function) (hl : env.kindOf y = some .globalImplicit) (hg : env.globals = mainGlobals) (hb : env.builtins = builtinsNs)
    (hd : (y == ("__debug__" : Str)) = false) : Ev w h₀ A env c ck (.Name y pos) σ (.val v) σ := fun x ok en s hs => by
  obtain ⟨mg, hn, h⟩ := G
  have hn' : s.heap.Ns env.globals mg := by rw [hg, hs]; exact hn.keeps ok.base
  rcases h with h | ⟨h, mb, hb', h2⟩
  · exact Name_function_global hk hl (loadGlobal_global hn' h ⟨x, s.toks, noToks hs, ok, .refl x, .val⟩) hd
  · have hb'' : s.heap.Ns env.builtins mb := by rw [hb, hs]; exact hb'.keeps ok.base
    exact Name_function_global hk hl (loadGlobal_builtin hn' h hb'' h2 ⟨x, s.toks, noToks hs, ok, .refl x, .val⟩) hd

/-! ## two operands -/
noncomputable def Bin (w : World) (h₀ : Heap) (A : Around) (op : Operator) (d₁ d₂ : D) (σ : H) (d : D) (σ' : H) : Prop :=
  ∀ x v u, Ok w h₀ σ x → Rep w x v d₁ → Rep w x u d₂ → Runs w h₀ A σ' x (binaryOp op v u) (fun r y => Rep w y r d)
noncomputable def Cmp (w : World) (h₀ : Heap) (A : Around) (op : CmpOp) (d₁ d₂ : D) (σ : H) (b : Bool) (σ' : H) : Prop :=
  ∀ x v u, Ok w h₀ σ x → Rep w x v d₁ → Rep w x u d₂ → Runs w h₀ A σ' x (compareOp op v u) (fun r _ => r = .bool b)

/-- one run behind another, in the rules' own shape -/
theorem Runs.next {β : Type} {σ₁ : H} {x : Cfg} {t : Sem β} {R₁ : β → Cfg → Prop} {s : Shared} {f : β → Shared → Prop}
    (h : Runs w h₀ A σ₁ x t R₁) (hs : s.heap = x.h) (k : ∀ b y tk, Ok w h₀ σ₁ y → After x y → R₁ b y → f b { s with heap := y.h, toks := tk }) :
    wpAny (model prog w) A t f (fun _ _ => False) s :=
  wpAny_mono (h s hs) (fun b _ ⟨y, tk, e, ok, af, r⟩ => by subst e; exact k b y tk ok af r) fun _ _ e => e
/-- the last run: back to where it all began -/
theorem Runs.last {β : Type} {σ₁ : H} {x y : Cfg} {t : Sem β} {R : β → Cfg → Prop} (h : Runs w h₀ A σ₁ y t R) (s : Shared) (tk : Nat) (af : After x y) :
    wpAny (model prog w) A t (Post w h₀ σ₁ x s R) (fun _ _ => False) { s with heap := y.h, toks := tk } :=
  wpAny_mono (h _ rfl) (fun _ _ h => h.back af fun _ _ _ r => r) fun _ _ e => e
theorem Runs.lastM {β γ : Type} {σ₁ : H} {x y : Cfg} {t : Sem β} {R : β → Cfg → Prop} (h : Runs w h₀ A σ₁ y t R) (s : Shared) (tk : Nat) (af : After x y) (R' : γ → Cfg → Prop) (g : β → γ)
    (hr : ∀ b z, Ok w h₀ σ₁ z → After y z → R b z → R' (g b) z) :
    wpAny (model prog w) A t (fun b => Post w h₀ σ₁ x s R' (g b)) (fun _ _ => False) { s with heap := y.h, toks := tk } :=
  wpAny_mono (h _ rfl) (fun b _ h => h.back af fun z ok a r => hr b z ok a r) fun _ _ e => e
theorem wpAny_pure_inv {β : Type} {b : β} {Q : β → Shared → Prop} {E : Value → Shared → Prop} {s : Shared} {Γ : Ctx} {p : Pos} (hΓ : Γ.In A) (h : wpAny (model prog w) A (pure b) Q E s) : Q b s := h Γ p hΓ

theorem Ev.bin {l r : Expr} {op : Operator} (hl : Ev w h₀ A env c ck l σ d₁ σ₁) (hr : Ev w h₀ A env c ck r σ₁ d₂ σ₂) (hb : Bin w h₀ A op d₁ d₂ σ₂ d σ₃) :
    Ev w h₀ A env c ck (.BinOp l op r pos) σ d σ₃ := fun x ok en s hs =>
  wpAny_BinOp ((hl x ok en).next hs fun v y tk oky af rv => (hr y oky (en.after af)).next rfl fun u z tk' okz af' ru =>
    (hb z v u okz (rv.grow (af'.grow oky)) ru).last s tk' (af.trans af'))

theorem Ev.cmp {l r : Expr} {op : CmpOp} {b : Bool} (hl : Ev w h₀ A env c ck l σ d₁ σ₁) (hr : Ev w h₀ A env c ck r σ₁ d₂ σ₂) (hb : Cmp w h₀ A op d₁ d₂ σ₂ b σ₃)
    (hm : behindInMarks op r = false) : Ev w h₀ A env c ck (.Compare l [op] [r] pos) σ (.val (.bool b)) σ₃ := fun x ok en s hs =>
  wpAny_Compare1 ((hl x ok en).next hs fun v y tk oky af rv => (hr y oky (en.after af)).next rfl fun u z tk' okz af' ru =>
    (hb z v u okz (rv.grow (af'.grow oky)) ru).lastM s tk' (af.trans af') (fun v y => Rep w y v (.val (.bool b))) id fun _ _ _ _ h => h ▸ .val) hm
theorem Tst.cmp {l r : Expr} {op : CmpOp} {b : Bool} (hl : Ev w h₀ A env c ck l σ d₁ σ₁) (hr : Ev w h₀ A env c ck r σ₁ d₂ σ₂) (hb : Cmp w h₀ A op d₁ d₂ σ₂ b σ₃)
    (hm : behindInMarks op r = false) : Tst w h₀ A env c ck (.Compare l [op] [r] pos) σ b σ₃ := fun x ok en s hs =>
  wpAny_isTrue_Compare1 ((hl x ok en).next hs fun v y tk oky af rv => (hr y oky (en.after af)).next rfl fun u z tk' okz af' ru =>
    (hb z v u okz (rv.grow (af'.grow oky)) ru).next rfl fun r q tk'' okq af'' hr' => by
      subst hr'; exact wpAny_truthy_bool ⟨q, tk'', rfl, okq, (af.trans af').trans af'', rfl⟩) hm

theorem Tst.not {e : Expr} {b : Bool} (h : Tst w h₀ A env c ck e σ b σ₁) : Tst w h₀ A env c ck (.UnaryOp .Not e pos) σ (!b) σ₁ := fun x ok en s hs =>
  wpAny_isTrue_Not (wpAny_mono (h x ok en s hs) (fun _ _ ⟨q, tk, e, o, a, h⟩ => ⟨q, tk, e, o, a, h ▸ rfl⟩) fun _ _ e => e)

/-! ## statements -/
theorem Exs.nil : Exs w h₀ A env c ck [] σ .next σ := fun x ok _ s hs => wpAny_execs_nil ⟨x, s.toks, noToks hs, ok, .refl x, trivial⟩
theorem Exs.cons {st : Stmt} {rest : List Stmt} {o : Out} (h : Ex w h₀ A env c ck st σ .next σ₁) (hr : Exs w h₀ A env c ck rest σ₁ o σ₂) : Exs w h₀ A env c ck (st :: rest) σ o σ₂ := fun x ok en s hs =>
  wpAny_execs_cons ((h x ok en).next hs fun f y tk oky af rf => by
    cases f with
    | next => exact (hr y oky (en.after af)).last s tk af
    | _ => exact rf.elim)
theorem Exs.ret {st : Stmt} {rest : List Stmt} (h : Ex w h₀ A env c ck st σ (.ret d) σ₁) : Exs w h₀ A env c ck (st :: rest) σ (.ret d) σ₁ := fun x ok en s hs =>
  wpAny_execs_cons ((h x ok en).next hs fun f y tk oky af rf => by
    cases f with
    | ret v => exact ⟨y, tk, rfl, oky, af, rf⟩
    | _ => exact rf.elim)
theorem Exs.le {st : List Stmt} {o : Out} (h : Exs w h₀ A env c ck st σ o σ₁) (l : H.Le σ₁ σ₂) : Exs w h₀ A env c ck st σ o σ₂ := fun x ok en => (h x ok en).le l
theorem Exs.of_le {st : List Stmt} {o : Out} (l : H.Le σ σ₁) (h : Exs w h₀ A env c ck st σ₁ o σ₂) : Exs w h₀ A env c ck st σ o σ₂ := fun x ok en => h x (ok.le l) en

theorem Ex.ret {e : Expr} (h : Ev w h₀ A env c ck e σ d σ₁) : Ex w h₀ A env c ck (.Return (some e) pos) σ (.ret d) σ₁ := fun x ok en s hs =>
  wpAny_Return_some (wpAny_mono (h x ok en s hs) (fun _ _ h => h) fun _ _ e => e)

theorem Ex.iff {test : Expr} {body orelse : List Stmt} {b : Bool} {o : Out} (ht : Tst w h₀ A env c ck test σ b σ₁) (hb : Exs w h₀ A env c ck (if b then body else orelse) σ₁ o σ₂) :
    Ex w h₀ A env c ck (.If test body orelse pos) σ o σ₂ := fun x ok en s hs =>
  wpAny_If ((ht x ok en).next hs fun b' y tk oky af rb => by
    subst rb
    have := (hb y oky (en.after af)).last s tk af
    cases b' <;> exact this)

/-- storing into a local -/
noncomputable def St (w : World) (h₀ : Heap) (A : Around) (env : Env) (c : Key) (ck : List (Str × Key)) (y : Str) (d : D) (σ σ' : H) : Prop :=
  ∀ x v, Ok w h₀ σ x → InEnv env c ck x → Rep w x v d → Runs w h₀ A σ' x (storeName env y v) (fun _ _ => True)

theorem St.loc {y : Str} {g : Str → Option D} (hl : env.kindOf y = some .local) (hk : env.scope.kind = .function) (hc : σ c = some (.ns g)) :
    St w h₀ A env c ck y d σ (σ.set c (.ns (gset g y d))) := fun x v ok en rv s hs => by
  obtain ⟨m, hn, hm⟩ := ok.ns hc en.loc
  refine wpAny_storeName_local hl (hs ▸ hn) (fun h' hn' hsb => ?_) (by rw [hk]; rfl)
  have key : ∀ x' : Cfg, Grow x x' → x'.h = h' → Is w x' env.locals (.ns (gset g y d)) := fun x' gr e => by
    refine ⟨_, e ▸ hn', fun z d' hz => ?_⟩
    unfold gset at hz
    by_cases q : z = y
    · rw [if_pos q] at hz; cases hz
      exact ⟨v, by rw [if_pos q], rv.grow gr⟩
    · rw [if_neg q] at hz
      obtain ⟨u, h1, h2⟩ := hm z d' hz
      exact ⟨u, by rw [if_neg q]; exact h1, h2.grow gr⟩
  have hM : x.M env.locals := by
    obtain ⟨b, h1, h2, _⟩ := ok.live c _ hc
    rw [en.loc] at h1; cases h1; exact h2
  have hsb' : ∀ b o, b ≠ env.locals → x.h.get? b = some o → h'.get? b = some o := fun b o hb e => (hsb.2 b hb).trans (hs ▸ e)
  obtain ⟨ok', af⟩ := ok.upd en.loc hsb' (by rw [← hs]; exact Nat.le_of_eq hsb.1.symm)
    (key { x with h := h' } ⟨fun b o hb e => hsb' b o (fun q => hb (q ▸ hM)) e, fun _ _ e => e, fun _ _ e => e⟩ rfl)
  exact ⟨_, s.toks + 1, rfl, ok', af, trivial⟩

theorem St.cell {y : Str} {k : Key} {d₀ : Option D} (hk : env.scope.kind = .function) (hl : env.kindOf y = some .cell) (hc : ck.lookup y = some k) (hg : σ k = some (.cell d₀)) :
    St w h₀ A env c ck y d σ (σ.set k (.cell (some d))) := fun x v ok en rv s hs => by
  obtain ⟨a, ha, hα⟩ := en.cell y k hc
  obtain ⟨b, h1, hM, _, h2⟩ := ok.live k _ hg
  rw [hα] at h1; cases h1
  have hcell : ∃ v₀, s.heap.IsCell a v₀ := by
    cases d₀ with
    | none => obtain ⟨o, h3, h4⟩ := h2; exact ⟨none, o, hs ▸ h3, h4⟩
    | some d₀ => obtain ⟨o, v, h3, h4, _⟩ := h2; exact ⟨some v, o, hs ▸ h3, h4⟩
  obtain ⟨v₀, hv₀⟩ := hcell
  refine wpAny_storeName_cell hk hl ha hv₀ fun h' hn' hsb => ?_
  have hsb' : ∀ b o, b ≠ a → x.h.get? b = some o → h'.get? b = some o := fun b o hb e => (hsb.2 b hb).trans (hs ▸ e)
  obtain ⟨o, h3, h4⟩ := hn'
  obtain ⟨ok', af⟩ := ok.upd (sp := .cell (some d)) hα hsb' (by rw [← hs]; exact Nat.le_of_eq hsb.1.symm)
    ⟨o, v, h3, h4, rv.grow (x' := { x with h := h' }) ⟨fun b o hb e => hsb' b o (fun q => hb (q ▸ hM)) e, fun _ _ e => e, fun _ _ e => e⟩⟩
  exact ⟨_, s.toks, rfl, ok', af, trivial⟩

theorem Ex.assign {y : Str} {e : Expr} {p : Pos} (he : Ev w h₀ A env c ck e σ d σ₁) (hst : St w h₀ A env c ck y d σ₁ σ₂)
    (hs : swapsWith e (some (.Name y p)) pos.line env = pure false) : Ex w h₀ A env c ck (.Assign [.Name y p] e pos) σ .next σ₂ := fun x ok en s hh =>
  wpAny_Assign_Name ((he x ok en).next hh fun v z tk okz af rv =>
    (hst z v okz (en.after af) rv).lastM s tk af (fun f y => FRep w y f .next) (fun _ => Flow.next) fun _ _ _ _ _ => trivial) hs

/-- an operation in place -/
noncomputable def Inp (w : World) (h₀ : Heap) (A : Around) (op : Operator) (d₁ d₂ : D) (σ : H) (d : D) (σ' : H) : Prop :=
  ∀ x v u, Ok w h₀ σ x → Rep w x v d₁ → Rep w x u d₂ → Runs w h₀ A σ' x (inplaceOp op v u) (fun r y => Rep w y r d)
theorem Ex.aug {y : Str} {e : Expr} {op : Operator} {p : Pos}
    (hl : ∀ x, Ok w h₀ σ x → InEnv env c ck x → Runs w h₀ A σ x (loadName env y) (fun v z => Rep w z v d₁)) (he : Ev w h₀ A env c ck e σ d₂ σ₁) (hi : Inp w h₀ A op d₁ d₂ σ₁ d σ₂) (hst : St w h₀ A env c ck y d σ₂ σ₃) :
    Ex w h₀ A env c ck (.AugAssign (.Name y p) op e pos) σ .next σ₃ := fun x ok en s hh =>
  wpAny_AugAssign_Name ((hl x ok en).next hh fun v z tk okz af rv => (he z okz (en.after af)).next rfl fun u z' tk' okz' af' ru =>
    (hi z' v u okz' (rv.grow (af'.grow okz)) ru).next rfl fun r z'' tk'' okz'' af'' rr =>
      (hst z'' r okz'' (((en.after af).after af').after af'') rr).lastM s tk'' ((af.trans af').trans af'') (fun f y => FRep w y f .next) (fun _ => Flow.next) fun _ _ _ _ _ => trivial)

theorem Ex.expr {e : Expr} {v : Value} (he : Ev w h₀ A env c ck e σ (.val v) σ₁) (hv : ∀ a, v ≠ .ref a) (hi : interactive env = false) (hs : swapsWith e none pos.line env = pure false) :
    Ex w h₀ A env c ck (.Expr e pos) σ .next σ₁ := fun x ok en s hh =>
  wpAny_Expr (wpAny_mono (he x ok en s hh) (fun u s' ⟨q, tk', e, o, a, r⟩ => by
    cases r
    cases v with
    | ref b => exact absurd rfl (hv b)
    | _ => exact ⟨q, tk', e, o, a, trivial⟩) fun _ _ e => e) hi hs

/-! ## arguments and calls -/
noncomputable def Evs (w : World) (h₀ : Heap) (A : Around) (env : Env) (c : Key) (ck : List (Str × Key)) (es : List Expr) (σ : H) (ds : List D) (σ' : H) : Prop :=
  ∀ pos x, Ok w h₀ σ x → InEnv env c ck x → Runs w h₀ A σ' x (spliced (backTo pos (starEach es env))) (fun vs y => Reps w y vs ds)

theorem Evs.nil : Evs w h₀ A env c ck [] σ [] σ := fun pos x ok _ s hs => args_nil ⟨x, s.toks, noToks hs, ok, .refl x, .nil⟩
theorem Evs.cons {e : Expr} {es : List Expr} {ds : List D} (he : Ev w h₀ A env c ck e σ d σ₁) (hr : Evs w h₀ A env c ck es σ₁ ds σ₂)
    (hq : starEach (e :: es) env = (false, eval e env) :: starEach es env) : Evs w h₀ A env c ck (e :: es) σ (d :: ds) σ₂ := fun pos x ok en s hs =>
  args_cons ((he x ok en).next hs fun v y tk oky af rv =>
    (hr pos y oky (en.after af)).lastM s tk af (fun vs y => Reps w y vs (d :: ds)) (fun vs => v :: vs) fun _ _ _ a h => .cons (rv.grow (a.grow oky)) h) hq

/-- what a call of a known thing gives -/
noncomputable def CallD (w : World) (h₀ : Heap) (A : Around) (f : Value) (ds : List D) (σ : H) (d : D) (σ' : H) : Prop :=
  ∀ x vs, Ok w h₀ σ x → Reps w x vs ds → Runs w h₀ A σ' x (call f vs) (fun r y => Rep w y r d)

theorem Ev.callB {func e : Expr} {es : List Expr} {id : String} {ds : List D} (hf : Ev w h₀ A env c ck func σ (.val (.builtin id)) σ₁) (ha : Evs w h₀ A env c ck (e :: es) σ₁ ds σ₂)
    (hc : CallD w h₀ A (.builtin id) ds σ₂ d σ₃) (he : ∀ env, eval (.Call func (e :: es) [] pos) env = (do callWith pos (← eval func env) [] (backTo pos (starEach (e :: es) env)) (backToKw pos (keywordEach [] env))))
    (hq : starEach (e :: es) env = (false, eval e env) :: starEach es env) (hp : (backTo pos (starEach es env)).any (·.1) = false) :
    Ev w h₀ A env c ck (.Call func (e :: es) [] pos) σ d σ₃ := fun x ok en s hs =>
  Call_ ((hf x ok en).next hs fun v y tk oky af rv => by
    cases rv
    exact callWith_builtin1 ((ha pos y oky (en.after af)).next rfl fun vs z tk' okz af' rvs =>
      (hc z vs okz rvs).last s tk' (af.trans af')) hq hp) (he env)

theorem Ev.callT {func e : Expr} {es : List Expr} {T : String} {ds : List D} (hf : Ev w h₀ A env c ck func σ (.val (.type T)) σ₁) (ha : Evs w h₀ A env c ck (e :: es) σ₁ ds σ₂)
    (hc : CallD w h₀ A (.type T) ds σ₂ d σ₃) (he : ∀ env, eval (.Call func (e :: es) [] pos) env = (do callWith pos (← eval func env) [] (backTo pos (starEach (e :: es) env)) (backToKw pos (keywordEach [] env))))
    (hq : starEach (e :: es) env = (false, eval e env) :: starEach es env) (hp : (backTo pos (starEach es env)).any (·.1) = false) :
    Ev w h₀ A env c ck (.Call func (e :: es) [] pos) σ d σ₃ := fun x ok en s hs =>
  Call_ ((hf x ok en).next hs fun v y tk oky af rv => by
    cases rv
    refine PyProof.Rows.callWith_type1 ?_ hq hp
    exact (ha pos y oky (en.after af)).next rfl fun vs z tk' okz af' rvs =>
      (hc z vs okz rvs).last s tk' (af.trans af')) (he env)

/-- a def of the text's top, called with one argument or more -/
theorem Ev.callF {func e : Expr} {es : List Expr} {a : Addr} {o : Obj} {fd : FuncData} {ds : List D} (hf : Ev w h₀ A env c ck func σ (.val (.ref a)) σ₁) (ha : Evs w h₀ A env c ck (e :: es) σ₁ ds σ₂)
    (ho : h₀.get? a = some o) (hd : o.data = .func fd) (hc : CallD w h₀ A (.ref a) ds σ₂ d σ₃)
    (he : ∀ env, eval (.Call func (e :: es) [] pos) env = (do callWith pos (← eval func env) [] (backTo pos (starEach (e :: es) env)) (backToKw pos (keywordEach [] env))))
    (hq : starEach (e :: es) env = (false, eval e env) :: starEach es env) :
    Ev w h₀ A env c ck (.Call func (e :: es) [] pos) σ d σ₃ := fun x ok en s hs =>
  Call_ ((hf x ok en).next hs fun v y tk oky af rv => by
    cases rv
    exact callWith_def hd ((ha pos y oky (en.after af)).next rfl fun vs z tk' okz af' rvs =>
      ⟨okz.base _ _ ho, (hc z vs okz rvs).last s tk' (af.trans af')⟩) hq) (he env)

/-- a method of a built-in type -/
noncomputable def Meth (w : World) (h₀ : Heap) (T id : String) (name : Str) (d₀ : D) (σ : H) : Prop :=
  PlainAttrs T ∧ Slot T name id ∧ typeOf (.builtin id) = pure (.type "method_descriptor") ∧
    ∀ (x : Cfg) (v : Value) (s : Shared), Ok w h₀ σ x → s.heap = x.h → Rep w x v d₀ → s.TypeIs v T ∧ (∀ a, v = .ref a → ∃ ob, s.heap.get? a = some ob ∧ ob.dict = none)

theorem Ev.meth {o : Expr} {name : Str} {ap : Pos} {es : List Expr} {T id : String} {d₀ : D} {ds : List D} (ho : Ev w h₀ A env c ck o σ d₀ σ₁) (hm : Meth w h₀ T id name d₀ σ₁) (ha : Evs w h₀ A env c ck es σ₁ ds σ₂)
    (hc : CallD w h₀ A (.builtin id) (d₀ :: ds) σ₂ d σ₃)
    (hbase : attributeBase o name env (eval o env) = eval o env)
    (hfew : ((backTo pos (starEach es env)).all (fun x => !x.1) && (backToKw pos (keywordEach [] env)).all (fun x => x.1.isSome)
      && decide (es.length + ([] : List Keyword).length + (if ([] : List Keyword).isEmpty then 0 else 1) < 30)) = true)
    (hline : (ap.endLine == pos.line) = true) (hq : ∀ e r, es = e :: r → starEach (e :: r) env = (false, eval e env) :: starEach r env) (hp : (backTo pos (starEach es.tail env)).any (·.1) = false) :
    Ev w h₀ A env c ck (.Call (.Attribute o name ap) es [] pos) σ d σ₃ := fun x ok en s hs =>
  wpAny_Call_method_lateS hbase hfew hline ((ho x ok en).next hs fun v y tk oky af rv => by
    obtain ⟨pa, sl, ty, hv⟩ := hm
    obtain ⟨hT, hd⟩ := hv y v { s with heap := y.h, toks := tk } oky rfl rv
    refine ⟨T, id, pa, sl, ty, hT, hd, ?_⟩
    have hargs := ha pos y oky (en.after af)
    cases es with
    | nil =>
      refine callWith_method0 ?_
      intro Γ p hΓ
      have h0 := hargs { s with heap := y.h, toks := tk } rfl
      have e : spliced (backTo pos (starEach [] env)) = (pure [] : Sem (List Value)) := rfl
      rw [e] at h0
      obtain ⟨z, tk', e, okz, af', rvs⟩ := wpAny_pure_inv (p := p) hΓ h0
      rw [e]
      exact (hc z [v] okz (.cons (rv.grow (af'.grow oky)) rvs)).last s tk' (af.trans af') Γ p hΓ
    | cons e r =>
      refine callWith_method1 ?_ (hq e r rfl) hp
      exact hargs.next rfl fun vs z tk' okz af' rvs =>
        (hc z (v :: vs) okz (.cons (rv.grow (af'.grow oky)) rvs)).last s tk' (af.trans af'))
end
end Mine

/-! # F3 -/
namespace Mine
section
variable {w : World} {h₀ : Heap} {A : Around} {env : Env} {c : Key} {ck : List (Str × Key)} {σ σ' σ₁ σ₂ σ₃ : H} {d d₁ d₂ d₃ : D} {pos : Pos}

/-! ## ints -/
theorem Post.of {β : Type} {x : Cfg} {s : Shared} {tk : Nat} {R : β → Cfg → Prop} {b : β} (hs : s.heap = x.h) (ok : Ok w h₀ σ x) (h : R b x) : Post w h₀ σ x s R b { s with toks := tk } := ⟨x, tk, toksOnly hs, ok, .refl x, h⟩
theorem Post.of' {β : Type} {x : Cfg} {s : Shared} {R : β → Cfg → Prop} {b : β} (hs : s.heap = x.h) (ok : Ok w h₀ σ x) (h : R b x) : Post w h₀ σ x s R b s := ⟨x, s.toks, noToks hs, ok, .refl x, h⟩

theorem Bin.add {a b : Int} : Bin w h₀ A .Add (.int a) (.int b) σ (.int (a + b)) σ := fun x v u ok hv hu s hs => by
  cases hv; cases hu; exact wpAny_add_int (Post.of hs ok .int)
theorem Bin.sub {a b : Int} : Bin w h₀ A .Sub (.int a) (.int b) σ (.int (a - b)) σ := fun x v u ok hv hu s hs => by
  cases hv; cases hu; exact PyProof.Rows.sub_int (Post.of hs ok .int)
theorem Bin.mod {a b : Int} (hb : b ≠ 0) : Bin w h₀ A .Mod (.int a) (.int b) σ (.int (a.fmod b)) σ := fun x v u ok hv hu s hs => by
  cases hv; cases hu; exact PyProof.Rows.mod_int hb (Post.of hs ok .int)
theorem Bin.fdiv {a b : Int} (hb : b ≠ 0) (hp : Builtin.divisionGoesByPylong a b = false) : Bin w h₀ A .FloorDiv (.int a) (.int b) σ (.int (a.fdiv b)) σ := fun x v u ok hv hu s hs => by
  cases hv; cases hu; exact PyProof.Rows.floordiv_int hb (Post.of hs ok .int) (.inl hp)
theorem Inp.add {a b : Int} : Inp w h₀ A .Add (.int a) (.int b) σ (.int (a + b)) σ := fun x v u ok hv hu s hs => by
  cases hv; cases hu; exact wpAny_iadd_int (Post.of hs ok .int)
theorem Cmp.lt {a b : Int} : Cmp w h₀ A .Lt (.int a) (.int b) σ (decide (a < b)) σ := fun x v u ok hv hu s hs => by
  cases hv; cases hu; exact PyProof.Rows.lt_int (Post.of' hs ok rfl)
theorem Cmp.le {a b : Int} : Cmp w h₀ A .LtE (.int a) (.int b) σ (decide (a ≤ b)) σ := fun x v u ok hv hu s hs => by
  cases hv; cases hu; exact PyProof.Rows.le_int (Post.of' hs ok rfl)
theorem Cmp.gt {a b : Int} : Cmp w h₀ A .Gt (.int a) (.int b) σ (decide (a > b)) σ := fun x v u ok hv hu s hs => by
  cases hv; cases hu; exact PyProof.Rows.gt_int (Post.of' hs ok rfl)
theorem Cmp.eq {a b : Int} : Cmp w h₀ A .Eq (.int a) (.int b) σ (a == b) σ := fun x v u ok hv hu s hs => by
  cases hv; cases hu; exact PyProof.Rows.eq_int (Post.of' hs ok rfl)
theorem Cmp.ne {a b : Int} : Cmp w h₀ A .NotEq (.int a) (.int b) σ (a != b) σ := fun x v u ok hv hu s hs => by
  cases hv; cases hu; exact PyProof.Rows.ne_int (Post.of' hs ok rfl)
theorem Cmp.neS {a b : Str} : Cmp w h₀ A .NotEq (.str a) (.str b) σ (a != b) σ := fun x v u ok hv hu s hs => by
  cases hv; cases hu; exact PyProof.Rows.ne_str (Post.of' hs ok rfl)

noncomputable def Una (w : World) (h₀ : Heap) (A : Around) (op : UnaryOp) (d₁ : D) (σ : H) (d : D) (σ' : H) : Prop :=
  ∀ x v, Ok w h₀ σ x → Rep w x v d₁ → Runs w h₀ A σ' x (unaryOp op v) (fun r y => Rep w y r d)
theorem Una.neg {a : Int} : Una w h₀ A .USub (.int a) σ (.int (-a)) σ := fun x v ok hv s hs => by
  cases hv; exact PyProof.Rows.neg_int (Post.of hs ok .int)
theorem Ev.una {e : Expr} {op : UnaryOp} (h : Ev w h₀ A env c ck e σ d₁ σ₁) (hu : Una w h₀ A op d₁ σ₁ d σ₂) : Ev w h₀ A env c ck (.UnaryOp op e pos) σ d σ₂ := fun x ok en s hs =>
  wpAny_UnaryOp ((h x ok en).next hs fun v y tk oky af rv => (hu y v oky rv).last s tk af)

/-! ## and, or, chains -/
theorem Tst.val {e : Expr} {b : Bool} (hp : ∀ env t, isTrue e env t = (do let v ← t; standAt e.pos; holding [v] (truthy v))) (h : Ev w h₀ A env c ck e σ (.val (.bool b)) σ₁) : Tst w h₀ A env c ck e σ b σ₁ := fun x ok en s hs =>
  wpAny_isTrue_value ((h x ok en).next hs fun v y tk oky af rv => by
    cases rv
    exact wpAny_truthy_bool ⟨y, tk, rfl, oky, af, rfl⟩) (hp _ _)

theorem Ev.and2 {e₁ e₂ : Expr} {b : Bool} (h : Ev w h₀ A env c ck e₁ σ (.val (.bool true)) σ₁) (h2 : Ev w h₀ A env c ck e₂ σ₁ d σ₂) : Ev w h₀ A env c ck (.BoolOp .And [e₁, e₂] pos) σ d σ₂ := fun x ok en s hs =>
  wpAny_And2 ((h x ok en).next hs fun v y tk oky af rv => by
    cases rv
    exact wpAny_truthy_bool ((h2 y oky (en.after af)).last s tk af))
/-! ## lists -/
/-- `d` is a list that holds `xs` -/
noncomputable def Lst (σ : H) (d : D) (xs : List D) : Prop := d = .list xs ∨ ∃ k, d = .res k ∧ σ k = some (.list xs)

theorem Lst.at {x : Cfg} {v : Value} {xs : List D} (ok : Ok w h₀ σ x) (hl : Lst σ d xs) (hv : Rep w x v d) : ∃ a vs n, v = .ref a ∧ x.h.get? a = some (lobj vs n) ∧ Reps w x vs xs := by
  rcases hl with rfl | ⟨k, rfl, hk⟩
  · cases hv with
    | list hm hg hr => exact ⟨_, _, _, rfl, hg, hr⟩
  · cases hv with
    | res q ha =>
      obtain ⟨b, h1, _, _, vs, n, h2, h3⟩ := ok.live k _ hk
      rw [ha] at h1; cases h1
      exact ⟨_, vs, n, rfl, h2, h3⟩

/-- a new list: for good, or under a name -/
inductive Made (σ : H) (xs : List D) : D → H → Prop
  | frozen : Made σ xs (.list xs) σ
  | key {k : Key} : k.isFr = false → σ k = none → Made σ xs (.res k) (σ.set k (.list xs))

theorem Made.push {x : Cfg} {xs : List D} {vs : List Value} {n : Nat} (m : Made σ xs d σ') (ok : Ok w h₀ σ x) (hr : Reps w x vs xs) :
    ∃ y : Cfg, y.h = x.h.push (lobj vs n) ∧ Ok w h₀ σ' y ∧ After x y ∧ Rep w y (.ref x.h.objs.size) d := by
  have keep : ∀ b o, x.h.get? b = some o → (x.h.push (lobj vs n)).get? b = some o := fun b o e => Heap.get?_push_of_some _ e
  have hsz : x.h.objs.size ≤ (x.h.push (lobj vs n)).objs.size := by rw [Heap.size_push]; exact Nat.le_succ _
  have hnew : (x.h.push (lobj vs n)).get? x.h.objs.size = some (lobj vs n) := Heap.get?_push_size _ rfl
  cases m with
  | frozen =>
    obtain ⟨ok', af⟩ := ok.more keep hsz
    exact ⟨_, rfl, ok', af, .list (fun hm => Nat.lt_irrefl _ (ok.lim _ hm)) hnew (hr.grow (af.grow ok))⟩
  | key hf hk =>
    rename_i k
    have hα : x.α k = none := by
      cases e : x.α k with
      | none => rfl
      | some b => have := ok.dom k b e; rw [hk] at this; cases this
    have g : Grow x (x.named k x.h.objs.size (x.h.push (lobj vs n))) := ⟨fun b o _ e => keep b o e, fun b hb hm h => h.elim hm (fun q => Nat.lt_irrefl _ (q ▸ hb)), fun k' b e => by
      show (if k' = k then some _ else x.α k') = some b
      rw [if_neg (by rintro rfl; rw [hα] at e; cases e)]; exact e⟩
    obtain ⟨ok', af⟩ := ok.alloc (sp := .list xs) hk keep hsz (Nat.le_refl _) (by rw [Heap.size_push]; exact Nat.lt_succ_self _) ⟨vs, n, hnew, hr.grow g⟩
    exact ⟨_, rfl, ok', af, .res hf (if_pos rfl)⟩

theorem Runs.newList {x : Cfg} {xs : List D} {vs : List Value} (ok : Ok w h₀ σ x) (hr : Reps w x vs xs) (m : Made σ xs d σ') (hsz : xs.length ≤ sizeLine) :
    Runs w h₀ A σ' x (newList vs) (fun v y => Rep w y v d) := fun s hs => by
  obtain ⟨y, hy, ok', af, r⟩ := m.push (n := 0) ok hr
  refine wpAny_newObj_type ?_ (by show vs.toArray.size ≤ sizeLine; rw [List.size_toArray, hr.length]; exact hsz)
  refine ⟨y, s.toks, ?_, ok', af, hs ▸ r⟩
  rw [hy, hs]

theorem Ev.listD {es : List Expr} {ds : List D} (h : Evs w h₀ A env c ck es σ ds σ₁) (m : Made σ₁ ds d σ₂) (hsz : ds.length ≤ sizeLine) :
    Ev w h₀ A env c ck (.List es pos) σ d σ₂ := fun x ok en s hs =>
  List_ ((h pos x ok en).next hs fun vs y tk oky af rv => (Runs.newList oky rv m hsz).last s tk af)

/-! tuples -/
theorem Tup.push {x : Cfg} {xs : List D} {vs : List Value} {n : Nat} (ok : Ok w h₀ σ x) (hr : Reps w x vs xs) :
    Ok w h₀ σ { x with h := x.h.push (tobj vs n) } ∧ After x { x with h := x.h.push (tobj vs n) } ∧ Rep w { x with h := x.h.push (tobj vs n) } (.ref x.h.objs.size) (.tup xs) := by
  obtain ⟨ok', af⟩ := ok.more (h' := x.h.push (tobj vs n)) (fun b o e => Heap.get?_push_of_some _ e) (by rw [Heap.size_push]; exact Nat.le_succ _)
  exact ⟨ok', af, .tup (fun hm => Nat.lt_irrefl _ (ok.lim _ hm)) (Heap.get?_push_size _ rfl) (hr.grow (af.grow ok))⟩
theorem Runs.newTuple {x : Cfg} {xs : List D} {vs : List Value} (ok : Ok w h₀ σ x) (hr : Reps w x vs xs) (hsz : xs.length ≤ sizeLine) :
    Runs w h₀ A σ x (newTuple vs) (fun v y => Rep w y v (.tup xs)) := fun s hs => by
  obtain ⟨ok', af, r⟩ := Tup.push (n := 0) ok hr
  refine wpAny_newObj_type ?_ (by show vs.toArray.size ≤ sizeLine; rw [List.size_toArray, hr.length]; exact hsz)
  exact ⟨_, s.toks, by rw [hs], ok', af, hs ▸ r⟩
theorem Ev.tupD {es : List Expr} {k : Nat} {ds : List D} (h : Evs w h₀ A env c ck es σ ds σ₁) (hsz : ds.length ≤ sizeLine) :
    Ev w h₀ A env c ck (.Tuple es k pos) σ (.tup ds) σ₁ := fun x ok en s hs =>
  Tuple_ ((h pos x ok en).next hs fun vs y tk oky af rv => (Runs.newTuple oky rv hsz).last s tk af)

/-! ## items -/
noncomputable def SubD (w : World) (h₀ : Heap) (A : Around) (value slice : Expr) (o i : D) (σ : H) (d : D) (σ' : H) : Prop :=
  ∀ x v u, Ok w h₀ σ x → Rep w x v o → Rep w x u i → Runs w h₀ A σ' x (subscriptTail value slice v u) (fun r y => Rep w y r d)
theorem Ev.sub {value slice : Expr} {o i : D} (hv : Ev w h₀ A env c ck value σ o σ₁) (hi : Ev w h₀ A env c ck slice σ₁ i σ₂) (hd : SubD w h₀ A value slice o i σ₂ d σ₃) :
    Ev w h₀ A env c ck (.Subscript value slice pos) σ d σ₃ := fun x ok en s hs =>
  Subscript_ ((hv x ok en).next hs fun v y tk oky af rv => (hi y oky (en.after af)).next rfl fun u z tk' okz af' ru =>
    (hd z v u okz (rv.grow (af'.grow oky)) ru).last s tk' (af.trans af'))

/-- a slice's form that is no slice -/
noncomputable def PlainSub (slice : Expr) : Prop := ∀ o i : Value, subscripted slice false o i = operate [o, i] (getItem o i)

theorem SubD.list {value slice : Expr} {o : D} {xs : List D} {i : Int} {j : Nat} (hl : Lst σ o xs) (hp : PlainSub slice) (hb : xs.length ≤ sizeLine) (hi : (0 ≤ i ∧ i = j) ∨ (i < 0 ∧ i + xs.length = j)) (hx : xs[j]? = some d) :
    SubD w h₀ A value slice o (.int i) σ d σ := fun x v u ok hv hu s hs => by
  obtain ⟨a, vs, n, rfl, hg, hr⟩ := hl.at ok hv
  cases hu
  obtain ⟨y, hy, hry⟩ := hr.get hx
  have hil : s.heap.IsList a vs.toArray := ⟨_, hs ▸ hg, rfl, n, rfl⟩
  have hlen := hr.length
  have hj : j < xs.length := (List.getElem?_eq_some_iff.mp hx).1
  rw [sizeLine_eq] at hb
  refine tail_any hil.typeIs slot_list_getitem.lookup ?_ (hp _ _)
  rcases hi with ⟨h0, h1⟩ | ⟨h0, h1⟩
  · exact wpAny_getItem_list hil h0 (by omega) (by rw [h1]; simpa using hy) (Post.of' hs ok hry)
  · refine wpAny_getItem_list_neg hil h0 (by simp only [List.size_toArray]; omega) (by omega) ?_ (Post.of' hs ok hry)
    rw [show (i + ↑vs.toArray.size).toNat = j from by simp only [List.size_toArray]; omega]; simpa using hy

theorem SubD.tup {value slice : Expr} {xs : List D} {i : Int} {j : Nat} (hp : PlainSub slice) (hb : xs.length ≤ sizeLine) (h0 : 0 ≤ i) (h1 : i = j) (hx : xs[j]? = some d) :
    SubD w h₀ A value slice (.tup xs) (.int i) σ d σ := fun x v u ok hv hu s hs => by
  cases hv with
  | tup hm hg hr =>
    cases hu
    obtain ⟨y, hy, hry⟩ := hr.get hx
    have hlen := hr.length
    have hj : j < xs.length := (List.getElem?_eq_some_iff.mp hx).1
    rw [sizeLine_eq] at hb
    rename_i a vs n _
    have hit : IsTup s.heap a vs.toArray := by rw [hs]; exact ⟨_, hg, rfl, n, rfl⟩
    refine tail_any hit.typeIs slot_tuple_getitem.lookup ?_ (hp _ _)
    refine PyProof.Rows.getItem_tuple (j := j) hit (by omega) (by omega) ?_ (by simpa using hy) (Post.of' hs ok hry)
    rw [seqIndex_of h0 (by simp only [List.size_toArray]; omega)]
    congr 1; omega
end
end Mine

/-! # F4 -/
namespace Mine
section
variable {w : World} {h₀ : Heap} {A : Around} {env : Env} {c : Key} {ck : List (Str × Key)} {σ σ' σ₁ σ₂ σ₃ : H} {d d₁ d₂ d₃ : D} {pos : Pos}

/-! ## slices of lists -/
noncomputable def Prt (w : World) (h₀ : Heap) (A : Around) (env : Env) (c : Key) (ck : List (Str × Key)) (e : Option Expr) (σ : H) (i : Option Int) (σ' : H) : Prop :=
  ∀ x, Ok w h₀ σ x → InEnv env c ck x → Runs w h₀ A σ' x (evalPart e env) (fun v _ => IsPart v i)
theorem Prt.no : Prt w h₀ A env c ck none σ none σ := fun x ok _ s hs => wpAny_pure (Post.of' hs ok .none)
theorem Prt.yes {e : Expr} {i : Int} (h : Ev w h₀ A env c ck e σ (.int i) σ₁) : Prt w h₀ A env c ck (some e) σ (some i) σ₁ := fun x ok en s hs =>
  wpAny_mono (h x ok en s hs) (fun _ _ ⟨y, tk, e, o, a, r⟩ => ⟨y, tk, e, o, a, by cases r; exact .int _ _⟩) fun _ _ e => e

/-- a slice of pure data -/
noncomputable def dpick (xs : List D) (lo hi st : Option Int) : List D :=
  (sliceRange (sliceBounds lo hi st xs.length).1 (sliceBounds lo hi st xs.length).2.1 (sliceBounds lo hi st xs.length).2.2).filterMap (xs[·]?)

theorem Reps.pick {x : Cfg} {vs : List Value} {xs : List D} (hr : Reps w x vs xs) : ∀ js : List Nat, Reps w x (js.filterMap (vs[·]?)) (js.filterMap (xs[·]?))
  | [] => .nil
  | j :: js => by
    have ih := Reps.pick hr js
    cases hx : xs[j]? with
    | none =>
      have : vs[j]? = none := by
        rw [List.getElem?_eq_none_iff] at hx ⊢; rw [hr.length]; exact hx
      rw [List.filterMap_cons, List.filterMap_cons, hx, this]; exact ih
    | some d =>
      obtain ⟨v, hv, hd⟩ := hr.get hx
      rw [List.filterMap_cons, List.filterMap_cons, hx, hv]; exact .cons hd ih

theorem slicePick_reps {x : Cfg} {vs : List Value} {xs : List D} (hr : Reps w x vs xs) (lo hi st : Option Int) : ∃ us, slicePick vs.toArray lo hi st = us.toArray ∧ Reps w x us (dpick xs lo hi st) := by
  refine ⟨_, rfl, ?_⟩
  unfold dpick
  have hl := hr.length
  simp only [List.size_toArray, hl, List.getElem?_toArray]
  exact hr.pick _

theorem Ev.slice {value : Expr} {lower upper : Option Expr} {p : Pos} {o : D} {xs : List D} {lo hi : Option Int} (hv : Ev w h₀ A env c ck value σ o σ₁) (hlo : Prt w h₀ A env c ck lower σ₁ lo σ₂) (hhi : Prt w h₀ A env c ck upper σ₂ hi σ₃)
    (hl : Lst σ₃ o xs) (hb : xs.length ≤ sizeLine) (m : Made σ₃ (dpick xs lo hi none) d σ') (ht : ∀ o r, letTemporaryGo value o r = pure ()) :
    Ev w h₀ A env c ck (.Subscript value (.Slice lower upper none p) pos) σ d σ' := fun x ok en s hs =>
  wpAny_Subscript_list_slice ((hv x ok en).next hs fun v y tk oky af rv => (hlo y oky (en.after af)).next rfl fun vl z tk' okz af' pl => (hhi z okz ((en.after af).after af')).next rfl fun vu q tk'' okq af'' pu => by
    have rv' := rv.grow (af'.grow oky) |>.grow (af''.grow okz)
    obtain ⟨a, vs, n, rfl, hg, hr⟩ := hl.at okq rv'
    obtain ⟨us, hus, hrs⟩ := slicePick_reps hr lo hi none
    refine ⟨a, vs.toArray, lo, hi, rfl, ⟨_, hg, rfl, n, rfl⟩, by rw [List.size_toArray, hr.length]; exact hb, pl, pu, ?_⟩
    have keep : ∀ b o, q.h.get? b = some o → (q.h.push { cls := .type "slice", data := .fields #[vl, vu, .none] }).get? b = some o := fun b o e => Heap.get?_push_of_some _ e
    obtain ⟨ok1, af1⟩ := okq.more keep (by rw [Heap.size_push]; exact Nat.le_succ _)
    obtain ⟨y', hy', ok2, af2, r2⟩ := m.push (n := 0) ok1 (hrs.grow (af1.grow okq))
    refine ⟨y', tk'', ?_, ok2, (((af.trans af').trans af'').trans af1).trans af2, ?_⟩
    · rw [hy', hus]
    · rw [Heap.size_push] at r2; exact r2) ht

/-! ## append -/
theorem set_le_self {k : Key} {sp : Sp} (h : σ k = some sp) : H.Le (σ.set k sp) σ := fun k' => by
  unfold H.set
  by_cases e : k' = k
  · subst e; rw [if_pos rfl, h]; cases sp <;> simp [Sp.Le]
  · rw [if_neg e]; cases σ k' with
    | none => trivial
    | some a => cases a <;> simp [Sp.Le]

theorem CallD.append {k : Key} {xs : List D} (hk : σ k = some (.list xs)) (hsz : xs.length ≤ sizeLine) :
    CallD w h₀ A (.builtin "list.append") [.res k, d] σ (.val .none) (σ.set k (.list (xs ++ [d]))) := fun x vs ok hr s hs => by
  cases hr with
  | cons h1 h2 =>
    cases h2 with
    | cons h2 h3 =>
      cases h3
      cases h1 with
      | res q ha =>
        rename_i v a
        obtain ⟨b, h1, hM, _, us, n, hg, hus⟩ := ok.live k _ hk
        rw [ha] at h1; cases h1
        refine wpAny_list_append_plain (items := us.toArray) (by rw [hs]; exact ⟨n, hg⟩) (fun h' hp' hsb => ?_) (by rw [List.size_toArray, hus.length]; exact hsz)
        obtain ⟨n', hp'⟩ := hp'
        rw [List.push_toArray] at hp'
        have hsb' : ∀ b o, b ≠ a → x.h.get? b = some o → h'.get? b = some o := fun b o hb e => (hsb.2 b hb).trans (hs ▸ e)
        have g : Grow x { x with h := h' } := ⟨fun b o hb e => hsb' b o (fun q => hb (q ▸ hM)) e, fun _ _ e => e, fun _ _ e => e⟩
        obtain ⟨ok', af⟩ := ok.upd (sp := .list (xs ++ [d])) ha hsb' (by rw [← hs]; exact Nat.le_of_eq hsb.1.symm)
          ⟨us ++ [v], n', hp', (hus.grow g).append (.cons (h2.grow g) .nil)⟩
        exact ⟨_, s.toks, rfl, ok', af, .val⟩

theorem type_list_append' : typeOf (.builtin "list.append") = pure (.type "method_descriptor") := type_list_append
theorem Meth.list {name : Str} {id : String} {xs : List D} {o : D} (hl : Lst σ o xs) (sl : Slot "list" name id) (ty : typeOf (.builtin id) = pure (.type "method_descriptor")) : Meth w h₀ "list" id name o σ :=
  ⟨F.plainAttrs_list, sl, ty, fun x v s ok hs hv => by
    obtain ⟨a, vs, n, rfl, hg, _⟩ := hl.at ok hv
    exact ⟨⟨_, hs ▸ hg, rfl⟩, fun b e => by cases e; exact ⟨_, hs ▸ hg, rfl⟩⟩⟩

/-! ## two lists, two tuples as one -/
theorem Bin.addList {xs ys : List D} (h1 : Lst σ d₁ xs) (h2 : Lst σ d₂ ys) (m : Made σ (xs ++ ys) d σ') (hsz : xs.length + ys.length ≤ sizeLine) : Bin w h₀ A .Add d₁ d₂ σ d σ' := fun x v u ok hv hu s hs => by
  obtain ⟨a, vs, n, rfl, hg, hr⟩ := h1.at ok hv
  obtain ⟨b, us, n2, rfl, hg2, hr2⟩ := h2.at ok hu
  obtain ⟨y, hy, ok', af, r⟩ := m.push (n := 0) ok (hr.append hr2)
  refine P.add_list (hs ▸ hg : IsL s.heap a _ _) (hs ▸ hg2 : IsL s.heap b _ _) ⟨y, s.toks, ?_, ok', af, hs ▸ r⟩ (by simp only [List.size_toArray, hr.length, hr2.length]; exact hsz)
  rw [hy, hs]; simp

theorem Rep.asTup {x : Cfg} {v : Value} {xs : List D} (h : Rep w x v (.tup xs)) : ∃ a vs n, v = .ref a ∧ ¬ x.M a ∧ x.h.get? a = some (tobj vs n) ∧ Reps w x vs xs := by
  cases h with
  | tup h1 h2 h3 => exact ⟨_, _, _, rfl, h1, h2, h3⟩
theorem Bin.addTup {xs ys : List D} (h1 : xs ≠ []) (h2 : ys ≠ []) (hsz : xs.length + ys.length ≤ sizeLine) : Bin w h₀ A .Add (.tup xs) (.tup ys) σ (.tup (xs ++ ys)) σ := fun x v u ok hv hu s hs => by
  obtain ⟨a, vs, n, rfl, m1, hg, hr⟩ := hv.asTup
  obtain ⟨b, us, n2, rfl, m2, hg2, hr2⟩ := hu.asTup
  obtain ⟨ok', af, r⟩ := Tup.push (n := 0) ok (hr.append hr2)
  refine P.add_tuple (hs ▸ hg : IsT s.heap a _ _) (hs ▸ hg2 : IsT s.heap b _ _) ?_ ?_ ⟨_, s.toks, ?_, ok', af, hs ▸ r⟩ (by simp only [List.size_toArray, hr.length, hr2.length]; exact hsz)
  · have := hr.length; cases vs with
    | nil => cases xs <;> simp_all
    | cons _ _ => simp
  · have := hr2.length; cases us with
    | nil => cases ys <;> simp_all
    | cons _ _ => simp
  · rw [hs]; simp

/-! ## len -/
theorem CallD.lenList {xs : List D} (hl : Lst σ d xs) (hb : xs.length ≤ sizeLine) : CallD w h₀ A (.builtin "len") [d] σ (.int xs.length) σ := fun x vs ok hr s hs => by
  cases hr with
  | cons h1 h2 =>
    cases h2
    obtain ⟨a, vs, n, rfl, hg, hr⟩ := hl.at ok h1
    rw [sizeLine_eq] at hb
    have hlen := hr.length
    refine call_len_list (items := vs.toArray) ⟨_, hs ▸ hg, rfl, n, rfl⟩ (by simp only [List.size_toArray]; omega) ?_
    rw [List.size_toArray, hlen]; exact Post.of hs ok .int
end
end Mine

/-! # F5 -/
namespace Mine

/-! ## the heap never shrinks -/
theorem runs_size {M : Model} {Γ : Ctx} {p : Pos} {t : Sem Fin} {fs : List Frame} {s s' : Shared} {e : End} (h : PySem.Runs M Γ p t fs s e s') : s.heap.objs.size ≤ s'.heap.objs.size := by
  induction h <;> (try simp only [Shared.setGen, Heap.size_push, Heap.size_after_update] at *) <;> omega
theorem wakes_size {M : Model} {Γ : Ctx} {p : Pos} {g : Nat} {r : Resume} {s s' : Shared} {res : GenResult} (h : Wakes M Γ p g r s res s') : s.heap.objs.size ≤ s'.heap.objs.size := by
  unfold Wakes at h
  split at h
  · exact h.elim
  · split at h
    · obtain ⟨_, s₁, hr, _, _, rfl⟩ := h
      have := runs_size hr
      simpa [Shared.setGen] using this
    · rw [h.2]; exact Nat.le_refl _
    · rw [h.2]; exact Nat.le_refl _
  · obtain ⟨_, s₁, hr, _, _, rfl⟩ := h
    have := runs_size hr
    simpa [Shared.setGen] using this
  · rw [h.2]; exact Nat.le_refl _
  · rw [h.2]; exact Nat.le_refl _

theorem wp_size {α : Type} (M : Model) (Γ : Ctx) (n : Nat) (t : Sem α) : ∀ (Q : α → Pos → Shared → Prop) (E : Value → Pos → Shared → Prop) (p : Pos) (s : Shared), n ≤ s.heap.objs.size → Sem.wp M Γ t Q E p s →
    Sem.wp M Γ t (fun a p' s' => n ≤ s'.heap.objs.size ∧ Q a p' s') (fun e p' s' => n ≤ s'.heap.objs.size ∧ E e p' s') p s := by
  induction t with
  | pure a => exact fun Q E p s hn h => ⟨hn, h⟩
  | raise e => exact fun Q E p s hn h => ⟨hn, h⟩
  | unsupported _ | finish _ | register _ _ | yield _ _ _ _ | fork _ _ | await _ _ _ _ _ => exact fun Q E p s _ h => h
  | rule _ k ih => exact fun Q E p s hn h => ih () Q E p s hn h
  | «at» p' k ih => exact fun Q E p s hn h => ih () Q E p' s hn h
  | load a _ k ih => exact fun Q E p s hn ⟨o, ho, h⟩ => ⟨o, ho, ih o Q E p s hn h⟩
  | update a _ f k ih => exact fun Q E p s hn h => ⟨h.1, ih () Q E p _ (by rw [Heap.size_after_update]; exact hn) h.2⟩
  | loadIfAlive a k ih => exact fun Q E p s hn h => ih _ Q E p s hn h
  | point _ k ih => exact fun Q E p s hn h => ih () Q E p s hn h
  | alloc o k ih => exact fun Q E p s hn h => ih _ Q E p _ (by rw [Heap.size_push]; exact Nat.le_succ_of_le hn) h
  | fresh k ih => exact fun Q E p s hn h => ih _ Q E p _ hn h
  | ask k ih => exact fun Q E p s hn h => ih _ Q E p s hn h
  | choose src m k ih => exact fun Q E p s hn h => ⟨h.1, ih _ Q E p _ hn h.2⟩
  | os q _ k ih => exact fun Q E p s hn h => ih _ Q E p _ hn h
  | call c hd _ _ k ih => exact fun Q E p s hn ⟨r, s', hr, h⟩ => ⟨r, s', hr, ih r Q E p s' (Nat.le_trans hn (runs_size hr)) h⟩
  | handled own k ih => exact fun Q E p s hn h => ih _ Q E p s hn h
  | genState g k ih => exact fun Q E p s hn ⟨st, hs, h⟩ => ⟨st, hs, ih _ Q E p s hn h⟩
  | newGen c k ih => exact fun Q E p s hn h => ih _ Q E p _ hn h
  | resume g r _ k ih => exact fun Q E p s hn ⟨res, s', hw, h⟩ => ⟨res, s', hw, ih res Q E p s' (Nat.le_trans hn (wakes_size hw)) h⟩
  | stack k ih => exact fun Q E p s hn h => ih _ Q E p s hn h
  | thread k ih => exact fun Q E p s hn h => ih _ Q E p s hn h

theorem wpAny_size {α : Type} {M : Model} {A : Around} {s : Shared} {t : Sem α} {Q : α → Shared → Prop} {E : Value → Shared → Prop} (h : wpAny M A t Q E s) :
    wpAny M A t (fun a s' => s.heap.objs.size ≤ s'.heap.objs.size ∧ Q a s') E s :=
  wpAny_mono (fun Γ p hΓ => wp_size M Γ _ t _ _ p s (Nat.le_refl _) (h Γ p hΓ) : wpAny M A t (fun a s' => s.heap.objs.size ≤ s'.heap.objs.size ∧ Q a s') (fun e s' => s.heap.objs.size ≤ s'.heap.objs.size ∧ E e s') s) (fun _ _ h => h) fun _ _ h => h.2

section
variable {w : World} {h₀ : Heap} {A : Around} {env : Env} {c : Key} {ck : List (Str × Key)} {σ σ' σ₁ σ₂ σ₃ : H} {d d₁ d₂ d₃ : D} {pos : Pos}

/-- a change at a marked place that is no one's own -/
theorem Ok.aside {x : Cfg} {I : Addr} {h' : Heap} (ok : Ok w h₀ σ x) (hI : x.M I) (hn : ∀ k, x.α k ≠ some I)
    (hh : ∀ b o, b ≠ I → x.h.get? b = some o → h'.get? b = some o) (hsz : x.h.objs.size ≤ h'.objs.size) : Ok w h₀ σ { x with h := h' } ∧ Grow x { x with h := h' } := by
  have g : Grow x { x with h := h' } := ⟨fun b o hb e => hh b o (fun q => hb (q ▸ hI)) e, fun _ _ e => e, fun _ _ e => e⟩
  refine ⟨⟨fun b o e => hh b o (fun q => by rw [q, ok.off I hI] at e; cases e) (ok.base b o e), ok.off, fun k sp h => ?_, ok.dom, ok.inj, fun b hb => Nat.lt_of_lt_of_le (ok.lim b hb) hsz⟩, g⟩
  obtain ⟨b, h1, h2, h3, h4⟩ := ok.live k sp h
  exact ⟨b, h1, h2, Nat.lt_of_lt_of_le h3 hsz, h4.grow g fun o ho => hh b o (fun q => hn k (q ▸ h1)) ho⟩

/-- marking a new place -/
noncomputable def Cfg.mark (x : Cfg) (I : Addr) (h' : Heap) : Cfg := { M := fun b => x.M b ∨ b = I, α := x.α, h := h' }
theorem Ok.mark {x : Cfg} {I : Addr} {h' : Heap} (ok : Ok w h₀ σ x) (hge : x.h.objs.size ≤ I) (hlt : I < h'.objs.size)
    (hh : ∀ b o, x.h.get? b = some o → h'.get? b = some o) (hsz : x.h.objs.size ≤ h'.objs.size) : Ok w h₀ σ (x.mark I h') ∧ After x (x.mark I h') ∧ ∀ k, (x.mark I h').α k ≠ some I := by
  have g : Grow x (x.mark I h') := ⟨fun b o _ e => hh b o e, fun b hb hm h => h.elim hm (fun q => Nat.lt_irrefl _ (Nat.lt_of_lt_of_le hb (q ▸ hge))), fun _ _ e => e⟩
  refine ⟨⟨fun b o e => hh b o (ok.base b o e), ?_, fun k sp h => ?_, ok.dom, ok.inj, ?_⟩, ⟨hsz, fun b o _ e => hh b o e, ?_, fun _ _ e => e, fun _ _ e => .inl e⟩, ?_⟩
  · rintro b (hb | rfl)
    · exact ok.off b hb
    · cases e : h₀.get? b with
      | none => rfl
      | some o => exact absurd (Heap.lt_size (ok.base b o e)) (Nat.not_lt.mpr hge)
  · obtain ⟨b, h1, h2, h3, h4⟩ := ok.live k sp h
    exact ⟨b, h1, .inl h2, Nat.lt_of_lt_of_le h3 hsz, h4.grow g fun o ho => hh b o ho⟩
  · rintro b (hb | rfl)
    · exact Nat.lt_of_lt_of_le (ok.lim b hb) hsz
    · exact hlt
  · exact fun b hb _ => ⟨fun h => h.elim id (fun q => absurd hb (Nat.not_lt.mpr (q ▸ hge))), .inl⟩
  · intro k e
    obtain ⟨sp, hs⟩ := Option.isSome_iff_exists.mp (ok.dom k I e)
    obtain ⟨b, h1, h2, h3, _⟩ := ok.live k sp hs
    have e' : x.α k = some I := e
    rw [e'] at h1; cases h1
    exact absurd h3 (Nat.not_lt.mpr hge)

/-- how a new thing's own changes look from before it was there -/
theorem After.aside {x y : Cfg} {I : Addr} {h' : Heap} (a : After x y) (hge : x.h.objs.size ≤ I) (hh : ∀ b o, b ≠ I → y.h.get? b = some o → h'.get? b = some o) (hsz : y.h.objs.size ≤ h'.objs.size) :
    After x { y with h := h' } :=
  ⟨Nat.le_trans a.size hsz, fun b o hb e => hh b o (fun q => Nat.lt_irrefl _ (Nat.lt_of_lt_of_le (Heap.lt_size e) (q ▸ hge))) (a.keep b o hb e), a.marks, a.names, a.fresh⟩

/-! ## iterators -/
structure Proto (w : World) (h₀ : Heap) (A : Around) (I : Addr) (ds : List D) (C : H → Prop) (J : Nat → Cfg → Prop) : Prop where
  still : ∀ i y y', J i y → Grow y y' → (∀ o, y.h.get? I = some o → y'.h.get? I = some o) → J i y'
  item : ∀ i σ y (s : Shared) (Q : Option Value → Shared → Prop) (d : D), ds[i]? = some d → Ok w h₀ σ y → y.M I → (∀ k, y.α k ≠ some I) → C σ → J i y → s.heap = y.h →
    (∀ v h' tk, (∀ b o, b ≠ I → y.h.get? b = some o → h'.get? b = some o) → y.h.objs.size ≤ h'.objs.size → Rep w { y with h := h' } v d → J (i + 1) { y with h := h' } → Q (some v) { s with heap := h', toks := tk }) →
    wpAny (model prog w) A (pyNext (.ref I)) Q (fun _ _ => False) s
  self : ∀ i y (s : Shared) (Q : Value → Shared → Prop), J i y → s.heap = y.h → Q (.ref I) s → wpAny (model prog w) A (pyIter (.ref I)) Q (fun _ _ => False) s
  done : ∀ σ y (s : Shared) (Q : Option Value → Shared → Prop), Ok w h₀ σ y → y.M I → (∀ k, y.α k ≠ some I) → C σ → J ds.length y → s.heap = y.h →
    (∀ h' tk, (∀ b o, b ≠ I → y.h.get? b = some o → h'.get? b = some o) → y.h.objs.size ≤ h'.objs.size → Q none { s with heap := h', toks := tk }) → wpAny (model prog w) A (pyNext (.ref I)) Q (fun _ _ => False) s

/-- the loop's source: it is evaluated, and its iterator made -/
noncomputable def Itr (w : World) (h₀ : Heap) (A : Around) (t : Sem Value) (env : Env) (c : Key) (ck : List (Str × Key)) (σ : H) (ds : List D) (C : H → Prop) (σ' : H) : Prop :=
  ∀ x, Ok w h₀ σ x → InEnv env c ck x → ∀ s : Shared, s.heap = x.h →
    wpAny (model prog w) A t (fun xv s₁ => wpAny (model prog w) A (pyIter xv) (fun it s₂ => ∃ I y tk J, it = .ref I ∧ s₂ = { s with heap := y.h, toks := tk } ∧ Ok w h₀ σ' y ∧ After x y ∧ y.M I ∧
      (∀ k, y.α k ≠ some I) ∧ x.h.objs.size ≤ I ∧ J 0 y ∧ Proto w h₀ A I ds C J) (fun _ _ => False) s₁) (fun _ _ => False) s

theorem Proto.list {I ax : Addr} {ds : List D} (hh : A.handled = none) (hb : ds.length ≤ sizeLine) :
    Proto w h₀ A I ds (fun σ => Lst σ d ds) (fun i y => y.h.IsListIter I ax i ∧ Rep w y (.ref ax) d ∧ ax ≠ I) where
  still := fun i y y' ⟨⟨o, h1, h2⟩, hr, hne⟩ g hk => ⟨⟨o, hk _ h1, h2⟩, hr.grow g, hne⟩
  item := fun i σ y s Q d' hi ok hM hα hl ⟨hit, hr, hne⟩ hs hQ => by
    obtain ⟨a, vs, n, e, hg, hrs⟩ := hl.at ok hr
    cases e
    obtain ⟨v, hv, hrv⟩ := hrs.get hi
    refine wpAny_pyNext_list_item (hs ▸ hit) ⟨_, hs ▸ hg, rfl, n, rfl⟩ (x := v) (by simpa using hv) fun h' hit' hsb => ?_
    have hsb' : ∀ b o, b ≠ I → y.h.get? b = some o → h'.get? b = some o := fun b o hb e => (hsb.2 b hb).trans (hs ▸ e)
    have hsz : y.h.objs.size ≤ h'.objs.size := by rw [← hs]; exact Nat.le_of_eq hsb.1.symm
    obtain ⟨_, g⟩ := ok.aside hM hα hsb' hsz
    exact hQ v h' s.toks hsb' hsz (hrv.grow g) ⟨hit', hr.grow g, hne⟩
  self := fun i y s Q ⟨hit, _, _⟩ hs hQ => wpAny_pyIter_listiter (hs ▸ hit) hQ
  done := fun σ y s Q ok hM hα hl ⟨hit, hr, hne⟩ hs hQ => by
    obtain ⟨a, vs, n, e, hg, hrs⟩ := hl.at ok hr
    cases e
    have h1 : wpAny (model prog w) A (pyNext (.ref I)) (fun r s' => ∃ h', r = none ∧ s' = { s with heap := h' } ∧ Heap.ExtBut I s.heap h') (fun _ _ => False) s :=
      wpAny_pyNext_list_end hh (hs ▸ hit) ⟨_, hs ▸ hg, rfl, n, rfl⟩ (by simp [hrs.length]) fun h' he => ⟨h', rfl, rfl, he⟩
    refine wpAny_mono (wpAny_size h1) (fun r s' ⟨hz, h', e, e', he⟩ => ?_) fun _ _ e => e
    subst e e'
    exact hQ h' s.toks (fun b o hb e => he b o hb (hs ▸ e)) (by rw [← hs]; exact hz)

theorem Itr.list {e : Expr} {ds : List D} (he : Ev w h₀ A env c ck e σ d σ₁) (hl : Lst σ₁ d ds) (hh : A.handled = none) (hb : ds.length ≤ sizeLine) :
    Itr w h₀ A (eval e env) env c ck σ ds (fun σ => Lst σ d ds) σ₁ := fun x ok en s hs =>
  (he x ok en).next hs fun v y tk oky af rv => by
    obtain ⟨a, vs, n, e, hg, hrs⟩ := hl.at oky rv
    subst e
    refine wpAny_pyIter_list ⟨_, hg, rfl, n, rfl⟩ ?_
    dsimp only
    have keep : ∀ b o, y.h.get? b = some o → (y.h.push { cls := .type "list_iterator", data := .fields #[.ref a, .int 0 0] }).get? b = some o := fun b o e => Heap.get?_push_of_some _ e
    have hsz : y.h.objs.size ≤ (y.h.push { cls := .type "list_iterator", data := .fields #[.ref a, .int 0 0] }).objs.size := by rw [Heap.size_push]; exact Nat.le_succ _
    obtain ⟨ok', af', hn⟩ := oky.mark (I := y.h.objs.size) (h' := y.h.push { cls := .type "list_iterator", data := .fields #[.ref a, .int 0 0] }) (Nat.le_refl _) (by rw [Heap.size_push]; exact Nat.lt_succ_self _) keep hsz
    exact ⟨_, _, tk, _, rfl, rfl, ok', af.trans af', .inr rfl, hn, af.size, ⟨⟨_, Heap.get?_push_size _ rfl, rfl, rfl⟩, rv.grow (af'.grow oky), Nat.ne_of_lt (Heap.lt_size hg)⟩, Proto.list hh hb⟩

/-- a range from nought up -/
noncomputable def rngL (n : Nat) : List D := (List.range n).map fun (i : Nat) => D.int (i : Int)
theorem rangeSize_nat (n : Nat) : Builtin.Range.rangeSize 0 n 1 = n := by
  unfold Builtin.Range.rangeSize
  simp
  try omega
theorem small_nat (n : Nat) (hn : n ≤ sizeLine) : Builtin.Range.small 0 n 1 = true := by
  rw [sizeLine_eq] at hn
  unfold Builtin.Range.small
  rw [rangeSize_nat]
  simp [Builtin.Range.rangeFitsLong]
  omega

theorem Proto.range {I : Addr} {n : Nat} (hh : A.handled = none) : Proto w h₀ A I (rngL n) (fun _ => True) (fun i y => IsRangeIter y.h I (i : Int) ((n : Int) - (i : Int)) 1) where
  still := fun i y y' h g hk => hk _ h
  item := fun i σ y s Q d' hi ok hM hα _ hit hs hQ => by
    have hlt : i < n := by
      have := (List.getElem?_eq_some_iff.mp hi).1
      simpa [rngL] using this
    have e : d' = .int (i : Int) := by simpa [rngL, hlt] using hi.symm
    subst e
    refine wpAny_pyNext_range_item (by rw [hs]; exact hit) (by omega) fun h' hit' hsb => ?_
    have hsb' : ∀ b o, b ≠ I → y.h.get? b = some o → h'.get? b = some o := fun b o hb e => (hsb.2 b hb).trans (hs ▸ e)
    refine hQ _ h' _ hsb' (by rw [← hs]; exact Nat.le_of_eq hsb.1.symm) .int ?_
    have e1 : ((i + 1 : Nat) : Int) = (i : Int) + 1 := by omega
    have e2 : (n : Int) - ((i + 1 : Nat) : Int) = (n : Int) - (i : Int) - 1 := by omega
    show IsRangeIter h' I ((i + 1 : Nat) : Int) ((n : Int) - ((i + 1 : Nat) : Int)) 1
    rw [e2, e1]; exact hit'
  self := fun i y s Q hit hs hQ => (Walks.range (prog := prog) (w := w) hh I 0 1 n).self i s Q _ (by show IsRangeIter _ _ _ _ _; rw [hs]; simpa using hit) hQ
  done := fun σ y s Q ok hM hα _ hit hs hQ => by
    have h1 : wpAny (model prog w) A (pyNext (.ref I)) (fun r s' => ∃ h', r = none ∧ s' = { s with heap := h' } ∧ Heap.ExtBut I s.heap h') (fun _ _ => False) s :=
      wpAny_pyNext_range_end hh (by rw [hs]; exact hit) (by simp [rngL]) fun h' he => ⟨h', rfl, rfl, he⟩
    refine wpAny_mono (wpAny_size h1) (fun r s' ⟨hz, h', e, e', he⟩ => ?_) fun _ _ e => e
    subst e e'
    exact hQ h' s.toks (fun b o hb e => he b o hb (hs ▸ e)) (by rw [← hs]; exact hz)

theorem Itr.range {e : Expr} {n : Nat} (he : Ev w h₀ A env c ck e σ (.rng 0 n) σ₁) (hh : A.handled = none) (hb : n ≤ sizeLine) :
    Itr w h₀ A (eval e env) env c ck σ (rngL n) (fun _ => True) σ₁ := fun x ok en s hs =>
  (he x ok en).next hs fun v y tk oky af rv => by
    cases rv with
    | rng hm hg =>
      rename_i a t u v
      refine wpAny_pyIter_range hg (small_nat n hb) ?_
      rw [rangeSize_nat]
      dsimp only
      have keep : ∀ b o, y.h.get? b = some o → (y.h.push { cls := .type "range_iterator", data := .fields #[rawInt 0, rawInt n, rawInt 1] }).get? b = some o := fun b o e => Heap.get?_push_of_some _ e
      have hsz : y.h.objs.size ≤ (y.h.push { cls := .type "range_iterator", data := .fields #[rawInt 0, rawInt n, rawInt 1] }).objs.size := by rw [Heap.size_push]; exact Nat.le_succ _
      obtain ⟨ok', af', hn⟩ := oky.mark (I := y.h.objs.size) (Nat.le_refl _) (by rw [Heap.size_push]; exact Nat.lt_succ_self _) keep hsz
      refine ⟨_, _, tk, _, rfl, rfl, ok', af.trans af', .inr rfl, hn, af.size, ?_, Proto.range hh⟩
      show IsRangeIter _ _ (0 : Int) ((n : Int) - 0) 1
      rw [Int.sub_zero]; exact Heap.get?_push_size _ rfl

/-- storing an item into the loop's target -/
noncomputable def Tgt (w : World) (h₀ : Heap) (A : Around) (env : Env) (c : Key) (ck : List (Str × Key)) (target : Expr) (d : D) (σ σ' : H) : Prop :=
  ∀ x v, Ok w h₀ σ x → InEnv env c ck x → Rep w x v d → Runs w h₀ A σ' x (assign target env v) (fun _ _ => True)
theorem Tgt.name {y : Str} {p : Pos} (h : St w h₀ A env c ck y d σ σ₁) : Tgt w h₀ A env c ck (.Name y p) d σ σ₁ := fun x v ok en rv s hs => wpAny_assign_Name (h x v ok en rv s hs)

theorem Ex.for {target iter : Expr} {body : List Stmt} {ds : List D} {C : H → Prop} (σs : Nat → H) (hi : Itr w h₀ A (eval iter env) env c ck σ ds C (σs 0))
    (hC : ∀ i, i ≤ ds.length → C (σs i)) (hb : ∀ i d, ds[i]? = some d → ∃ τ, Tgt w h₀ A env c ck target d (σs i) τ ∧ Exs w h₀ A env c ck body τ .next (σs (i + 1)))
    (ht : ∀ it v, letOwnedTupleGo target it v = pure ()) (hf : ∀ x, foldedSetIterable iter env x = pure x) :
    Ex w h₀ A env c ck (.For target iter body [] pos) σ .next (σs ds.length) := fun x ok en s hs => by
  refine wpAny_For (wpAny_mono (hi x ok en s hs) (fun xv s₁ h₁ => wpAny_mono h₁ (fun it s₂ h₂ => ?_) fun _ _ e => e.elim) fun _ _ e => e.elim) hf
  obtain ⟨I, y, tk, J, rfl, rfl, oky, af, hM, hα, hge, hJ, P⟩ := h₂
  refine codeAny_mono (codeAny_forLoop (R := fun r s' => ∃ f, r = .ok f ∧ Post w h₀ (σs ds.length) x s (fun f y => FRep w y f .next) f s')
    (fun k s' => ∃ i z tk', k = ds.length - i ∧ i ≤ ds.length ∧ s' = { s with heap := z.h, toks := tk' } ∧ Ok w h₀ (σs i) z ∧ After x z ∧ z.M I ∧ (∀ k, z.α k ≠ some I) ∧ J i z) ?_ ds.length
    ⟨0, y, tk, by omega, Nat.zero_le _, rfl, oky, af, hM, hα, hJ⟩ (fun v => ht _ v)) fun r s' ⟨f, e, h⟩ => by subst e; exact h
  rintro k s' ⟨i, z, tk', rfl, hle, rfl, okz, afz, hMz, hαz, hJz⟩
  by_cases hlt : i < ds.length
  · obtain ⟨d, hd⟩ : ∃ d, ds[i]? = some d := ⟨ds[i], by simp [hlt]⟩
    obtain ⟨τ, hst, hbody⟩ := hb i d hd
    have main : wpAny (model prog w) A (pyNext (.ref I)) (fun r s₁ => ∃ v z₁ tk₁, r = some v ∧ s₁ = { s with heap := z₁.h, toks := tk₁ } ∧ Ok w h₀ (σs i) z₁ ∧ After x z₁ ∧ z₁.M I ∧ (∀ k, z₁.α k ≠ some I) ∧ Rep w z₁ v d ∧ J (i + 1) z₁) (fun _ _ => False) { s with heap := z.h, toks := tk' } := by
      refine P.item i (σs i) z _ _ d hd okz hMz hαz (hC i hle) hJz rfl fun v h' tk₁ hk hsz hr hj => ?_
      obtain ⟨ok1, g1⟩ := okz.aside hMz hαz hk hsz
      exact ⟨v, { z with h := h' }, tk₁, rfl, rfl, ok1, afz.aside hge hk hsz, hMz, hαz, hr, hj⟩
    refine wpAny_mono main (fun r s₁ ⟨v, z₁, tk₁, e, e', ok1, af1, hM1, hα1, hr1, hj1⟩ => ?_) fun _ _ e => e.elim
    subst e e'
    have en1 := en.after af1
    refine wpAny_mono ((hst z₁ v ok1 en1 hr1) _ rfl) (fun _ s₂ ⟨z₂, tk₂, e, ok2, af2, _⟩ => ?_) fun _ _ e => e.elim
    subst e
    refine wpAny_mono ((hbody z₂ ok2 (en1.after af2)) _ rfl) (fun f s₃ ⟨z₃, tk₃, e, ok3, af3, hf⟩ => ?_) fun _ _ e => e.elim
    subst e
    cases f with
    | next =>
      have a23 := af2.trans af3
      have hIlt : I < z₁.h.objs.size := ok1.lim I hM1
      have hown : ¬ own z₁ I := fun ⟨k, hk⟩ => hα1 k hk
      refine ⟨ds.length - (i + 1), by omega, i + 1, z₃, tk₃, rfl, hlt, rfl, ok3, af1.trans a23, (a23.marks I hIlt hown).mpr hM1, fun k hk => ?_, P.still _ _ _ hj1 (a23.grow ok1) fun o ho => a23.keep I o hown ho⟩
      rcases a23.fresh k I hk with h | h
      · exact hα1 k h
      · exact absurd hIlt (Nat.not_lt.mpr h)
    | _ => exact hf.elim
  · have e : i = ds.length := by omega
    subst e
    have main := P.done (σs ds.length) z { s with heap := z.h, toks := tk' } (fun r s₁ => ∃ z₁ tk₁, r = none ∧ s₁ = { s with heap := z₁.h, toks := tk₁ } ∧ Ok w h₀ (σs ds.length) z₁ ∧ After x z₁) okz hMz hαz (hC _ hle) hJz rfl fun h' tk₁ hk hsz => by
      obtain ⟨ok1, g1⟩ := okz.aside hMz hαz hk hsz
      exact ⟨{ z with h := h' }, tk₁, rfl, rfl, ok1, afz.aside hge hk hsz⟩
    refine wpAny_mono main (fun r s₁ ⟨z₁, tk₁, e, e', ok1, af1⟩ => ?_) fun _ _ e => e.elim
    subst e e'
    exact wpAny_execs_nil ⟨.next, rfl, z₁, tk₁, rfl, ok1, af1, trivial⟩
end
end Mine

/-! # F6 -/
namespace Mine
section
variable {w : World} {h₀ : Heap} {A : Around} {env : Env} {c : Key} {ck ck' : List (Str × Key)} {σ σ' σ₁ σ₂ σ₃ : H} {d d₁ d₂ d₃ : D} {pos : Pos}

/-! ## what a comprehension shuts in -/
noncomputable def closGo (cells : List (Str × Addr)) : List (Str × NameKind) → List (Str × Addr) → List (Str × Addr)
  | [], acc => acc
  | (n, k) :: r, acc => if k == .free then closGo cells r ((n, (cells.lookup n).getD 0) :: acc) else closGo cells r acc
noncomputable def closOf (scope : Scope) (env : Env) : List (Str × Addr) := closGo env.cells scope.names []

theorem clos_forIn (env : Env) (f : Str × NameKind → List (Str × Addr) → Sem (ForInStep (List (Str × Addr))))
    (hf : ∀ n k acc, f (n, k) acc = if k == .free then (do let a ← cellOf env n; pure (.yield ((n, a) :: acc))) else pure (.yield acc)) :
    ∀ (names : List (Str × NameKind)) (acc : List (Str × Addr)), (∀ y ∈ names, y.2 = .free → (env.cells.lookup y.1).isSome = true) →
      forIn names acc f = (pure (closGo env.cells names acc) : Sem (List (Str × Addr)))
  | [], acc, _ => by rw [List.forIn_nil]; rfl
  | (n, k) :: r, acc, h => by
    rw [List.forIn_cons, hf]
    unfold closGo
    by_cases hk : (k == NameKind.free) = true
    · rw [if_pos hk, if_pos hk]
      obtain ⟨a, ha⟩ := Option.isSome_iff_exists.mp (h (n, k) List.mem_cons_self (beq_iff_eq.mp hk))
      have ha' : env.cells.lookup n = some a := ha
      have : cellOf env n = pure a := by unfold cellOf; rw [ha']
      rw [this, pure_bind, pure_bind]
      simp only [ha', Option.getD_some]
      exact clos_forIn env f hf r _ fun y hy => h y (List.mem_cons_of_mem _ hy)
    · rw [if_neg hk, if_neg hk, pure_bind]
      exact clos_forIn env f hf r _ fun y hy => h y (List.mem_cons_of_mem _ hy)

theorem closureFor_of {scope : Scope} {env : Env} (h : ∀ y ∈ scope.names, y.2 = .free → (env.cells.lookup y.1).isSome = true) : closureFor scope env = pure (closOf scope env) := by
  unfold closureFor
  show (forIn scope.names [] _ >>= _ : Sem _) = _
  rw [clos_forIn env _ (fun n k acc => rfl) scope.names [] h]
  rfl

theorem closGo_acc {cells : List (Str × Addr)} {y : Str} {a : Addr} : ∀ (names : List (Str × NameKind)) (acc : List (Str × Addr)), cells.lookup y = some a → (acc.lookup y = some a ∨ (y, NameKind.free) ∈ names) → (∀ b, acc.lookup y = some b → b = a) →
    (closGo cells names acc).lookup y = some a
  | [], acc, _, h, _ => h.elim id fun h => nomatch h
  | (n, k) :: r, acc, hc, h, hu => by
    unfold closGo
    by_cases hk : (k == NameKind.free) = true
    · rw [if_pos hk]
      refine closGo_acc r _ hc ?_ ?_
      · by_cases hy : (y == n) = true
        · left; rw [List.lookup_cons, hy, ← beq_iff_eq.mp hy, hc]; rfl
        · rcases h with h | h
          · left; rw [List.lookup_cons]; simpa only [hy] using h
          · rcases List.mem_cons.mp h with e | h
            · cases e; simp at hy
            · exact .inr h
      · intro b hb
        rw [List.lookup_cons] at hb
        by_cases hy : (y == n) = true
        · rw [hy, ← beq_iff_eq.mp hy, hc] at hb
          simpa using hb.symm
        · simp only [hy] at hb; exact hu b hb
    · rw [if_neg hk]
      refine closGo_acc r acc hc ?_ hu
      rcases h with h | h
      · exact .inl h
      · rcases List.mem_cons.mp h with e | h
        · cases e; simp at hk
        · exact .inr h

theorem closOf_lookup {scope : Scope} {env : Env} {y : Str} {a : Addr} (hc : env.cells.lookup y = some a) (h : (y, NameKind.free) ∈ scope.names) : (closOf scope env).lookup y = some a :=
  closGo_acc scope.names [] hc (.inr h) (fun _ h => by cases h)

/-- the comprehension's own surroundings -/
noncomputable abbrev cenvOf (scope : Scope) (env : Env) (C : Addr) : Env := compEnvC scope (closOf scope env) C env

/-- no local yet -/
noncomputable def g0 : Str → Option D := fun _ => none

/-! ## the tests -/
noncomputable def Tsts (w : World) (h₀ : Heap) (A : Around) (env : Env) (c : Key) (ck : List (Str × Key)) (ifs : List Expr) (σ : H) (b : Bool) (σ' : H) : Prop :=
  ∀ x, Ok w h₀ σ x → InEnv env c ck x → Runs w h₀ A σ' x (forIn ifs true fun c r => if r = true then do let ok ← isTrue c env (eval c env); pure (ForInStep.yield ok) else pure (ForInStep.yield r)) (fun v _ => v = b)
theorem Tsts.nil : Tsts w h₀ A env c ck [] σ true σ := fun x ok _ s hs => wpAny_tests_nil (Post.of' hs ok rfl)
theorem Tsts.one {e : Expr} {b : Bool} (h : Tst w h₀ A env c ck e σ b σ₁) : Tsts w h₀ A env c ck [e] σ b σ₁ := fun x ok en s hs => wpAny_tests_one (h x ok en s hs)

/-! ## a list that is ready -/
theorem Made.adopt {x : Cfg} {xs : List D} {vs : List Value} {n : Nat} {a : Addr} (m : Made σ xs d σ') (ok : Ok w h₀ σ x) (hM : x.M a) (hα : ∀ k, x.α k ≠ some a) (hg : x.h.get? a = some (lobj vs n)) (hr : Reps w x vs xs) :
    ∃ y : Cfg, y.h = x.h ∧ Ok w h₀ σ' y ∧ Rep w y (.ref a) d ∧ (∀ b, b ≠ a → (y.M b ↔ x.M b)) ∧ (∀ k b, x.α k = some b → y.α k = some b) ∧ (∀ k b, y.α k = some b → x.α k = some b ∨ b = a) := by
  cases m with
  | frozen =>
    let y : Cfg := { M := fun b => x.M b ∧ b ≠ a, α := x.α, h := x.h }
    have g : Grow x y := ⟨fun _ _ _ e => e, fun b _ hm h => hm h.1, fun _ _ e => e⟩
    refine ⟨y, rfl, ⟨ok.base, fun b hb => ok.off b hb.1, fun k sp h => ?_, ok.dom, ok.inj, fun b hb => ok.lim b hb.1⟩, .list (fun h => h.2 rfl) hg (hr.grow g), fun b hb => ⟨fun h => h.1, fun h => ⟨h, hb⟩⟩, fun _ _ e => e, fun _ _ e => .inl e⟩
    obtain ⟨b, h1, h2, h3, h4⟩ := ok.live k sp h
    exact ⟨b, h1, ⟨h2, fun q => hα k (q ▸ h1)⟩, h3, h4.grow g fun _ e => e⟩
  | key hf hk =>
    rename_i k
    have hno := ok.noname hk
    let y : Cfg := { M := x.M, α := fun k' => if k' = k then some a else x.α k', h := x.h }
    have nm : ∀ k' b, x.α k' = some b → y.α k' = some b := fun k' b e => by
      show (if k' = k then some a else x.α k') = some b
      rw [if_neg (by rintro rfl; rw [hno] at e; cases e)]; exact e
    have g : Grow x y := ⟨fun _ _ _ e => e, fun _ _ e => e, nm⟩
    refine ⟨y, rfl, ⟨ok.base, ok.off, ?_, ?_, ?_, ok.lim⟩, .res hf (if_pos rfl), fun _ _ => Iff.rfl, nm, ?_⟩
    · intro k' sp h
      unfold H.set at h
      split at h
      · rename_i e; cases h; subst e
        exact ⟨a, if_pos rfl, hM, ok.lim a hM, vs, n, hg, hr.grow g⟩
      · obtain ⟨b, h1, h2, h3, h4⟩ := ok.live k' sp h
        exact ⟨b, nm _ _ h1, h2, h3, h4.grow g fun _ e => e⟩
    · intro k' b h
      have h' : (if k' = k then some a else x.α k') = some b := h
      unfold H.set
      split
      · rfl
      · rename_i e; rw [if_neg e] at h'; exact ok.dom k' b h'
    · intro k₁ k₂ b h1 h2
      have h1' : (if k₁ = k then some a else x.α k₁) = some b := h1
      have h2' : (if k₂ = k then some a else x.α k₂) = some b := h2
      split at h1' <;> split at h2'
      · rename_i e1 e2; rw [e1, e2]
      · cases h1'; exact absurd h2' (hα k₂)
      · cases h2'; exact absurd h1' (hα k₁)
      · exact ok.inj k₁ k₂ b h1' h2'
    · intro k' b h
      have h' : (if k' = k then some a else x.α k') = some b := h
      split at h'
      · cases h'; exact .inr rfl
      · exact .inl h'

/-- one turn of a comprehension: what it adds -/
noncomputable def Turn (w : World) (h₀ : Heap) (A : Around) (cenv : Env) (kf : Key) (ck' : List (Str × Key)) (target elt : Expr) (ifs : List Expr) (d : D) (σ σ' : H) (add : List D) : Prop :=
  ∃ τ, Tgt w h₀ A cenv kf ck' target d (σ.set kf (.ns g0)) τ ∧
    ((∃ τ' e τ'', Tsts w h₀ A cenv kf ck' ifs τ true τ' ∧ Ev w h₀ A cenv kf ck' elt τ' e τ'' ∧ H.Le τ'' (σ'.set kf (.ns g0)) ∧ add = [e]) ∨ (∃ τ', Tsts w h₀ A cenv kf ck' ifs τ false τ' ∧ H.Le τ' (σ'.set kf (.ns g0)) ∧ add = []))

/-- a comprehension's loop, from a frame that is laid to a list that is made -/
theorem comp_loop {target elt iter : Expr} {ifs : List Expr} {scope : Scope} {ds : List D} {Cn : H → Prop} {kf : Key} {x x₀ : Cfg} {s : Shared} {I acc C : Addr} {tk₀ : Nat} {J : Nat → Cfg → Prop} {m₀ : Str → Option Value}
    (σs : Nat → H) (add : Nat → List D) (hkf : kf.isFr = true) (hno : ∀ i, i ≤ ds.length → (σs i) kf = none) (P : Proto w h₀ A I ds Cn J) (hC : ∀ i, i ≤ ds.length → Cn ((σs i).set kf (.ns g0)))
    (hck : ∀ y k, ck'.lookup y = some k → ck.lookup y = some k ∧ (y, NameKind.free) ∈ scope.names)
    (hturn : ∀ i d, ds[i]? = some d → Turn w h₀ A (cenvOf scope env C) kf ck' target elt ifs d (σs i) (σs (i + 1)) (add i))
    (ok : Ok w h₀ (σs 0) x₀) (en : InEnv env c ck x₀) (af : After x x₀) (hI : x.h.objs.size ≤ I) (hacc : x.h.objs.size ≤ acc) (hCge : x.h.objs.size ≤ C) (hIa : I ≠ acc) (hIC : I ≠ C) (haC : acc ≠ C)
    (hMI : x₀.M I) (hMa : x₀.M acc) (hMC : x₀.M C) (hαI : ∀ k, x₀.α k ≠ some I) (hαa : ∀ k, x₀.α k ≠ some acc) (hαC : ∀ k, x₀.α k ≠ some C) (hJ : J 0 x₀) (hns : x₀.h.Ns C m₀) (hg0 : ∃ n, x₀.h.get? acc = some (lobj [] n))
    (m : Made (σs ds.length) ((List.range ds.length).flatMap add) d σ') (hsz : ds.length ≤ sizeLine) (ht : ∀ it v, letOwnedTupleGo target it v = pure ()) :
    codeAny (model prog w) A (.compLoop (.ListComp elt [⟨target, iter, ifs, 0⟩] scope pos) 0 (.ref I) (.ref acc) (cenvOf scope env C))
      (fun r s' => ∃ y tk m', r = .ok .next ∧ s' = { s with heap := y.h, toks := tk } ∧ Ok w h₀ σ' y ∧ After x y ∧ InEnv env c ck y ∧ Rep w y (.ref acc) d ∧ y.M C ∧ (∀ k, y.α k ≠ some C) ∧ y.h.Ns C m') { s with heap := x₀.h, toks := tk₀ } := by
  have hlt : ∀ i z, x.h.objs.size ≤ z.h.objs.size → ∀ b, Ok w h₀ i z → z.M b → b < z.h.objs.size := fun i z _ b okz hb => okz.lim b hb
  refine codeAny_compLoop_tests
    (fun k s' => ∃ i z tk vs n m', k = ds.length - i ∧ i ≤ ds.length ∧ s' = { s with heap := z.h, toks := tk } ∧ Ok w h₀ ((σs i).set kf (.ns g0)) z ∧ After x (z.drop kf) ∧ InEnv env c ck z ∧ z.α kf = some C ∧ z.M I ∧ z.M acc ∧ (∀ k, z.α k ≠ some I) ∧ (∀ k, z.α k ≠ some acc) ∧ J i z ∧ z.h.Ns C m' ∧
      z.h.get? acc = some (lobj vs n) ∧ Reps w z vs ((List.range i).flatMap add)) ?_ ds.length ?_ (fun v => ht _ v)
  · rintro k s' ⟨i, z, tk, vs, n, m', rfl, hle, rfl, okz, afz, enz, hCz, hMIz, hMaz, hαIz, hαaz, hJz, hnsz, hgz, hrz⟩
    -- the comprehension's own surroundings
    have inC : ∀ y : Cfg, After z y → InEnv (cenvOf scope env C) kf ck' y := fun y a => ⟨a.names _ _ hCz, fun v k h => by
      obtain ⟨h1, h2⟩ := hck v k h
      obtain ⟨b, h3, h4⟩ := enz.cell v k h1
      exact ⟨b, closOf_lookup h3 h2, a.names _ _ h4⟩⟩
    by_cases hlt : i < ds.length
    · obtain ⟨d', hd'⟩ : ∃ d, ds[i]? = some d := ⟨ds[i], by simp [hlt]⟩
      obtain ⟨τ, hst, hcase⟩ := hturn i d' hd'
      have main : wpAny (model prog w) A (pyNext (.ref I)) (fun r s₁ => ∃ v z₁ tk₁, r = some v ∧ s₁ = { s with heap := z₁.h, toks := tk₁ } ∧ Ok w h₀ ((σs i).set kf (.ns g0)) z₁ ∧ z₁.M = z.M ∧ z₁.α = z.α ∧ (∀ b o, b ≠ I → z.h.get? b = some o → z₁.h.get? b = some o) ∧ z.h.objs.size ≤ z₁.h.objs.size ∧
          Rep w z₁ v d' ∧ J (i + 1) z₁) (fun _ _ => False) { s with heap := z.h, toks := tk } := by
        refine P.item i _ z _ _ d' hd' okz hMIz hαIz (hC i hle) hJz rfl fun v h' tk₁ hk hsz hr hj => ?_
        obtain ⟨ok1, g1⟩ := okz.aside hMIz hαIz hk hsz
        exact ⟨v, { z with h := h' }, tk₁, rfl, rfl, ok1, rfl, rfl, hk, hsz, hr, hj⟩
      refine wpAny_mono main (fun r s₁ ⟨v, z₁, tk₁, e, e', ok1, eM, eα, hk1, hsz1, hr1, hj1⟩ => ?_) fun _ _ e => e.elim
      subst e e'
      have en1 : InEnv (cenvOf scope env C) kf ck' z₁ := by
        have := inC z (After.refl z)
        exact ⟨by rw [eα]; exact this.loc, fun y k h => by rw [eα]; exact this.cell y k h⟩
      have g1 : Grow z z₁ := ⟨fun b o hb e => hk1 b o (fun q => hb (q ▸ hMIz)) e, fun b _ hb => by rw [eM]; exact hb, fun _ _ e => by rw [eα]; exact e⟩
      refine wpAny_mono ((hst z₁ v ok1 en1 hr1) _ rfl) (fun _ s₂ ⟨z₂, tk₂, e, ok2, af2, _⟩ => ?_) fun _ _ e => e.elim
      subst e
      have en2 : InEnv (cenvOf scope env C) kf ck' z₂ := en1.after af2
      -- what holds behind any honest step
      have back : ∀ z₃ : Cfg, ∀ σ₃ : H, Ok w h₀ σ₃ z₃ → After z₁ z₃ → H.Le σ₃ ((σs (i + 1)).set kf (.ns g0)) →
          Ok w h₀ ((σs (i + 1)).set kf (.ns g0)) z₃ ∧ After x (z₃.drop kf) ∧ InEnv env c ck z₃ ∧ z₃.α kf = some C ∧ z₃.M I ∧ z₃.M acc ∧ (∀ k, z₃.α k ≠ some I) ∧ (∀ k, z₃.α k ≠ some acc) ∧ J (i + 1) z₃ ∧ (∃ m'', z₃.h.Ns C m'') ∧
            z₃.h.get? acc = some (lobj vs n) ∧ Reps w z₃ vs ((List.range i).flatMap add) := by
        intro z₃ σ₃ ok3 a3 hle3
        have ok3' := ok3.le hle3
        have hown : ∀ b, (∀ k, z.α k ≠ some b) → ¬ own z₁ b := fun b h ⟨k, hk⟩ => h k (by rw [← eα]; exact hk)
        have hfr : ∀ b, z.M b → (∀ k, z.α k ≠ some b) → ∀ k, z₃.α k ≠ some b := fun b hb h k hk => by
          rcases a3.fresh k b hk with q | q
          · rw [eα] at q; exact h k q
          · exact absurd (okz.lim b hb) (Nat.not_lt.mpr (Nat.le_trans hsz1 q))
        have hM3 : ∀ b, z.M b → (∀ k, z.α k ≠ some b) → z₃.M b := fun b hb h => (a3.marks b (Nat.lt_of_lt_of_le (okz.lim b hb) hsz1) (hown b h)).mpr (by rw [eM]; exact hb)
        have hxsz : x.h.objs.size ≤ z.h.objs.size := afz.size
        refine ⟨ok3', ?_, ⟨a3.names _ _ (by rw [eα]; exact enz.loc), fun y k h => ?_⟩, a3.names _ _ (by rw [eα]; exact hCz), hM3 I hMIz hαIz, hM3 acc hMaz hαaz, hfr I hMIz hαIz, hfr acc hMaz hαaz, ?_, ?_, ?_, ?_⟩
        · -- from the start
          refine ⟨Nat.le_trans hxsz (Nat.le_trans hsz1 a3.size), fun b o hb e => ?_, fun b hb hnb => ?_, fun k b e => ?_, fun k b e => ?_⟩
          · have e1 : z.h.get? b = some o := afz.keep b o hb e
            have hbI : b ≠ I := fun q => Nat.lt_irrefl _ (Nat.lt_of_lt_of_le (Heap.lt_size e) (q ▸ hI))
            have hbo : ∀ k, z.α k ≠ some b := fun k hk => by
              by_cases hkk : k = kf
              · rw [hkk, hCz] at hk; cases hk
                exact Nat.lt_irrefl _ (Nat.lt_of_lt_of_le (Heap.lt_size e) hCge)
              · have hk' : (z.drop kf).α k = some b := by show (if k = kf then none else z.α k) = some b; rw [if_neg hkk]; exact hk
                rcases afz.fresh k b hk' with q | q
                · exact hb ⟨k, q⟩
                · exact Nat.lt_irrefl _ (Nat.lt_of_lt_of_le (Heap.lt_size e) q)
            exact a3.keep b o (hown b hbo) (hk1 b o hbI e1)
          · have hbo : ∀ k, z.α k ≠ some b := fun k hk => by
              by_cases hkk : k = kf
              · rw [hkk, hCz] at hk; cases hk
                exact Nat.lt_irrefl _ (Nat.lt_of_lt_of_le hb hCge)
              · have hk' : (z.drop kf).α k = some b := by show (if k = kf then none else z.α k) = some b; rw [if_neg hkk]; exact hk
                rcases afz.fresh k b hk' with q | q
                · exact hnb ⟨k, q⟩
                · exact Nat.lt_irrefl _ (Nat.lt_of_lt_of_le hb q)
            have q1 : z₃.M b ↔ z₁.M b := a3.marks b (Nat.lt_of_lt_of_le hb (Nat.le_trans hxsz hsz1)) (hown b hbo)
            rw [eM] at q1
            exact q1.trans (afz.marks b hb hnb)
          · have e1 := afz.names k b e
            have e1' : (if k = kf then none else z.α k) = some b := e1
            show (if k = kf then none else z₃.α k) = some b
            split at e1'
            · cases e1'
            · rename_i hne; rw [if_neg hne]; exact a3.names k b (by rw [eα]; exact e1')
          · have e' : (if k = kf then none else z₃.α k) = some b := e
            split at e'
            · cases e'
            · rename_i hne
              rcases a3.fresh k b e' with q | q
              · rw [eα] at q
                have : (z.drop kf).α k = some b := by show (if k = kf then none else z.α k) = some b; rw [if_neg hne]; exact q
                exact afz.fresh k b this
              · exact .inr (Nat.le_trans hxsz (Nat.le_trans hsz1 q))
        · obtain ⟨b, h1, h2⟩ := enz.cell y k h
          exact ⟨b, h1, a3.names _ _ (by rw [eα]; exact h2)⟩
        · exact P.still _ _ _ hj1 (a3.grow ok1) fun o ho => a3.keep I o (hown I hαIz) ho
        · obtain ⟨m'', h1, _⟩ := ok3'.ns (k := kf) (g := g0) (by unfold H.set; rw [if_pos rfl]) (a3.names _ _ (by rw [eα]; exact hCz))
          exact ⟨m'', h1⟩
        · exact a3.keep acc _ (hown acc hαaz) (hk1 acc _ (Ne.symm hIa) hgz)
        · exact (hrz.grow g1).grow (a3.grow ok1)
      have hflat : (List.range (i + 1)).flatMap add = (List.range i).flatMap add ++ add i := by rw [List.range_succ, List.flatMap_append]; simp
      rcases hcase with ⟨τ', e, τ'', htst, helt, hle', hadd⟩ | ⟨τ', htst, hle', hadd⟩
      · refine wpAny_mono ((htst z₂ ok2 en2) _ rfl) (fun b s₃ ⟨z₃, tk₃, e3, ok3, af3, hb⟩ => ?_) fun _ _ e => e.elim
        subst e3 hb
        rw [if_pos rfl]
        refine wpAny_mono ((helt z₃ ok3 (en2.after af3)) _ rfl) (fun v s₄ ⟨z₄, tk₄, e4, ok4, af4, hv⟩ => ?_) fun _ _ e => e.elim
        subst e4
        have a4 := (af2.trans af3).trans af4
        obtain ⟨okb, afb, enb, hCb, hMIb, hMab, hαIb, hαab, hJb, ⟨m'', hnsb⟩, hgb, hrb⟩ := back z₄ τ'' ok4 a4 hle'
        have hlen : vs.length ≤ sizeLine := by
          have h1 := hrz.length
          rw [h1]
          refine Nat.le_trans ?_ (Nat.le_trans hle hsz)
          have : ∀ j, j ≤ i → ((List.range j).flatMap add).length ≤ j := by
            intro j
            induction j with
            | zero => intro _; simp
            | succ j ih =>
              intro hj
              rw [List.range_succ, List.flatMap_append, List.length_append]
              have h2 := ih (by omega)
              have hj' : j < ds.length := by omega
              have h3 : (add j).length ≤ 1 := by
                obtain ⟨_, _, h | h⟩ := hturn j ds[j] (by simp [hj'])
                · obtain ⟨_, _, _, _, _, _, h⟩ := h; rw [h]; simp
                · obtain ⟨_, _, _, h⟩ := h; rw [h]; simp
              simp only [List.flatMap_cons, List.flatMap_nil, List.append_nil]; omega
          exact this i (Nat.le_refl _)
        refine wpAny_list_append_plain (items := vs.toArray) ⟨n, hgb⟩ (fun h' hp' hsb => ?_) (by rw [List.size_toArray]; exact hlen)
        obtain ⟨n', hp'⟩ := hp'
        rw [List.push_toArray] at hp'
        have hsb' : ∀ b o, b ≠ acc → z₄.h.get? b = some o → h'.get? b = some o := fun b o hb e => (hsb.2 b hb).trans e
        have hsz' : z₄.h.objs.size ≤ h'.objs.size := Nat.le_of_eq hsb.1.symm
        obtain ⟨ok5, g5⟩ := okb.aside hMab hαab hsb' hsz'
        refine ⟨ds.length - (i + 1), by omega, i + 1, { z₄ with h := h' }, tk₄, vs ++ [v], n', m'', rfl, hlt, rfl, ok5, ?_, ⟨enb.loc, enb.cell⟩, hCb, hMIb, hMab, hαIb, hαab, P.still _ _ _ hJb g5 fun o ho => hsb' I o hIa ho, hnsb.sameBut hsb (Ne.symm haC), hp', ?_⟩
        · exact (After.aside (y := z₄.drop kf) afb hacc (h' := h') hsb' hsz')
        · rw [hflat, hadd]
          exact (hrb.grow g5).append (.cons (hv.grow g5) .nil)
      · refine wpAny_mono ((htst z₂ ok2 en2) _ rfl) (fun b s₃ ⟨z₃, tk₃, e3, ok3, af3, hb⟩ => ?_) fun _ _ e => e.elim
        subst e3 hb
        rw [if_neg Bool.false_ne_true]
        obtain ⟨okb, afb, enb, hCb, hMIb, hMab, hαIb, hαab, hJb, ⟨m'', hnsb⟩, hgb, hrb⟩ := back z₃ τ' ok3 (af2.trans af3) hle'
        refine ⟨ds.length - (i + 1), by omega, i + 1, z₃, tk₃, vs, n, m'', rfl, hlt, rfl, okb, afb, enb, hCb, hMIb, hMab, hαIb, hαab, hJb, hnsb, hgb, ?_⟩
        rw [hflat, hadd, List.append_nil]; exact hrb
    · have e : i = ds.length := by omega
      subst e
      refine wpAny_mono (P.done _ z { s with heap := z.h, toks := tk } (fun r s₁ => r = none ∧ ∃ y tk m', (Except.ok Flow.next : Result) = .ok .next ∧ s₁ = { s with heap := y.h, toks := tk } ∧ Ok w h₀ σ' y ∧ After x y ∧ InEnv env c ck y ∧ Rep w y (.ref acc) d ∧ y.M C ∧ (∀ k, y.α k ≠ some C) ∧ y.h.Ns C m')
        okz hMIz hαIz (hC _ hle) hJz rfl fun h' tk₁ hk hsz => ⟨rfl, ?_⟩) (fun r s₁ ⟨e, h⟩ => by subst e; exact h) fun _ _ e => e.elim
      obtain ⟨ok1, g1⟩ := okz.aside hMIz hαIz hk hsz
      have okd := ok1.dropF hkf
      rw [H.erase_set (hno _ hle)] at okd
      have hCd : ∀ k, (Cfg.drop { z with h := h' } kf).α k ≠ some C := fun k hk => by
        have hk' : (if k = kf then none else z.α k) = some C := hk
        split at hk'
        · cases hk'
        · rename_i hne; exact hne (okz.inj k kf C hk' hCz)
      obtain ⟨y, hy, oky, ry, hMy, hn1, hn2⟩ := m.adopt okd hMaz (fun k hk => by
        have hk' : (if k = kf then none else z.α k) = some acc := hk
        split at hk'
        · cases hk'
        · exact hαaz k hk') (hk acc _ (Ne.symm hIa) hgz) ((hrz.grow g1).dropF hkf)
      have afz' : After x (Cfg.drop { z with h := h' } kf) := After.aside (y := z.drop kf) afz hI (h' := h') hk hsz
      have hMC : z.M C := by
        obtain ⟨b, h1, h2, _⟩ := okz.live kf _ (by unfold H.set; rw [if_pos rfl])
        rw [hCz] at h1; cases h1; exact h2
      refine ⟨y, tk₁, m', rfl, by rw [hy]; rfl, oky, ⟨by rw [hy]; exact afz'.size, fun b o hb e => by rw [hy]; exact afz'.keep b o hb e, fun b hb hnb => ?_, fun k b e => hn1 k b (afz'.names k b e), fun k b e => ?_⟩, ⟨?_, ?_⟩, ry, ?_, ?_, ?_⟩
      · exact (hMy b (fun q => Nat.lt_irrefl _ (Nat.lt_of_lt_of_le hb (q ▸ hacc)))).trans (afz'.marks b hb hnb)
      · rcases hn2 k b e with q | q
        · exact afz'.fresh k b q
        · exact .inr (q ▸ hacc)
      · have : (Cfg.drop { z with h := h' } kf).α c = some env.locals := by
          show (if c = kf then none else z.α c) = some env.locals
          rw [if_neg (by
            rintro rfl
            have := ok.noname (hno 0 (Nat.zero_le _))
            rw [en.loc] at this; cases this)]
          exact enz.loc
        exact hn1 _ _ this
      · intro v k h
        obtain ⟨b, h1, h2⟩ := enz.cell v k h
        refine ⟨b, h1, hn1 _ _ ?_⟩
        show (if k = kf then none else z.α k) = some b
        rw [if_neg (by
          rintro rfl
          have := ok.noname (hno 0 (Nat.zero_le _))
          obtain ⟨b', _, h2'⟩ := en.cell v _ h
          rw [this] at h2'; cases h2')]
        exact h2
      · exact (hMy C (Ne.symm haC)).mpr hMC
      · intro k hk
        rcases hn2 k C hk with q | q
        · exact hCd k q
        · exact haC q.symm
      · rw [hy]; exact hnsz.at' fun o ho => hk C o (Ne.symm hIC) ho
  · -- the start
    obtain ⟨n, hg⟩ := hg0
    have hnok : (σs 0) kf = none := hno 0 (Nat.zero_le _)
    have hα0 := ok.noname hnok
    let z : Cfg := { M := x₀.M, α := fun k => if k = kf then some C else x₀.α k, h := x₀.h }
    have nm : ∀ k b, x₀.α k = some b → z.α k = some b := fun k b e => by
      show (if k = kf then some C else x₀.α k) = some b
      rw [if_neg (by rintro rfl; rw [hα0] at e; cases e)]; exact e
    have g : Grow x₀ z := ⟨fun _ _ _ e => e, fun _ _ e => e, nm⟩
    have hdrop : (z.drop kf).α = x₀.α := by
      funext k
      show (if k = kf then none else if k = kf then some C else x₀.α k) = x₀.α k
      by_cases e : k = kf
      · rw [if_pos e, e, hα0]
      · rw [if_neg e, if_neg e]
    have afd : After x (z.drop kf) := ⟨af.size, af.keep, af.marks, fun k b e => by rw [hdrop]; exact af.names k b e, fun k b e => by rw [hdrop] at e; exact af.fresh k b e⟩
    have hnot : ∀ a, a ≠ C → (∀ k, x₀.α k ≠ some a) → ∀ k, z.α k ≠ some a := fun a ha h k hk => by
      have hk' : (if k = kf then some C else x₀.α k) = some a := hk
      split at hk'
      · cases hk'; exact ha rfl
      · exact h k hk'
    refine ⟨0, z, tk₀, [], n, m₀, by omega, Nat.zero_le _, rfl, ⟨ok.base, ok.off, ?_, ?_, ?_, ok.lim⟩, afd, ⟨nm _ _ en.loc, fun y k h => let ⟨b, h1, h2⟩ := en.cell y k h; ⟨b, h1, nm _ _ h2⟩⟩, if_pos rfl, hMI, hMa, hnot I hIC hαI, hnot acc haC hαa, P.still _ _ _ hJ g fun _ e => e, hns, hg, by simpa using Reps.nil⟩
    · intro k sp h
      unfold H.set at h
      split at h
      · rename_i e; cases h; subst e
        exact ⟨C, if_pos rfl, hMC, ok.lim C hMC, m₀, hns, fun y d e => by simp [g0] at e⟩
      · obtain ⟨b, h1, h2, h3, h4⟩ := ok.live k sp h
        exact ⟨b, nm _ _ h1, h2, h3, h4.grow g fun _ e => e⟩
    · intro k b h
      have h' : (if k = kf then some C else x₀.α k) = some b := h
      unfold H.set
      split
      · rfl
      · rename_i e; rw [if_neg e] at h'; exact ok.dom k b h'
    · intro k₁ k₂ b h1 h2
      have h1' : (if k₁ = kf then some C else x₀.α k₁) = some b := h1
      have h2' : (if k₂ = kf then some C else x₀.α k₂) = some b := h2
      split at h1' <;> split at h2'
      · rename_i e1 e2; rw [e1, e2]
      · cases h1'; exact absurd h2' (hαC k₂)
      · cases h2'; exact absurd h1' (hαC k₁)
      · exact ok.inj k₁ k₂ b h1' h2'
end
end Mine

/-! # F7 -/
namespace Mine
section
variable {w : World} {h₀ : Heap} {A : Around} {env : Env} {c : Key} {ck ck' : List (Str × Key)} {σ σ' σ₁ σ₂ σ₃ : H} {d d₁ d₂ d₃ : D} {pos : Pos}

/-- what a comprehension asks of its form -/
structure CompOk (scope : Scope) (env : Env) (ck ck' : List (Str × Key)) : Prop where
  clos : ∀ y ∈ scope.names, y.2 = .free → (env.cells.lookup y.1).isSome = true
  noCell : ∀ y ∈ scope.names, y.2 ≠ .cell
  kind : scope.kind = .function
  names : ∀ y ∈ scope.names, y.2 = .local → scope.names.lookup y.1 = some .local
  keys : ∀ y k, ck'.lookup y = some k → ck.lookup y = some k ∧ (y, NameKind.free) ∈ scope.names

/-- how the laid comprehension comes to its end -/
noncomputable def CompEnd (w : World) (h₀ : Heap) (env : Env) (c : Key) (ck : List (Str × Key)) (x : Cfg) (s : Shared) (d : D) (σ' : H) (acc : Value) (C : Addr) (s' : Shared) : Prop :=
  ∃ y tk m', s' = { s with heap := y.h, toks := tk } ∧ Ok w h₀ σ' y ∧ After x y ∧ InEnv env c ck y ∧ Rep w y acc d ∧ y.M C ∧ (∀ k, y.α k ≠ some C) ∧ y.h.Ns C m' ∧ x.h.objs.size ≤ C

theorem comp_run {target elt iter : Expr} {ifs : List Expr} {scope : Scope} {ds : List D} {Cn : H → Prop} {kf : Key} {x : Cfg} {s : Shared}
    (σs : Nat → H) (add : Nat → List D) (hkf : kf.isFr = true) (hno : ∀ i, i ≤ ds.length → (σs i) kf = none) (hC : ∀ i, i ≤ ds.length → Cn ((σs i).set kf (.ns g0))) (co : CompOk scope env ck ck')
    (hi : Itr w h₀ A (eval iter env) env c ck σ ds Cn (σs 0))
    (hturn : ∀ C i d, ds[i]? = some d → Turn w h₀ A (cenvOf scope env C) kf ck' target elt ifs d (σs i) (σs (i + 1)) (add i))
    (m : Made (σs ds.length) ((List.range ds.length).flatMap add) d σ') (hsz : ds.length ≤ sizeLine) (ht : ∀ it v, letOwnedTupleGo target it v = pure ())
    (ok : Ok w h₀ σ x) (en : InEnv env c ck x) (hs : s.heap = x.h) {R : Value → Addr → Result → Shared → Prop}
    (hR : ∀ acc C s', CompEnd w h₀ env c ck x s d σ' acc C s' → R acc C (.ok .next) s') :
    wpAny (model prog w) A (eval iter env) (fun xv s₁ => wpAny (model prog w) A (pyIter xv) (fun it s₂ => wpAny (model prog w) A (newList []) (fun acc s₃ =>
      wpAny (model prog w) A (newFunctionEnv scope env.globals (closOf scope env) [] env.qual none .none (some env)) (fun cenv s₄ =>
        codeAny (model prog w) A (.compStart (.ListComp elt [⟨target, iter, ifs, 0⟩] scope pos) 0 it acc { cenv with scope := relabel scope env }) (fun r s' => R acc cenv.locals r s') s₄) (fun _ _ => False) s₃) (fun _ _ => False) s₂) (fun _ _ => False) s₁) (fun _ _ => False) s := by
  refine wpAny_mono (hi x ok en s hs) (fun xv s₁ h₁ => wpAny_mono h₁ (fun it s₂ h₂ => ?_) fun _ _ e => e) fun _ _ e => e
  obtain ⟨I, y, tk, J, rfl, rfl, oky, af, hM, hα, hge, hJ, P⟩ := h₂
  refine wpAny_newObj_type ?_ (by size_fits)
  refine wpAny_newFunctionEnv co.noCell (by intro y hy; simp at hy) (fun h₁ hns hsb => ?_) co.kind
  dsimp only at hns hsb ⊢
  -- the accumulator
  have k1 : ∀ b o, y.h.get? b = some o → (y.h.push (lobj [] 0)).get? b = some o := fun b o e => Heap.get?_push_of_some _ e
  have z1 : y.h.objs.size ≤ (y.h.push (lobj [] 0)).objs.size := by rw [Heap.size_push]; exact Nat.le_succ _
  obtain ⟨ok1, af1, hα1⟩ := oky.mark (I := y.h.objs.size) (h' := y.h.push (lobj [] 0)) (Nat.le_refl _) (by rw [Heap.size_push]; exact Nat.lt_succ_self _) k1 z1
  -- the frame
  have hH : (y.h.push (lobj [] 0)).objs.size = y.h.objs.size + 1 := Heap.size_push ..
  have hsz1 : h₁.objs.size = (y.h.push (lobj [] 0)).objs.size + 1 := hsb.1.trans (Heap.size_push ..)
  have k2 : ∀ b o, (y.h.push (lobj [] 0)).get? b = some o → h₁.get? b = some o := fun b o e => (hsb.2 b (Nat.ne_of_lt (Heap.lt_size e))).trans (Heap.get?_push_of_some _ e)
  obtain ⟨ok2, af2, hα2⟩ := ok1.mark (I := (y.h.push (lobj [] 0)).objs.size) (h' := h₁) (Nat.le_refl _) (by rw [hsz1]; exact Nat.lt_succ_self _) k2 (by rw [hsz1]; exact Nat.le_succ _)
  have a2 := (af.trans af1).trans af2
  have hIlt : I < y.h.objs.size := oky.lim I hM
  have loop : ∀ s₃ : Shared, s₃ = { ({ s with heap := y.h, toks := tk } : Shared) with heap := h₁, toks := tk + ([] : List (Str × Value)).length } →
      codeAny (model prog w) A (.compLoop (.ListComp elt [⟨target, iter, ifs, 0⟩] scope pos) 0 (.ref I) (.ref y.h.objs.size) (cenvOf scope env (y.h.push (lobj [] 0)).objs.size))
        (fun r s' => R (.ref y.h.objs.size) (y.h.push (lobj [] 0)).objs.size r s') s₃ := by
    rintro s₃ rfl
    have hJ2 : J 0 (Cfg.mark (Cfg.mark y y.h.objs.size (y.h.push (lobj [] 0))) (y.h.push (lobj [] 0)).objs.size h₁) :=
      P.still _ _ _ (P.still _ _ _ hJ (af1.grow oky) fun o ho => k1 I o ho) (af2.grow ok1) fun o ho => k2 I o ho
    refine codeAny_mono (comp_loop (c := c) (ck := ck) (x := x) (s := s) (tk₀ := tk + ([] : List (Str × Value)).length) (C := (y.h.push (lobj [] 0)).objs.size) (x₀ := Cfg.mark (Cfg.mark y y.h.objs.size (y.h.push (lobj [] 0))) (y.h.push (lobj [] 0)).objs.size h₁)
      σs add hkf hno P hC co.keys (hturn _) ok2 (en.after a2) a2 hge af.size (by rw [hH]; exact Nat.le_succ_of_le af.size) (Nat.ne_of_lt hIlt) (by rw [hH]; exact Nat.ne_of_lt (Nat.lt_succ_of_lt hIlt)) (by rw [hH]; exact Nat.ne_of_lt (Nat.lt_succ_self _))
      (.inl (.inl hM)) (.inl (.inr rfl)) (.inr rfl) hα (fun k e => hα1 k e) (fun k e => hα2 k e) hJ2 hns ⟨0, k2 _ _ (Heap.get?_push_size _ rfl)⟩ m hsz ht) fun r s' h => ?_
    obtain ⟨z, tk', m', rfl, e, h1, h2, h3, h4, h5, h6, h7⟩ := h
    exact hR _ _ _ ⟨z, tk', m', e, h1, h2, h3, h4, h5, h6, h7, by rw [hH]; exact Nat.le_succ_of_le af.size⟩
  have hJ2 : J 0 (Cfg.mark (Cfg.mark y y.h.objs.size (y.h.push (lobj [] 0))) (y.h.push (lobj [] 0)).objs.size h₁) :=
    P.still _ _ _ (P.still _ _ _ hJ (af1.grow oky) fun o ho => k1 I o ho) (af2.grow ok1) fun o ho => k2 I o ho
  exact codeAny_compStart_list (loop _ rfl) (wpAny_mono (P.self 0 _ _ _ hJ2 rfl (loop _ rfl)) (fun _ _ h => h) fun _ _ e => e.elim)

theorem Ev.comp {target elt iter : Expr} {ifs : List Expr} {scope : Scope} {ds : List D} {Cn : H → Prop} {kf : Key}
    (σs : Nat → H) (add : Nat → List D) (hkf : kf.isFr = true) (hno : ∀ i, i ≤ ds.length → (σs i) kf = none) (hC : ∀ i, i ≤ ds.length → Cn ((σs i).set kf (.ns g0))) (co : CompOk scope env ck ck')
    (hi : Itr w h₀ A (eval iter env) env c ck σ ds Cn (σs 0))
    (hturn : ∀ C i d, ds[i]? = some d → Turn w h₀ A (cenvOf scope env C) kf ck' target elt ifs d (σs i) (σs (i + 1)) (add i))
    (m : Made (σs ds.length) ((List.range ds.length).flatMap add) d σ') (hsz : ds.length ≤ sizeLine) (ht : ∀ it v, letOwnedTupleGo target it v = pure ()) (hf : ∀ x, foldedSetIterable iter env x = pure x) :
    Ev w h₀ A env c ck (.ListComp elt [⟨target, iter, ifs, 0⟩] scope pos) σ d σ' := fun x ok en s hs => by
  rw [eval_ListComp]
  refine wpAny_comprehension_free (use := none) rfl hf (closureFor_of co.clos) co.kind co.names
    (comp_run (R := fun acc C r s' => compPost (model prog w) A (fun _ _ => False) none (Post w h₀ σ' x s fun v y => Rep w y v d) acc C r s') σs add hkf hno hC co hi hturn m hsz ht ok en hs fun acc C s' h => ?_)
  obtain ⟨y, tk, m', rfl, h1, h2, h3, h4, h5, h6, h7, h8⟩ := h
  refine ⟨m', h7, fun h' hsb => ?_⟩
  have hk : ∀ b o, b ≠ C → y.h.get? b = some o → h'.get? b = some o := fun b o hb e => (hsb.2 b hb).trans e
  obtain ⟨ok', g⟩ := h1.aside h5 h6 hk (Nat.le_of_eq hsb.1.symm)
  exact ⟨{ y with h := h' }, tk, rfl, ok', h2.aside h8 hk (Nat.le_of_eq hsb.1.symm), h4.grow g⟩

/-- a comprehension right behind a name's «=» -/
theorem Ex.assignComp {target elt iter : Expr} {ifs : List Expr} {scope : Scope} {ds : List D} {Cn : H → Prop} {kf : Key} {y : Str} {py spos : Pos}
    (σs : Nat → H) (add : Nat → List D) (hkf : kf.isFr = true) (hno : ∀ i, i ≤ ds.length → (σs i) kf = none) (hC : ∀ i, i ≤ ds.length → Cn ((σs i).set kf (.ns g0))) (co : CompOk scope env ck ck')
    (hi : Itr w h₀ A (eval iter env) env c ck σ ds Cn (σs 0))
    (hturn : ∀ C i d, ds[i]? = some d → Turn w h₀ A (cenvOf scope env C) kf ck' target elt ifs d (σs i) (σs (i + 1)) (add i))
    (m : Made (σs ds.length) ((List.range ds.length).flatMap add) d σ₁) (hst : St w h₀ A env c ck y d σ₁ σ') (hsz : ds.length ≤ sizeLine) (ht : ∀ it v, letOwnedTupleGo target it v = pure ()) (hf : ∀ x, foldedSetIterable iter env x = pure x)
    (hsw : swapsWith (.ListComp elt [⟨target, iter, ifs, 0⟩] scope pos) (some (.Name y py)) spos.line env = pure true) :
    Ex w h₀ A env c ck (.Assign [.Name y py] (.ListComp elt [⟨target, iter, ifs, 0⟩] scope pos) spos) σ .next σ' := fun x ok en s hs => by
  rw [exec_Assign_Name_used _ _ _ _ hsw]
  refine wpAny_bind (wpAny_standAt (wpAny_bind ?_))
  have main : wpAny (model prog w) A (evalThenUse (.ListComp elt [⟨target, iter, ifs, 0⟩] scope pos) env (PySem.assign (.Name y py) env)) (fun _ s' => Post w h₀ σ' x s (fun f y => FRep w y f .next) Flow.next s') (fun _ _ => False) s := by
    have e : evalThenUse (.ListComp elt [⟨target, iter, ifs, 0⟩] scope pos) env (PySem.assign (.Name y py) env) =
        (do let _ ← comprehension (.ListComp elt [⟨target, iter, ifs, 0⟩] scope pos) scope env (firstIterPos [⟨target, iter, ifs, 0⟩] pos) (newList []) (firstAsync [⟨target, iter, ifs, 0⟩]) (firstIter [⟨target, iter, ifs, 0⟩] env) (some (PySem.assign (.Name y py) env)); pure ()) := rfl
    rw [e]
    refine wpAny_bind (wpAny_mono (wpAny_comprehension_free (Q := fun _ s' => Post w h₀ σ' x s (fun f y => FRep w y f .next) Flow.next s') (use := some (PySem.assign (.Name y py) env)) rfl hf (closureFor_of co.clos) co.kind co.names
      (comp_run (R := fun acc C r s' => compPost (model prog w) A (fun _ _ => False) (some (PySem.assign (.Name y py) env)) (fun _ s' => Post w h₀ σ' x s (fun f y => FRep w y f .next) Flow.next s') acc C r s') σs add hkf hno hC co hi hturn m hsz ht ok en hs fun acc C s' h => ?_))
      (fun _ _ h => wpAny_pure h) fun _ _ e => e)
    obtain ⟨z, tk, m', rfl, h1, h2, h3, h4, h5, h6, h7, h8⟩ := h
    refine wpAny_assign_Name (wpAny_mono (hst z acc h1 h3 h4 _ rfl) (fun _ s'' ⟨z', tk', e, h1', h2', _⟩ => ?_) fun _ _ e => e)
    subst e
    have hCn : ¬ own z C := fun ⟨k, hk⟩ => h6 k hk
    have hClt : C < z.h.objs.size := h1.lim C h5
    have h5' : z'.M C := (h2'.marks C hClt hCn).mpr h5
    have h6' : ∀ k, z'.α k ≠ some C := fun k hk => by
      rcases h2'.fresh k C hk with q | q
      · exact h6 k q
      · exact absurd hClt (Nat.not_lt.mpr q)
    refine ⟨m', h7.at' fun o ho => h2'.keep C o hCn ho, fun h' hsb => ?_⟩
    have hk : ∀ b o, b ≠ C → z'.h.get? b = some o → h'.get? b = some o := fun b o hb e => (hsb.2 b hb).trans e
    obtain ⟨ok', g⟩ := h1'.aside h5' h6' hk (Nat.le_of_eq hsb.1.symm)
    exact ⟨{ z' with h := h' }, tk', rfl, ok', (h2.trans h2').aside h8 hk (Nat.le_of_eq hsb.1.symm), trivial⟩
  exact wpAny_mono main (fun _ _ h => wpAny_pure h) fun _ _ e => e
end
end Mine

/-! # F8 -/
namespace Mine
/-- room below: frames and the interpreter's own depth -/
structure Cap (A : Around) (n : Nat) : Prop where
  handled : A.handled = none
  depth : A.depth + n ≤ 900
  units : A.units + 3 * n ≤ 9000
theorem Cap.deeper {A : Around} {n : Nat} {env : Env} (h : Cap A (n + 1)) : Cap (A.deeper env) n :=
  ⟨h.handled, by have := h.depth; show A.depth + 1 + n ≤ 900; omega, by have := h.units; show A.units + 3 + 3 * n ≤ 9000; omega⟩
theorem Cap.room {A : Around} {n : Nat} (h : Cap A n) : A.depth < recursionLimit := by have := h.depth; show A.depth < 1000; omega
theorem Cap.cLine {A : Around} {n : Nat} (h : Cap A n) : A.units + 64 < cLine := by have := h.units; show A.units + 64 < 9900; omega
section
variable {w : World} {h₀ : Heap} {A : Around} {env : Env} {c : Key} {ck ck' : List (Str × Key)} {σ σ' σ₁ σ₂ σ₃ : H} {d d₁ d₂ d₃ : D} {pos : Pos}

theorem Reps.one {x : Cfg} {vs : List Value} (h : Reps w x vs [d₁]) : ∃ v, vs = [v] ∧ Rep w x v d₁ := by
  cases h with | cons a b => cases b; exact ⟨_, rfl, a⟩
theorem Reps.two {x : Cfg} {vs : List Value} (h : Reps w x vs [d₁, d₂]) : ∃ v u, vs = [v, u] ∧ Rep w x v d₁ ∧ Rep w x u d₂ := by
  cases h with | cons a b => obtain ⟨u, rfl, hu⟩ := Reps.one b; exact ⟨_, u, rfl, a, hu⟩
theorem Reps.three {x : Cfg} {vs : List Value} (h : Reps w x vs [d₁, d₂, d₃]) : ∃ v u t, vs = [v, u, t] ∧ Rep w x v d₁ ∧ Rep w x u d₂ ∧ Rep w x t d₃ := by
  cases h with | cons a b => obtain ⟨u, t, rfl, hu, ht⟩ := Reps.two b; exact ⟨_, u, t, rfl, a, hu, ht⟩

/-- how a def takes its arguments, and what its frame then holds -/
noncomputable def Takes (w : World) (h₀ : Heap) (fd : FuncData) (ds : List D) (g : Str → Option D) : Prop :=
  ∀ (x : Cfg) (s : Shared) (vs : List Value), (∀ b o, h₀.get? b = some o → s.heap.get? b = some o) → Reps w x vs ds →
    ∃ binds, BindsTo s fd ⟨vs, []⟩ binds ∧ (∀ y ∈ binds, fd.scope.names.lookup y.1 = some .local) ∧ ∀ y d, g y = some d → ∃ v, binds.reverse.lookup y = some v ∧ Rep w x v d

noncomputable def outVal : Out → D
  | .next => .val .none
  | .ret d => d

/-! ## while -/
theorem Ex.while {test : Expr} {body : List Stmt} (n : Nat) (σs τs : Nat → H) (ht : ∀ i, i < n → Tst w h₀ A env c ck test (σs i) true (τs i)) (hb : ∀ i, i < n → Exs w h₀ A env c ck body (τs i) .next (σs (i + 1)))
    (hx : Tst w h₀ A env c ck test (σs n) false σ') : Ex w h₀ A env c ck (.While test body [] pos) (σs 0) .next σ' := fun x ok en s hs => by
  refine wpAny_While (codeAny_mono (codeAny_whileLoop (R := fun r s' => ∃ f, r = .ok f ∧ Post w h₀ σ' x s (fun f y => FRep w y f .next) f s')
    (fun k s' => ∃ i z tk, k = n - i ∧ i ≤ n ∧ s' = { s with heap := z.h, toks := tk } ∧ Ok w h₀ (σs i) z ∧ After x z) ?_ n ⟨0, x, s.toks, by omega, Nat.zero_le _, noToks hs, ok, .refl x⟩) fun r s' ⟨f, e, h⟩ => by subst e; exact h)
  rintro k s' ⟨i, z, tk, rfl, hle, rfl, okz, afz⟩
  by_cases hlt : i < n
  · refine wpAny_mono ((ht i hlt z okz (en.after afz)) _ rfl) (fun b s₂ ⟨z₂, tk₂, e, ok2, af2, hb2⟩ => ?_) fun _ _ e => e.elim
    subst e hb2
    rw [if_pos rfl]
    refine wpAny_mono ((hb i hlt z₂ ok2 (en.after (afz.trans af2))) _ rfl) (fun f s₃ ⟨z₃, tk₃, e, ok3, af3, hf⟩ => ?_) fun _ _ e => e.elim
    subst e
    cases f with
    | next => exact ⟨n - (i + 1), by omega, i + 1, z₃, tk₃, rfl, hlt, rfl, ok3, (afz.trans af2).trans af3⟩
    | _ => exact hf.elim
  · have e : i = n := by omega
    subst e
    refine wpAny_mono ((hx z okz (en.after afz)) _ rfl) (fun b s₂ ⟨z₂, tk₂, e, ok2, af2, hb2⟩ => ?_) fun _ _ e => e.elim
    subst e hb2
    rw [if_neg Bool.false_ne_true]
    exact wpAny_execs_nil ⟨.next, rfl, z₂, tk₂, rfl, ok2, afz.trans af2, trivial⟩
end
end Mine

/-! # F9 -/
namespace Mine
section
variable {w : World} {h₀ : Heap} {A : Around} {env : Env} {c : Key} {ck : List (Str × Key)} {σ σ' σ₁ σ₂ σ₃ : H} {d d₁ d₂ d₃ : D} {pos : Pos}

/-- a new list, wherever it lies -/
theorem Made.put {x : Cfg} {xs : List D} {vs : List Value} {n : Nat} {a : Addr} {h' : Heap} (m : Made σ xs d σ') (ok : Ok w h₀ σ x) (hk : ∀ b o, x.h.get? b = some o → h'.get? b = some o) (hsz : x.h.objs.size ≤ h'.objs.size) (hge : x.h.objs.size ≤ a)
    (hg : h'.get? a = some (lobj vs n)) (hr : ∀ y : Cfg, y.h = h' → Grow x y → Reps w y vs xs) :
    ∃ y : Cfg, y.h = h' ∧ Ok w h₀ σ' y ∧ After x y ∧ Rep w y (.ref a) d := by
  cases m with
  | frozen =>
    obtain ⟨ok', af⟩ := ok.more hk hsz
    exact ⟨_, rfl, ok', af, .list (fun hm => Nat.lt_irrefl _ (Nat.lt_of_lt_of_le (ok.lim _ hm) hge)) hg (hr _ rfl (af.grow ok))⟩
  | key hf hk' =>
    rename_i k
    have hα := ok.noname hk'
    have g : Grow x (x.named k a h') := ⟨fun b o _ e => hk b o e, fun b hb hm h => h.elim hm (fun q => Nat.lt_irrefl _ (Nat.lt_of_lt_of_le hb (q ▸ hge))), fun k' b e => by
      show (if k' = k then some _ else x.α k') = some b
      rw [if_neg (by rintro rfl; rw [hα] at e; cases e)]; exact e⟩
    obtain ⟨ok', af⟩ := ok.alloc (sp := .list xs) hk' hk hsz hge (Heap.lt_size hg) ⟨vs, n, hg, hr _ rfl g⟩
    exact ⟨_, rfl, ok', af, .res hf (if_pos rfl)⟩
theorem itemsInts {acc : Array Value} {n : Nat} (h : ItemsOf (fun i v => ∃ t, v = Value.int (0 + ↑i * 1) t) acc n) (y : Cfg) : Reps w y acc.toList (rngL n) := by
  obtain ⟨h1, h2⟩ := h
  have gen : ∀ (k : Nat) (vs : List Value), (∀ j v, vs[j]? = some v → ∃ t, v = Value.int ((k + j : Nat) : Int) t) → Reps w y vs ((List.range' k vs.length).map fun (i : Nat) => D.int (i : Int)) := by
    intro k vs
    induction vs generalizing k with
    | nil => intro _; exact .nil
    | cons v vs ih =>
      intro h
      obtain ⟨t, rfl⟩ := h 0 v rfl
      refine .cons .int (ih (k + 1) fun j u hu => ?_)
      obtain ⟨t', e⟩ := h (j + 1) u hu
      exact ⟨t', by rw [e]; congr 1; omega⟩
  have := gen 0 acc.toList fun j v hj => by
    rw [Array.getElem?_toList] at hj
    obtain ⟨t, e⟩ := h2 j v hj
    exact ⟨t, by rw [e]; congr 1; omega⟩
  rw [Array.length_toList, h1] at this
  unfold rngL
  rw [List.range_eq_range']; exact this
/-- a run that only adds -/
theorem Runs.grown {β : Type} {x : Cfg} {s : Shared} {t : Sem β} {R : β → Cfg → Prop} (ok : Ok w h₀ σ x) (hs : s.heap = x.h)
    (h : wpAny (model prog w) A t (fun r s' => ∃ h' tk, s' = { s with heap := h', toks := tk } ∧ (∀ b o, x.h.get? b = some o → h'.get? b = some o) ∧ (Grow x { x with h := h' } → R r { x with h := h' })) (fun _ _ => False) s) :
    wpAny (model prog w) A t (Post w h₀ σ x s R) (fun _ _ => False) s :=
  wpAny_mono (wpAny_size h) (fun r s' ⟨hz, h', tk, e, hk, hr⟩ => by
    subst e
    obtain ⟨ok', af⟩ := ok.more hk (by rw [← hs]; exact hz)
    exact ⟨{ x with h := h' }, tk, rfl, ok', af, hr (af.grow ok)⟩) fun _ _ e => e

theorem Reps.ints {x : Cfg} : ∀ {us : List Value} {ns : List Int}, Reps w x us (ns.map .int) → IntsAre us ns
  | _, [], h => by cases h; exact .nil
  | _, n :: ns, h => by
    cases h with
    | cons a b => cases a; exact .cons _ _ (Reps.ints b)
/-! ## texts -/
theorem Bin.addS {x y : Str} (hb : x.length + y.length ≤ 16777216) : Bin w h₀ A .Add (.str x) (.str y) σ (.str (x ++ y)) σ := fun _ v u ok hv hu s hs => by
  cases hv; cases hu
  exact SBL.add (fun t' k _ => Post.of hs ok .str) (by rw [sizeLine_eq]; exact hb)
theorem Inp.addS {x y : Str} (hb : x.length + y.length ≤ 16777216) : Inp w h₀ A .Add (.str x) (.str y) σ (.str (x ++ y)) σ := fun _ v u ok hv hu s hs => by
  cases hv; cases hu
  exact SBL.iadd (fun t' k _ => Post.of hs ok .str) (by rw [sizeLine_eq]; exact hb)
theorem Bin.mulS {x : Str} {n : Int} (hm : MulOk x n) : Bin w h₀ A .Mult (.str x) (.int n) σ (.str (Txt.mul x n)) σ := fun _ v u ok hv hu s hs => by
  cases hv; cases hu
  exact SB.mul hm fun t' k => Post.of hs ok .str
theorem CallD.chr {i : Int} (h0 : 0 ≤ i) (h1 : i ≤ 1114111) : CallD w h₀ A (.builtin "chr") [.int i] σ (.str ⟨#[i.toNat]⟩) σ := fun x vs ok hr s hs => by
  obtain ⟨v, rfl, hv⟩ := hr.one
  cases hv
  exact chr_of_range h0 h1 (Post.of hs ok .str)
theorem CallD.ord {y : Str} (h : y.length = 1) : CallD w h₀ A (.builtin "ord") [.str y] σ (.int (y.cps.getD 0 0)) σ := fun x vs ok hr s hs => by
  obtain ⟨v, rfl, hv⟩ := hr.one
  cases hv
  exact ord_of_one h (Post.of hs ok .int)
theorem CallD.lenStr {y : Str} (h : (y.length : Int) < 9223372036854775808) : CallD w h₀ A (.builtin "len") [.str y] σ (.int y.length) σ := fun x vs ok hr s hs => by
  obtain ⟨v, rfl, hv⟩ := hr.one
  cases hv
  exact SBL.len h (Post.of hs ok .int)
theorem CallD.lstrip {y : Str} (h : y.length ≤ 16777216) : CallD w h₀ A (.builtin "str.lstrip") [.str y] σ (.str (Txt.lstrip y)) σ := fun x vs ok hr s hs => by
  obtain ⟨v, rfl, hv⟩ := hr.one
  cases hv
  exact KXw.lstrip rfl (by rw [sizeLine_eq]; exact h) fun t' k => Post.of hs ok .str
theorem Meth.str {name : Str} {id : String} {y : Str} (sl : Slot "str" name id) (ty : typeOf (.builtin id) = pure (.type "method_descriptor")) : Meth w h₀ "str" id name (.str y) σ :=
  ⟨F.plainAttrs_str, sl, ty, fun x v s ok hs hv => by
    cases hv
    exact ⟨typeIs_str _ _ _, fun b e => by cases e⟩⟩
theorem CallD.isStr {y : Str} : CallD w h₀ A (.builtin "isinstance") [.str y, .val (.type "str")] σ (.val (.bool true)) σ := fun x vs ok hr s hs => by
  obtain ⟨v, u, rfl, hv, hu⟩ := hr.two
  cases hv; cases hu
  exact IsiPair.str_str (Post.of' hs ok .val)
theorem CallD.isTup {i : Int} : CallD w h₀ A (.builtin "isinstance") [.int i, .val (.type "tuple")] σ (.val (.bool false)) σ := fun x vs ok hr s hs => by
  obtain ⟨v, u, rfl, hv, hu⟩ := hr.two
  cases hv; cases hu
  exact IsiPair.int_tuple (Post.of hs ok .val)

/-! ## bytes -/
theorem Bin.addB {x y : Array UInt8} (hb : x.size + y.size ≤ 16777216) : Bin w h₀ A .Add (.bytes x) (.bytes y) σ (.bytes (x ++ y)) σ := fun _ v u ok hv hu s hs => by
  cases hv; cases hu
  exact KBy.add_bytes hb fun t' k => Post.of hs ok .bytes
theorem Bin.mulB {x : List UInt8} {n : Int} (h0 : x ≠ []) (h1 : -1048576 ≤ n) (h2 : n ≤ 1048576) (h3 : x.length ≤ 16) : Bin w h₀ A .Mult (.bytes x.toArray) (.int n) σ (.bytes ((List.replicate n.toNat x).flatten).toArray) σ := fun _ v u ok hv hu s hs => by
  generalize hx : x.toArray = X at hv
  cases hv; cases hu; subst hx
  exact bytes_mul_any h0 h1 h2 h3 fun t' k => Post.of hs ok .bytes
theorem CallD.bytes {ns : List Int} (hl : Lst σ d (ns.map .int)) (hn : ∀ n ∈ ns, 0 ≤ n ∧ n < 256) (hz : ns.length ≤ 16777216) (hh : A.handled = none) : CallD w h₀ A (.type "bytes") [d] σ (.bytes (byteArr ns)) σ := fun x vs ok hr s hs => by
  obtain ⟨v, rfl, hv⟩ := hr.one
  obtain ⟨a, us, n, rfl, hg, hus⟩ := hl.at ok hv
  refine Runs.grown ok hs (call_bytes_ints ⟨_, hs ▸ hg, rfl, n, rfl⟩ hus.ints hn (by rw [sizeLine_eq, hus.length, List.length_map]; exact hz) hh fun h' t k hk => ?_)
  exact ⟨h', k, rfl, fun b o e => hk b o (hs ▸ e), fun _ => .bytes⟩

/-! ## numbers -/
theorem CallD.range {n : Int} : CallD w h₀ A (.type "range") [.int n] σ (.rng 0 n) σ := fun x vs ok hr s hs => by
  obtain ⟨v, rfl, hv⟩ := hr.one
  cases hv
  obtain ⟨ok', af⟩ := ok.more (h' := x.h.push { cls := .type "range", data := .fields #[.int 0 s.toks, .int n _, .int 1 (s.toks + 1)] }) (fun b o e => Heap.get?_push_of_some _ e) (by rw [Heap.size_push]; exact Nat.le_succ _)
  refine call_range_1 ⟨_, s.toks + 1 + 1, by rw [hs], ok', af, ?_⟩
  rw [hs]
  exact .rng (fun hm => Nat.lt_irrefl _ (ok.lim _ hm)) (Heap.get?_push_size _ rfl)
theorem CallD.listRange {n : Nat} (hh : A.handled = none) (hn : n ≤ 16777216) (m : Made σ (rngL n) d σ') : CallD w h₀ A (.type "list") [.rng 0 n] σ d σ' := fun x vs ok hr s hs => by
  obtain ⟨v, rfl, hv⟩ := hr.one
  cases hv with
  | rng hm hg =>
    rename_i a t u v
    have hsmall := small_nat n (by rw [sizeLine_eq]; exact hn)
    have main := call_list_range (prog := prog) (w := w) (A := A) (E := fun _ _ => False) (s := s) (Q := fun r s' => ∃ (h' : Heap) (tk : Nat) (acc : Array Value) (cc : Nat), r = .ref s.heap.objs.size ∧ s' = { s with heap := h', toks := tk } ∧
      (∀ b o, s.heap.get? b = some o → h'.get? b = some o) ∧ h'.get? s.heap.objs.size = some { cls := .type "list", data := .seq acc cc } ∧ ItemsOf (fun i v => ∃ t, v = .int (0 + ↑i * 1) t) acc n) hh (by rw [hs]; exact hg) hsmall (by rw [rangeSize_nat]) hn
      fun h' tk acc cc h1 h2 h3 => ⟨h', tk, acc, cc, rfl, rfl, h1, h2, h3⟩
    refine wpAny_mono (wpAny_size main) (fun r s' ⟨hz, h', tk, acc, cc, e1, e2, hk, hg', hit⟩ => ?_) fun _ _ e => e
    subst e1 e2
    obtain ⟨y, hy, ok', af, r⟩ := m.put (vs := acc.toList) (n := cc) ok (fun b o e => hk b o (hs ▸ e)) (by rw [← hs]; exact hz) (by rw [hs]; exact Nat.le_refl _) hg' fun y _ _ => itemsInts hit y
    exact ⟨y, tk, by rw [hy], ok', af, r⟩

theorem CallD.sum {ns : List Int} (hl : Lst σ d (ns.map .int)) (hh : A.handled = none) : CallD w h₀ A (.builtin "sum") [d] σ (.int ns.sum) σ := fun x vs ok hr s hs => by
  obtain ⟨v, rfl, hv⟩ := hr.one
  obtain ⟨a, us, n, rfl, hg, hus⟩ := hl.at ok hv
  have hi := hus.ints
  have hsum := hi.numsOf
  obtain ⟨xs, hxs⟩ := hi.allInts.items
  refine Runs.grown ok hs (sum_intListG hh (xs := xs) (by rw [← hxs]; exact ⟨_, hs ▸ hg, rfl, n, rfl⟩) fun h' tk t' hk => ⟨h', tk, rfl, fun b o e => hk b o (hs ▸ e), fun _ => ?_⟩)
  have e : preSum (numAt xs) xs.size = ns.sum := by
    rw [preSum_eq, List.take_of_length_le (by simp), ← nums_intItems, ← hxs]
    rw [show us.toArray.toList = us from rfl, hsum]
  rw [e]; exact .int
theorem CallD.min2 {a b : Int} (hh : A.handled = none) : CallD w h₀ A (.builtin "min") [.int a, .int b] σ (.int (if b < a then b else a)) σ := fun x vs ok hr s hs => by
  obtain ⟨v, u, rfl, hv, hu⟩ := hr.two
  cases hv; cases hu
  refine Runs.grown ok hs (min_two_ints hh fun h' tk hk => ⟨h', tk, rfl, fun b o e => hk b o (hs ▸ e), fun _ => ?_⟩)
  by_cases h : b < a
  · rw [if_pos h, if_pos h]; exact .int
  · rw [if_neg h, if_neg h]; exact .int
/-- the tuple of a list: where it lies -/
theorem tuple_of_list (l : Addr) (o : Obj) (us : List Value) (n : Nat) (hc : o.cls = .type "list") (hd : o.data = .seq us.toArray n) (hb : us.length ≤ 16777216) :
    Meets (Builtin.«tuple.__new__» ⟨[.type "tuple", .ref l], []⟩)
      (fun _ R s => s.heap.get? l = some o ∧ ∀ h' : Heap, (∀ b o', s.heap.get? b = some o' → h'.get? b = some o') → s.heap.objs.size ≤ h'.objs.size → R (.ok (.ret (.ref h'.objs.size))) { s with heap := h'.push (tobj us 0) }) :=
  .of_wp fun prog w A R s ⟨ho, h⟩ => by
    have hb' : us.toArray.size ≤ sizeLine := by rw [List.size_toArray, sizeLine_eq]; exact hb
    have hT : s.TypeIs (.ref l) "list" := ⟨o, ho, hc⟩
    have col : ∀ {A : Around} {Q : List Value → Shared → Prop} {E : Value → Shared → Prop}, (∀ h' : Heap, (∀ b o', s.heap.get? b = some o' → h'.get? b = some o') → s.heap.objs.size ≤ h'.objs.size → Q us { s with heap := h' }) →
        wpAny (model prog w) A (collect (.ref l)) Q E s := fun hq =>
      wpAny_mono (wpAny_size (wpAny_collect_seq (E := fun _ _ => False) (Q := fun r s' => ∃ h', r = us ∧ s' = { s with heap := h' } ∧ ∀ b o', s.heap.get? b = some o' → h'.get? b = some o') l (.inl rfl) ho hc hd (fun h' hk => ⟨h', rfl, rfl, hk⟩) hb'))
        (fun r s' ⟨hz, h', e1, e2, hk⟩ => by subst e1 e2; exact hq h' hk hz) fun _ _ e => e.elim
    have hsub := sub_tuple_self
    have hinit := init_tuple_lookup
    have hmh := madeHere_tuple
    wp_walk using AutoSeq1.wpAny_loadPart' ho, wpAny_typeOf hT, col
    intro h' hk hz
    show wpAny _ _ (Builtin.Tuple.tupleExact us.toArray >>= fun v => ret v) _ _ _
    exact wpAny_bind (wpAny_newObj_type (wpAny_pure ⟨_, rfl, h h' hk hz⟩) hb')
/-- the tuple of a list -/
theorem CallD.tuple {xs : List D} (hl : Lst σ d xs) (hb : xs.length ≤ 16777216) : CallD w h₀ A (.type "tuple") [d] σ (.tup xs) σ := fun x vs ok hr s hs => by
  obtain ⟨v, rfl, hv⟩ := hr.one
  obtain ⟨a, us, n, rfl, hg, hus⟩ := hl.at ok hv
  have main : wpAny (model prog w) A (call (.type "tuple") [.ref a]) (fun r s' => ∃ h' : Heap, (∀ b o, x.h.get? b = some o → h'.get? b = some o) ∧ x.h.objs.size ≤ h'.objs.size ∧ r = .ref h'.objs.size ∧ s' = { s with heap := h'.push (tobj us 0) }) (fun _ _ => False) s :=
    callType_new F.called_tuple (by decide) (F.typeCall_tuple_1 _) (F.newCall_tuple_1 _) (fun obj => F.args_object_init_2 obj _) F.entry_tuple_new
      (tuple_of_list a (lobj us n) us n rfl rfl (by rw [hus.length]; exact hb)) ⟨hs ▸ hg, fun h' hk hz => ⟨⟨_, Heap.get?_push_size _ rfl, rfl⟩, h', fun b o e => hk b o (hs ▸ e), hs ▸ hz, rfl, rfl⟩⟩
  refine wpAny_mono main (fun r s' ⟨h', hk, hz, e1, e2⟩ => ?_) fun _ _ e => e
  subst e1 e2
  have hz' : x.h.objs.size ≤ h'.objs.size + 1 := by omega
  obtain ⟨ok', af⟩ := ok.more (h' := h'.push (tobj us 0)) (fun b o e => Heap.get?_push_of_some _ (hk b o e)) (by rw [Heap.size_push]; exact hz')
  refine ⟨_, s.toks, rfl, ok', af, .tup (fun hm => ?_) (Heap.get?_push_size _ rfl) (hus.grow (af.grow ok))⟩
  exact Nat.lt_irrefl _ (Nat.lt_of_lt_of_le (ok.lim _ hm) hz)
end
end Mine

/-! # F10 -/
namespace Mine
section
variable {w : World} {h₀ : Heap} {A : Around} {env : Env} {c : Key} {ck : List (Str × Key)} {σ σ' σ₁ σ₂ σ₃ σ₄ σ₅ : H} {d d₁ d₂ d₃ : D} {pos : Pos}

/-! ## items, read and written -/
noncomputable def GetD (w : World) (h₀ : Heap) (A : Around) (o i : D) (σ : H) (d : D) (σ' : H) : Prop :=
  ∀ x v u, Ok w h₀ σ x → Rep w x v o → Rep w x u i → Runs w h₀ A σ' x (getItem v u) (fun r y => Rep w y r d)
noncomputable def SetD (w : World) (h₀ : Heap) (A : Around) (o i d : D) (σ σ' : H) : Prop :=
  ∀ x v u t, Ok w h₀ σ x → Rep w x v o → Rep w x u i → Rep w x t d → Runs w h₀ A σ' x (setItem v u t) (fun _ _ => True)

theorem GetD.list {o : D} {xs : List D} {i : Int} {j : Nat} (hl : Lst σ o xs) (hb : xs.length ≤ sizeLine) (hi : (0 ≤ i ∧ i = j) ∨ (i < 0 ∧ i + xs.length = j)) (hx : xs[j]? = some d) :
    GetD w h₀ A o (.int i) σ d σ := fun x v u ok hv hu s hs => by
  obtain ⟨a, vs, n, rfl, hg, hr⟩ := hl.at ok hv
  cases hu
  obtain ⟨y, hy, hry⟩ := hr.get hx
  have hil : s.heap.IsList a vs.toArray := ⟨_, hs ▸ hg, rfl, n, rfl⟩
  have hlen := hr.length
  have hj : j < xs.length := (List.getElem?_eq_some_iff.mp hx).1
  rw [sizeLine_eq] at hb
  rcases hi with ⟨h0, h1⟩ | ⟨h0, h1⟩
  · exact wpAny_getItem_list hil h0 (by omega) (by rw [h1]; simpa using hy) (Post.of' hs ok hry)
  · refine wpAny_getItem_list_neg hil h0 (by simp only [List.size_toArray]; omega) (by omega) ?_ (Post.of' hs ok hry)
    rw [show (i + ↑vs.toArray.size).toNat = j from by simp only [List.size_toArray]; omega]; simpa using hy

theorem Reps.set {x : Cfg} : ∀ {vs : List Value} {ds : List D} {j : Nat} {v : Value}, Reps w x vs ds → Rep w x v d → Reps w x (vs.set j v) (ds.set j d)
  | _, _, _, _, .nil, _ => .nil
  | _, _, 0, _, .cons _ b, h => .cons h b
  | _, _, _ + 1, _, .cons a b, h => .cons a (Reps.set b h)

theorem SetD.list {k : Key} {xs : List D} {i : Int} {j : Nat} (hk : σ k = some (.list xs)) (hb : xs.length ≤ sizeLine) (hi : (0 ≤ i ∧ i = j) ∨ (i < 0 ∧ i + xs.length = j)) (hj : j < xs.length) :
    SetD w h₀ A (.res k) (.int i) d σ (σ.set k (.list (xs.set j d))) := fun x v u t ok hv hu ht s hs => by
  cases hv with
  | res q ha =>
    rename_i a
    obtain ⟨b, h1, hM, _, vs, n, hg, hr⟩ := ok.live k _ hk
    rw [ha] at h1; cases h1
    cases hu
    have hlen := hr.length
    rw [sizeLine_eq] at hb
    have ho : s.heap.get? a = some (W.listOf vs.toArray n) := hs ▸ hg
    have fin : Post w h₀ (σ.set k (.list (xs.set j d))) x s (fun (_ : Unit) _ => True) () { s with heap := s.heap.update a (Obj.mapSeq (·.setIfInBounds j t)) } := by
      have e : Obj.mapSeq (·.setIfInBounds j t) (W.listOf vs.toArray n) = lobj (vs.set j t) (if vs.toArray.size == (vs.toArray.setIfInBounds j t).size then n else n + 1) := by
        simp [Obj.mapSeq, W.listOf]
      have hnew : (s.heap.update a (Obj.mapSeq (·.setIfInBounds j t))).get? a = some (lobj (vs.set j t) (if vs.toArray.size == (vs.toArray.setIfInBounds j t).size then n else n + 1)) := by
        rw [Heap.get?_update_self _ ho (by rw [e]; rfl), e]
      have hsb' : ∀ b o, b ≠ a → x.h.get? b = some o → (s.heap.update a (Obj.mapSeq (·.setIfInBounds j t))).get? b = some o := fun b o hb e => (Heap.get?_update_other _ _ (Ne.symm hb)).trans (hs ▸ e)
      have g : Grow x { x with h := s.heap.update a (Obj.mapSeq (·.setIfInBounds j t)) } := ⟨fun b o hb e => hsb' b o (fun q => hb (q ▸ hM)) e, fun _ _ e => e, fun _ _ e => e⟩
      obtain ⟨ok', af⟩ := ok.upd (sp := .list (xs.set j d)) ha hsb' (by rw [Heap.size_after_update, hs]; exact Nat.le_refl _) ⟨vs.set j t, _, hnew, (hr.grow g).set (ht.grow g)⟩
      exact ⟨_, s.toks, rfl, ok', af, trivial⟩
    rcases hi with ⟨h0, h1⟩ | ⟨h0, h1⟩
    · refine ki_setAt ho h0 (by omega) (by simp only [List.size_toArray]; omega) ?_
      rw [show i.toNat = j from by omega]; exact fin
    · refine ki_setBack ho h0 (by simp only [List.size_toArray]; omega) (by omega) ?_
      rw [show (i + ↑vs.toArray.size).toNat = j from by simp only [List.size_toArray]; omega]; exact fin

theorem Ex.setSub {o i e : Expr} {p : Pos} {od id : D} (he : Ev w h₀ A env c ck e σ d σ₁) (ho : Ev w h₀ A env c ck o σ₁ od σ₂) (hi : Ev w h₀ A env c ck i σ₂ id σ₃) (hst : SetD w h₀ A od id d σ₃ σ₄)
    (hs : swapsWith e (some (.Subscript o i p)) pos.line env = pure false) : Ex w h₀ A env c ck (.Assign [.Subscript o i p] e pos) σ .next σ₄ := fun x ok en s hh =>
  wpAny_Assign_Subscript ((he x ok en).next hh fun v y tk oky af rv => (ho y oky (en.after af)).next rfl fun u z tk' okz af' ru => (hi z okz ((en.after af).after af')).next rfl fun t q tk'' okq af'' rt =>
    (hst q u t v okq (ru.grow (af''.grow okz)) rt ((rv.grow (af'.grow oky)).grow (af''.grow okz))).lastM s tk'' ((af.trans af').trans af'') (fun f y => FRep w y f .next) (fun _ => Flow.next) fun _ _ _ _ _ => trivial) hs

theorem Ex.augSub {o i e : Expr} {op : Operator} {p : Pos} {od id : D} (ho : Ev w h₀ A env c ck o σ od σ₁) (hi : Ev w h₀ A env c ck i σ₁ id σ₂) (hg : GetD w h₀ A od id σ₂ d₁ σ₂) (he : Ev w h₀ A env c ck e σ₂ d₂ σ₃)
    (hp : Inp w h₀ A op d₁ d₂ σ₃ d₃ σ₄) (hst : SetD w h₀ A od id d₃ σ₄ σ₅)
    (ha : ∀ ov iv new, augStore i ov iv new = (do holding [new, ov, iv] (setItem ov iv new); release [new, ov, iv] []; pure .next)) :
    Ex w h₀ A env c ck (.AugAssign (.Subscript o i p) op e pos) σ .next σ₅ := fun x ok en s hh =>
  wpAny_AugAssign_Subscript_any ((ho x ok en).next hh fun v y tk oky af rv => (hi y oky (en.after af)).next rfl fun u z tk' okz af' ru => (hg z v u okz (rv.grow (af'.grow oky)) ru).next rfl fun old z1 tk1 ok1 af1 r1 =>
    (he z1 ok1 (((en.after af).after af').after af1)).next rfl fun n z2 tk2 ok2 af2 r2 => (hp z2 old n ok2 (r1.grow (af2.grow ok1)) r2).next rfl fun r z3 tk3 ok3 af3 r3 =>
      (hst z3 v u r ok3 ((((rv.grow (af'.grow oky)).grow (af1.grow okz)).grow (af2.grow ok1)).grow (af3.grow ok2)) (((ru.grow (af1.grow okz)).grow (af2.grow ok1)).grow (af3.grow ok2)) r3).lastM s tk3
        ((((af.trans af').trans af1).trans af2).trans af3) (fun f y => FRep w y f .next) (fun _ => Flow.next) fun _ _ _ _ _ => trivial) ha

/-- a slice with a step -/
theorem Ev.sliceStep {value st : Expr} {lower upper : Option Expr} {p : Pos} {o : D} {xs : List D} {lo hi : Option Int} {k : Int} (hv : Ev w h₀ A env c ck value σ o σ₁) (hlo : Prt w h₀ A env c ck lower σ₁ lo σ₂) (hhi : Prt w h₀ A env c ck upper σ₂ hi σ₃)
    (hst : Prt w h₀ A env c ck (some st) σ₃ (some k) σ₄) (hl : Lst σ₄ o xs) (hb : xs.length ≤ sizeLine) (hk : k ≠ 0) (m : Made σ₄ (dpick xs lo hi (some k)) d σ') (ht : ∀ o r, letTemporaryGo value o r = pure ()) :
    Ev w h₀ A env c ck (.Subscript value (.Slice lower upper (some st) p) pos) σ d σ' := fun x ok en s hs =>
  wpAny_Subscript_Slice_step slot_list_getitem.lookup ((hv x ok en).next hs fun v y tk oky af rv => wpAny_Slice ((hlo y oky (en.after af)).next rfl fun vl z tk' okz af' pl => (hhi z okz ((en.after af).after af')).next rfl fun vu q tk'' okq af'' pu =>
    (hst q okq (((en.after af).after af').after af'')).next rfl fun vs q2 tk2 ok2 af2 ps => by
    have rv' := ((rv.grow (af'.grow oky)).grow (af''.grow okz)).grow (af2.grow okq)
    obtain ⟨a, us, n, rfl, hg, hr⟩ := hl.at ok2 rv'
    obtain ⟨ts, hts, hrs⟩ := slicePick_reps hr lo hi (some k)
    have keep : ∀ b o, q2.h.get? b = some o → (q2.h.push { cls := .type "slice", data := .fields #[vl, vu, vs] }).get? b = some o := fun b o e => Heap.get?_push_of_some _ e
    obtain ⟨ok3, af3⟩ := ok2.more keep (by rw [Heap.size_push]; exact Nat.le_succ _)
    refine ⟨⟨_, keep _ _ hg, rfl⟩, wpAny_getItem_list_slice (items := us.toArray) ⟨_, keep _ _ hg, rfl, n, rfl⟩ (Heap.IsSliceOf.new _ _ _ _) pl pu ps (by simpa using hk) ?_ (by rw [List.size_toArray, hr.length]; exact hb)⟩
    obtain ⟨y', hy', ok4, af4, r4⟩ := m.push (n := 0) ok3 (hrs.grow (af3.grow ok2))
    refine ⟨y', tk2, ?_, ok4, ((((af.trans af').trans af'').trans af2).trans af3).trans af4, r4⟩
    rw [hy', hts])) ht

/-! ## comparing lists -/
mutual
inductive Pd (σ : H) : D → PyData → Prop
  | int {i} : Pd σ (.int i) (.int i)
  | str {s} : Pd σ (.str s) (.str s)
  | list {d xs ps} : Lst σ d xs → Pds σ xs ps → Pd σ d (.list ps)
  | tup {xs ps} : Pds σ xs ps → Pd σ (.tup xs) (.tuple ps)
inductive Pds (σ : H) : List D → List PyData → Prop
  | nil : Pds σ [] []
  | cons {d ds p ps} : Pd σ d p → Pds σ ds ps → Pds σ (d :: ds) (p :: ps)
end
mutual
theorem Pd.reads {x : Cfg} (ok : Ok w h₀ σ x) : ∀ {d p}, Pd σ d p → ∀ {v}, Rep w x v d → ∃ as, Reads x.h v p as
  | _, _, .int, _, h => by cases h; exact ⟨_, .int _ _⟩
  | _, _, .str, _, h => by cases h; exact ⟨_, .str _ _⟩
  | _, _, .list hl hp, _, h => by
    obtain ⟨a, vs, n, rfl, hg, hr⟩ := hl.at ok h
    obtain ⟨as, h1⟩ := Pds.reads ok hp hr
    exact ⟨_, .list hg rfl rfl h1⟩
  | _, _, .tup hp, _, h => by
    obtain ⟨a, vs, n, rfl, _, hg, hr⟩ := h.asTup
    obtain ⟨as, h1⟩ := Pds.reads ok hp hr
    exact ⟨_, .tuple hg rfl rfl h1⟩
theorem Pds.reads {x : Cfg} (ok : Ok w h₀ σ x) : ∀ {ds ps}, Pds σ ds ps → ∀ {vs}, Reps w x vs ds → ∃ as, ReadsAll x.h vs ps as
  | _, _, .nil, _, h => by cases h; exact ⟨_, .nil⟩
  | _, _, .cons a b, _, h => by
    cases h with
    | cons h1 h2 =>
      obtain ⟨as, r1⟩ := Pd.reads ok a h1
      obtain ⟨bs, r2⟩ := Pds.reads ok b h2
      exact ⟨_, .cons r1 r2⟩
end
theorem Pds.ints : ∀ {ns : List Int}, Pds σ (ns.map .int) (ns.map .int)
  | [] => .nil
  | _ :: _ => .cons .int Pds.ints
theorem Pds.strs : ∀ {ns : List Str}, Pds σ (ns.map .str) (ns.map .str)
  | [] => .nil
  | _ :: _ => .cons .str Pds.strs

theorem Cmp.eqL {p₁ p₂ : PyData} {n : Nat} (h1 : Pd σ d₁ p₁) (h2 : Pd σ d₂ p₂) (s1 : SeqAt.shaped p₁ = true) (s2 : SeqAt.shaped p₂ = true) (cap : Cap A n) : Cmp w h₀ A .Eq d₁ d₂ σ (p₁.eqv p₂) σ := fun x v u ok hv hu s hs => by
  obtain ⟨as, r1⟩ := h1.reads ok hv
  obtain ⟨bs, r2⟩ := h2.reads ok hu
  exact eq_dataH (hs ▸ r1) (hs ▸ r2) s1 s2 cap.cLine (Post.of' hs ok rfl)
theorem Cmp.neL {p₁ p₂ : PyData} {n : Nat} (h1 : Pd σ d₁ p₁) (h2 : Pd σ d₂ p₂) (s1 : SeqAt.shaped p₁ = true) (s2 : SeqAt.shaped p₂ = true) (cap : Cap A n) : Cmp w h₀ A .NotEq d₁ d₂ σ (!p₁.eqv p₂) σ := fun x v u ok hv hu s hs => by
  obtain ⟨as, r1⟩ := h1.reads ok hv
  obtain ⟨bs, r2⟩ := h2.reads ok hu
  exact ne_dataH (hs ▸ r1) (hs ▸ r2) s1 s2 cap.cLine (Post.of' hs ok rfl)
theorem Cmp.inInts {ns : List Int} {i : Int} (hl : Lst σ d (ns.map .int)) : Cmp w h₀ A .In (.int i) d σ (ns.any (· == i)) σ := fun x v u ok hv hu s hs => by
  obtain ⟨a, us, n, rfl, hg, hus⟩ := hl.at ok hu
  cases hv
  exact in_list_ints ⟨_, hs ▸ hg, rfl, n, rfl⟩ hus.ints (Post.of' hs ok rfl)

/-! ## truth -/
theorem Tst.list {e : Expr} {xs : List D} (hp : ∀ env t, isTrue e env t = (do let v ← t; standAt e.pos; holding [v] (truthy v))) (h : Ev w h₀ A env c ck e σ d σ₁) (hl : Lst σ₁ d xs) (hb : xs.length ≤ sizeLine) : Tst w h₀ A env c ck e σ (!xs.isEmpty) σ₁ := fun x ok en s hs =>
  wpAny_isTrue_value ((h x ok en).next hs fun v y tk oky af rv => by
    obtain ⟨a, us, n, rfl, hg, hr⟩ := hl.at oky rv
    rw [sizeLine_eq] at hb
    have hlen := hr.length
    refine wpAny_truthy_list (items := us.toArray) ⟨_, hg, rfl, n, rfl⟩ (by simp only [List.size_toArray]; omega) ⟨y, _, rfl, oky, af, ?_⟩
    cases us <;> cases xs <;> simp_all) (hp _ _)

/-! ## unpacking -/
theorem Tgt.tup2 {t₁ t₂ : Expr} {k : Nat} {p : Pos} (hh : A.handled = none) (h1 : Tgt w h₀ A env c ck t₁ d₁ σ σ₁) (h2 : Tgt w h₀ A env c ck t₂ d₂ σ₁ σ₂)
    (hn : (assignEach [t₁, t₂] env).length = 2) (hst : List.findIdx? (fun x => x.fst) (assignEach [t₁, t₂] env) = none) (hm : List.map (fun x => x.snd) (assignEach [t₁, t₂] env) = [assign t₁ env, assign t₂ env]) :
    Tgt w h₀ A env c ck (.Tuple [t₁, t₂] k p) (.tup [d₁, d₂]) σ σ₂ := fun x v ok en rv s hs => by
  obtain ⟨a, vs, n, rfl, hM, hg, hr⟩ := rv.asTup
  obtain ⟨v₁, v₂, rfl, r1, r2⟩ := hr.two
  have main : wpAny (model prog w) A (assign (.Tuple [t₁, t₂] k p) env (.ref a)) (Post w h₀ σ₂ x s fun _ _ => True) (fun _ _ => False) s := by
    rw [assign_Tuple]
    refine wpAny_bind (wpAny_standAt ?_)
    unfold unpack
    rw [hn, hst, hm]
    refine wpAny_bind (wpAny_holding (wpAny_mono (wpAny_size (unpackItems_tuple (items := #[v₁, v₂]) (E := fun _ _ => False) (Q := fun r s' => ∃ h', r = [v₁, v₂] ∧ s' = { s with heap := h' } ∧ ∀ b o, x.h.get? b = some o → h'.get? b = some o) hh ⟨_, hs ▸ hg, rfl, n, rfl⟩ fun h' he => ⟨h', rfl, rfl, fun b o e => ?_⟩)) (fun r s' ⟨hz, h', e1, e2, hk⟩ => ?_) fun _ _ e => e))
    · exact he b o (Nat.ne_of_lt (Heap.lt_size (hs ▸ e))) (hs ▸ e)
    subst e1 e2
    obtain ⟨ok1, af1⟩ := ok.more hk (by rw [← hs]; exact hz)
    refine wpAny_assignInOrder_more ((h1 _ v₁ ok1 (en.after af1) (r1.grow (af1.grow ok))).next rfl fun _ y tk oky af _ => wpAny_assignInOrder_more ((h2 y v₂ oky ((en.after af1).after af) ((r2.grow (af1.grow ok)).grow (af.grow ok1))).next rfl fun _ z tk' okz af' _ => wpAny_assignInOrder_none ?_))
    exact ⟨z, tk', rfl, okz, (af1.trans af).trans af', trivial⟩
  exact main
theorem Ex.assignTup {elts : List Expr} {k : Nat} {tpos : Pos} {e : Expr} (he : Ev w h₀ A env c ck e σ d σ₁) (ht : Tgt w h₀ A env c ck (.Tuple elts k tpos) d σ₁ σ₂)
    (hs : swapsWithSole [.Tuple elts k tpos] e pos.line env = pure false) (hw : swappedStores [.Tuple elts k tpos] e env = pure none) :
    Ex w h₀ A env c ck (.Assign [.Tuple elts k tpos] e pos) σ .next σ₂ := fun x ok en s hh =>
  Assign_Tuple ((he x ok en).next hh fun v y tk oky af rv => (ht y v oky (en.after af) rv).lastM s tk af (fun f y => FRep w y f .next) (fun _ => Flow.next) fun _ _ _ _ _ => trivial) hs hw

/-! ## from a list's end to its start -/
theorem Proto.rev {I ax : Addr} {ds : List D} (hh : A.handled = none) (hne : ax ≠ I) :
    Proto w h₀ A I ds.reverse (fun σ => Lst σ d ds) (fun i y => y.h.IsRevIter I ax ((ds.length : Int) - 1 - i) ∧ Rep w y (.ref ax) d) where
  still := fun i y y' ⟨⟨o, h1, h2⟩, hr⟩ g hk => ⟨⟨o, hk _ h1, h2⟩, hr.grow g⟩
  item := fun i σ y s Q d' hi ok hM hα hl ⟨hit, hr⟩ hs hQ => by
    obtain ⟨a, vs, n, e, hg, hrs⟩ := hl.at ok hr
    cases e
    have hlt : i < ds.length := by simpa using (List.getElem?_eq_some_iff.mp hi).1
    have hi' : ds[ds.length - 1 - i]? = some d' := by rw [List.getElem?_reverse hlt] at hi; exact hi
    obtain ⟨v, hv, hrv⟩ := hrs.get hi'
    have e1 : (ds.length : Int) - 1 - i = ((ds.length - 1 - i : Nat) : Int) := by omega
    rw [e1] at hit
    refine wpAny_pyNext_rev_item (hs ▸ hit) (items := vs.toArray) ⟨_, hs ▸ hg, rfl, n, rfl⟩ (x := v) (by simpa using hv) fun h' hit' hsb => ?_
    have hsb' : ∀ b o, b ≠ I → y.h.get? b = some o → h'.get? b = some o := fun b o hb e => (hsb.2 b hb).trans (hs ▸ e)
    have hsz : y.h.objs.size ≤ h'.objs.size := by rw [← hs]; exact Nat.le_of_eq hsb.1.symm
    obtain ⟨_, g⟩ := ok.aside hM hα hsb' hsz
    refine hQ v h' s.toks hsb' hsz (hrv.grow g) ⟨?_, hr.grow g⟩
    rw [show (ds.length : Int) - 1 - ((i + 1 : Nat) : Int) = ((ds.length - 1 - i : Nat) : Int) - 1 from by omega]; exact hit'
  self := fun i y s Q ⟨hit, _⟩ hs hQ => wpAny_pyIter_revIter (hs ▸ hit) hQ
  done := fun σ y s Q ok hM hα hl ⟨hit, hr⟩ hs hQ => by
    have e1 : (ds.length : Int) - 1 - ((ds.reverse.length : Nat) : Int) = -1 := by rw [List.length_reverse]; omega
    rw [e1] at hit
    have h1 : wpAny (model prog w) A (pyNext (.ref I)) (fun r s' => ∃ h', r = none ∧ s' = { s with heap := h' } ∧ Heap.ExtBut I s.heap h') (fun _ _ => False) s :=
      wpAny_pyNext_rev_end hh (hs ▸ hit) fun h' he => ⟨h', rfl, rfl, he⟩
    refine wpAny_mono (wpAny_size h1) (fun r s' ⟨hz, h', e, e', he⟩ => ?_) fun _ _ e => e
    subst e e'
    exact hQ h' s.toks (fun b o hb e => he b o hb (hs ▸ e)) (by rw [← hs]; exact hz)
/-- what `reversed` of a list gives: it is for one loop alone -/
theorem Itr.rev {func e : Expr} {ds : List D} {p : Pos} (hf : Ev w h₀ A env c ck func σ (.val (.type "reversed")) σ₁) (he : Ev w h₀ A env c ck e σ₁ d σ₂) (hl : Lst σ₂ d ds) (hh : A.handled = none)
    (hc : ∀ env, eval (.Call func [e] [] p) env = (do callWith p (← eval func env) [] (backTo p (starEach [e] env)) (backToKw p (keywordEach [] env))))
    (hq : starEach [e] env = (false, eval e env) :: starEach [] env) (hp : (backTo p (starEach [] env)).any (·.1) = false) :
    Itr w h₀ A (eval (.Call func [e] [] p) env) env c ck σ ds.reverse (fun σ => Lst σ d ds) σ₂ := fun x ok en s hs =>
  Call_ ((hf x ok en).next hs fun v y tk oky af rv => by
    cases rv
    refine PyProof.Rows.callWith_type1 ?_ hq hp
    refine (Evs.cons he Evs.nil hq p y oky (en.after af)).next rfl fun vs z tk' okz af' rvs => ?_
    obtain ⟨v, rfl, hv⟩ := rvs.one
    obtain ⟨a, us, n, rfl, hg, hrs⟩ := hl.at okz hv
    refine call_reversed_list (items := us.toArray) ⟨_, hg, rfl, n, rfl⟩ ?_
    dsimp only
    have keep : ∀ b o, z.h.get? b = some o → (z.h.push (revObj a ((us.toArray.size : Int) - 1))).get? b = some o := fun b o e => Heap.get?_push_of_some _ e
    have hsz : z.h.objs.size ≤ (z.h.push (revObj a ((us.toArray.size : Int) - 1))).objs.size := by rw [Heap.size_push]; exact Nat.le_succ _
    obtain ⟨ok', af'', hn⟩ := okz.mark (I := z.h.objs.size) (h' := z.h.push (revObj a ((us.toArray.size : Int) - 1))) (Nat.le_refl _) (by rw [Heap.size_push]; exact Nat.lt_succ_self _) keep hsz
    have hit : (z.h.push (revObj a ((us.toArray.size : Int) - 1))).IsRevIter z.h.objs.size a ((us.toArray.size : Int) - 1) := ⟨_, Heap.get?_push_size _ rfl, rfl, rfl⟩
    refine wpAny_pyIter_revIter hit ⟨_, _, tk', _, rfl, rfl, ok', (af.trans af').trans af'', .inr rfl, hn, Nat.le_trans af.size af'.size, ⟨?_, hv.grow (af''.grow okz)⟩, Proto.rev hh (Nat.ne_of_lt (Heap.lt_size hg))⟩
    rw [show (ds.length : Int) - 1 - ((0 : Nat) : Int) = (us.toArray.size : Int) - 1 from by rw [List.size_toArray, hrs.length]; omega]; exact hit) (hc env)
end
end Mine

/-! # F11 -/
namespace Mine
section
variable {w : World} {h₀ : Heap} {A : Around} {env : Env} {c : Key} {ck : List (Str × Key)} {σ σ' σ₁ σ₂ σ₃ σ₄ σ₅ : H} {d d₁ d₂ d₃ : D} {pos : Pos}

/-! ## dicts from ints to ints -/
noncomputable def DictL (σ : H) (d : D) (kvs : List (Int × Int)) : Prop := d = .dict kvs ∨ ∃ k, d = .res k ∧ σ k = some (.dict kvs)
theorem DictL.at {x : Cfg} {v : Value} {kvs : List (Int × Int)} (ok : Ok w h₀ σ x) (hl : DictL σ d kvs) (hv : Rep w x v d) : ∃ a o, v = .ref a ∧ (a == sysModules) = false ∧ x.h.get? a = some o ∧ DictObj w o kvs := by
  rcases hl with rfl | ⟨k, rfl, hk⟩
  · cases hv with
    | dict hm hq hg hr => exact ⟨_, _, rfl, hq, hg, hr⟩
  · cases hv with
    | res q ha =>
      obtain ⟨b, h1, _, _, h2, o, h3, h4⟩ := ok.live k _ hk
      rw [ha] at h1; cases h1
      exact ⟨_, o, rfl, h2, h3, h4⟩
inductive MadeD (σ : H) (kvs : List (Int × Int)) : D → H → Prop
  | frozen : MadeD σ kvs (.dict kvs) σ
  | key {k : Key} : k.isFr = false → σ k = none → MadeD σ kvs (.res k) (σ.set k (.dict kvs))
theorem MadeD.put {x : Cfg} {kvs : List (Int × Int)} {o : Obj} {a : Addr} {h' : Heap} (m : MadeD σ kvs d σ') (ok : Ok w h₀ σ x) (hk : ∀ b o, x.h.get? b = some o → h'.get? b = some o) (hsz : x.h.objs.size ≤ h'.objs.size) (hge : x.h.objs.size ≤ a)
    (hq : (a == sysModules) = false) (hg : h'.get? a = some o) (hr : DictObj w o kvs) :
    ∃ y : Cfg, y.h = h' ∧ Ok w h₀ σ' y ∧ After x y ∧ Rep w y (.ref a) d := by
  cases m with
  | frozen =>
    obtain ⟨ok', af⟩ := ok.more hk hsz
    exact ⟨_, rfl, ok', af, .dict (fun hm => Nat.lt_irrefl _ (Nat.lt_of_lt_of_le (ok.lim _ hm) hge)) hq hg hr⟩
  | key hf hk' =>
    rename_i k
    have hα := ok.noname hk'
    have g : Grow x (x.named k a h') := ⟨fun b o _ e => hk b o e, fun b hb hm h => h.elim hm (fun q => Nat.lt_irrefl _ (Nat.lt_of_lt_of_le hb (q ▸ hge))), fun k' b e => by
      show (if k' = k then some _ else x.α k') = some b
      rw [if_neg (by rintro rfl; rw [hα] at e; cases e)]; exact e⟩
    obtain ⟨ok', af⟩ := ok.alloc (sp := .dict kvs) hk' hk hsz hge (Heap.lt_size hg) ⟨hq, o, hg, hr⟩
    exact ⟨_, rfl, ok', af, .res hf (if_pos rfl)⟩

theorem notModules {x : Cfg} (hl : h₀.NoLimit) (ok : Ok w h₀ σ x) : (x.h.objs.size == sysModules) = false := by
  have h1 := modules_low (hl.keeps ok.base)
  rw [beq_eq_false_iff_ne]
  exact fun e => by rw [e] at h1; exact Nat.lt_irrefl _ h1

theorem Ev.dictNil (hl : h₀.NoLimit) (m : MadeD σ [] d σ') : Ev w h₀ A env c ck (.Dict [] [] pos) σ d σ' := fun x ok en s hs => by
  obtain ⟨o, ho, hd⟩ := Heap.dictOf_iff.mp (Heap.DictOf.new (knd := intKind prog w) x.h)
  obtain ⟨y, hy, ok', af, r⟩ := m.put ok (fun b o e => Heap.get?_push_of_some _ e) (by rw [Heap.size_push]; exact Nat.le_succ _) (Nat.le_refl _) (notModules hl ok) ho ⟨[], hd, .nil⟩
  exact wpAny_Dict_empty ⟨y, s.toks, by rw [hy, hs], ok', af, hs ▸ r⟩

/-- a marked place, changed for the last time: it is frozen -/
noncomputable def Cfg.unmark (y : Cfg) (I : Addr) (h' : Heap) : Cfg := { M := fun b => y.M b ∧ b ≠ I, α := y.α, h := h' }
theorem Ok.unmark {y : Cfg} {I : Addr} {h' : Heap} (ok : Ok w h₀ σ y) (hM : y.M I) (hα : ∀ k, y.α k ≠ some I) (hh : ∀ b o, b ≠ I → y.h.get? b = some o → h'.get? b = some o) (hsz : y.h.objs.size ≤ h'.objs.size) :
    Ok w h₀ σ (y.unmark I h') ∧ Grow y (y.unmark I h') := by
  have g : Grow y (y.unmark I h') := ⟨fun b o hb e => hh b o (fun q => hb (q ▸ hM)) e, fun b _ hb h => hb h.1, fun _ _ e => e⟩
  refine ⟨⟨fun b o e => hh b o (fun q => by rw [q, ok.off I hM] at e; cases e) (ok.base b o e), fun b hb => ok.off b hb.1, fun k sp h => ?_, ok.dom, ok.inj, fun b hb => Nat.lt_of_lt_of_le (ok.lim b hb.1) hsz⟩, g⟩
  obtain ⟨b, h1, h2, h3, h4⟩ := ok.live k sp h
  have hne : b ≠ I := fun q => hα k (q ▸ h1)
  exact ⟨b, h1, ⟨h2, hne⟩, Nat.lt_of_lt_of_le h3 hsz, h4.grow g fun o ho => hh b o hne ho⟩
theorem After.unmark {x y : Cfg} {I : Addr} {h' : Heap} (a : After x y) (hge : x.h.objs.size ≤ I) (hh : ∀ b o, b ≠ I → y.h.get? b = some o → h'.get? b = some o) (hsz : y.h.objs.size ≤ h'.objs.size) : After x (y.unmark I h') :=
  ⟨Nat.le_trans a.size hsz, fun b o hb e => hh b o (fun q => Nat.lt_irrefl _ (Nat.lt_of_lt_of_le (Heap.lt_size e) (q ▸ hge))) (a.keep b o hb e),
    fun b hb hnb => Iff.trans ⟨fun h => h.1, fun h => ⟨h, fun q => Nat.lt_irrefl _ (Nat.lt_of_lt_of_le hb (q ▸ hge))⟩⟩ (a.marks b hb hnb), a.names, a.fresh⟩

theorem Ev.dictOne {k v : Expr} {a b : Int} (hl : h₀.NoLimit) (hk : Ev w h₀ A env c ck k σ (.int a) σ₁) (hv : Ev w h₀ A env c ck v σ₁ (.int b) σ₂) :
    Ev w h₀ A env c ck (.Dict [some k] [v] pos) σ (.dict [(a, b)]) σ₂ := fun x ok en s hs => by
  have hx := notModules hl ok
  have hnew : (x.h.push { cls := .type "dict", data := .dict #[] }).DictOf (intKind prog w) x.h.objs.size [] := Heap.DictOf.new _
  obtain ⟨ok1, af1, hn1⟩ := ok.mark (I := x.h.objs.size) (h' := x.h.push { cls := .type "dict", data := .dict #[] }) (Nat.le_refl _) (by rw [Heap.size_push]; exact Nat.lt_succ_self _) (fun b o e => Heap.get?_push_of_some _ e) (by rw [Heap.size_push]; exact Nat.le_succ _)
  refine wpAny_Dict_walk (knd := intKind prog w) rfl rfl (List.cons_ne_nil _ _) (show 1 ≤ 15 by decide) (pairTrees_cons_walk ?_)
  rw [hs]
  refine (hk _ ok1 (en.after af1)).next rfl fun kv y tk oky af2 rk => (hv y oky ((en.after af1).after af2)).next rfl fun vv z tk' okz af3 rv => pairTrees_nil_walk ⟨[(a, vv)], ?_, ?_, ?_⟩
  · cases rk; exact ⟨intKind_is _ _ _ _, rfl, trivial⟩
  · have hown : ¬ own (x.mark x.h.objs.size (x.h.push { cls := .type "dict", data := .dict #[] })) x.h.objs.size := fun ⟨k, hk⟩ => hn1 k hk
    obtain ⟨o, es, ep, ho, r⟩ := hnew
    exact ⟨o, es, ep, (af2.trans af3).keep _ _ hown ho, r⟩
  · intro h' hd hsb
    have a23 := af2.trans af3
    have hown : ¬ own (x.mark x.h.objs.size (x.h.push { cls := .type "dict", data := .dict #[] })) x.h.objs.size := fun ⟨k, hk⟩ => hn1 k hk
    have hM : z.M x.h.objs.size := (a23.marks _ (by show _ < (x.h.push _).objs.size; rw [Heap.size_push]; exact Nat.lt_succ_self _) hown).mpr (.inr rfl)
    have hα : ∀ k, z.α k ≠ some x.h.objs.size := fun k hk => by
      rcases a23.fresh k _ hk with q | q
      · exact hn1 k q
      · have q' : (x.h.push { cls := .type "dict", data := .dict #[] }).objs.size ≤ x.h.objs.size := q
        rw [Heap.size_push] at q'; exact Nat.lt_irrefl _ q'
    have hk' : ∀ b o, b ≠ x.h.objs.size → z.h.get? b = some o → h'.get? b = some o := fun b o hb e => (hsb.2 b hb).trans e
    obtain ⟨ok4, g4⟩ := okz.unmark hM hα hk' (Nat.le_of_eq hsb.1.symm)
    obtain ⟨o, ho, hd'⟩ := Heap.dictOf_iff.mp hd
    refine ⟨_, _, rfl, ok4, (af1.trans a23).unmark (Nat.le_refl _) hk' (Nat.le_of_eq hsb.1.symm), .dict (fun h => h.2 rfl) hx ho ⟨_, hd', ?_⟩⟩
    cases rv
    exact .cons ⟨rfl, _, rfl⟩ .nil

/-! ## values and items -/
theorem IntVals.get {kv : List (Int × Value)} {kvs : List (Int × Int)} (h : IntVals kv kvs) : ∀ {i : Nat} {p : Int × Int}, kvs[i]? = some p → ∃ t, kv[i]? = some (p.1, .int p.2 t) := by
  induction h with
  | nil => intro i p e; simp at e
  | cons h _ ih =>
    intro i p e
    cases i with
    | zero =>
      simp only [List.getElem?_cons_zero, Option.some.injEq] at e ⊢
      subst e
      obtain ⟨h1, t, h2⟩ := h
      exact ⟨t, by rw [← h1, ← h2]⟩
    | succ i => simp only [List.getElem?_cons_succ] at e ⊢; exact ih e

theorem Obj.dictAt {o : Obj} {kv : List (Int × Value)} (h : o.IsDictOf (intKind prog w) kv) : ∃ ep, ∀ (hp : Heap) a, hp.get? a = some o → Heap.DictAt (intKind prog w) hp a kv ep :=
  let ⟨es, ep, h⟩ := h; ⟨ep, fun _ _ e => ⟨o, es, e, h⟩⟩

noncomputable def valL (kvs : List (Int × Int)) : List D := kvs.map fun p => .int p.2
noncomputable def itemL (kvs : List (Int × Int)) : List D := kvs.map fun p => .tup [.int p.1, .int p.2]

/-- an iterator that hands out its own tuples -/
structure ProtoT (w : World) (h₀ : Heap) (A : Around) (I : Addr) (target : Expr) (ds : List D) (C : H → Prop) (J : Nat → Cfg → Prop) : Prop where
  still : ∀ i y y', J i y → Grow y y' → (∀ o, y.h.get? I = some o → y'.h.get? I = some o) → J i y'
  item : ∀ i σ y (s : Shared) (Q : Value → Shared → Prop) (d : D), ds[i]? = some d → Ok w h₀ σ y → y.M I → (∀ k, y.α k ≠ some I) → C σ → J i y → s.heap = y.h →
    (∀ v h' tk, (∀ b o, b ≠ I → y.h.get? b = some o → h'.get? b = some o) → y.h.objs.size ≤ h'.objs.size → Rep w { y with h := h' } v d → J (i + 1) { y with h := h' } → Q v { s with heap := h', toks := tk }) →
    wpAny (model prog w) A (pyNext (.ref I)) (fun r s₁ => ∃ v, r = some v ∧ wpAny (model prog w) A (letOwnedTupleGo target (.ref I) v) (fun _ s₂ => Q v s₂) (fun _ _ => False) s₁) (fun _ _ => False) s
  done : ∀ σ y (s : Shared) (Q : Option Value → Shared → Prop), Ok w h₀ σ y → y.M I → (∀ k, y.α k ≠ some I) → C σ → J ds.length y → s.heap = y.h →
    (∀ h' tk, (∀ b o, b ≠ I → y.h.get? b = some o → h'.get? b = some o) → y.h.objs.size ≤ h'.objs.size → Q none { s with heap := h', toks := tk }) → wpAny (model prog w) A (pyNext (.ref I)) Q (fun _ _ => False) s

theorem ProtoT.values {I ax : Addr} {target : Expr} {o : Obj} {kv : List (Int × Value)} {kvs : List (Int × Int)} {ep : Nat} (hh : A.handled = none) (htg : ∀ it v, letOwnedTupleGo target it v = pure ()) (hne : ax ≠ I) (hv : IntVals kv kvs) (hd : ∀ (hp : Heap) a, hp.get? a = some o → Heap.DictAt (intKind prog w) hp a kv ep) :
    ProtoT w h₀ A I target (valL kvs) (fun _ => True) (fun i y => y.h.IsValIter I ax i kv.length ep ∧ y.h.get? ax = some o ∧ ¬ y.M ax) where
  still := fun i y y' ⟨⟨o, h1, h2⟩, hr, hM⟩ g hk => ⟨⟨o, hk _ h1, h2⟩, g.keep _ _ hM hr, g.still _ (Heap.lt_size hr) hM⟩
  item := fun i σ y s Q d' hi ok hM hα _ ⟨hit, hr, hMx⟩ hs hQ => by
    unfold valL at hi
    rw [List.getElem?_map, Option.map_eq_some_iff] at hi
    obtain ⟨p, hp, rfl⟩ := hi
    obtain ⟨t, ht⟩ := hv.get hp
    refine wpAny_pyNext_values_item (hs ▸ hit) (hd _ _ (hs ▸ hr)) ht fun h' hit' hsb => ?_
    have hsb' : ∀ b o, b ≠ I → y.h.get? b = some o → h'.get? b = some o := fun b o hb e => (hsb.2 b hb).trans (hs ▸ e)
    have hsz : y.h.objs.size ≤ h'.objs.size := by rw [← hs]; exact Nat.le_of_eq hsb.1.symm
    refine ⟨_, rfl, ?_⟩
    rw [htg]
    exact wpAny_pure (hQ _ h' s.toks hsb' hsz .int ⟨hit', hsb' _ _ hne hr, hMx⟩)
  done := fun σ y s Q ok hM hα _ ⟨hit, hr, hMx⟩ hs hQ => by
    have hl : kv.length = kvs.length := hv.length
    have h1 : wpAny (model prog w) A (pyNext (.ref I)) (fun r s' => ∃ h', r = none ∧ s' = { s with heap := h' } ∧ Heap.ExtBut I s.heap h') (fun _ _ => False) s :=
      wpAny_pyNext_values_end hh (hs ▸ hit) (hd _ _ (hs ▸ hr)) (by simp [valL, hl]) fun h' he => ⟨h', rfl, rfl, he⟩
    refine wpAny_mono (wpAny_size h1) (fun r s' ⟨hz, h', e, e', he⟩ => ?_) fun _ _ e => e
    subst e e'
    exact hQ h' s.toks (fun b o hb e => he b o hb (hs ▸ e)) (by rw [← hs]; exact hz)

theorem ProtoT.items {I ax : Addr} {o : Obj} {kv : List (Int × Value)} {kvs : List (Int × Int)} {ep : Nat} {elts : List Expr} {x1 : Nat} {tp : Pos} (hh : A.handled = none) (hne : ax ≠ I) (hv : IntVals kv kvs) (hd : ∀ (hp : Heap) a, hp.get? a = some o → Heap.DictAt (intKind prog w) hp a kv ep) :
    ProtoT w h₀ A I (.Tuple elts x1 tp) (itemL kvs) (fun _ => True) (fun i y => (∃ ok ov, IsItemIter y.h I ax i kv.length ep ok ov) ∧ y.h.get? ax = some o ∧ ¬ y.M ax) where
  still := fun i y y' ⟨⟨k, v, h1⟩, hr, hM⟩ g hk => ⟨⟨k, v, hk _ h1⟩, g.keep _ _ hM hr, g.still _ (Heap.lt_size hr) hM⟩
  item := fun i σ y s Q d' hi ok hM hα _ ⟨⟨k, v, hit⟩, hr, hMx⟩ hs hQ => by
    unfold itemL at hi
    rw [List.getElem?_map, Option.map_eq_some_iff] at hi
    obtain ⟨p, hp, rfl⟩ := hi
    obtain ⟨t, ht⟩ := hv.get hp
    refine wpAny_pyNext_items_item (by rw [hs]; exact hit) (hd _ _ (hs ▸ hr)) ht fun key h' hkey hout hnew hsz' hsb => ⟨_, rfl, ?_⟩
    obtain ⟨u, rfl⟩ := Value.isInt_shape hkey
    refine wpAny_letOwnedTupleGo_items hout fun h'' hit' hs'' => ?_
    have hne2 : s.heap.objs.size ≠ I := fun e => by
      have := ok.lim I hM
      rw [← e, hs] at this; exact Nat.lt_irrefl _ this
    have hk : ∀ b o, b ≠ I → y.h.get? b = some o → h''.get? b = some o := fun b o hb e => (hs''.2 b hb).trans (hsb b o hb (hs ▸ e))
    have hz : y.h.objs.size ≤ h''.objs.size := by rw [hs''.1, hsz', hs]; exact Nat.le_succ _
    refine hQ _ h'' _ hk hz (.tup (n := 0) (vs := [.int p.1 u, .int p.2 t]) (fun hm => ?_) ?_ (.cons .int (.cons .int .nil))) ⟨⟨_, _, hit'⟩, hk _ _ hne hr, hMx⟩
    · have := ok.lim _ hm
      rw [hs] at this; exact Nat.lt_irrefl _ this
    · exact (hs''.2 _ hne2).trans hnew
  done := fun σ y s Q ok hM hα _ ⟨⟨k, v, hit⟩, hr, hMx⟩ hs hQ => by
    have hl : kv.length = kvs.length := hv.length
    have h1 : wpAny (model prog w) A (pyNext (.ref I)) (fun r s' => ∃ h', r = none ∧ s' = { s with heap := h' } ∧ Heap.ExtBut I s.heap h') (fun _ _ => False) s :=
      wpAny_pyNext_items_end hh (by rw [hs]; exact hit) (hd _ _ (hs ▸ hr)) (by simp [itemL, hl]) fun h' he => ⟨h', rfl, rfl, he⟩
    refine wpAny_mono (wpAny_size h1) (fun r s' ⟨hz, h', e, e', he⟩ => ?_) fun _ _ e => e
    subst e e'
    exact hQ h' s.toks (fun b o hb e => he b o hb (hs ▸ e)) (by rw [← hs]; exact hz)

noncomputable def ItrT (w : World) (h₀ : Heap) (A : Around) (target : Expr) (t : Sem Value) (env : Env) (c : Key) (ck : List (Str × Key)) (σ : H) (ds : List D) (C : H → Prop) (σ' : H) : Prop :=
  ∀ x, Ok w h₀ σ x → InEnv env c ck x → ∀ s : Shared, s.heap = x.h →
    wpAny (model prog w) A t (fun xv s₁ => wpAny (model prog w) A (pyIter xv) (fun it s₂ => ∃ I y tk J, it = .ref I ∧ s₂ = { s with heap := y.h, toks := tk } ∧ Ok w h₀ σ' y ∧ After x y ∧ y.M I ∧
      (∀ k, y.α k ≠ some I) ∧ x.h.objs.size ≤ I ∧ J 0 y ∧ ProtoT w h₀ A I target ds C J) (fun _ _ => False) s₁) (fun _ _ => False) s

/-- an iterator over a frozen dict's view -/
theorem ItrT.view {o : Expr} {name : Str} {ap p : Pos} {target : Expr} {id vcls : String} {kvs : List (Int × Int)} {ds : List D} (hl : h₀.NoLimit) (ho : Ev w h₀ A env c ck o σ (.dict kvs) σ₁) (sl : Slot "dict" name id) (ty : typeOf (.builtin id) = pure (.type "method_descriptor"))
    (hcall : ∀ (s : Shared) (a : Addr) (kv : List (Int × Value)) (Q : Value → Shared → Prop), (a == sysModules) = false → s.heap.DictOf (intKind prog w) a kv → Q (.ref s.heap.objs.size) { s with heap := s.heap.push { cls := .type vcls, data := .fields #[.ref a] } } →
      wpAny (model prog w) A (call (.builtin id) [.ref a]) Q (fun _ _ => False) s)
    (hiter : ∀ (s : Shared) (v a : Addr) (ob : Obj) (kv : List (Int × Value)) (ep : Nat) (y : Cfg) (Q : Value → Shared → Prop), IntVals kv kvs → s.heap = y.h → (∃ o, s.heap.get? v = some o ∧ o.cls = .type vcls ∧ o.data = .fields #[.ref a]) → y.h.get? a = some ob → ¬ y.M a → a ≠ y.h.objs.size →
      (∀ (hp : Heap) a, hp.get? a = some ob → Heap.DictAt (intKind prog w) hp a kv ep) →
      (∀ (ito : Obj) (J : Nat → Cfg → Prop), ito.isFreed = false → (∀ z : Cfg, z.h = y.h.push ito → (z.M a → y.M a ∨ a = y.h.objs.size) → J 0 z) → ProtoT w h₀ A y.h.objs.size target ds (fun _ => True) J → Q (.ref y.h.objs.size) { s with heap := y.h.push ito }) →
      wpAny (model prog w) A (pyIter (.ref v)) Q (fun _ _ => False) s)
    (hbase : attributeBase o name env (eval o env) = eval o env)
    (hfew : ((backTo p (starEach [] env)).all (fun x => !x.1) && (backToKw p (keywordEach [] env)).all (fun x => x.1.isSome)
      && decide (([] : List Expr).length + ([] : List Keyword).length + (if ([] : List Keyword).isEmpty then 0 else 1) < 30)) = true)
    (hline : (ap.endLine == p.line) = true) :
    ItrT w h₀ A target (eval (.Call (.Attribute o name ap) [] [] p) env) env c ck σ ds (fun _ => True) σ₁ := fun x ok en s hs =>
  wpAny_Call_method_lateS hbase hfew hline ((ho x ok en).next hs fun v y tk oky af rv => by
    obtain ⟨a, ob, rfl, hq, hg, kv, hd, hiv⟩ := DictL.at oky (.inl rfl) rv
    have hMa : ¬ y.M a := by cases rv with | dict hm _ _ _ => exact hm
    obtain ⟨ep, hat⟩ := Obj.dictAt hd
    refine ⟨"dict", id, F.plainAttrs_dict, sl, ty, ⟨_, hg, (hd.choose_spec.choose_spec).1.1⟩, fun b e => by cases e; exact ⟨_, hg, (hd.choose_spec.choose_spec).1.2.1⟩, ?_⟩
    refine callWith_method0 (hcall _ a kv _ hq (Heap.dictOf_iff.mpr ⟨ob, hg, hd⟩) ?_)
    obtain ⟨ok1, af1⟩ := oky.more (h' := y.h.push { cls := .type vcls, data := .fields #[.ref a] }) (fun b o e => Heap.get?_push_of_some _ e) (by rw [Heap.size_push]; exact Nat.le_succ _)
    refine hiter _ _ a ob kv ep { y with h := y.h.push { cls := .type vcls, data := .fields #[.ref a] } } _ hiv rfl ⟨_, Heap.get?_push_size _ rfl, rfl, rfl⟩ (Heap.get?_push_of_some _ hg) hMa ?_ hat ?_
    · show a ≠ (y.h.push _).objs.size
      rw [Heap.size_push]
      exact Nat.ne_of_lt (Nat.lt_succ_of_lt (Heap.lt_size hg))
    · intro ito J hfr hJ P
      obtain ⟨ok2, af2, hn2⟩ := ok1.mark (I := (y.h.push { cls := .type vcls, data := .fields #[.ref a] }).objs.size) (h' := (y.h.push { cls := .type vcls, data := .fields #[.ref a] }).push ito) (Nat.le_refl _) (by simp only [Heap.size_push]; exact Nat.lt_succ_self _) (fun b o e => Heap.get?_push_of_some _ e) (by simp only [Heap.size_push]; exact Nat.le_succ _)
      exact ⟨_, _, tk, J, rfl, rfl, ok2, (af.trans af1).trans af2, .inr rfl, hn2, Nat.le_trans af.size af1.size, hJ _ rfl (fun h => h), P⟩)

theorem ItrT.values {o : Expr} {ap p : Pos} {target : Expr} {kvs : List (Int × Int)} (hl : h₀.NoLimit) (hh : A.handled = none) (ho : Ev w h₀ A env c ck o σ (.dict kvs) σ₁) (htg : ∀ it v, letOwnedTupleGo target it v = pure ())
    (hbase : attributeBase o "values" env (eval o env) = eval o env)
    (hfew : ((backTo p (starEach [] env)).all (fun x => !x.1) && (backToKw p (keywordEach [] env)).all (fun x => x.1.isSome)
      && decide (([] : List Expr).length + ([] : List Keyword).length + (if ([] : List Keyword).isEmpty then 0 else 1) < 30)) = true)
    (hline : (ap.endLine == p.line) = true) :
    ItrT w h₀ A target (eval (.Call (.Attribute o "values" ap) [] [] p) env) env c ck σ (valL kvs) (fun _ => True) σ₁ :=
  ItrT.view hl ho F.slot_dict_values F.type_dict_values
    (fun s a kv Q lo hd h => call_meetsIn F.slot_dict_values hd.typeIs F.entry_dict_values (F.args_dict_values_1 _) (meets_dict_values (intKind prog w) a lo) ⟨⟨kv, hd⟩, h⟩)
    (fun s v a ob kv ep y Q hiv hs hv hg hM hne hat h => by
      refine wpAny_pyIter_values hv (hat _ _ (hs ▸ hg)) ?_
      rw [hs]
      exact h { cls := .type "dict_valueiterator", data := .fields #[.ref a, .int 0 0, .int kv.length 0, .int ep 0] } _ rfl
        (fun z hz hMz => ⟨⟨_, by rw [hz]; exact Heap.get?_push_size _ rfl, rfl, rfl⟩, by rw [hz]; exact Heap.get?_push_of_some _ hg, fun q => (hMz q).elim hM hne⟩) (ProtoT.values hh htg hne hiv hat)) hbase hfew hline
theorem ItrT.items {o : Expr} {ap p : Pos} {elts : List Expr} {x1 : Nat} {tp : Pos} {kvs : List (Int × Int)} (hl : h₀.NoLimit) (hh : A.handled = none) (ho : Ev w h₀ A env c ck o σ (.dict kvs) σ₁)
    (hbase : attributeBase o "items" env (eval o env) = eval o env)
    (hfew : ((backTo p (starEach [] env)).all (fun x => !x.1) && (backToKw p (keywordEach [] env)).all (fun x => x.1.isSome)
      && decide (([] : List Expr).length + ([] : List Keyword).length + (if ([] : List Keyword).isEmpty then 0 else 1) < 30)) = true)
    (hline : (ap.endLine == p.line) = true) :
    ItrT w h₀ A (.Tuple elts x1 tp) (eval (.Call (.Attribute o "items" ap) [] [] p) env) env c ck σ (itemL kvs) (fun _ => True) σ₁ :=
  ItrT.view hl ho F.slot_dict_items F.type_dict_items
    (fun s a kv Q lo hd h => call_meetsIn F.slot_dict_items hd.typeIs F.entry_dict_items (F.args_dict_items_1 _) (meets_dict_items (intKind prog w) a lo) ⟨⟨kv, hd⟩, h⟩)
    (fun s v a ob kv ep y Q hiv hs hv hg hM hne hat h => by
      refine wpAny_pyIter_items hv (hat _ _ (hs ▸ hg)) ?_
      rw [hs]
      exact h { cls := .type "dict_itemiterator", data := .fields #[.none, .bool false, .ref a, .int 0 0, .int kv.length 0, .int ep 0, .none, .none] } _ rfl
        (fun z hz hMz => ⟨⟨.none, .none, by rw [hz]; exact Heap.get?_push_size _ rfl⟩, by rw [hz]; exact Heap.get?_push_of_some _ hg, fun q => (hMz q).elim hM hne⟩) (ProtoT.items hh hne hiv hat)) hbase hfew hline

theorem Ex.forT {target iter : Expr} {body : List Stmt} {ds : List D} {C : H → Prop} (σs : Nat → H) (hi : ItrT w h₀ A target (eval iter env) env c ck σ ds C (σs 0))
    (hC : ∀ i, i ≤ ds.length → C (σs i)) (hb : ∀ i d, ds[i]? = some d → ∃ τ, Tgt w h₀ A env c ck target d (σs i) τ ∧ Exs w h₀ A env c ck body τ .next (σs (i + 1)))
    (hf : ∀ x, foldedSetIterable iter env x = pure x) :
    Ex w h₀ A env c ck (.For target iter body [] pos) σ .next (σs ds.length) := fun x ok en s hs => by
  refine wpAny_For (wpAny_mono (hi x ok en s hs) (fun xv s₁ h₁ => wpAny_mono h₁ (fun it s₂ h₂ => ?_) fun _ _ e => e.elim) fun _ _ e => e.elim) hf
  obtain ⟨I, y, tk, J, rfl, rfl, oky, af, hM, hα, hge, hJ, P⟩ := h₂
  refine codeAny_mono (codeAny_forLoop_any (R := fun r s' => ∃ f, r = .ok f ∧ Post w h₀ (σs ds.length) x s (fun f y => FRep w y f .next) f s')
    (fun k s' => ∃ i z tk', k = ds.length - i ∧ i ≤ ds.length ∧ s' = { s with heap := z.h, toks := tk' } ∧ Ok w h₀ (σs i) z ∧ After x z ∧ z.M I ∧ (∀ k, z.α k ≠ some I) ∧ J i z) ?_ ds.length
    ⟨0, y, tk, by omega, Nat.zero_le _, rfl, oky, af, hM, hα, hJ⟩) fun r s' ⟨f, e, h⟩ => by subst e; exact h
  rintro k s' ⟨i, z, tk', rfl, hle, rfl, okz, afz, hMz, hαz, hJz⟩
  by_cases hlt : i < ds.length
  · obtain ⟨d, hd⟩ : ∃ d, ds[i]? = some d := ⟨ds[i], by simp [hlt]⟩
    obtain ⟨τ, hst, hbody⟩ := hb i d hd
    refine wpAny_mono (P.item i (σs i) z _ (fun v s₁ => ∃ z₁ tk₁, s₁ = { s with heap := z₁.h, toks := tk₁ } ∧ Ok w h₀ (σs i) z₁ ∧ After x z₁ ∧ z₁.M I ∧ (∀ k, z₁.α k ≠ some I) ∧ Rep w z₁ v d ∧ J (i + 1) z₁) d hd okz hMz hαz (hC i hle) hJz rfl fun v h' tk₁ hk hsz hr hj => ?_)
      (fun r s₁ ⟨v, e, h⟩ => ?_) fun _ _ e => e.elim
    · obtain ⟨ok1, g1⟩ := okz.aside hMz hαz hk hsz
      exact ⟨{ z with h := h' }, tk₁, rfl, ok1, afz.aside hge hk hsz, hMz, hαz, hr, hj⟩
    subst e
    refine wpAny_mono h (fun _ s₁ ⟨z₁, tk₁, e', ok1, af1, hM1, hα1, hr1, hj1⟩ => ?_) fun _ _ e => e.elim
    subst e'
    have en1 := en.after af1
    refine wpAny_mono ((hst z₁ v ok1 en1 hr1) _ rfl) (fun _ s₂ ⟨z₂, tk₂, e, ok2, af2, _⟩ => ?_) fun _ _ e => e.elim
    subst e
    refine wpAny_mono ((hbody z₂ ok2 (en1.after af2)) _ rfl) (fun f s₃ ⟨z₃, tk₃, e, ok3, af3, hf⟩ => ?_) fun _ _ e => e.elim
    subst e
    cases f with
    | next =>
      have a23 := af2.trans af3
      have hIlt : I < z₁.h.objs.size := ok1.lim I hM1
      have hown : ¬ own z₁ I := fun ⟨k, hk⟩ => hα1 k hk
      refine ⟨ds.length - (i + 1), by omega, i + 1, z₃, tk₃, rfl, hlt, rfl, ok3, af1.trans a23, (a23.marks I hIlt hown).mpr hM1, fun k hk => ?_, P.still _ _ _ hj1 (a23.grow ok1) fun o ho => a23.keep I o hown ho⟩
      rcases a23.fresh k I hk with h | h
      · exact hα1 k h
      · exact absurd hIlt (Nat.not_lt.mpr h)
    | _ => exact hf.elim
  · have e : i = ds.length := by omega
    subst e
    have main := P.done (σs ds.length) z { s with heap := z.h, toks := tk' } (fun r s₁ => ∃ z₁ tk₁, r = none ∧ s₁ = { s with heap := z₁.h, toks := tk₁ } ∧ Ok w h₀ (σs ds.length) z₁ ∧ After x z₁) okz hMz hαz (hC _ hle) hJz rfl fun h' tk₁ hk hsz => by
      obtain ⟨ok1, g1⟩ := okz.aside hMz hαz hk hsz
      exact ⟨{ z with h := h' }, tk₁, rfl, rfl, ok1, afz.aside hge hk hsz⟩
    refine wpAny_mono main (fun r s₁ ⟨z₁, tk₁, e, e', ok1, af1⟩ => ?_) fun _ _ e => e.elim
    subst e e'
    exact wpAny_execs_nil ⟨.next, rfl, z₁, tk₁, rfl, ok1, af1, trivial⟩
end
end Mine

/-! # F12 -/
namespace Mine
section
variable {w : World} {h₀ : Heap} {A : Around} {env : Env} {c : Key} {ck : List (Str × Key)} {σ σ' σ₁ σ₂ σ₃ σ₄ σ₅ : H} {d d₁ d₂ d₃ : D} {pos : Pos}

noncomputable def dget (kvs : List (Int × Int)) (k : Int) : Option Int := (kvs.find? fun p => decide (p.1 = k)).map (·.2)
noncomputable def dput (kvs : List (Int × Int)) (k b : Int) : List (Int × Int) := if kvs.any (fun p => decide (p.1 = k)) then kvs.map (fun p => if p.1 = k then (p.1, b) else p) else kvs ++ [(k, b)]

theorem IntVals.getK {kv : List (Int × Value)} {kvs : List (Int × Int)} {k i : Int} (h : IntVals kv kvs) (e : dget kvs k = some i) : ∃ t, valueAt kv k = some (.int i t) := by
  induction h with
  | nil => simp [dget] at e
  | @cons p q l₁ l₂ h _ ih =>
    obtain ⟨h1, t, h2⟩ := h
    by_cases hk : q.1 = k
    · have e' : q.2 = i := by simpa [dget, List.find?_cons, hk] using e
      exact ⟨t, by simp [valueAt, List.find?_cons, h1, hk, h2, e']⟩
    · have e' : dget l₂ k = some i := by simpa [dget, List.find?_cons, hk] using e
      obtain ⟨u, hu⟩ := ih e'
      exact ⟨u, by simpa [valueAt, List.find?_cons, h1, hk] using hu⟩
theorem IntVals.isSomeK {kv : List (Int × Value)} {kvs : List (Int × Int)} (k : Int) (h : IntVals kv kvs) : (valueAt kv k).isSome = (dget kvs k).isSome := by
  induction h with
  | nil => rfl
  | @cons p q l₁ l₂ h _ ih =>
    obtain ⟨h1, t, h2⟩ := h
    by_cases hk : q.1 = k
    · simp [valueAt, dget, List.find?_cons, h1, hk]
    · simpa [valueAt, dget, List.find?_cons, h1, hk] using ih
theorem IntVals.anyK {kv : List (Int × Value)} {kvs : List (Int × Int)} (k : Int) (h : IntVals kv kvs) : (kv.any fun p => decide (p.1 = k)) = (kvs.any fun p => decide (p.1 = k)) := by
  induction h with
  | nil => rfl
  | cons h _ ih => rw [List.any_cons, List.any_cons, ih, h.1]
theorem IntVals.put {kv : List (Int × Value)} {kvs : List (Int × Int)} {k b : Int} {t : Tok} (h : IntVals kv kvs) : IntVals (kv.map fun p => if p.1 = k then (p.1, Value.int b t) else p) (kvs.map fun p => if p.1 = k then (p.1, b) else p) := by
  induction h with
  | nil => exact .nil
  | @cons p q l₁ l₂ h hr ih =>
    rw [List.map_cons, List.map_cons]
    refine .cons ?_ ih
    obtain ⟨h1, u, h2⟩ := h
    by_cases hk : q.1 = k
    · rw [if_pos (h1.trans hk), if_pos hk]; exact ⟨h1, t, rfl⟩
    · rw [if_neg (fun e => hk (h1.symm.trans e)), if_neg hk]; exact ⟨h1, u, h2⟩
theorem IntVals.stored {kv : List (Int × Value)} {kvs : List (Int × Int)} {k b : Int} {t : Tok} (h : IntVals kv kvs) : IntVals (PySem.stored kv k (.int b t)) (dput kvs k b) := by
  unfold PySem.stored dput
  rw [h.anyK k]
  split
  · exact h.put
  · exact Paired.snoc h ⟨rfl, t, rfl⟩

theorem GetD.dict {o : D} {kvs : List (Int × Int)} {k i : Int} (hl : DictL σ o kvs) (hi : dget kvs k = some i) : GetD w h₀ A o (.int k) σ (.int i) σ := fun x v u ok hv hu s hs => by
  obtain ⟨a, ob, rfl, hq, hg, kv, hd, hiv⟩ := hl.at ok hv
  cases hu
  obtain ⟨t, ht⟩ := hiv.getK hi
  exact wpAny_getItem_of (knd := intKind prog w) (intKind_is _ _ _ _) (Heap.dictOf_iff.mpr ⟨ob, hs ▸ hg, hd⟩).mapOf ht (Post.of hs ok .int)
theorem Cmp.inD {kvs : List (Int × Int)} {k : Int} (hl : DictL σ d kvs) : Cmp w h₀ A .In (.int k) d σ (dget kvs k).isSome σ := fun x v u ok hv hu s hs => by
  obtain ⟨a, ob, rfl, hq, hg, kv, hd, hiv⟩ := hl.at ok hu
  cases hv
  refine wpAny_in_of (knd := intKind prog w) (intKind_is _ _ _ _) hq (Heap.dictOf_iff.mpr ⟨ob, hs ▸ hg, hd⟩).mapOf ?_
  exact Post.of hs ok (by rw [hiv.isSomeK])
theorem SetD.dict {key : Key} {kvs : List (Int × Int)} {k b : Int} (hk : σ key = some (.dict kvs)) (hsz : kvs.length ≤ 16777216) : SetD w h₀ A (.res key) (.int k) (.int b) σ (σ.set key (.dict (dput kvs k b))) := fun x v u t ok hv hu ht s hs => by
  cases hv with
  | res q ha =>
    rename_i a
    obtain ⟨b', h1, hM, _, hq, ob, hg, kv, hd, hiv⟩ := ok.live key _ hk
    rw [ha] at h1; cases h1
    cases hu; cases ht
    refine wpAny_setItem_pairs (knd := intKind prog w) (intKind_is _ _ _ _) (Heap.dictOf_iff.mpr ⟨ob, hs ▸ hg, hd⟩) (fun h' hm hsb => ?_) (by rw [hiv.length, sizeLine_eq]; exact hsz)
    have hsb' : ∀ b o, b ≠ a → x.h.get? b = some o → h'.get? b = some o := fun b o hb e => (hsb.2 b hb).trans (hs ▸ e)
    obtain ⟨o', ho', hd'⟩ := Heap.dictOf_iff.mp hm
    obtain ⟨ok', af⟩ := ok.upd (sp := .dict (dput kvs k b)) ha hsb' (by rw [← hs]; exact Nat.le_of_eq hsb.1.symm) ⟨hq, o', ho', _, hd', hiv.stored⟩
    exact ⟨_, _, rfl, ok', af, trivial⟩

theorem Cmp.neD {ka kb : List (Int × Int)} {n : Nat} (h1 : DictL σ d₁ ka) (h2 : DictL σ d₂ kb) (hl : ka.length = kb.length) (hp : (ka.all fun p => dget kb p.1 == some p.2) = true) (cap : Cap A n) : Cmp w h₀ A .NotEq d₁ d₂ σ false σ := fun x v u ok hv hu s hs => by
  obtain ⟨a, oa, rfl, hqa, hga, va, hda, hia⟩ := h1.at ok hv
  obtain ⟨b, ob, rfl, hqb, hgb, vb, hdb, hib⟩ := h2.at ok hu
  have hits : ∀ {va : List (Int × Value)} {ka : List (Int × Int)}, IntVals va ka → (ka.all fun p => dget kb p.1 == some p.2) = true → KeqHits A.in1 s vb va true := by
    intro va ka h
    induction h with
    | nil => intro _; exact .nil
    | @cons p q l₁ l₂ h _ ih =>
      intro hp
      rw [List.all_cons, Bool.and_eq_true] at hp
      obtain ⟨hq, hr⟩ := hp
      obtain ⟨e1, t, e2⟩ := h
      obtain ⟨u, hu⟩ := hib.getK (beq_iff_eq.mp hq)
      have e : SeqAt.EqAt A.in1 s p.2 (.int q.2 u) true := by
        rw [e2]
        have := keq_flat (A := A.in1) (s := s) (PyProof.V.Flat.int q.2 t) (PyProof.V.Flat.int q.2 u)
        simpa [PyData.eqv] using this
      exact .hit (e := true) (b := true) (by rw [e1]; exact hu) e (ih hr)
  refine keq_ne (knd := intKind prog w) hqa hqb (Heap.dictOf_iff.mpr ⟨oa, hs ▸ hga, hda⟩) (Heap.dictOf_iff.mpr ⟨ob, hs ▸ hgb, hdb⟩) (by have := cap.cLine; omega) (fun _ => hits hia hp) ?_
  rw [hia.length, hib.length, hl, beq_self_eq_true]
  exact Post.of' hs ok rfl
end
end Mine

/-! # R1 -/
namespace Mine
open PySem.Sre PySem.Sre.M
/-! ## the pattern's machine -/
noncomputable def qcode : Array Nat := #[14, 8, 1, 2, 4294967295, 1, 1, 34, 0, 16, 34, 28, 22, 0, 4294967295, 7, 11, 13, 7, 21, 16, 34, 16, 92, 0, 15, 8, 6, 16, 92, 2, 15, 2, 0, 1, 16, 34, 1]
theorem qsize : qcode.size = 38 := rfl
noncomputable def st (T : Array Nat) (lim start pc pos handed : Nat) (om : Bool) (loops : Array Loop) (inner : Option Nat) (frames : List Sre.Frame) (wt : Nat) (ans : Option Bool) (sn : Sre.Seen) : M :=
  { code := qcode, text := T, lim := lim, start := start, lastStart := lim, wholeText := false, mustAdvance := false, pc := pc, pos := pos, handed := handed, outermost := om, marks := #[], lastmark := -1, lastindex := -1,
    loops := loops, inner := inner, frames := frames, weight := wt, answer := ans, seen := sn, outcome := none }
noncomputable def fS (s : Nat) (om : Bool) : Sre.Frame := { wait := .nextStart, pc := 9, pos := s, outermost := om }
noncomputable def K0 : Sre.Kept := { lastmark := -1, lastindex := -1, whole := true, marks := #[] }
noncomputable def fP (p : Nat) (om : Bool) (n : Int) : Sre.Frame := { wait := .possMore, pc := 11, pos := p, outermost := om, count := n, kept := K0, loop := 0 }
noncomputable def fB (k p : Nat) : Sre.Frame := { wait := .nextBranch, pc := k, pos := p, outermost := false, kept := K0 }
noncomputable def L0 : Array Loop := #[{ pc := 0, outer := none }]
noncomputable def stA (T : Array Nat) (lim s : Nat) (om : Bool) (sn : Sre.Seen) : M := st T lim s 9 s s om #[] none [fS s om] 1 none sn
noncomputable def stB (T : Array Nat) (lim s₀ : Nat) (om : Bool) (p : Nat) (n : Int) (sn : Sre.Seen) : M := st T lim s₀ 15 p p false L0 (some 0) [fP p om n, fS s₀ om] 2 none sn

theorem q0 : qcode.getD 0 0 = 14 := rfl
theorem q1 : qcode.getD 1 0 = 8 := rfl
theorem q2 : qcode.getD 2 0 = 1 := rfl
theorem q3 : qcode.getD 3 0 = 2 := rfl
theorem q4 : qcode.getD 4 0 = 4294967295 := rfl
theorem q5 : qcode.getD 5 0 = 1 := rfl
theorem q6 : qcode.getD 6 0 = 1 := rfl
theorem q7 : qcode.getD 7 0 = 34 := rfl
theorem q8 : qcode.getD 8 0 = 0 := rfl
theorem q9 : qcode.getD 9 0 = 16 := rfl
theorem q10 : qcode.getD 10 0 = 34 := rfl
theorem q11 : qcode.getD 11 0 = 28 := rfl
theorem q12 : qcode.getD 12 0 = 22 := rfl
theorem q13 : qcode.getD 13 0 = 0 := rfl
theorem q14 : qcode.getD 14 0 = 4294967295 := rfl
theorem q15 : qcode.getD 15 0 = 7 := rfl
theorem q16 : qcode.getD 16 0 = 11 := rfl
theorem q17 : qcode.getD 17 0 = 13 := rfl
theorem q18 : qcode.getD 18 0 = 7 := rfl
theorem q19 : qcode.getD 19 0 = 21 := rfl
theorem q20 : qcode.getD 20 0 = 16 := rfl
theorem q21 : qcode.getD 21 0 = 34 := rfl
theorem q22 : qcode.getD 22 0 = 16 := rfl
theorem q23 : qcode.getD 23 0 = 92 := rfl
theorem q24 : qcode.getD 24 0 = 0 := rfl
theorem q25 : qcode.getD 25 0 = 15 := rfl
theorem q26 : qcode.getD 26 0 = 8 := rfl
theorem q27 : qcode.getD 27 0 = 6 := rfl
theorem q28 : qcode.getD 28 0 = 16 := rfl
theorem q29 : qcode.getD 29 0 = 92 := rfl
theorem q30 : qcode.getD 30 0 = 2 := rfl
theorem q31 : qcode.getD 31 0 = 15 := rfl
theorem q32 : qcode.getD 32 0 = 2 := rfl
theorem q33 : qcode.getD 33 0 = 0 := rfl
theorem q34 : qcode.getD 34 0 = 1 := rfl
theorem q35 : qcode.getD 35 0 = 16 := rfl
theorem q36 : qcode.getD 36 0 = 34 := rfl
theorem q37 : qcode.getD 37 0 = 1 := rfl
theorem o14 : ops[14]? = some Op.INFO := rfl
theorem o16 : ops[16]? = some Op.LITERAL := rfl
theorem o28 : ops[28]? = some Op.POSSESSIVE_REPEAT := rfl
theorem o7 : ops[7]? = some Op.BRANCH := rfl
theorem o13 : ops[13]? = some Op.IN := rfl
theorem o21 : ops[21]? = some Op.NEGATE := rfl
theorem o0 : ops[0]? = some Op.FAILURE := rfl
theorem o15 : ops[15]? = some Op.JUMP := rfl
theorem o2 : ops[2]? = some Op.ANY := rfl
theorem o1 : ops[1]? = some Op.SUCCESS := rfl

local macro_rules | `(tactic| walk_at "q") => `(tactic| simp [-Array.getD_eq_getD_getElem?, stA, stB, st, fS, fP, fB, K0, L0, M.step, M.exec, M.resume, M.word, M.say, M.attempt, M.attemptFrom, M.attemptAt, M.hasFirstSet, M.alternative, M.frame, M.keep, M.putBack, M.possessive, M.loopAt, maxRepeat, accepts, inSet, itemWidth, qsize, q0, q1, q2, q3, q4, q5, q6, q7, q8, q9, q10, q11, q12, q13, q14, q15, q16, q17, q18, q19, q20, q21, q22, q23, q24, q25, q26, q27, q28, q29, q30, q31, q32, q33, q34, q35, q36, q37, o14, o16, o28, o7, o13, o21, o0, o15, o2, o1, *])
section
variable {T : Array Nat} {lim s p : Nat} {om : Bool} {n : Int} {sn : Sre.Seen}
theorem stepA_no (h : (T.getD s 0 == 34) = false) (h0 : ¬ lim ≤ s) : (stA T lim s om sn).step = st T lim s 9 s s om #[] none [fS s om] 1 (some false) (sn.add 16) := by
  walk_at "q"
theorem stepA_out (h0 : lim ≤ s) : (stA T lim s om sn).step = st T lim s 9 s s om #[] none [fS s om] 1 (some false) (sn.add 16) := by
  walk_at "q"
theorem stepA_on (h0 : s < lim) : (st T lim s 9 s s om #[] none [fS s om] 1 (some false) sn).step = stA T lim (s + 1) false sn := by
  walk_at "q"
theorem stepA_end (h0 : ¬ s < lim) : (st T lim s 9 s s om #[] none [fS s om] 1 (some false) sn).step = st T lim s 9 s s om #[] none [] 0 (some false) sn := by
  walk_at "q"
theorem stepA_yes (h : (T.getD s 0 == 34) = true) (h0 : ¬ lim ≤ s) : (stA T lim s om sn).step = st T lim s 11 (s + 1) s om #[] none [fS s om] 1 none (sn.add 16) := by
  walk_at "q"
theorem stepP : (st T lim s 11 (s + 1) s om #[] none [fS s om] 1 none sn).step = stB T lim s om (s + 1) 0 (sn.add 28) := by
  walk_at "q"
theorem stepB1 : (stB T lim s om p n sn).step = st T lim s 17 p p false L0 (some 0) [fB 16 p, fP p om n, fS s om] 3 none (sn.add 7) := by
  walk_at "q"
theorem stepB2 (h1 : (T.getD p 0 == 34) = false) (h2 : (T.getD p 0 == 92) = false) (h0 : ¬ lim ≤ p) : ∃ sn', (st T lim s 17 p p false L0 (some 0) [fB 16 p, fP p om n, fS s om] 3 none sn).step = st T lim s 25 (p + 1) p false L0 (some 0) [fB 16 p, fP p om n, fS s om] 3 none sn' := by
  refine ⟨?_, ?_⟩; rotate_left; walk_at "q"; rfl
theorem stepB3 {q : Nat} : (st T lim s 25 q p false L0 (some 0) [fB 16 p, fP p om n, fS s om] 3 none sn).step = st T lim s 34 q p false L0 (some 0) [fB 16 p, fP p om n, fS s om] 3 none (sn.add 15) := by
  walk_at "q"
theorem stepB4 {q k : Nat} : (st T lim s 34 q p false L0 (some 0) [fB k p, fP p om n, fS s om] 3 none sn).step = st T lim s 34 q q false L0 (some 0) [fB k p, fP p om n, fS s om] 3 (some true) (sn.add 1) := by
  walk_at "q"
theorem stepB5 {q k : Nat} : (st T lim s 34 q q false L0 (some 0) [fB k p, fP p om n, fS s om] 3 (some true) sn).step = st T lim s k p q false L0 (some 0) [fP p om n, fS s om] 2 (some true) sn := by
  walk_at "q"
theorem stepB6 {q k : Nat} (hq : ¬ p = q) (hn : 0 ≤ n) : (st T lim s k p q false L0 (some 0) [fP p om n, fS s om] 2 (some true) sn).step = stB T lim s om q (n + 1) sn := by
  have e : ¬ n + 1 < 0 := by omega
  walk_at "q"
theorem stepB2n (h1 : (T.getD p 0 == 34) = false) (h2 : (T.getD p 0 == 92) = true) (h0 : ¬ lim ≤ p) : ∃ sn', (st T lim s 17 p p false L0 (some 0) [fB 16 p, fP p om n, fS s om] 3 none sn).step = st T lim s 17 p p false L0 (some 0) [fB 16 p, fP p om n, fS s om] 3 (some false) sn' := by
  refine ⟨?_, ?_⟩; rotate_left; walk_at "q"; rfl
theorem stepB2q (h1 : (T.getD p 0 == 34) = true) (h0 : ¬ lim ≤ p) : ∃ sn', (st T lim s 17 p p false L0 (some 0) [fB 16 p, fP p om n, fS s om] 3 none sn).step = st T lim s 17 p p false L0 (some 0) [fB 16 p, fP p om n, fS s om] 3 (some false) sn' := by
  refine ⟨?_, ?_⟩; rotate_left; walk_at "q"; rfl
theorem stepC1 : (st T lim s 17 p p false L0 (some 0) [fB 16 p, fP p om n, fS s om] 3 (some false) sn).step = st T lim s 28 p p false L0 (some 0) [fB 27 p, fP p om n, fS s om] 3 none sn := by
  walk_at "q"
theorem stepC2 (h2 : (T.getD p 0 == 92) = true) (h0 : ¬ lim ≤ p) : (st T lim s 28 p p false L0 (some 0) [fB 27 p, fP p om n, fS s om] 3 none sn).step = st T lim s 30 (p + 1) p false L0 (some 0) [fB 27 p, fP p om n, fS s om] 3 none (sn.add 16) := by
  walk_at "q"
theorem stepC3 {q : Nat} (h2 : (T.getD q 0 != 10) = true) (h0 : ¬ lim ≤ q) : (st T lim s 30 q p false L0 (some 0) [fB 27 p, fP p om n, fS s om] 3 none sn).step = st T lim s 31 (q + 1) p false L0 (some 0) [fB 27 p, fP p om n, fS s om] 3 none (sn.add 2) := by
  walk_at "q"
theorem stepC4 {q : Nat} : (st T lim s 31 q p false L0 (some 0) [fB 27 p, fP p om n, fS s om] 3 none sn).step = st T lim s 34 q p false L0 (some 0) [fB 27 p, fP p om n, fS s om] 3 none (sn.add 15) := by
  walk_at "q"
theorem stepC2n (h2 : (T.getD p 0 == 92) = false) (h0 : ¬ lim ≤ p) : (st T lim s 28 p p false L0 (some 0) [fB 27 p, fP p om n, fS s om] 3 none sn).step = st T lim s 28 p p false L0 (some 0) [fB 27 p, fP p om n, fS s om] 3 (some false) (sn.add 16) := by
  walk_at "q"
theorem stepD1 : (st T lim s 28 p p false L0 (some 0) [fB 27 p, fP p om n, fS s om] 3 (some false) sn).step = st T lim s 27 p p false L0 (some 0) [fP p om n, fS s om] 2 (some false) sn := by
  walk_at "q"
theorem stepD2 (hn : 0 ≤ n) : (st T lim s 27 p p false L0 (some 0) [fP p om n, fS s om] 2 (some false) sn).step = st T lim s 35 p p om #[] none [fS s om] 1 none sn := by
  have e : ¬ n < 0 := by omega
  walk_at "q"
  rfl
theorem stepD3 (h : (T.getD p 0 == 34) = true) (h0 : ¬ lim ≤ p) : (st T lim s 35 p p om #[] none [fS s om] 1 none sn).step = st T lim s 37 (p + 1) p om #[] none [fS s om] 1 none (sn.add 16) := by
  walk_at "q"
theorem stepD4 : (st T lim s 37 (p + 1) p om #[] none [fS s om] 1 none sn).step = st T lim s 37 (p + 1) (p + 1) om #[] none [fS s om] 1 (some true) (sn.add 1) := by
  walk_at "q"
theorem stepD5 : (st T lim s 37 (p + 1) (p + 1) om #[] none [fS s om] 1 (some true) sn).step = st T lim s 9 s (p + 1) om #[] none [] 0 (some true) sn := by
  walk_at "q"
theorem stepE {pc : Nat} {b : Bool} {q r : Nat} : ((st T lim s pc q r om #[] none [] 0 (some b) sn).step).outcome = some (if b then .matched else .failed) := by
  cases b <;> walk_at "q"
theorem stepE' {pc : Nat} {b : Bool} {q r : Nat} : (st T lim s pc q r om #[] none [] 0 (some b) sn).step = { st T lim s pc q r om #[] none [] 0 (some b) sn with outcome := some (if b then .matched else .failed) } := by
  cases b <;> walk_at "q"
end
end Mine

/-! # R2 -/
namespace Mine
open PySem.Sre PySem.Sre.M

theorem step_done {m : M} (h : m.outcome.isSome = true) : m.step = m := by unfold M.step; rw [if_pos h]
theorem runFor_done {m : M} (h : m.outcome.isSome = true) : ∀ k, m.runFor k = m
  | 0 => rfl
  | k + 1 => by unfold M.runFor; rw [if_pos h]
theorem runFor_succ (k : Nat) (m : M) : m.runFor (k + 1) = m.step.runFor k := by
  by_cases h : m.outcome.isSome = true
  · rw [runFor_done h, step_done h, runFor_done h]
  · rw [M.runFor, if_neg h]
theorem runFor_add (a b : Nat) (m : M) : m.runFor (a + b) = (m.runFor a).runFor b := by
  induction a generalizing m with
  | zero => rw [Nat.zero_add]; rfl
  | succ a ih => rw [Nat.succ_add, runFor_succ, runFor_succ, ih]

/-- `m'` comes within `k` steps -/
noncomputable def Within (k : Nat) (m m' : M) : Prop := ∃ j, j ≤ k ∧ m.runFor j = m'
theorem Within.refl (m : M) : Within 0 m m := ⟨0, Nat.le_refl _, rfl⟩
theorem Within.trans {a b : Nat} {m₁ m₂ m₃ : M} (h : Within a m₁ m₂) (g : Within b m₂ m₃) : Within (a + b) m₁ m₃ := by
  obtain ⟨i, hi, rfl⟩ := h
  obtain ⟨j, hj, rfl⟩ := g
  exact ⟨i + j, by omega, runFor_add _ _ _⟩
theorem Within.step {k : Nat} {m m₁ m₂ : M} (e : m.step = m₁) (h : Within k m₁ m₂) : Within (k + 1) m m₂ := by
  obtain ⟨j, hj, rfl⟩ := h
  exact ⟨j + 1, by omega, by rw [runFor_succ, e]⟩
theorem Within.mono {a b : Nat} {m m' : M} (h : Within a m m') (le : a ≤ b) : Within b m m' := let ⟨j, hj, e⟩ := h; ⟨j, Nat.le_trans hj le, e⟩
theorem Within.one {m m₁ : M} (e : m.step = m₁) : Within 1 m m₁ := .step e (.refl _)

/-! ## over a list -/
inductive Units : List Nat → Prop
  | nil : Units []
  | plain {c us} : (c == 34) = false → (c == 92) = false → Units us → Units (c :: us)
  | esc {c us} : (c != 10) = true → Units us → Units (92 :: c :: us)

theorem getD_drop {ts : List Nat} {s c : Nat} {r : List Nat} (h : ts.drop s = c :: r) : ts.toArray.getD s 0 = c ∧ s < ts.length ∧ ts.drop (s + 1) = r := by
  have h1 : ts[s]? = some c := by rw [← List.head?_drop, h]; rfl
  obtain ⟨hlt, he⟩ := List.getElem?_eq_some_iff.mp h1
  refine ⟨?_, hlt, ?_⟩
  · simp [h1]
  · rw [← List.drop_drop, h]; rfl

variable {ts : List Nat} {s p : Nat} {om : Bool} {n : Int} {sn : Sre.Seen}
theorem skip1 {c : Nat} {r : List Nat} (h : ts.drop s = c :: r) (hc : (c == 34) = false) : ∃ sn', Within 2 (stA ts.toArray ts.length s om sn) (stA ts.toArray ts.length (s + 1) false sn') := by
  obtain ⟨h1, h2, _⟩ := getD_drop h
  exact ⟨_, .step (stepA_no (by rw [h1]; exact hc) (by omega)) (.one (stepA_on h2))⟩
theorem skips : ∀ {bs : List Nat} {s : Nat} {om : Bool} {sn : Sre.Seen} {r : List Nat}, ts.drop s = bs ++ r → (∀ b ∈ bs, (b == 34) = false) → ∃ om' sn', Within (2 * bs.length) (stA ts.toArray ts.length s om sn) (stA ts.toArray ts.length (s + bs.length) om' sn')
  | [], s, om, sn, r, h, _ => ⟨om, sn, .refl _⟩
  | b :: bs, s, om, sn, r, h, hb => by
    obtain ⟨sn', h1⟩ := skip1 (om := om) (sn := sn) (r := bs ++ r) h (hb b List.mem_cons_self)
    obtain ⟨_, _, h3⟩ := getD_drop (r := bs ++ r) h
    obtain ⟨om'', sn'', h2⟩ := skips (om := false) (sn := sn') h3 fun b hb' => hb b (List.mem_cons_of_mem _ hb')
    refine ⟨om'', sn'', ?_⟩
    have := h1.trans h2
    rw [List.length_cons, show s + (bs.length + 1) = s + 1 + bs.length from by omega]
    exact this.mono (by omega)
theorem overEnd (h : ts.length ≤ s) : ∃ m', Within 3 (stA ts.toArray ts.length s om sn) m' ∧ m'.outcome = some .failed :=
  ⟨_, .step (stepA_out h) (.step (stepA_end (by omega)) (.one rfl)), stepE (b := false)⟩
/-- from inside a label to its end -/
theorem inside : ∀ {us : List Nat} {p : Nat} {n : Int} {sn : Sre.Seen} {r : List Nat}, Units us → ts.drop p = us ++ 34 :: r → 0 ≤ n →
    ∃ m', Within (6 * us.length + 20) (stB ts.toArray ts.length s om p n sn) m' ∧ m'.outcome = some .matched ∧ m'.start = s ∧ m'.handed = p + us.length + 1
  | _, p, n, sn, r, .nil, h, hn => by
    obtain ⟨h1, h2, _⟩ := getD_drop h
    have hq : (ts.toArray.getD p 0 == 34) = true := by rw [h1]; rfl
    have h0 : ¬ ts.length ≤ p := by omega
    obtain ⟨sn', e2⟩ := stepB2q (T := ts.toArray) (lim := ts.length) (s := s) (om := om) (n := n) (sn := sn.add 7) hq h0
    refine ⟨_, .mono (.step stepB1 (.step e2 (.step stepC1 (.step (stepC2n (by rw [h1]; rfl) h0) (.step stepD1 (.step (stepD2 hn) (.step (stepD3 hq h0) (.step stepD4 (.step stepD5 (.one stepE'))))))))) ) (by simp), rfl, rfl, rfl⟩
  | _, p, n, sn, r, .plain (c := c) (us := us) hc1 hc2 hu, h, hn => by
    obtain ⟨h1, h2, h3⟩ := getD_drop (r := us ++ 34 :: r) h
    have h0 : ¬ ts.length ≤ p := by omega
    obtain ⟨sn', e2⟩ := stepB2 (T := ts.toArray) (lim := ts.length) (s := s) (om := om) (n := n) (sn := sn.add 7) (by rw [h1]; exact hc1) (by rw [h1]; exact hc2) h0
    obtain ⟨m', w', o', s', d'⟩ := inside (n := n + 1) (sn := (sn'.add 15).add 1) hu h3 (by omega)
    refine ⟨m', .mono (.step stepB1 (.step e2 (.step stepB3 (.step stepB4 (.step stepB5 (.step (stepB6 (by omega) hn) w')))))) (by rw [List.length_cons]; omega), o', s', by rw [d', List.length_cons]; omega⟩
  | _, p, n, sn, r, .esc (c := c) (us := us) hc hu, h, hn => by
    obtain ⟨h1, h2, h3⟩ := getD_drop (r := c :: us ++ 34 :: r) h
    obtain ⟨h4, h5, h6⟩ := getD_drop (r := us ++ 34 :: r) h3
    have h0 : ¬ ts.length ≤ p := by omega
    obtain ⟨sn', e2⟩ := stepB2n (T := ts.toArray) (lim := ts.length) (s := s) (om := om) (n := n) (sn := sn.add 7) (by rw [h1]; rfl) (by rw [h1]; rfl) h0
    obtain ⟨m', w', o', s', d'⟩ := inside (n := n + 1) (sn := ((((sn'.add 16).add 2).add 15).add 1)) hu h6 (by omega)
    refine ⟨m', .mono (.step stepB1 (.step e2 (.step stepC1 (.step (stepC2 (by rw [h1]; rfl) h0) (.step (stepC3 (by rw [h4]; exact hc) (by omega)) (.step stepC4 (.step stepB4 (.step stepB5 (.step (stepB6 (by omega) hn) w'))))))))) (by simp only [List.length_cons]; omega), o', s', by simp only [d', List.length_cons]; omega⟩

theorem search_label {bs us r : List Nat} (h : ts.drop s = bs ++ 34 :: (us ++ 34 :: r)) (hb : ∀ b ∈ bs, (b == 34) = false) (hu : Units us) :
    ∃ m', Within (2 * bs.length + 6 * us.length + 30) (stA ts.toArray ts.length s om sn) m' ∧ m'.outcome = some .matched ∧ m'.start = s + bs.length ∧ m'.handed = s + bs.length + us.length + 2 := by
  obtain ⟨om', sn', w1⟩ := skips (om := om) (sn := sn) h hb
  have h' : ts.drop (s + bs.length) = 34 :: (us ++ 34 :: r) := by rw [← List.drop_drop, h, List.drop_left]
  obtain ⟨h1, h2, h3⟩ := getD_drop h'
  obtain ⟨m', w2, o, e1, e2⟩ := inside (s := s + bs.length) (om := om') (n := 0) (sn := (sn'.add 16).add 28) hu h3 (by omega)
  exact ⟨m', .mono (w1.trans (.step (stepA_yes (by rw [h1]; rfl) (by omega)) (.step stepP w2))) (by omega), o, e1, by rw [e2]; omega⟩
theorem search_none {bs : List Nat} (h : ts.drop s = bs) (hb : ∀ b ∈ bs, (b == 34) = false) (hs : s ≤ ts.length) :
    ∃ m', Within (2 * bs.length + 3) (stA ts.toArray ts.length s om sn) m' ∧ m'.outcome = some .failed := by
  obtain ⟨om', sn', w1⟩ := skips (om := om) (sn := sn) (r := []) (by rw [h, List.append_nil]) hb
  have hl : ts.length ≤ s + bs.length := by rw [← h, List.length_drop]; omega
  obtain ⟨m', w2, o⟩ := overEnd (om := om') (sn := sn') hl
  exact ⟨m', w1.trans w2, o⟩
theorem start_at (T : Array Nat) (pos lim : Nat) (h1 : pos ≤ lim) (h2 : 2 ≤ lim - pos) : forSearch qcode T 0 pos lim false = stA T lim pos true (({} : Sre.Seen).add 14) := by
  have e : (header qcode) = (2, 9) := rfl
  unfold forSearch
  simp only [e]
  rw [if_neg (by simp; omega)]
  rfl
theorem start_no (T : Array Nat) (pos lim : Nat) (h2 : lim - pos < 2) : Within 1 (forSearch qcode T 0 pos lim false) (forSearch qcode T 0 pos lim false).step ∧ (forSearch qcode T 0 pos lim false).step.outcome = some .failed := by
  have e : (header qcode) = (2, 9) := rfl
  refine ⟨.one rfl, ?_⟩
  unfold forSearch
  simp only [e]
  rw [if_pos (by simp; omega)]
  rfl
end Mine

/-! # R3 -/
section
set_option maxRecDepth 100000
namespace Mine
open Builtin
theorem slot_bytes_count : Slot "bytes" "count" "bytes.count" :=
  .of (owner := "bytes") (n := "count") (by rw [typeLookup_type, builtinLookup_eq_fast]; kernel_rfl) (by decide +kernel) (by decide +kernel) (by decide +kernel)
    (by first | exact .inl (by decide +kernel) | exact .inr (by decide +kernel)) (by rw [isSubtype_type]; kernel_rfl)
theorem type_bytes_count : typeOf (.builtin "bytes.count") = pure (.type "method_descriptor") := by show builtinType _ = _; rw [builtinType_eq_fast]; kernel_rfl
theorem entry_bytes_count : entryFor table "bytes.count" = some Builtin.«bytes.count» := entryFor_of_tree (by kernel_rfl)
theorem args_bytes_count (a b : Value) : argsOk "bytes.count" ⟨[a, b], []⟩ := by
  unfold argsOk; rw [signature?_of (id := "bytes.count") (n := ['t', 'n', 'u', 'o', 'c']) (o := ['s', 'e', 't', 'y', 'b']) (by kernel_rfl) FB.owner_bytes]; kernel_rfl
theorem slot_bytes_join : Slot "bytes" "join" "bytes.join" :=
  .of (owner := "bytes") (n := "join") (by rw [typeLookup_type, builtinLookup_eq_fast]; kernel_rfl) (by decide +kernel) (by decide +kernel) (by decide +kernel)
    (by first | exact .inl (by decide +kernel) | exact .inr (by decide +kernel)) (by rw [isSubtype_type]; kernel_rfl)
theorem entry_bytes_join : entryFor table "bytes.join" = some Builtin.«bytes.join» := entryFor_of_tree (by kernel_rfl)
theorem args_bytes_join (a b : Value) : argsOk "bytes.join" ⟨[a, b], []⟩ := by
  unfold argsOk; rw [signature?_of (id := "bytes.join") (n := ['n', 'i', 'o', 'j']) (o := ['s', 'e', 't', 'y', 'b']) (by kernel_rfl) FB.owner_bytes]; kernel_rfl
theorem plainAttrs_pattern : PlainAttrs "re.Pattern" :=
  ⟨⟨"object.__getattribute__", by rw [typeLookup_type, builtinLookup_eq_fast]; kernel_rfl, by decide +kernel⟩, by rw [typeLookup_type, builtinLookup_eq_fast]; kernel_rfl⟩
theorem slot_pattern_sub : Slot "re.Pattern" "sub" "re.Pattern.sub" :=
  .of (owner := "re.Pattern") (n := "sub") (by rw [typeLookup_type, builtinLookup_eq_fast]; kernel_rfl) (by decide +kernel) (by decide +kernel) (by decide +kernel)
    (by first | exact .inl (by decide +kernel) | exact .inr (by decide +kernel)) (by rw [isSubtype_type]; kernel_rfl)
theorem type_pattern_sub : typeOf (.builtin "re.Pattern.sub") = pure (.type "method_descriptor") := by show builtinType _ = _; rw [builtinType_eq_fast]; kernel_rfl
theorem entry_pattern_sub : entryFor table "re.Pattern.sub" = some Builtin.«re.Pattern.sub» := entryFor_of_tree (by kernel_rfl)
theorem entry_sub_loop : entryFor table "re.Pattern.sub.loop" = some Builtin.«re.Pattern.sub.loop» := entryFor_of_tree (by kernel_rfl)
theorem plain_sub_loop : plainId "re.Pattern.sub.loop" = true := by decide +kernel

section
variable {prog : Program} {w : World} {A : Around} {E : Value → Shared → Prop} {s : Shared}
/-- how often a byte occurs -/
noncomputable def countB (c : UInt8) (b : Array UInt8) : Nat := b.toList.count c
theorem extract_one (b : Array UInt8) (c : UInt8) (i : Nat) (x : UInt8) (h : b.toList[i]? = some x) : (b.extract i (i + #[c].size) == #[c]) = (x == c) := by
  obtain ⟨l⟩ := b
  simp only [List.getElem?_toArray] at h ⊢
  have e : (l.toArray.extract i (i + 1)) = #[x] := by
    apply Array.toList_inj.mp
    obtain ⟨hlt, hx⟩ := List.getElem?_eq_some_iff.mp h
    simp only [List.extract_toArray]
    rw [List.extract_eq_take_drop]
    rw [show i + 1 - i = 1 from by omega, List.drop_eq_getElem_cons hlt]
    simp [hx]
  show (l.toArray.extract i (i + 1) == #[c]) = _
  rw [e]
  by_cases hc : x = c
  · simp [hc]
  · simp [hc]
theorem occ_one (b : Array UInt8) (c : UInt8) : (Bytes.occurrences b #[c] 0 b.size).length = countB c b := by
  unfold Bytes.occurrences
  have key : ∀ n, n ≤ b.size → ∀ acc : List Nat × Nat, acc = ((List.range n).map (· + 0)).foldl (fun (acc : List Nat × Nat) (i : Nat) => if i ≥ acc.2 && b.extract i (i + #[c].size) == #[c] then (i :: acc.1, i + #[c].size) else acc) ([], 0) →
      acc.1.length = (b.toList.take n).count c ∧ acc.2 ≤ n := by
    intro n
    induction n with
    | zero => intro _ acc e; subst e; simp
    | succ n ih =>
      intro hn acc e
      rw [List.range_succ, List.map_append, List.foldl_append] at e
      obtain ⟨h1, h2⟩ := ih (by omega) _ rfl
      have hlt : n < b.toList.length := by rw [Array.length_toList]; omega
      have hx : b.toList[n]? = some b.toList[n] := List.getElem?_eq_getElem hlt
      generalize (((List.range n).map (· + 0)).foldl _ ([], 0)) = r at e h1 h2
      have e' : acc = if n ≥ r.2 && b.extract n (n + #[c].size) == #[c] then (n :: r.1, n + #[c].size) else r := e
      clear e
      rw [extract_one b c n _ hx, decide_eq_true (show n ≥ r.2 from h2), Bool.true_and] at e'
      replace e' := e'
      rw [List.take_succ_eq_append_getElem hlt, List.count_append]
      by_cases hc : b.toList[n] = c
      · rw [if_pos (by simpa using hc)] at e'
        subst e'
        refine ⟨?_, Nat.le_refl _⟩
        simp only [List.length_cons, h1, hc]
        simp
      · rw [if_neg (by simpa using hc)] at e'
        subst e'
        refine ⟨?_, by omega⟩
        have h0 : [b.toList[n]].count c = 0 := List.count_eq_zero.mpr fun hm => hc (List.mem_singleton.mp hm).symm
        rw [h1, h0]; rfl
  obtain ⟨h1, _⟩ := key b.size (Nat.le_refl _) _ rfl
  have e : b.size + 1 - (0 + #[c].size) = b.size := by simp
  rw [e, List.length_reverse, h1, List.take_of_length_le (by simp)]
  rfl
theorem call_bytes_count {b : Array UInt8} {c : UInt8} {t u : Tok} {Q : Value → Shared → Prop} (h : Q (.int (countB c b) s.toks) { s with toks := s.toks + 1 }) :
    wpAny (model prog w) A (call (.builtin "bytes.count") [.bytes b t, .bytes #[c] u]) Q E s := by
  refine wpAny_call_entry slot_bytes_count (typeIs_bytes s b t) entry_bytes_count ?_ (args_bytes_count _ _)
  unfold Builtin.«bytes.count» Bytes.countM
  refine wpAny_bind ?_
  unfold Bytes.searchArgs
  refine wpAny_bind (wpAny_of_eq (a := (Value.bytes b t, [Value.bytes #[c] u])) rfl ?_)
  refine wpAny_bind (wpAny_of_eq (a := none) rfl ?_)
  refine wpAny_bind (wpAny_of_eq (a := none) rfl ?_)
  refine wpAny_bind (wpAny_of_eq KBy.buffer_eq ?_)
  refine wpAny_bind (wpAny_pure ?_)
  refine wpAny_bind (wpAny_of_eq (a := b) rfl ?_)
  have hw : Bytes.window b.size none none = (0, (b.size : Int)) := by unfold Bytes.window; simp; omega
  rw [hw]
  refine wpAny_pure ?_
  simp only []
  by_cases hb : b.size = 0
  · have hc : countB c b = 0 := by
      have : b = #[] := Array.eq_empty_of_size_eq_zero hb
      rw [this]; rfl
    rw [if_pos (by rw [hb]; show (0 : Int) - 0 < 1; decide)]
    refine wpAny_bind (wpAny_mkInt (wpAny_pure ⟨_, rfl, ?_⟩))
    rw [hc] at h; exact h
  · rw [if_neg (by show ¬ ((b.size : Int) - 0 < 1); omega)]
    simp only [Int.toNat_zero, Int.toNat_natCast]
    rw [if_neg (by simp), occ_one]
    exact wpAny_bind (wpAny_mkInt (wpAny_pure ⟨_, rfl, h⟩))

/-! ## join -/
noncomputable def IsBytes (vs : List Value) (bs : List (Array UInt8)) : Prop := Paired (fun v b => ∃ t, v = .bytes b t) vs bs
theorem IsBytes.get : ∀ {vs : List Value} {bs : List (Array UInt8)} {i : Nat}, IsBytes vs bs → i < vs.length → ∃ c, bs[i]? = some c ∧ ∃ u, vs[i]? = some (.bytes c u)
  | _, _, _, .nil, h => by simp at h
  | _, _, 0, .cons (a := a) (b := b) ⟨t, e⟩ _, _ => ⟨b, rfl, t, by rw [← e]; rfl⟩
  | _, _, i + 1, .cons _ r, h => by
    simp only [List.length_cons] at h
    simpa only [List.getElem?_cons_succ] using IsBytes.get (i := i) r (by omega)
theorem joinLetGo_any {taken : List (Value × Option Value)} {keep : List Value} {Q : Unit → Shared → Prop} (hb : ∀ p ∈ taken, ∃ x t, p = (Value.bytes x t, none)) (h : Q () s) : wpAny (model prog w) A (Bytes.joinLetGo taken keep) Q E s := by
  induction taken with
  | nil => exact wpAny_pure h
  | cons p taken ih =>
    obtain ⟨x, t, rfl⟩ := hb p List.mem_cons_self
    unfold Bytes.joinLetGo
    exact wpAny_bind (wpAny_letGo (ih fun q hq => hb q (List.mem_cons_of_mem _ hq)))
theorem sizes_fold (bs : List (Array UInt8)) : ∀ n, bs.toArray.foldl (· + ·.size) n = n + ((bs.map Array.toList).flatten).length := by
  intro n
  rw [List.foldl_toArray]
  induction bs generalizing n with
  | nil => simp
  | cons b bs ih => rw [List.foldl_cons, ih]; simp; omega
theorem takeQuiet_eq {id : String} {b : Array UInt8} {t : Tok} : Bytes.takeBufferQuiet? id (.bytes b t) 0 = pure (some (b, none)) := by
  unfold Bytes.takeBufferQuiet? Bytes.takeBuffer?
  rw [KBy.special_eq KBy.look_buffer, KBy.own_buffer]
  simp only [pure_bind, Bool.not_true, Bool.false_eq_true, if_false]
  have e : (0 == Bytes.fullReadOnly) = false := by decide
  rw [e, KBy.buffer_eq]
  rfl
theorem joined_nil (bs : List (Array UInt8)) : Bytes.joined #[] bs = ((bs.map Array.toList).flatten).toArray := by
  unfold Bytes.joined
  have key : ∀ (bs : List (Array UInt8)) (k : Nat) (acc : Array UInt8), (bs.zipIdx k).foldl (fun out (x : Array UInt8 × Nat) => (if x.2 > 0 then out ++ #[] else out) ++ x.1) acc = acc ++ ((bs.map Array.toList).flatten).toArray := by
    intro bs
    induction bs with
    | nil => intro k acc; simp
    | cons b bs ih =>
      intro k acc
      rw [List.zipIdx_cons, List.foldl_cons, ih]
      have : (if k > 0 then acc ++ #[] else acc) = acc := by split <;> simp
      simp only [this]
      apply Array.toList_inj.mp
      simp
  have := key bs 0 #[]
  simpa using this
theorem call_bytes_join {L : Addr} {vs : List Value} {n : Nat} {bs : List (Array UInt8)} {t : Tok} {Q : Value → Shared → Prop} (hL : s.heap.get? L = some (lobj vs n)) (hb : IsBytes vs bs)
    (hsz : ((bs.map Array.toList).flatten).length ≤ 16777216) (h : ∀ t' k, Q (.bytes ((bs.map Array.toList).flatten).toArray t') { s with toks := k }) :
    wpAny (model prog w) A (call (.builtin "bytes.join") [.bytes #[] t, .ref L]) Q E s := by
  have hT : s.TypeIs (.ref L) "list" := ⟨_, hL, rfl⟩
  refine wpAny_call_entry slot_bytes_join (typeIs_bytes s #[] t) entry_bytes_join ?_ (args_bytes_join _ _)
  unfold Builtin.«bytes.join» Bytes.joinM
  refine wpAny_bind (wpAny_of_eq (a := (Value.bytes #[] t, Value.ref L)) rfl ?_)
  show wpAny _ _ (Bytes.joinItems (.ref L) >>= _) _ _ _
  refine wpAny_bind ?_
  unfold Bytes.joinItems
  refine wpAny_bind (wpAny_typeOf hT ?_)
  rw [if_pos (by decide)]
  refine wpAny_pure ?_
  refine wpAny_bind (wpAny_seqItems hL rfl ?_)
  dsimp -zeta only
  extract_lets p0 t0 jp
  have hlen : vs.length = bs.length := hb.length
  have main : ∀ r, wpAny (model prog w) A.in1 (jp r) (fun fin s' => ∃ v, fin = Fin.done (.ret v) ∧ Q v s') E s := by
    intro r
    unfold jp
    rw [Std.Legacy.Range.forIn_eq_forIn_range']
    refine wpAny_bind (wpAny_forIn_list _
      (fun rest (b : Array (Array UInt8) × List (Value × Option Value)) s' => s' = s ∧ ∃ i, rest = List.range' i (vs.length - i) ∧ i ≤ vs.length ∧ b.1 = (bs.take i).toArray ∧ ∀ p ∈ b.2, ∃ x t, p = (Value.bytes x t, none))
      _ ?_ ?_ _ _ ⟨rfl, 0, by simp [Std.Legacy.Range.size], Nat.zero_le _, rfl, by intro p hp; cases hp⟩)
    · rintro x rest ⟨b1, b2⟩ s' ⟨rfl, i, hr, hi, hb1, hb2⟩
      have hlt : i < vs.length := by
        rcases Nat.lt_or_ge i vs.length with h | h
        · exact h
        · rw [Nat.sub_eq_zero_of_le h] at hr; simp at hr
      obtain ⟨rfl, hrest⟩ : x = i ∧ rest = List.range' (i + 1) (vs.length - (i + 1)) := by
        have e : vs.length - i = (vs.length - (i + 1)) + 1 := by omega
        rw [e, List.range'_succ] at hr
        injection hr with h1 h2
        exact ⟨h1, h2⟩
      obtain ⟨c, hc, u, hu⟩ : ∃ c, bs[x]? = some c ∧ ∃ u, vs[x]? = some (.bytes c u) := by
        exact hb.get hlt
      refine wpAny_bind (wpAny_seqItems hL rfl ?_)
      dsimp only
      have hx : vs.toArray.getD x Value.none = .bytes c u := by simp [hu]
      rw [hx]
      have hno : (Bytes.Kind.bytes == Bytes.Kind.bytearray || b2.any fun x => x.fst.onHeap) = false := by
        rw [Bool.or_eq_false_iff]
        refine ⟨by decide, ?_⟩
        rw [List.any_eq_false]
        intro p hp
        obtain ⟨y, t, rfl⟩ := hb2 p hp
        simp [Value.onHeap]
      rw [if_neg (by rw [hno]; exact Bool.false_ne_true)]
      refine wpAny_bind (wpAny_holding (wpAny_of_eq takeQuiet_eq ?_))
      refine wpAny_bind (wpAny_seqItems hL rfl ?_)
      dsimp only
      rw [if_neg (by simp)]
      refine wpAny_pure ⟨rfl, x + 1, hrest, hlt, ?_, ?_⟩
      · have hb1' : b1 = (bs.take x).toArray := hb1
        show b1.push c = _
        rw [hb1', List.take_succ_eq_append_getElem (by omega)]
        obtain ⟨_, hc'⟩ := List.getElem?_eq_some_iff.mp hc
        simp [hc']
      · intro p hp
        rcases List.mem_append.mp hp with hp | hp
        · exact hb2 p hp
        · rw [List.mem_singleton.mp hp]; exact ⟨c, u, rfl⟩
    · rintro ⟨b1, b2⟩ s' ⟨rfl, i, hr, hi, hb1, hb2⟩
      have hi' : vs.length ≤ i := by
        rcases Nat.lt_or_ge i vs.length with h | h
        · have e : vs.length - i = (vs.length - i - 1) + 1 := by omega
          rw [e, List.range'_succ] at hr; cases hr
        · exact h
      have hb1' : b1 = bs.toArray := by
        have : b1 = (bs.take i).toArray := hb1
        rw [this, List.take_of_length_le (by omega)]
      subst hb1'
      dsimp only
      refine wpAny_bind (wpAny_of_eq (a := (#[] : Array UInt8)) rfl ?_)
      have hlong : Bytes.tooLong (bs.toArray.foldl (fun x1 x2 => x1 + x2.size) ((#[] : Array UInt8).size * (bs.toArray.size - 1))) = false := by
        have e := sizes_fold bs ((#[] : Array UInt8).size * (bs.toArray.size - 1))
        rw [e]
        apply KBy.tooLong_not
        simp; simpa using hsz
      rw [if_neg (by rw [hlong]; exact Bool.false_ne_true), joined_nil]
      refine wpAny_bind (wpAny_mkBytes ?_ (by rw [sizeLine_eq]; simpa using hsz))
      refine wpAny_bind (wpAny_holding (wpAny_point (wpAny_bind (joinLetGo_any hb2 ?_))))
      exact wpAny_pure ⟨_, rfl, h _ _⟩
  rw [if_pos (by decide)]
  rcases vs with _ | ⟨x, _ | ⟨y, r⟩⟩
  · exact main ()
  · obtain ⟨c, rfl, u, rfl⟩ : ∃ c, bs = [c] ∧ ∃ u, x = .bytes c u := by
      cases hb with
      | cons h1 h2 => cases h2; obtain ⟨u, e⟩ := h1; exact ⟨_, rfl, u, e⟩
    refine wpAny_bind (wpAny_typeOf (typeIs_bytes s c u) ?_)
    rw [if_pos (by decide)]
    refine wpAny_bind (wpAny_rule (wpAny_pure ⟨_, rfl, ?_⟩))
    have := h u s.toks
    have e : (List.map Array.toList [c]).flatten.toArray = c := by simp
    rw [e] at this
    exact this
  · exact main ()

/-! ## sub -/
theorem drive {Q : Sre.M → Shared → Prop} : ∀ (turns k : Nat) (m : Sre.M), (m.runFor k).outcome.isSome = true → k ≤ 4 * turns → k ≠ 0 → Q (m.runFor k) s → wpAny (model prog w) A (Re.reDrive turns m) Q E s
  | 0, k, m, _, hk, h0, _ => by omega
  | turns + 1, k, m, ho, hk, h0, hq => by
    unfold Re.reDrive
    have e4 : Re.reTurnSteps = 4 := rfl
    rw [e4]
    show wpAny _ _ (if (m.runFor 4).outcome.isSome = true then pure (m.runFor 4) else _) _ _ _
    by_cases h : (m.runFor 4).outcome.isSome = true
    · rw [if_pos h]
      have : m.runFor 4 = m.runFor k := by
        rcases Nat.le_total k 4 with h1 | h1
        · obtain ⟨j, hj⟩ := Nat.exists_eq_add_of_le h1
          rw [hj, runFor_add, runFor_done ho]
        · obtain ⟨j, rfl⟩ := Nat.exists_eq_add_of_le h1
          rw [runFor_add, runFor_done h]
      rw [this]
      exact wpAny_pure hq
    · rw [if_neg h]
      have h1 : 4 < k := by
        rcases Nat.lt_or_ge 4 k with h1 | h1
        · exact h1
        · obtain ⟨j, hj⟩ := Nat.exists_eq_add_of_le h1
          rw [hj, runFor_add, runFor_done ho] at h
          exact absurd ho h
      obtain ⟨j, rfl⟩ := Nat.exists_eq_add_of_le (Nat.le_of_lt h1)
      rw [runFor_add] at ho hq
      exact wpAny_bind (wpAny_rule (drive turns j _ ho (by omega) (by omega) hq))
theorem runToEnd {k : Nat} {m m' : Sre.M} {Q : Option Sre.M → Shared → Prop} (hw : Within k m m') (hk : k ≤ 1000000000) (ho : m'.outcome.isSome = true) (hm : m.outcome.isSome = false)
    (h : ∀ b : Bool, m'.outcome = some (if b then Sre.Outcome.matched else .failed) → Q (if b then some m' else none) s) (hb : ∃ b : Bool, m'.outcome = some (if b then Sre.Outcome.matched else .failed)) :
    wpAny (model prog w) A (Re.reRunToEnd m) Q E s := by
  obtain ⟨j, hj, rfl⟩ := hw
  obtain ⟨b, hb⟩ := hb
  unfold Re.reRunToEnd
  refine wpAny_bind (drive _ j m ho ?_ ?_ ?_)
  · have : (1000000000 : Nat) ≤ 4 * 2 ^ 64 := by decide
    omega
  · rintro rfl
    rw [show m.runFor 0 = m from rfl, hm] at ho; cases ho
  · refine wpAny_bind (wpAny_forIn_list _ (fun _ _ s' => s' = s) _ ?_ ?_ _ _ rfl)
    · rintro x rest u s' rfl
      split
      · exact wpAny_bind (wpAny_rule (wpAny_pure rfl))
      · exact wpAny_pure rfl
    · rintro u s' rfl
      have := h b hb
      rw [hb]
      cases b
      · exact wpAny_pure this
      · exact wpAny_pure this
end
end Mine
end

/-! # R4 -/
section
set_option maxRecDepth 100000
namespace Mine
open Builtin Builtin.Re

structure IsQuoted (h : Heap) (a : Addr) : Prop where
  ex : ∃ o fs c oc vs n, h.get? a = some o ∧ o.cls = .type "re.Pattern" ∧ o.dict = none ∧ o.data = .fields fs ∧ fs.getD 5 .none = .ref c ∧ reRawNat (fs.getD 6 .none) = 1 ∧ reRawNat (fs.getD 2 .none) = 0 ∧ h.get? c = some oc ∧ oc.data = .seq vs n ∧ (vs.map reRawOf).map Int.toNat = qcode
theorem IsQuoted.keep {h h' : Heap} {a : Addr} (x : IsQuoted h a) (hk : ∀ b o, h.get? b = some o → h'.get? b = some o) : IsQuoted h' a := by
  obtain ⟨o, fs, c, oc, vs, n, h1, h2, h2', h3, h4, h5, h6, h7, h8, h9⟩ := x.ex
  exact ⟨o, fs, c, oc, vs, n, hk _ _ h1, h2, h2', h3, h4, h5, h6, hk _ _ h7, h8, h9⟩

noncomputable def target (a : Addr) (b : Array UInt8) (t : Tok) : ReTarget := { pattern := .ref a, string := .bytes b t, code := qcode, text := b.map (·.toNat), kind := 1, groups := 0, pos := 0, lim := (b.map (·.toNat)).size }

/-- what is left when the labels are taken out -/
inductive Segs : List Nat → List Nat → Prop
  | last {bs} : (∀ b ∈ bs, (b == 34) = false) → Segs bs bs
  | more {bs us r out} : (∀ b ∈ bs, (b == 34) = false) → Units us → Segs r out → Segs (bs ++ 34 :: (us ++ 34 :: r)) (bs ++ out)

theorem args_pattern_sub (a b c : Value) : argsOk "re.Pattern.sub" ⟨[a, b, c], []⟩ := by unfold argsOk; kernel_rfl
theorem look_bytes_call : typeLookup (.type "bytes") "__call__" = pure none := by rw [typeLookup_type, builtinLookup_eq_fast]; kernel_rfl
section
variable {prog : Program} {w : World} {A : Around} {E : Value → Shared → Prop} {s : Shared}
theorem wholeTarget {a : Addr} {b : Array UInt8} {t : Tok} {Q : ReTarget → Shared → Prop} (x : IsQuoted s.heap a) (h : Q (target a b t) s) : wpAny (model prog w) A (reWholeTarget (.ref a) (.bytes b t)) Q E s := by
  obtain ⟨o, fs, c, oc, vs, n, h1, h2, h2', h3, h4, h5, h6, h7, h8, h9⟩ := x.ex
  unfold reWholeTarget
  refine wpAny_bind (wpAny_fieldsOf h1 h3 ?_)
  have et : reTextOf (.bytes b t) = pure (b.map (·.toNat), 1) := by
    unfold reTextOf
    rw [show asStr? (.bytes b t) = pure none from rfl, KBy.quiet_eq]
    rfl
  rw [et]
  refine wpAny_bind (wpAny_pure ?_)
  dsimp only
  rw [h5]
  rw [if_neg (by decide), if_neg (by decide)]
  have en : reNoCollectionInside (.bytes b t) 1 = pure () := by
    unfold reNoCollectionInside
    rw [KBy.isInstance_eq]
    rfl
  rw [en]
  refine wpAny_bind (wpAny_pure ?_)
  rw [h4, h6]
  refine wpAny_bind ?_
  unfold reRawItems
  refine wpAny_bind (wpAny_seqItems h7 h8 (wpAny_pure (wpAny_pure ?_)))
  have e : (((some vs).getD #[]).map reRawOf).map Int.toNat = qcode := h9
  rw [e]
  exact h

noncomputable def toB (ns : List Nat) : List UInt8 := ns.map (·.toUInt8)
theorem slice_eq {b : Array UInt8} {i j : Nat} : ((b.map (·.toNat)).extract i j).map (·.toUInt8) = b.extract i j := by
  apply Array.toList_inj.mp
  simp [List.map_take, List.map_drop, Function.comp_def]

theorem pushList {L : Addr} {vs : List Value} {n : Nat} {v : Value} {Q : Unit → Shared → Prop} (hL : s.heap.get? L = some (lobj vs n)) (hsz : vs.length ≤ 16777216)
    (h : ∀ h' n', h'.get? L = some (lobj (vs ++ [v]) n') → Heap.SameBut L s.heap h' → Q () { s with heap := h' }) : wpAny (model prog w) A (updateSeq L (·.push v)) Q E s := by
  refine wpAny_updateSeq hL rfl ?_ (by rw [List.size_toArray, sizeLine_eq]; exact hsz) (by simp [sizeLine_eq]; omega)
  refine h _ (if vs.toArray.size == (vs.toArray.push v).size then n else n + 1) ?_ (Heap.SameBut.update ..)
  rw [Heap.get?_update_self _ hL rfl]
  simp [Obj.mapSeq]

theorem literal_eq {b : Array UInt8} {u : Tok} : reLiteralCannotBeTurned (.bytes b u) = pure () := by
  unfold reLiteralCannotBeTurned
  rw [show asStr? (.bytes b u) = pure none from rfl]
  simp only [pure_bind, Option.isNone_none, if_true, KBy.isInstance_eq, Bool.not_true, Bool.false_eq_true, if_false]
theorem tsize {b : Array UInt8} : (b.map (·.toNat)).size = b.size := by simp
theorem tlist {b : Array UInt8} : (b.map (·.toNat)) = (b.toList.map (·.toNat)).toArray := by apply Array.toList_inj.mp; simp

/-- no label any more -/
theorem found_none {a : Addr} {b : Array UInt8} {t : Tok} {done : Nat} {rem : List Nat} {Q : Option Sre.M → Shared → Prop} (hb : b.size ≤ 1000000) (hd : (b.toList.map (·.toNat)).drop done = rem) (hdone : done ≤ b.size) (hq : ∀ x ∈ rem, (x == 34) = false) (h : Q none s) :
    wpAny (model prog w) A (reNextFound (target a b t) ((done : Int)).toNat false) Q E s := by
  unfold reNextFound target
  rw [Int.toNat_natCast]
  dsimp only
  rw [tlist, List.size_toArray]
  have hlen : (b.toList.map (·.toNat)).length = b.size := by simp
  rcases Nat.lt_or_ge ((b.toList.map (·.toNat)).length - done) 2 with h2 | h2
  · obtain ⟨w1, w2⟩ := start_no (b.toList.map (·.toNat)).toArray done _ h2
    have hm : (Sre.forSearch qcode (b.toList.map (·.toNat)).toArray 0 done (b.toList.map (·.toNat)).length false).outcome.isSome = false := by
      unfold Sre.forSearch
      rw [if_pos (by have e : (Sre.header qcode) = (2, 9) := rfl
                     simp only [e]; simp at h2 ⊢; omega)]
      rfl
    refine runToEnd w1 (by omega) (by rw [w2]; rfl) hm (fun b' hb' => ?_) ⟨false, w2⟩
    rw [w2] at hb'
    cases b' with
    | true => simp at hb'
    | false => exact h
  · rw [start_at _ _ _ (by omega) h2]
    obtain ⟨m', w1, w2⟩ := search_none (s := done) (om := true) (sn := ({} : Sre.Seen).add 14) hd hq (by omega)
    have hl : rem.length ≤ b.size := by rw [← hd, List.length_drop]; omega
    refine runToEnd w1 (by omega) (by rw [w2]; rfl) rfl (fun b' hb' => ?_) ⟨false, w2⟩
    rw [w2] at hb'
    cases b' with
    | true => simp at hb'
    | false => exact h
theorem found_label {a : Addr} {b : Array UInt8} {t : Tok} {done : Nat} {bs us r : List Nat} {Q : Option Sre.M → Shared → Prop} (hb : b.size ≤ 1000000) (hd : (b.toList.map (·.toNat)).drop done = bs ++ 34 :: (us ++ 34 :: r)) (hdone : done ≤ b.size)
    (hq : ∀ x ∈ bs, (x == 34) = false) (hu : Units us) (h : ∀ m : Sre.M, m.start = done + bs.length → m.handed = done + bs.length + us.length + 2 → Q (some m) s) :
    wpAny (model prog w) A (reNextFound (target a b t) ((done : Int)).toNat false) Q E s := by
  unfold reNextFound target
  rw [Int.toNat_natCast]
  dsimp only
  rw [tlist, List.size_toArray]
  have hlen : (b.toList.map (·.toNat)).length = b.size := by simp
  have hl : bs.length + us.length + r.length + 2 = b.size - done := by
    have := congrArg List.length hd
    simp only [List.length_drop, List.length_append, List.length_cons, hlen] at this
    omega
  rw [start_at _ _ _ (by omega) (by omega)]
  obtain ⟨m', w1, w2, w3, w4⟩ := search_label (s := done) (om := true) (sn := ({} : Sre.Seen).add 14) hd hq hu
  refine runToEnd w1 (by omega) (by rw [w2]; rfl) rfl (fun b' hb' => ?_) ⟨true, w2⟩
  rw [w2] at hb'
  cases b' with
  | true => exact h m' w3 w4
  | false => simp at hb'

theorem sz1 {c u r b d v : Nat} (hb : b ≤ 1000000) (hl : c + u + r + 2 = b - d) (hv : v ≤ 2 * d + 1) : v ≤ 16777215 := by omega
theorem sz2 {c u r b d : Nat} (hl : c + u + r + 2 = b - d) (hd : d ≤ b) : d + c + u + 2 ≤ b := by omega
theorem sz3 {c u d v : Nat} (hv : v ≤ 2 * d + 1) : v + 1 ≤ 2 * (d + c + u + 2) := by omega
theorem sz4 {c u d v : Nat} (hv : v ≤ d) : v + c ≤ d + c + u + 2 := by omega
theorem sz5 {d c u : Nat} : d + c + u + 2 = d + (c + (u + 2)) := by omega
theorem sz6 {u : Nat} : u + 2 = 1 + (u + 1) := by omega
theorem sz7 {d c u : Nat} : d + c + u + 2 ≠ d + c := by omega
theorem sz8 {v d : Nat} (hv : v ≤ 2 * d) : v ≤ 2 * d + 1 := by omega
theorem sz9 {c d : Nat} (h : ¬ d < d + c) : c = 0 := by omega
theorem sz10 {v d b : Nat} (hb : b ≤ 1000000) (hd : d ≤ b) (hv : v ≤ 2 * d) : v ≤ 16777215 := by omega
theorem sub_loop {a L : Addr} {b : Array UInt8} {t u : Tok} {R : Result → Shared → Prop} {h₁ : Heap} {full : List Nat} (hb : b.size ≤ 1000000) (hx : IsQuoted h₁ a) (hL0 : h₁.get? L = none)
    (hR : ∀ h' tk t', (∀ c o, c ≠ L → h₁.get? c = some o → h'.get? c = some o) → R (.ok (.ret (.bytes (toB full).toArray t'))) { s with heap := h', toks := tk }) :
    ∀ {rem out : List Nat}, Segs rem out → ∀ (pre : List Nat) (done : Nat) (n : Int) (vs : List Value) (bs : List (Array UInt8)) (k tk : Nat) (h : Heap), (b.toList.map (·.toNat)).drop done = rem → done ≤ b.size →
      pre ++ out = full → toB pre = (bs.map Array.toList).flatten → IsBytes vs bs → vs.length ≤ 2 * done → h.get? L = some (lobj vs k) → (∀ c o, c ≠ L → h₁.get? c = some o → h.get? c = some o) → pre.length ≤ done →
      codeAny (model prog w) A (.builtin "re.Pattern.sub.loop" ⟨[.ref a, .bytes b t, .bytes #[] u, rawInt 0, rawInt 0, rawInt n, rawInt done, rawInt done, .bool false, .ref L, .bool false], []⟩) R { s with heap := h, toks := tk } := by
  intro rem out hseg
  induction hseg with
  | @last rem hq =>
    intro pre done n vs bs k tk h hdrop hdone hpre hcat hvs hlen hL hkeep hpl
    refine codeAny_builtin entry_sub_loop ?_
    rw [Around.under_plainId plain_sub_loop _]
    unfold Builtin.«re.Pattern.sub.loop»
    dsimp only [rawInt]
    refine wpAny_bind (wholeTarget (hx.keep fun c o e => hkeep c o (fun q => by rw [q, hL0] at e; cases e) e) ?_)
    rw [if_pos (by decide), literal_eq]
    refine wpAny_bind (wpAny_pure ?_)
    rw [if_neg (by simp)]
    refine wpAny_bind (found_none hb hdrop hdone hq ?_)
    dsimp only
    -- the joining
    have join : ∀ (h' : Heap) (tk' : Nat) (vs' : List Value) (bs' : List (Array UInt8)) (k' : Nat), toB full = (bs'.map Array.toList).flatten → IsBytes vs' bs' → h'.get? L = some (lobj vs' k') → (∀ c o, c ≠ L → h₁.get? c = some o → h'.get? c = some o) →
        wpAny (model prog w) A.in1 (reSlice (target a b t).text (target a b t).kind 0 0 >>= fun joiner => seqItems? (.ref L) >>= fun x =>
            if (x.getD #[]).isEmpty = true then (pure joiner >>= fun text => if false = true then (holding [text] (mkInt n >>= fun y => newTuple [text, y]) >>= fun y => ret y) else ret text)
            else (call (.builtin (if ((target a b t).kind == 0) = true then "str.join" else "bytes.join")) [joiner, .ref L] >>= fun text => if false = true then (holding [text] (mkInt n >>= fun y => newTuple [text, y]) >>= fun y => ret y) else ret text))
          (fun fin s' => match fin with | .done f => R (.ok f) s' | .again c' => c'.quiet = true ∧ codeAny (model prog w) A c' R s') (fun e s' => R (.error e) s') { s with heap := h', toks := tk' } := by
      intro h' tk' vs' bs' k' hc hv hL' hk'
      have e0 : reSlice (target a b t).text (target a b t).kind 0 0 = mkBytes #[] := by
        show mkBytes (((b.map (·.toNat)).extract 0 0).map (·.toUInt8)) = _
        rw [slice_eq]; congr 1; simp
      rw [e0]
      refine wpAny_bind (wpAny_mkBytes (wpAny_bind (wpAny_seqItems hL' rfl ?_)) (by rw [sizeLine_eq]; simp))
      by_cases hv0 : vs' = []
      · subst hv0
        cases hv
        rw [if_pos (show ((some (#[] : Array Value)).getD #[]).isEmpty = true from rfl)]
        refine wpAny_bind (wpAny_pure ?_)
        rw [if_neg Bool.false_ne_true]
        have := hR h' (tk' + 1) tk' hk'
        rw [hc] at this
        exact wpAny_pure this
      · rw [if_neg (by cases vs' <;> simp_all), show (if ((target a b t).kind == 0) = true then "str.join" else "bytes.join") = "bytes.join" from rfl]
        have hl : toB full = (bs'.map Array.toList).flatten := hc
        refine wpAny_bind (call_bytes_join hL' hv ?_ fun t' k => ?_)
        · rw [← hc]
          unfold toB
          rw [List.length_map, ← hpre, List.length_append]
          have : rem.length ≤ b.size := by rw [← hdrop, List.length_drop]; simp
          omega
        · rw [if_neg Bool.false_ne_true, ← hc]
          exact wpAny_pure (hR h' k t' hk')
    have hlim : (target a b t).lim = b.size := tsize
    by_cases hlt : ((done : Int)).toNat < (target a b t).lim
    · rw [if_pos hlt]
      rw [Int.toNat_natCast, hlim] at hlt
      have e1 : reSlice (target a b t).text (target a b t).kind ((done : Int)).toNat (target a b t).lim = mkBytes (b.extract done b.size) := by
        rw [Int.toNat_natCast, hlim]
        show mkBytes (((b.map (·.toNat)).extract done b.size).map (·.toUInt8)) = _
        rw [slice_eq]
      rw [e1]
      refine wpAny_bind (wpAny_mkBytes (wpAny_bind (pushList hL (Nat.le_trans (sz10 hb hdone hlen) (by decide)) fun h' n' hL' hsb => ?_)) (by rw [sizeLine_eq]; simp; omega))
      refine join h' _ _ (bs ++ [b.extract done b.size]) n' ?_ (Paired.snoc hvs ⟨_, rfl⟩) hL' fun c o hc e => (hsb.2 c hc).trans (hkeep c o hc e)
      rw [← hpre]
      unfold toB at hcat ⊢
      rw [List.map_append, hcat, List.map_append, List.flatten_append]
      congr 1
      rw [← hdrop]
      simp [List.map_drop, Function.comp_def]
      rw [List.take_of_length_le (by simp)]
    · rw [if_neg hlt]
      rw [Int.toNat_natCast, hlim] at hlt
      refine join h tk vs bs k ?_ hvs hL hkeep
      have : rem = [] := by rw [← hdrop]; apply List.drop_eq_nil_of_le; simp; omega
      rw [← hpre, this, List.append_nil]; exact hcat
  | @more cs us r out hq hu hr ih =>
    intro pre done n vs bs k tk h hdrop hdone hpre hcat hvs hlen hL hkeep hpl
    have hlen' : (b.toList.map (·.toNat)).length = b.size := by simp
    have hl : cs.length + us.length + r.length + 2 = b.size - done := by
      have := congrArg List.length hdrop
      simp only [List.length_drop, List.length_append, List.length_cons, hlen'] at this
      omega
    refine codeAny_builtin entry_sub_loop ?_
    rw [Around.under_plainId plain_sub_loop _]
    unfold Builtin.«re.Pattern.sub.loop»
    dsimp only [rawInt]
    refine wpAny_bind (wholeTarget (hx.keep fun c o e => hkeep c o (fun q => by rw [q, hL0] at e; cases e) e) ?_)
    rw [if_pos (by decide), literal_eq]
    refine wpAny_bind (wpAny_pure ?_)
    rw [if_neg (by simp)]
    refine wpAny_bind (found_label hb hdrop hdone hq hu fun m hs hh => ?_)
    dsimp only
    have turn : ∀ (h' : Heap) (tk' : Nat) (vs' : List Value) (bs' : List (Array UInt8)) (k' : Nat), toB (pre ++ cs) = (bs'.map Array.toList).flatten → IsBytes vs' bs' → vs'.length ≤ 2 * done + 1 → h'.get? L = some (lobj vs' k') → (∀ c o, c ≠ L → h₁.get? c = some o → h'.get? c = some o) →
        wpAny (model prog w) A.in1 (if ((0 : Int) == 0) = true then (pure (Value.bytes #[] u) >>= fun item => if (item != Value.none) = true then (updateSeq L (fun x => x.push item) >>= fun _ => again (.builtin "re.Pattern.sub.loop" ⟨[.ref a, .bytes b t, .bytes #[] u, .int 0 0, .int 0 0, .int (n + 1) 0, .int m.handed 0, .int m.handed 0, .bool (m.handed == m.start), .ref L, .bool false], []⟩))
              else again (.builtin "re.Pattern.sub.loop" ⟨[.ref a, .bytes b t, .bytes #[] u, .int 0 0, .int 0 0, .int (n + 1) 0, .int m.handed 0, .int m.handed 0, .bool (m.handed == m.start), .ref L, .bool false], []⟩))
            else (do
              let found ← reNewMatch (Value.ref a) (Value.bytes b t) (target a b t).groups 0 (target a b t).lim m
              let item ← holding [found] (if ((0 : Int) == 1) = true then call (Value.bytes #[] u) [found] else do reExpand (Value.bytes #[] u) (← reFound found))
              if (item != Value.none) = true then updateSeq L (fun x => x.push item)
              again (.builtin "re.Pattern.sub.loop" ⟨[.ref a, .bytes b t, .bytes #[] u, .int 0 0, .int 0 0, .int (n + 1) 0, .int m.handed 0, .int m.handed 0, .bool (m.handed == m.start), .ref L, .bool false], []⟩)))
          (fun fin s' => match fin with | .done f => R (.ok f) s' | .again c' => c'.quiet = true ∧ codeAny (model prog w) A c' R s') (fun e s' => R (.error e) s') { s with heap := h', toks := tk' } := by
      intro h' tk' vs' bs' k' hc hv hl' hL' hk'
      rw [if_pos (by decide)]
      refine wpAny_bind (wpAny_pure ?_)
      rw [if_pos (by rfl)]
      refine wpAny_bind (pushList hL' (Nat.le_trans (sz1 hb hl hl') (by decide)) fun h'' n' hL'' hsb => ?_)
      have hne : (m.handed == m.start) = false := by rw [hs, hh, beq_eq_false_iff_ne]; exact sz7
      rw [hne]
      refine wpAny_pure ⟨plainId_quiet plain_sub_loop _, ?_⟩
      have := ih (pre ++ cs) m.handed (n + 1) (vs' ++ [.bytes #[] u]) (bs' ++ [#[]]) n' tk' h'' ?_ ?_ ?_ ?_ (Paired.snoc hv ⟨u, rfl⟩) ?_ hL'' (fun c o hc e => (hsb.2 c hc).trans (hk' c o hc e)) ?_
      · exact this
      · rw [hh, show done + cs.length + us.length + 2 = done + (cs.length + (us.length + 2)) from sz5, ← List.drop_drop, hdrop, ← List.drop_drop, List.drop_left]
        rw [show us.length + 2 = 1 + (us.length + 1) from sz6, ← List.drop_drop, List.drop_one, List.tail_cons, ← List.drop_drop, List.drop_left, List.drop_one, List.tail_cons]
      · rw [hh]; exact sz2 hl hdone
      · rw [List.append_assoc]; exact hpre
      · rw [hc, List.map_append, List.flatten_append]; simp
      · rw [hh, List.length_append, List.length_singleton]; exact sz3 hl'
      · rw [hh, List.length_append]; exact sz4 hpl
    by_cases hlt : ((done : Int)).toNat < m.start
    · rw [if_pos hlt]
      rw [Int.toNat_natCast, hs] at hlt
      have e1 : reSlice (target a b t).text (target a b t).kind ((done : Int)).toNat m.start = mkBytes (b.extract done (done + cs.length)) := by
        rw [Int.toNat_natCast, hs]
        show mkBytes (((b.map (·.toNat)).extract done (done + cs.length)).map (·.toUInt8)) = _
        rw [slice_eq]
      rw [e1]
      refine wpAny_bind (wpAny_mkBytes (wpAny_bind (pushList hL (Nat.le_trans (sz10 hb hdone hlen) (by decide)) fun h' n' hL' hsb => ?_)) (by rw [sizeLine_eq]; simp; omega))
      refine turn h' _ _ (bs ++ [b.extract done (done + cs.length)]) n' ?_ (Paired.snoc hvs ⟨_, rfl⟩) (by rw [List.length_append, List.length_singleton]; exact Nat.succ_le_succ hlen) hL' fun c o hc e => (hsb.2 c hc).trans (hkeep c o hc e)
      unfold toB at hcat ⊢
      rw [List.map_append, hcat, List.map_append, List.flatten_append]
      congr 1
      have e2 : cs = ((b.toList.map (·.toNat)).drop done).take cs.length := by rw [hdrop, List.take_left]
      rw [e2]
      simp [List.map_drop, List.map_take, Function.comp_def]
    · rw [if_neg hlt]
      rw [Int.toNat_natCast, hs] at hlt
      have hc0 : cs = [] := List.length_eq_zero_iff.mp (sz9 hlt)
      refine turn h tk vs bs k ?_ hvs (sz8 hlen) hL hkeep
      rw [hc0, List.append_nil]; exact hcat

/-- the whole call: labels are taken out -/
theorem call_sub {a : Addr} {b : Array UInt8} {t u : Tok} {Q : Value → Shared → Prop} {full : List Nat} (hb : b.size ≤ 1000000) (hx : IsQuoted s.heap a) (hseg : Segs (b.toList.map (·.toNat)) full) (hh : A.handled = none)
    (h : ∀ h' tk t', (∀ c o, s.heap.get? c = some o → h'.get? c = some o) → Q (.bytes (toB full).toArray t') { s with heap := h', toks := tk }) :
    wpAny (model prog w) A (call (.builtin "re.Pattern.sub") [.ref a, .bytes #[] u, .bytes b t]) Q E s := by
  obtain ⟨o, fs, c, oc, vs, n, h1, h2, h2', h3, h4, h5, h6, h7, h8, h9⟩ := hx.ex
  have hT : s.TypeIs (.ref a) "re.Pattern" := ⟨o, h1, h2⟩
  refine wpAny_call (codeAny_call_builtin slot_pattern_sub.plain entry_pattern_sub (slot_pattern_sub.check _ _ _ _ _ _ _ _ hT (args_pattern_sub _ _ _) ?_))
  unfold Builtin.«re.Pattern.sub» reSubstitute
  have en : reNamed "re.Pattern.sub" "sub" ["repl", "string", "count"] 2 [.bytes #[] u, .bytes b t] [] = pure [some (.bytes #[] u), some (.bytes b t), none] := by kernel_rfl
  dsimp only
  rw [en]
  refine wpAny_bind (wpAny_pure ?_)
  dsimp only
  refine wpAny_bind (wpAny_pure ?_)
  rw [KBy.special_eq look_bytes_call]
  refine wpAny_bind (wpAny_pure ?_)
  rw [if_neg (show ¬ ((none : Option Value).isSome = true) by decide), show asStr? (.bytes #[] u) = pure none from rfl]
  refine wpAny_bind (wpAny_pure ?_)
  dsimp only
  rw [KBy.quiet_eq]
  refine wpAny_bind (wpAny_pure ?_)
  dsimp only
  refine wpAny_bind (wpAny_pure ?_)
  rw [if_neg (show ¬ ((none : Option Value).isSome = true) by decide), if_pos (show (!(#[] : Array UInt8).contains 92) = true by simp)]
  refine wpAny_bind (wpAny_pure ?_)
  dsimp only
  refine wpAny_bind (wpAny_holding (wholeTarget hx ?_))
  rw [if_neg (show ¬ ((0 : Int) == 1) = true by decide)]
  refine wpAny_bind (wpAny_newObj_type ?_ (by show (#[] : Array Value).size ≤ sizeLine; rw [sizeLine_eq]; decide))
  refine wpAny_pure ⟨plainId_quiet plain_sub_loop _, ?_⟩
  have hno : s.heap.get? s.heap.objs.size = none := by
    cases e : s.heap.get? s.heap.objs.size with
    | none => rfl
    | some o => exact absurd (Heap.lt_size e) (Nat.lt_irrefl _)
  have hk0 : ∀ c o, c ≠ s.heap.objs.size → s.heap.get? c = some o → (s.heap.push { cls := .type "list", data := .seq ([] : List Value).toArray }).get? c = some o := fun c o _ e => Heap.get?_push_of_some _ e
  have := sub_loop (prog := prog) (w := w) (L := s.heap.objs.size) (t := t) (u := u) (A := A) (full := full) (s := s) (h₁ := s.heap) (R := fun r s' => match r with | .ok (.ret v) => Q v s' | .ok _ => False | .error e => E e s') hb hx hno
    (fun h' tk t' hk => h h' tk t' fun c o e => hk c o (Nat.ne_of_lt (Heap.lt_size e)) e) hseg [] 0 0 [] [] 0 s.toks (s.heap.push { cls := .type "list", data := .seq ([] : List Value).toArray }) rfl (Nat.zero_le _) rfl rfl .nil (Nat.le_refl _) (Heap.get?_push_size _ rfl) hk0 (Nat.le_refl _)
  exact this
end
end Mine
end

/-! # F13 -/
namespace Mine
/-! ## tokens only grow -/
theorem runs_toks {M : Model} {Γ : Ctx} {p : Pos} {t : Sem Fin} {fs : List Frame} {s s' : Shared} {e : End} (h : PySem.Runs M Γ p t fs s e s') : s.toks ≤ s'.toks := by
  induction h <;> (try simp only [Shared.setGen] at *) <;> omega
theorem wakes_toks {M : Model} {Γ : Ctx} {p : Pos} {g : Nat} {r : Resume} {s s' : Shared} {res : GenResult} (h : Wakes M Γ p g r s res s') : s.toks ≤ s'.toks := by
  unfold Wakes at h
  split at h
  · exact h.elim
  · split at h
    · obtain ⟨_, s₁, hr, _, _, rfl⟩ := h
      have := runs_toks hr
      simpa [Shared.setGen] using this
    · rw [h.2]; exact Nat.le_refl _
    · rw [h.2]; exact Nat.le_refl _
  · obtain ⟨_, s₁, hr, _, _, rfl⟩ := h
    have := runs_toks hr
    simpa [Shared.setGen] using this
  · rw [h.2]; exact Nat.le_refl _
  · rw [h.2]; exact Nat.le_refl _
theorem wp_toks {α : Type} (M : Model) (Γ : Ctx) (n : Nat) (t : Sem α) : ∀ (Q : α → Pos → Shared → Prop) (E : Value → Pos → Shared → Prop) (p : Pos) (s : Shared), n ≤ s.toks → Sem.wp M Γ t Q E p s →
    Sem.wp M Γ t (fun a p' s' => n ≤ s'.toks ∧ Q a p' s') (fun e p' s' => n ≤ s'.toks ∧ E e p' s') p s := by
  induction t with
  | pure a => exact fun Q E p s hn h => ⟨hn, h⟩
  | raise e => exact fun Q E p s hn h => ⟨hn, h⟩
  | unsupported _ | finish _ | register _ _ | yield _ _ _ _ | fork _ _ | await _ _ _ _ _ => exact fun Q E p s _ h => h
  | rule _ k ih => exact fun Q E p s hn h => ih () Q E p s hn h
  | «at» p' k ih => exact fun Q E p s hn h => ih () Q E p' s hn h
  | load a _ k ih => exact fun Q E p s hn ⟨o, ho, h⟩ => ⟨o, ho, ih o Q E p s hn h⟩
  | update a _ f k ih => exact fun Q E p s hn h => ⟨h.1, ih () Q E p _ hn h.2⟩
  | loadIfAlive a k ih => exact fun Q E p s hn h => ih _ Q E p s hn h
  | point _ k ih => exact fun Q E p s hn h => ih () Q E p s hn h
  | alloc o k ih => exact fun Q E p s hn h => ih _ Q E p _ hn h
  | fresh k ih => exact fun Q E p s hn h => ih _ Q E p _ (Nat.le_succ_of_le hn) h
  | ask k ih => exact fun Q E p s hn h => ih _ Q E p s hn h
  | choose src m k ih => exact fun Q E p s hn h => ⟨h.1, ih _ Q E p _ hn h.2⟩
  | os q _ k ih => exact fun Q E p s hn h => ih _ Q E p _ hn h
  | call c hd _ _ k ih => exact fun Q E p s hn ⟨r, s', hr, h⟩ => ⟨r, s', hr, ih r Q E p s' (Nat.le_trans hn (runs_toks hr)) h⟩
  | handled own k ih => exact fun Q E p s hn h => ih _ Q E p s hn h
  | genState g k ih => exact fun Q E p s hn ⟨st, hs, h⟩ => ⟨st, hs, ih _ Q E p s hn h⟩
  | newGen c k ih => exact fun Q E p s hn h => ih _ Q E p _ hn h
  | resume g r _ k ih => exact fun Q E p s hn ⟨res, s', hw, h⟩ => ⟨res, s', hw, ih res Q E p s' (Nat.le_trans hn (wakes_toks hw)) h⟩
  | stack k ih => exact fun Q E p s hn h => ih _ Q E p s hn h
  | thread k ih => exact fun Q E p s hn h => ih _ Q E p s hn h
theorem wpAny_toks {α : Type} {M : Model} {A : Around} {s : Shared} {t : Sem α} {Q : α → Shared → Prop} {E : Value → Shared → Prop} (h : wpAny M A t Q E s) :
    wpAny M A t (fun a s' => s.toks ≤ s'.toks ∧ Q a s') E s :=
  wpAny_mono (fun Γ p hΓ => wp_toks M Γ _ t _ _ p s (Nat.le_refl _) (h Γ p hΓ) : wpAny M A t (fun a s' => s.toks ≤ s'.toks ∧ Q a s') (fun e s' => s.toks ≤ s'.toks ∧ E e s') s) (fun _ _ h => h) fun _ _ h => h.2

section
variable {w : World} {h₀ : Heap} {A : Around} {env : Env} {c : Key} {ck : List (Str × Key)} {σ σ' σ₁ σ₂ σ₃ σ₄ σ₅ : H} {d d₁ d₂ d₃ : D} {pos : Pos}

theorem Reps.strs {x : Cfg} : ∀ {us : List Value} {ns : List Str}, Reps w x us (ns.map .str) → StrsAre us ns
  | _, [], h => by cases h; exact .nil
  | _, n :: ns, h => by
    cases h with
    | cons a b => cases a; exact .cons _ _ (Reps.strs b)
theorem CallD.join {y : Str} {ys : List Str} (hl : Lst σ d (ys.map .str)) (hok : (ys.map (·.length)).sum + ys.length * y.length ≤ 16777216) : CallD w h₀ A (.builtin "str.join") [.str y, d] σ (.str (Txt.join y ys)) σ := fun x vs ok hr s hs => by
  obtain ⟨v, u, rfl, hv, hu⟩ := hr.two
  obtain ⟨a, us, n, rfl, hg, hus⟩ := hl.at ok hu
  cases hv
  exact join_list (items := us.toArray) ⟨_, hs ▸ hg, rfl, n, rfl⟩ hus.strs hok fun t' k => Post.of hs ok .str

theorem CallD.count {b : Array UInt8} {y : UInt8} : CallD w h₀ A (.builtin "bytes.count") [.bytes b, .bytes #[y]] σ (.int (countB y b)) σ := fun x vs ok hr s hs => by
  obtain ⟨v, u, rfl, hv, hu⟩ := hr.two
  generalize hz : (#[y] : Array UInt8) = z at hu
  cases hv; cases hu; subst hz
  exact call_bytes_count (Post.of hs ok .int)
theorem Meth.bytes {name : Str} {id : String} {y : Array UInt8} (sl : Slot "bytes" name id) (ty : typeOf (.builtin id) = pure (.type "method_descriptor")) : Meth w h₀ "bytes" id name (.bytes y) σ :=
  ⟨FB.plainAttrs_bytes, sl, ty, fun x v s ok hs hv => by
    cases hv
    exact ⟨typeIs_bytes _ _ _, fun b e => by cases e⟩⟩
theorem CallD.sub {a : Addr} {b : Array UInt8} {full : List Nat} (hx : IsQuoted h₀ a) (hb : b.size ≤ 1000000) (hseg : Segs (b.toList.map (·.toNat)) full) (hh : A.handled = none) :
    CallD w h₀ A (.builtin "re.Pattern.sub") [.val (.ref a), .bytes #[], .bytes b] σ (.bytes (toB full).toArray) σ := fun x vs ok hr s hs => by
  obtain ⟨v, u, t, rfl, hv, hu, ht⟩ := hr.three
  generalize hz : (#[] : Array UInt8) = z at hu
  cases hv; cases hu; cases ht; subst hz
  exact Runs.grown ok hs (call_sub hb (hx.keep fun b o e => hs ▸ ok.base b o e) hseg hh fun h' tk t' hk => ⟨h', tk, rfl, fun b o e => hk b o (hs ▸ e), fun _ => .bytes⟩)
theorem Meth.pat {a : Addr} (hx : IsQuoted h₀ a) : Meth w h₀ "re.Pattern" "re.Pattern.sub" "sub" (.val (.ref a)) σ :=
  ⟨plainAttrs_pattern, slot_pattern_sub, type_pattern_sub, fun x v s ok hs hv => by
    cases hv
    obtain ⟨o, fs, c, oc, vs, n, h1, h2, h2', _⟩ := hx.ex
    exact ⟨⟨o, hs ▸ ok.base _ _ h1, h2⟩, fun b e => by cases e; exact ⟨o, hs ▸ ok.base _ _ h1, h2'⟩⟩⟩

/-- «y.join(L).replace(a, b)» over constants -/
theorem Ev.joinReplace {rows : Expr} {y ya yb : Str} {k1 k2 k3 : Nat} {cp ap ap2 pa pb p1 p2 : Pos} {ys : List Str} (hr : Ev w h₀ A env c ck rows σ d σ₁) (hl : Lst σ₁ d (ys.map .str)) (hok : (ys.map (·.length)).sum + ys.length * y.length ≤ 16777216)
    (hok2 : (Txt.join y ys).length + ((Txt.join y ys).length + 1) * yb.length ≤ 16777216) (hne : (ya == yb) = false)
    (hb1 : attributeBase (.Constant (.str y) k1 cp) "join" env (eval (.Constant (.str y) k1 cp) env) = eval (.Constant (.str y) k1 cp) env)
    (hf1 : ((backTo p1 (starEach [rows] env)).all (fun x => !x.1) && (backToKw p1 (keywordEach [] env)).all (fun x => x.1.isSome) && decide ([rows].length + ([] : List Keyword).length + (if ([] : List Keyword).isEmpty then 0 else 1) < 30)) = true)
    (hl1 : (ap.endLine == p1.line) = true) (hq1 : starEach [rows] env = (false, eval rows env) :: starEach [] env)
    (hb2 : attributeBase (.Call (.Attribute (.Constant (.str y) k1 cp) "join" ap) [rows] [] p1) "replace" env (eval (.Call (.Attribute (.Constant (.str y) k1 cp) "join" ap) [rows] [] p1) env) = eval (.Call (.Attribute (.Constant (.str y) k1 cp) "join" ap) [rows] [] p1) env)
    (hf2 : ((backTo p2 (starEach [.Constant (.str ya) k2 pa, .Constant (.str yb) k3 pb] env)).all (fun x => !x.1) && (backToKw p2 (keywordEach [] env)).all (fun x => x.1.isSome) && decide ([Expr.Constant (.str ya) k2 pa, .Constant (.str yb) k3 pb].length + ([] : List Keyword).length + (if ([] : List Keyword).isEmpty then 0 else 1) < 30)) = true)
    (hl2 : (ap2.endLine == p2.line) = true) (hq2 : starEach [.Constant (.str ya) k2 pa, .Constant (.str yb) k3 pb] env = (false, eval (.Constant (.str ya) k2 pa) env) :: starEach [.Constant (.str yb) k3 pb] env)
    (hq3 : starEach [.Constant (.str yb) k3 pb] env = (false, eval (.Constant (.str yb) k3 pb) env) :: starEach [] env) (hp1 : (backTo p1 (starEach [] env)).any (·.1) = false) (hp2 : (backTo p2 (starEach [.Constant (.str yb) k3 pb] env)).any (·.1) = false) :
    Ev w h₀ A env c ck (.Call (.Attribute (.Call (.Attribute (.Constant (.str y) k1 cp) "join" ap) [rows] [] p1) "replace" ap2) [.Constant (.str ya) k2 pa, .Constant (.str yb) k3 pb] [] p2) σ (.str (Txt.replace (Txt.join y ys) ya yb)) σ₁ := fun x ok en s hs => by
  -- the joined text, and a token that is past the start
  have inner : wpAny (model prog w) A (eval (.Call (.Attribute (.Constant (.str y) k1 cp) "join" ap) [rows] [] p1) env) (fun v s' => s.toks + 1 ≤ s'.toks ∧ Post w h₀ σ₁ x s (fun v z => Rep w z v (.str (Txt.join y ys))) v s') (fun _ _ => False) s := by
    refine wpAny_Call_method_lateS hb1 hf1 hl1 (wpAny_Constant_str ?_)
    refine ⟨"str", "str.join", F.plainAttrs_str, F.slot_str_join, F.type_str_join, typeIs_str _ _ _, (fun b e => by cases e), callWith_method1 ?_ hq1 hp1⟩
    refine wpAny_mono (wpAny_toks (Evs.cons hr Evs.nil hq1 p1 x ok en { s with toks := s.toks + 1 } hs)) (fun vs s' ⟨ht, z, tk, e, okz, af, rvs⟩ => ?_) fun _ _ e => e
    subst e
    refine wpAny_mono (wpAny_toks (CallD.join hl hok z (.str y s.toks :: vs) okz (.cons .str rvs) { s with heap := z.h, toks := tk } rfl)) (fun v s' ⟨ht', z', tk', e, ok', af', rv⟩ => ?_) fun _ _ e => e
    subst e
    exact ⟨Nat.le_trans ht ht', z', tk', rfl, ok', af.trans af', rv⟩
  refine wpAny_Call_method_lateS hb2 hf2 hl2 (wpAny_mono inner (fun v s' ⟨ht, z, tk, e, okz, af, rv⟩ => ?_) fun _ _ e => e)
  subst e
  cases rv
  refine ⟨"str", "str.replace", F.plainAttrs_str, F.slot_str_replace, F.type_str_replace, typeIs_str _ _ _, (fun b e => by cases e), callWith_method1 ?_ hq2 hp2⟩
  refine args_cons (wpAny_Constant_str (args_cons (wpAny_Constant_str (args_nil ?_)) hq3)) hq2
  refine SC.replace ?_ ?_ ?_ hne hok2 fun t' k => ⟨z, k, rfl, okz, af, .str⟩
  · show tk ≠ 0
    have h1 : s.toks + 1 ≤ tk := ht
    omega
  · show tk + 1 ≠ 0
    omega
  · show tk ≠ tk + 1
    omega
end
end Mine

/-! # F14 -/
namespace Mine
section
variable {w : World} {h₀ : Heap} {A : Around} {env : Env} {c : Key} {ck ck' : List (Str × Key)} {σ σ' σ₁ σ₂ σ₃ : H} {d d₁ d₂ d₃ : D} {pos : Pos}

noncomputable abbrev dobj0 : Obj := { cls := .type "dict", data := .dict #[] }
/-- a dict, key by key -/
noncomputable def dputs (ks bs : Nat → Int) : Nat → List (Int × Int)
  | 0 => []
  | n + 1 => dput (dputs ks bs n) (ks n) (bs n)
theorem dput_length (kvs : List (Int × Int)) (k b : Int) : (dput kvs k b).length ≤ kvs.length + 1 := by
  unfold dput; split <;> simp
theorem dputs_length (ks bs : Nat → Int) : ∀ n, (dputs ks bs n).length ≤ n
  | 0 => Nat.le_refl _
  | n + 1 => Nat.le_trans (dput_length _ _ _) (Nat.succ_le_succ (dputs_length ks bs n))
/-- one turn of a dict's comprehension -/
noncomputable def TurnD (w : World) (h₀ : Heap) (A : Around) (cenv : Env) (kf : Key) (ck' : List (Str × Key)) (target kx vx : Expr) (d : D) (σ σ' : H) (k b : Int) : Prop :=
  ∃ τ τ' τ'', Tgt w h₀ A cenv kf ck' target d (σ.set kf (.ns g0)) τ ∧ Ev w h₀ A cenv kf ck' kx τ (.int k) τ' ∧ Ev w h₀ A cenv kf ck' vx τ' (.int b) τ'' ∧ H.Le τ'' (σ'.set kf (.ns g0))

/-- a comprehension's loop, from a frame that is laid to a list that is made -/
theorem compD_loop {target kx vx iter : Expr} {scope : Scope} {ds : List D} {Cn : H → Prop} {kf : Key} {x x₀ : Cfg} {s : Shared} {I acc C : Addr} {tk₀ : Nat} {J : Nat → Cfg → Prop} {m₀ : Str → Option Value}
    (σs : Nat → H) (ks bs : Nat → Int) (hkf : kf.isFr = true) (hno : ∀ i, i ≤ ds.length → (σs i) kf = none) (P : Proto w h₀ A I ds Cn J) (hC : ∀ i, i ≤ ds.length → Cn ((σs i).set kf (.ns g0)))
    (hck : ∀ y k, ck'.lookup y = some k → ck.lookup y = some k ∧ (y, NameKind.free) ∈ scope.names)
    (hturn : ∀ i d, ds[i]? = some d → TurnD w h₀ A (cenvOf scope env C) kf ck' target kx vx d (σs i) (σs (i + 1)) (ks i) (bs i))
    (ok : Ok w h₀ (σs 0) x₀) (en : InEnv env c ck x₀) (af : After x x₀) (hI : x.h.objs.size ≤ I) (hacc : x.h.objs.size ≤ acc) (hCge : x.h.objs.size ≤ C) (hIa : I ≠ acc) (hIC : I ≠ C) (haC : acc ≠ C)
    (hMI : x₀.M I) (hMa : x₀.M acc) (hMC : x₀.M C) (hαI : ∀ k, x₀.α k ≠ some I) (hαa : ∀ k, x₀.α k ≠ some acc) (hαC : ∀ k, x₀.α k ≠ some C) (hJ : J 0 x₀) (hns : x₀.h.Ns C m₀) (hg0 : x₀.h.DictOf (intKind prog w) acc []) (haq : (acc == sysModules) = false)
    (hsz : ds.length ≤ sizeLine) (ht : ∀ it v, letOwnedTupleGo target it v = pure ()) :
    codeAny (model prog w) A (.compLoop (.DictComp kx vx [⟨target, iter, [], 0⟩] scope pos) 0 (.ref I) (.ref acc) (cenvOf scope env C))
      (fun r s' => ∃ y tk m', r = .ok .next ∧ s' = { s with heap := y.h, toks := tk } ∧ Ok w h₀ (σs ds.length) y ∧ After x y ∧ InEnv env c ck y ∧ Rep w y (.ref acc) (.dict (dputs ks bs ds.length)) ∧ y.M C ∧ (∀ k, y.α k ≠ some C) ∧ y.h.Ns C m') { s with heap := x₀.h, toks := tk₀ } := by
  have hlt : ∀ i z, x.h.objs.size ≤ z.h.objs.size → ∀ b, Ok w h₀ i z → z.M b → b < z.h.objs.size := fun i z _ b okz hb => okz.lim b hb
  refine codeAny_compLoop_testsD
    (fun k s' => ∃ i z tk o kv m', k = ds.length - i ∧ i ≤ ds.length ∧ s' = { s with heap := z.h, toks := tk } ∧ Ok w h₀ ((σs i).set kf (.ns g0)) z ∧ After x (z.drop kf) ∧ InEnv env c ck z ∧ z.α kf = some C ∧ z.M I ∧ z.M acc ∧ (∀ k, z.α k ≠ some I) ∧ (∀ k, z.α k ≠ some acc) ∧ J i z ∧ z.h.Ns C m' ∧
      z.h.get? acc = some o ∧ o.IsDictOf (intKind prog w) kv ∧ IntVals kv (dputs ks bs i)) ?_ ds.length ?_ (fun v => ht _ v)
  · rintro k s' ⟨i, z, tk, o, kv, m', rfl, hle, rfl, okz, afz, enz, hCz, hMIz, hMaz, hαIz, hαaz, hJz, hnsz, hgz, hdz, hrz⟩
    -- the comprehension's own surroundings
    have inC : ∀ y : Cfg, After z y → InEnv (cenvOf scope env C) kf ck' y := fun y a => ⟨a.names _ _ hCz, fun v k h => by
      obtain ⟨h1, h2⟩ := hck v k h
      obtain ⟨b, h3, h4⟩ := enz.cell v k h1
      exact ⟨b, closOf_lookup h3 h2, a.names _ _ h4⟩⟩
    by_cases hlt : i < ds.length
    · obtain ⟨d', hd'⟩ : ∃ d, ds[i]? = some d := ⟨ds[i], by simp [hlt]⟩
      obtain ⟨τ, τ', τ'', hst, hkx, hvx, hle'⟩ := hturn i d' hd'
      have main : wpAny (model prog w) A (pyNext (.ref I)) (fun r s₁ => ∃ v z₁ tk₁, r = some v ∧ s₁ = { s with heap := z₁.h, toks := tk₁ } ∧ Ok w h₀ ((σs i).set kf (.ns g0)) z₁ ∧ z₁.M = z.M ∧ z₁.α = z.α ∧ (∀ b o, b ≠ I → z.h.get? b = some o → z₁.h.get? b = some o) ∧ z.h.objs.size ≤ z₁.h.objs.size ∧
          Rep w z₁ v d' ∧ J (i + 1) z₁) (fun _ _ => False) { s with heap := z.h, toks := tk } := by
        refine P.item i _ z _ _ d' hd' okz hMIz hαIz (hC i hle) hJz rfl fun v h' tk₁ hk hsz hr hj => ?_
        obtain ⟨ok1, g1⟩ := okz.aside hMIz hαIz hk hsz
        exact ⟨v, { z with h := h' }, tk₁, rfl, rfl, ok1, rfl, rfl, hk, hsz, hr, hj⟩
      refine wpAny_mono main (fun r s₁ ⟨v, z₁, tk₁, e, e', ok1, eM, eα, hk1, hsz1, hr1, hj1⟩ => ?_) fun _ _ e => e.elim
      subst e e'
      have en1 : InEnv (cenvOf scope env C) kf ck' z₁ := by
        have := inC z (After.refl z)
        exact ⟨by rw [eα]; exact this.loc, fun y k h => by rw [eα]; exact this.cell y k h⟩
      have g1 : Grow z z₁ := ⟨fun b o hb e => hk1 b o (fun q => hb (q ▸ hMIz)) e, fun b _ hb => by rw [eM]; exact hb, fun _ _ e => by rw [eα]; exact e⟩
      refine wpAny_mono ((hst z₁ v ok1 en1 hr1) _ rfl) (fun _ s₂ ⟨z₂, tk₂, e, ok2, af2, _⟩ => ?_) fun _ _ e => e.elim
      subst e
      have en2 : InEnv (cenvOf scope env C) kf ck' z₂ := en1.after af2
      -- what holds behind any honest step
      have back : ∀ z₃ : Cfg, ∀ σ₃ : H, Ok w h₀ σ₃ z₃ → After z₁ z₃ → H.Le σ₃ ((σs (i + 1)).set kf (.ns g0)) →
          Ok w h₀ ((σs (i + 1)).set kf (.ns g0)) z₃ ∧ After x (z₃.drop kf) ∧ InEnv env c ck z₃ ∧ z₃.α kf = some C ∧ z₃.M I ∧ z₃.M acc ∧ (∀ k, z₃.α k ≠ some I) ∧ (∀ k, z₃.α k ≠ some acc) ∧ J (i + 1) z₃ ∧ (∃ m'', z₃.h.Ns C m'') ∧
            z₃.h.get? acc = some o := by
        intro z₃ σ₃ ok3 a3 hle3
        have ok3' := ok3.le hle3
        have hown : ∀ b, (∀ k, z.α k ≠ some b) → ¬ own z₁ b := fun b h ⟨k, hk⟩ => h k (by rw [← eα]; exact hk)
        have hfr : ∀ b, z.M b → (∀ k, z.α k ≠ some b) → ∀ k, z₃.α k ≠ some b := fun b hb h k hk => by
          rcases a3.fresh k b hk with q | q
          · rw [eα] at q; exact h k q
          · exact absurd (okz.lim b hb) (Nat.not_lt.mpr (Nat.le_trans hsz1 q))
        have hM3 : ∀ b, z.M b → (∀ k, z.α k ≠ some b) → z₃.M b := fun b hb h => (a3.marks b (Nat.lt_of_lt_of_le (okz.lim b hb) hsz1) (hown b h)).mpr (by rw [eM]; exact hb)
        have hxsz : x.h.objs.size ≤ z.h.objs.size := afz.size
        refine ⟨ok3', ?_, ⟨a3.names _ _ (by rw [eα]; exact enz.loc), fun y k h => ?_⟩, a3.names _ _ (by rw [eα]; exact hCz), hM3 I hMIz hαIz, hM3 acc hMaz hαaz, hfr I hMIz hαIz, hfr acc hMaz hαaz, ?_, ?_, ?_⟩
        · -- from the start
          refine ⟨Nat.le_trans hxsz (Nat.le_trans hsz1 a3.size), fun b o hb e => ?_, fun b hb hnb => ?_, fun k b e => ?_, fun k b e => ?_⟩
          · have e1 : z.h.get? b = some o := afz.keep b o hb e
            have hbI : b ≠ I := fun q => Nat.lt_irrefl _ (Nat.lt_of_lt_of_le (Heap.lt_size e) (q ▸ hI))
            have hbo : ∀ k, z.α k ≠ some b := fun k hk => by
              by_cases hkk : k = kf
              · rw [hkk, hCz] at hk; cases hk
                exact Nat.lt_irrefl _ (Nat.lt_of_lt_of_le (Heap.lt_size e) hCge)
              · have hk' : (z.drop kf).α k = some b := by show (if k = kf then none else z.α k) = some b; rw [if_neg hkk]; exact hk
                rcases afz.fresh k b hk' with q | q
                · exact hb ⟨k, q⟩
                · exact Nat.lt_irrefl _ (Nat.lt_of_lt_of_le (Heap.lt_size e) q)
            exact a3.keep b o (hown b hbo) (hk1 b o hbI e1)
          · have hbo : ∀ k, z.α k ≠ some b := fun k hk => by
              by_cases hkk : k = kf
              · rw [hkk, hCz] at hk; cases hk
                exact Nat.lt_irrefl _ (Nat.lt_of_lt_of_le hb hCge)
              · have hk' : (z.drop kf).α k = some b := by show (if k = kf then none else z.α k) = some b; rw [if_neg hkk]; exact hk
                rcases afz.fresh k b hk' with q | q
                · exact hnb ⟨k, q⟩
                · exact Nat.lt_irrefl _ (Nat.lt_of_lt_of_le hb q)
            have q1 : z₃.M b ↔ z₁.M b := a3.marks b (Nat.lt_of_lt_of_le hb (Nat.le_trans hxsz hsz1)) (hown b hbo)
            rw [eM] at q1
            exact q1.trans (afz.marks b hb hnb)
          · have e1 := afz.names k b e
            have e1' : (if k = kf then none else z.α k) = some b := e1
            show (if k = kf then none else z₃.α k) = some b
            split at e1'
            · cases e1'
            · rename_i hne; rw [if_neg hne]; exact a3.names k b (by rw [eα]; exact e1')
          · have e' : (if k = kf then none else z₃.α k) = some b := e
            split at e'
            · cases e'
            · rename_i hne
              rcases a3.fresh k b e' with q | q
              · rw [eα] at q
                have : (z.drop kf).α k = some b := by show (if k = kf then none else z.α k) = some b; rw [if_neg hne]; exact q
                exact afz.fresh k b this
              · exact .inr (Nat.le_trans hxsz (Nat.le_trans hsz1 q))
        · obtain ⟨b, h1, h2⟩ := enz.cell y k h
          exact ⟨b, h1, a3.names _ _ (by rw [eα]; exact h2)⟩
        · exact P.still _ _ _ hj1 (a3.grow ok1) fun o ho => a3.keep I o (hown I hαIz) ho
        · obtain ⟨m'', h1, _⟩ := ok3'.ns (k := kf) (g := g0) (by unfold H.set; rw [if_pos rfl]) (a3.names _ _ (by rw [eα]; exact hCz))
          exact ⟨m'', h1⟩
        · exact a3.keep acc _ (hown acc hαaz) (hk1 acc _ (Ne.symm hIa) hgz)
      refine wpAny_tests_nil ?_
      rw [if_pos rfl]
      refine wpAny_mono ((hkx z₂ ok2 en2) _ rfl) (fun kv' s₃ ⟨z₃, tk₃, e3, ok3, af3, rk⟩ => ?_) fun _ _ e => e.elim
      subst e3
      refine wpAny_mono ((hvx z₃ ok3 (en2.after af3)) _ rfl) (fun vv s₄ ⟨z₄, tk₄, e4, ok4, af4, rv⟩ => ?_) fun _ _ e => e.elim
      subst e4
      have a4 := (af2.trans af3).trans af4
      obtain ⟨okb, afb, enb, hCb, hMIb, hMab, hαIb, hαab, hJb, ⟨m'', hnsb⟩, hgb⟩ := back z₄ τ'' ok4 a4 hle'
      have hlen : kv.length ≤ sizeLine := by
        rw [hrz.length]
        exact Nat.le_trans (dputs_length ks bs i) (Nat.le_trans hle hsz)
      cases rk
      cases rv
      refine wpAny_dictSet_pairs (knd := intKind prog w) (intKind_is _ _ _ _) (Heap.dictOf_iff.mpr ⟨o, hgb, hdz⟩) (fun h' hd' hsb => ?_) hlen
      obtain ⟨o', ho', hdo'⟩ := Heap.dictOf_iff.mp hd'
      have hsb' : ∀ b o, b ≠ acc → z₄.h.get? b = some o → h'.get? b = some o := fun b o hb e => (hsb.2 b hb).trans e
      have hsz' : z₄.h.objs.size ≤ h'.objs.size := Nat.le_of_eq hsb.1.symm
      obtain ⟨ok5, g5⟩ := okb.aside hMab hαab hsb' hsz'
      refine ⟨ds.length - (i + 1), by omega, i + 1, { z₄ with h := h' }, _, o', _, m'', rfl, hlt, rfl, ok5, ?_, ⟨enb.loc, enb.cell⟩, hCb, hMIb, hMab, hαIb, hαab, P.still _ _ _ hJb g5 fun o ho => hsb' I o hIa ho, hnsb.sameBut hsb (Ne.symm haC), ho', hdo', ?_⟩
      · exact (After.aside (y := z₄.drop kf) afb hacc (h' := h') hsb' hsz')
      · exact hrz.stored
    · have e : i = ds.length := by omega
      subst e
      refine wpAny_mono (P.done _ z { s with heap := z.h, toks := tk } (fun r s₁ => r = none ∧ ∃ y tk m', (Except.ok Flow.next : Result) = .ok .next ∧ s₁ = { s with heap := y.h, toks := tk } ∧ Ok w h₀ (σs ds.length) y ∧ After x y ∧ InEnv env c ck y ∧ Rep w y (.ref acc) (.dict (dputs ks bs ds.length)) ∧ y.M C ∧ (∀ k, y.α k ≠ some C) ∧ y.h.Ns C m')
        okz hMIz hαIz (hC _ hle) hJz rfl fun h' tk₁ hk hsz => ⟨rfl, ?_⟩) (fun r s₁ ⟨e, h⟩ => by subst e; exact h) fun _ _ e => e.elim
      obtain ⟨ok1, g1⟩ := okz.aside hMIz hαIz hk hsz
      have okd := ok1.dropF hkf
      rw [H.erase_set (hno _ hle)] at okd
      have hCd : ∀ k, (Cfg.drop { z with h := h' } kf).α k ≠ some C := fun k hk => by
        have hk' : (if k = kf then none else z.α k) = some C := hk
        split at hk'
        · cases hk'
        · rename_i hne; exact hne (okz.inj k kf C hk' hCz)
      have hαd : ∀ k, (Cfg.drop { z with h := h' } kf).α k ≠ some acc := fun k hk => by
        have hk' : (if k = kf then none else z.α k) = some acc := hk
        split at hk'
        · cases hk'
        · exact hαaz k hk'
      obtain ⟨oky, gy⟩ := okd.unmark (I := acc) (h' := h') hMaz hαd (fun _ _ _ e => e) (Nat.le_refl _)
      have afz' : After x (Cfg.drop { z with h := h' } kf) := After.aside (y := z.drop kf) afz hI (h' := h') hk hsz
      have hMC : z.M C := by
        obtain ⟨b, h1, h2, _⟩ := okz.live kf _ (by unfold H.set; rw [if_pos rfl])
        rw [hCz] at h1; cases h1; exact h2
      refine ⟨_, tk₁, m', rfl, rfl, oky, afz'.unmark hacc (fun _ _ _ e => e) (Nat.le_refl _), ⟨?_, ?_⟩, .dict (fun h => h.2 rfl) haq (hk acc _ (Ne.symm hIa) hgz) ⟨_, hdz, hrz⟩, ⟨hMC, Ne.symm haC⟩, hCd, hnsz.at' fun o ho => hk C o (Ne.symm hIC) ho⟩
      · show (if c = kf then none else z.α c) = some env.locals
        rw [if_neg (by
          rintro rfl
          have := ok.noname (hno 0 (Nat.zero_le _))
          rw [en.loc] at this; cases this)]
        exact enz.loc
      · intro v k h
        obtain ⟨b, h1, h2⟩ := enz.cell v k h
        refine ⟨b, h1, ?_⟩
        show (if k = kf then none else z.α k) = some b
        rw [if_neg (by
          rintro rfl
          have := ok.noname (hno 0 (Nat.zero_le _))
          obtain ⟨b', _, h2'⟩ := en.cell v _ h
          rw [this] at h2'; cases h2')]
        exact h2
  · -- the start
    obtain ⟨o, hg, hd0⟩ := Heap.dictOf_iff.mp hg0
    have hnok : (σs 0) kf = none := hno 0 (Nat.zero_le _)
    have hα0 := ok.noname hnok
    let z : Cfg := { M := x₀.M, α := fun k => if k = kf then some C else x₀.α k, h := x₀.h }
    have nm : ∀ k b, x₀.α k = some b → z.α k = some b := fun k b e => by
      show (if k = kf then some C else x₀.α k) = some b
      rw [if_neg (by rintro rfl; rw [hα0] at e; cases e)]; exact e
    have g : Grow x₀ z := ⟨fun _ _ _ e => e, fun _ _ e => e, nm⟩
    have hdrop : (z.drop kf).α = x₀.α := by
      funext k
      show (if k = kf then none else if k = kf then some C else x₀.α k) = x₀.α k
      by_cases e : k = kf
      · rw [if_pos e, e, hα0]
      · rw [if_neg e, if_neg e]
    have afd : After x (z.drop kf) := ⟨af.size, af.keep, af.marks, fun k b e => by rw [hdrop]; exact af.names k b e, fun k b e => by rw [hdrop] at e; exact af.fresh k b e⟩
    have hnot : ∀ a, a ≠ C → (∀ k, x₀.α k ≠ some a) → ∀ k, z.α k ≠ some a := fun a ha h k hk => by
      have hk' : (if k = kf then some C else x₀.α k) = some a := hk
      split at hk'
      · cases hk'; exact ha rfl
      · exact h k hk'
    refine ⟨0, z, tk₀, o, [], m₀, by omega, Nat.zero_le _, rfl, ⟨ok.base, ok.off, ?_, ?_, ?_, ok.lim⟩, afd, ⟨nm _ _ en.loc, fun y k h => let ⟨b, h1, h2⟩ := en.cell y k h; ⟨b, h1, nm _ _ h2⟩⟩, if_pos rfl, hMI, hMa, hnot I hIC hαI, hnot acc haC hαa, P.still _ _ _ hJ g fun _ e => e, hns, hg, hd0, .nil⟩
    · intro k sp h
      unfold H.set at h
      split at h
      · rename_i e; cases h; subst e
        exact ⟨C, if_pos rfl, hMC, ok.lim C hMC, m₀, hns, fun y d e => by simp [g0] at e⟩
      · obtain ⟨b, h1, h2, h3, h4⟩ := ok.live k sp h
        exact ⟨b, nm _ _ h1, h2, h3, h4.grow g fun _ e => e⟩
    · intro k b h
      have h' : (if k = kf then some C else x₀.α k) = some b := h
      unfold H.set
      split
      · rfl
      · rename_i e; rw [if_neg e] at h'; exact ok.dom k b h'
    · intro k₁ k₂ b h1 h2
      have h1' : (if k₁ = kf then some C else x₀.α k₁) = some b := h1
      have h2' : (if k₂ = kf then some C else x₀.α k₂) = some b := h2
      split at h1' <;> split at h2'
      · rename_i e1 e2; rw [e1, e2]
      · cases h1'; exact absurd h2' (hαC k₂)
      · cases h2'; exact absurd h1' (hαC k₁)
      · exact ok.inj k₁ k₂ b h1' h2'

theorem compD_run {target kx vx iter : Expr} {scope : Scope} {ds : List D} {Cn : H → Prop} {kf : Key} {x : Cfg} {s : Shared}
    (σs : Nat → H) (ks bs : Nat → Int) (hkf : kf.isFr = true) (hno : ∀ i, i ≤ ds.length → (σs i) kf = none) (hC : ∀ i, i ≤ ds.length → Cn ((σs i).set kf (.ns g0))) (co : CompOk scope env ck ck')
    (hi : Itr w h₀ A (eval iter env) env c ck σ ds Cn (σs 0))
    (hturn : ∀ C i d, ds[i]? = some d → TurnD w h₀ A (cenvOf scope env C) kf ck' target kx vx d (σs i) (σs (i + 1)) (ks i) (bs i))
    (hl0 : h₀.NoLimit) (hsz : ds.length ≤ sizeLine) (ht : ∀ it v, letOwnedTupleGo target it v = pure ())
    (ok : Ok w h₀ σ x) (en : InEnv env c ck x) (hs : s.heap = x.h) {R : Value → Addr → Result → Shared → Prop}
    (hR : ∀ acc C s', CompEnd w h₀ env c ck x s (.dict (dputs ks bs ds.length)) (σs ds.length) acc C s' → R acc C (.ok .next) s') :
    wpAny (model prog w) A (eval iter env) (fun xv s₁ => wpAny (model prog w) A (pyIter xv) (fun it s₂ => wpAny (model prog w) A newDict (fun acc s₃ =>
      wpAny (model prog w) A (newFunctionEnv scope env.globals (closOf scope env) [] env.qual none .none (some env)) (fun cenv s₄ =>
        codeAny (model prog w) A (.compStart (.DictComp kx vx [⟨target, iter, [], 0⟩] scope pos) 0 it acc { cenv with scope := relabel scope env }) (fun r s' => R acc cenv.locals r s') s₄) (fun _ _ => False) s₃) (fun _ _ => False) s₂) (fun _ _ => False) s₁) (fun _ _ => False) s := by
  refine wpAny_mono (hi x ok en s hs) (fun xv s₁ h₁ => wpAny_mono h₁ (fun it s₂ h₂ => ?_) fun _ _ e => e) fun _ _ e => e
  obtain ⟨I, y, tk, J, rfl, rfl, oky, af, hM, hα, hge, hJ, P⟩ := h₂
  simp only [newDict, newObj]
  refine wpAny_bind (wpAny_alloc (wpAny_pure ?_))
  refine wpAny_newFunctionEnv co.noCell (by intro y hy; simp at hy) (fun h₁ hns hsb => ?_) co.kind
  dsimp only at hns hsb ⊢
  -- the accumulator
  have k1 : ∀ b o, y.h.get? b = some o → (y.h.push dobj0).get? b = some o := fun b o e => Heap.get?_push_of_some _ e
  have z1 : y.h.objs.size ≤ (y.h.push dobj0).objs.size := by rw [Heap.size_push]; exact Nat.le_succ _
  obtain ⟨ok1, af1, hα1⟩ := oky.mark (I := y.h.objs.size) (h' := y.h.push dobj0) (Nat.le_refl _) (by rw [Heap.size_push]; exact Nat.lt_succ_self _) k1 z1
  -- the frame
  have hH : (y.h.push dobj0).objs.size = y.h.objs.size + 1 := Heap.size_push ..
  have hsz1 : h₁.objs.size = (y.h.push dobj0).objs.size + 1 := hsb.1.trans (Heap.size_push ..)
  have k2 : ∀ b o, (y.h.push dobj0).get? b = some o → h₁.get? b = some o := fun b o e => (hsb.2 b (Nat.ne_of_lt (Heap.lt_size e))).trans (Heap.get?_push_of_some _ e)
  obtain ⟨ok2, af2, hα2⟩ := ok1.mark (I := (y.h.push dobj0).objs.size) (h' := h₁) (Nat.le_refl _) (by rw [hsz1]; exact Nat.lt_succ_self _) k2 (by rw [hsz1]; exact Nat.le_succ _)
  have a2 := (af.trans af1).trans af2
  have hIlt : I < y.h.objs.size := oky.lim I hM
  have loop : ∀ s₃ : Shared, s₃ = { ({ s with heap := y.h, toks := tk } : Shared) with heap := h₁, toks := tk + ([] : List (Str × Value)).length } →
      codeAny (model prog w) A (.compLoop (.DictComp kx vx [⟨target, iter, [], 0⟩] scope pos) 0 (.ref I) (.ref y.h.objs.size) (cenvOf scope env (y.h.push dobj0).objs.size))
        (fun r s' => R (.ref y.h.objs.size) (y.h.push dobj0).objs.size r s') s₃ := by
    rintro s₃ rfl
    have hJ2 : J 0 (Cfg.mark (Cfg.mark y y.h.objs.size (y.h.push dobj0)) (y.h.push dobj0).objs.size h₁) :=
      P.still _ _ _ (P.still _ _ _ hJ (af1.grow oky) fun o ho => k1 I o ho) (af2.grow ok1) fun o ho => k2 I o ho
    refine codeAny_mono (compD_loop (c := c) (ck := ck) (x := x) (s := s) (tk₀ := tk + ([] : List (Str × Value)).length) (C := (y.h.push dobj0).objs.size) (x₀ := Cfg.mark (Cfg.mark y y.h.objs.size (y.h.push dobj0)) (y.h.push dobj0).objs.size h₁)
      σs ks bs hkf hno P hC co.keys (hturn _) ok2 (en.after a2) a2 hge af.size (by rw [hH]; exact Nat.le_succ_of_le af.size) (Nat.ne_of_lt hIlt) (by rw [hH]; exact Nat.ne_of_lt (Nat.lt_succ_of_lt hIlt)) (by rw [hH]; exact Nat.ne_of_lt (Nat.lt_succ_self _))
      (.inl (.inl hM)) (.inl (.inr rfl)) (.inr rfl) hα (fun k e => hα1 k e) (fun k e => hα2 k e) hJ2 hns ((Heap.DictOf.new y.h).keep k2) (notModules hl0 oky) hsz ht) fun r s' h => ?_
    obtain ⟨z, tk', m', rfl, e, h1, h2, h3, h4, h5, h6, h7⟩ := h
    exact hR _ _ _ ⟨z, tk', m', e, h1, h2, h3, h4, h5, h6, h7, by rw [hH]; exact Nat.le_succ_of_le af.size⟩
  have hJ2 : J 0 (Cfg.mark (Cfg.mark y y.h.objs.size (y.h.push dobj0)) (y.h.push dobj0).objs.size h₁) :=
    P.still _ _ _ (P.still _ _ _ hJ (af1.grow oky) fun o ho => k1 I o ho) (af2.grow ok1) fun o ho => k2 I o ho
  exact codeAny_compStart_dict (loop _ rfl) (wpAny_mono (P.self 0 _ _ _ hJ2 rfl (loop _ rfl)) (fun _ _ h => h) fun _ _ e => e.elim)

theorem Ev.dictComp {target kx vx iter : Expr} {scope : Scope} {ds : List D} {Cn : H → Prop} {kf : Key}
    (σs : Nat → H) (ks bs : Nat → Int) (hkf : kf.isFr = true) (hno : ∀ i, i ≤ ds.length → (σs i) kf = none) (hC : ∀ i, i ≤ ds.length → Cn ((σs i).set kf (.ns g0))) (co : CompOk scope env ck ck')
    (hi : Itr w h₀ A (eval iter env) env c ck σ ds Cn (σs 0))
    (hturn : ∀ C i d, ds[i]? = some d → TurnD w h₀ A (cenvOf scope env C) kf ck' target kx vx d (σs i) (σs (i + 1)) (ks i) (bs i))
    (hl0 : h₀.NoLimit) (hsz : ds.length ≤ sizeLine) (ht : ∀ it v, letOwnedTupleGo target it v = pure ()) (hf : ∀ x, foldedSetIterable iter env x = pure x) :
    Ev w h₀ A env c ck (.DictComp kx vx [⟨target, iter, [], 0⟩] scope pos) σ (.dict (dputs ks bs ds.length)) (σs ds.length) := fun x ok en s hs => by
  rw [arm_eval_DictComp]
  refine wpAny_comprehension_free (use := none) rfl hf (closureFor_of co.clos) co.kind co.names
    (compD_run (R := fun acc C r s' => compPost (model prog w) A (fun _ _ => False) none (Post w h₀ (σs ds.length) x s fun v y => Rep w y v (.dict (dputs ks bs ds.length))) acc C r s') σs ks bs hkf hno hC co hi hturn hl0 hsz ht ok en hs fun acc C s' h => ?_)
  obtain ⟨y, tk, m', rfl, h1, h2, h3, h4, h5, h6, h7, h8⟩ := h
  refine ⟨m', h7, fun h' hsb => ?_⟩
  have hk : ∀ b o, b ≠ C → y.h.get? b = some o → h'.get? b = some o := fun b o hb e => (hsb.2 b hb).trans e
  obtain ⟨ok', g⟩ := h1.aside h5 h6 hk (Nat.le_of_eq hsb.1.symm)
  exact ⟨{ y with h := h' }, tk, rfl, ok', h2.aside h8 hk (Nat.le_of_eq hsb.1.symm), h4.grow g⟩

end
end Mine

/-! # F15 -/
namespace Mine
/-! ## tests -/
section
variable {w : World} {h₀ : Heap} {A : Around} {env : Env} {c : Key} {ck : List (Str × Key)} {σ σ' σ₁ σ₂ σ₃ σ₄ σ₅ : H} {d d₁ d₂ d₃ : D} {pos : Pos}
theorem Tst.andT {e : Expr} {rest : List Expr} {b : Bool} (h : Tst w h₀ A env c ck e σ true σ₁) (hr : Tst w h₀ A env c ck (.BoolOp .And rest pos) σ₁ b σ₂) : Tst w h₀ A env c ck (.BoolOp .And (e :: rest) pos) σ b σ₂ := fun x ok en s hs =>
  isTrue_and ((h x ok en).next hs fun v y tk oky af e => by subst e; rw [if_pos rfl]; exact (hr y oky (en.after af)).last s tk af)
theorem Tst.andF {e : Expr} {rest : List Expr} (h : Tst w h₀ A env c ck e σ false σ₁) : Tst w h₀ A env c ck (.BoolOp .And (e :: rest) pos) σ false σ₁ := fun x ok en s hs =>
  isTrue_and ((h x ok en).next hs fun v y tk oky af e => by subst e; rw [if_neg Bool.false_ne_true]; exact ⟨y, tk, rfl, oky, af, rfl⟩)
theorem Tst.andN : Tst w h₀ A env c ck (.BoolOp .And [] pos) σ true σ := fun x ok en s hs => isTrue_and_nil (Post.of' hs ok rfl)
theorem Tst.orF {e : Expr} {rest : List Expr} {b : Bool} (h : Tst w h₀ A env c ck e σ false σ₁) (hr : Tst w h₀ A env c ck (.BoolOp .Or rest pos) σ₁ b σ₂) : Tst w h₀ A env c ck (.BoolOp .Or (e :: rest) pos) σ b σ₂ := fun x ok en s hs =>
  isTrue_or ((h x ok en).next hs fun v y tk oky af e => by subst e; rw [if_neg Bool.false_ne_true]; exact (hr y oky (en.after af)).last s tk af)
theorem Tst.orN : Tst w h₀ A env c ck (.BoolOp .Or [] pos) σ false σ := fun x ok en s hs => isTrue_or_nil (Post.of' hs ok rfl)
/-- «l op₁ m op₂ r» -/
theorem Tst.chain2 {l m r : Expr} {op₁ op₂ : CmpOp} {b₁ b₂ : Bool} (hl : Ev w h₀ A env c ck l σ d₁ σ₁) (hm : Ev w h₀ A env c ck m σ₁ d₂ σ₂) (h1 : Cmp w h₀ A op₁ d₁ d₂ σ₂ b₁ σ₂) (hr : Ev w h₀ A env c ck r σ₂ d₃ σ₂) (h2 : Cmp w h₀ A op₂ d₂ d₃ σ₂ b₂ σ₂)
    (hk : lastMarks [op₁, op₂] [m, r] = false) : Tst w h₀ A env c ck (.Compare l [op₁, op₂] [m, r] pos) σ (b₁ && b₂) σ₂ := fun x ok en s hs =>
  isTrue_chain ((hl x ok en).next hs fun v y tk oky af rv => test_link ((hm y oky (en.after af)).next rfl fun u z tk' okz af' ru => (h1 z v u okz (rv.grow (af'.grow oky)) ru).next rfl fun t z' tk'' okz' af'' et => by
    subst et
    refine wpAny_truthy_bool ?_
    have en' := ((en.after af).after af').after af''
    cases b₁ with
    | false =>
      rw [if_neg Bool.false_ne_true]
      exact ⟨z', tk'', rfl, okz', (af.trans af').trans af'', rfl⟩
    | true =>
      rw [if_pos rfl]
      show wpAny _ _ (testChain pos u [op₂] [eval r env]) _ _ _
      refine test_last ((hr z' okz' en').next rfl fun q z3 tk3 ok3 af3 rq => (h2 z3 u q ok3 ((ru.grow (af''.grow okz)).grow (af3.grow okz')) rq).next rfl fun t2 z4 tk4 ok4 af4 et2 => ?_)
      subst et2
      exact wpAny_truthy_bool ⟨z4, tk4, rfl, ok4, (((af.trans af').trans af'').trans af3).trans af4, rfl⟩)) hk

/-! ## a try that needs no catch -/
theorem Ex.tryRet {body : List Stmt} {h : ExceptHandler} {hs : List ExceptHandler} (hb : Exs w h₀ A env c ck body σ (.ret d) σ₁) : Ex w h₀ A env c ck (.Try body (h :: hs) [] [] pos) σ (.ret d) σ₁ := fun x ok en s hh =>
  wpAny_Try_except (wpAny_mono (hb x ok en s hh) (fun f s' ⟨y, tk, e, oky, af, rf⟩ => by
    cases f with
    | ret v => exact ⟨y, tk, e, oky, af, rf⟩
    | _ => exact rf.elim) fun _ _ e => e.elim)

/-! ## many new things at once -/
noncomputable def Cfg.fresh (x : Cfg) (h' : Heap) : Cfg := { M := fun b => x.M b ∨ (x.h.objs.size ≤ b ∧ b < h'.objs.size), α := x.α, h := h' }
theorem Ok.freshAll {x : Cfg} {h' : Heap} (ok : Ok w h₀ σ x) (hh : ∀ b o, x.h.get? b = some o → h'.get? b = some o) (hsz : x.h.objs.size ≤ h'.objs.size) :
    Ok w h₀ σ (x.fresh h') ∧ After x (x.fresh h') ∧ ∀ a, x.h.objs.size ≤ a → ∀ k, x.α k ≠ some a := by
  have g : Grow x (x.fresh h') := ⟨fun b o _ e => hh b o e, fun b hb hm h => h.elim hm (fun q => Nat.lt_irrefl _ (Nat.lt_of_lt_of_le hb q.1)), fun _ _ e => e⟩
  refine ⟨⟨fun b o e => hh b o (ok.base b o e), ?_, fun k sp h => ?_, ok.dom, ok.inj, ?_⟩, ⟨hsz, fun b o _ e => hh b o e, ?_, fun _ _ e => e, fun _ _ e => .inl e⟩, ?_⟩
  · rintro b (hb | hb)
    · exact ok.off b hb
    · cases e : h₀.get? b with
      | none => rfl
      | some o => exact absurd (Heap.lt_size (ok.base b o e)) (Nat.not_lt.mpr hb.1)
  · obtain ⟨b, h1, h2, h3, h4⟩ := ok.live k sp h
    exact ⟨b, h1, .inl h2, Nat.lt_of_lt_of_le h3 hsz, h4.grow g fun o ho => hh b o ho⟩
  · rintro b (hb | hb)
    · exact Nat.lt_of_lt_of_le (ok.lim b hb) hsz
    · exact hb.2
  · exact fun b hb _ => ⟨fun h => h.elim id (fun q => absurd hb (Nat.not_lt.mpr q.1)), .inl⟩
  · intro a ha k e
    obtain ⟨sp, hs⟩ := Option.isSome_iff_exists.mp (ok.dom k a e)
    obtain ⟨b, h1, h2, h3, _⟩ := ok.live k sp hs
    rw [e] at h1; cases h1
    exact absurd h3 (Nat.not_lt.mpr ha)
noncomputable def Cfg.give (x : Cfg) (k : Key) (a : Addr) : Cfg := { M := x.M, α := fun k' => if k' = k then some a else x.α k', h := x.h }
theorem Ok.give {x : Cfg} {k : Key} {a : Addr} {sp : Sp} (ok : Ok w h₀ σ x) (hk : σ k = none) (hM : x.M a) (hα : ∀ k', x.α k' ≠ some a) (his : Grow x (x.give k a) → Is w (x.give k a) a sp) : Ok w h₀ (σ.set k sp) (x.give k a) ∧ Grow x (x.give k a) := by
  have hno := ok.noname hk
  have nm : ∀ k' b, x.α k' = some b → (x.give k a).α k' = some b := fun k' b e => by
    show (if k' = k then some a else x.α k') = some b
    rw [if_neg (by rintro rfl; rw [hno] at e; cases e)]; exact e
  have g : Grow x (x.give k a) := ⟨fun _ _ _ e => e, fun _ _ e => e, nm⟩
  refine ⟨⟨ok.base, ok.off, ?_, ?_, ?_, ok.lim⟩, g⟩
  · intro k' sp' h
    unfold H.set at h
    split at h
    · rename_i e; cases h; subst e
      exact ⟨a, if_pos rfl, hM, ok.lim a hM, his g⟩
    · obtain ⟨b, h1, h2, h3, h4⟩ := ok.live k' sp' h
      exact ⟨b, nm _ _ h1, h2, h3, h4.grow g fun _ e => e⟩
  · intro k' b h
    have h' : (if k' = k then some a else x.α k') = some b := h
    unfold H.set
    split
    · rfl
    · rename_i e; rw [if_neg e] at h'; exact ok.dom k' b h'
  · intro k₁ k₂ b h1 h2
    have h1' : (if k₁ = k then some a else x.α k₁) = some b := h1
    have h2' : (if k₂ = k then some a else x.α k₂) = some b := h2
    split at h1' <;> split at h2'
    · rename_i e1 e2; rw [e1, e2]
    · cases h1'; exact absurd h2' (hα k₂)
    · cases h2'; exact absurd h1' (hα k₁)
    · exact ok.inj k₁ k₂ b h1' h2'

/-- names for a list of new places -/
noncomputable def gives (σ : H) : List (Key × Addr × Sp) → H
  | [] => σ
  | (k, _, sp) :: r => gives (σ.set k sp) r
theorem Ok.gives : ∀ {l : List (Key × Addr × Sp)} {σ : H} {x : Cfg}, Ok w h₀ σ x → (l.map (·.1)).Nodup → (l.map (·.2.1)).Nodup → (∀ p ∈ l, σ p.1 = none ∧ x.M p.2.1 ∧ ∀ k, x.α k ≠ some p.2.1) → (∀ p ∈ l, ∀ y : Cfg, y.h = x.h → Grow x y → Is w y p.2.1 p.2.2) →
    ∃ y : Cfg, y.h = x.h ∧ y.M = x.M ∧ Ok w h₀ (Mine.gives σ l) y ∧ Grow x y ∧ (∀ p ∈ l, y.α p.1 = some p.2.1) ∧ (∀ k a, y.α k = some a → x.α k = some a ∨ ∃ sp, (k, a, sp) ∈ l)
  | [], σ, x, ok, _, _, _, _ => ⟨x, rfl, rfl, ok, .refl x, fun p hp => (nomatch hp), fun k a e => .inl e⟩
  | (k, a, sp) :: r, σ, x, ok, n1, n2, hf, hi => by
    obtain ⟨f1, f2, f3⟩ := hf (k, a, sp) List.mem_cons_self
    obtain ⟨ok1, g1⟩ := ok.give (sp := sp) f1 f2 f3 fun g => hi (k, a, sp) List.mem_cons_self _ rfl g
    rw [List.map_cons, List.nodup_cons] at n1 n2
    obtain ⟨y, e1, e2, oky, gy, h1, h2⟩ := Ok.gives (l := r) ok1 n1.2 n2.2 (fun p hp => by
      obtain ⟨q1, q2, q3⟩ := hf p (List.mem_cons_of_mem _ hp)
      refine ⟨?_, q2, fun k' e => ?_⟩
      · unfold H.set
        rw [if_neg (fun e : p.1 = k => n1.1 (List.mem_map.mpr ⟨p, hp, e⟩))]; exact q1
      · have e' : (if k' = k then some a else x.α k') = some p.2.1 := e
        split at e'
        · have e2 : a = p.2.1 := Option.some.inj e'
          exact n2.1 (List.mem_map.mpr ⟨p, hp, e2.symm⟩)
        · exact q3 k' e') (fun p hp y e g => hi p (List.mem_cons_of_mem _ hp) y e ⟨fun b o hb q => g.keep b o hb (g1.keep b o hb q), fun b hb q => g.still b hb q, fun k' b q => g.names _ _ (g1.names _ _ q)⟩)
    refine ⟨y, e1, e2, oky, ⟨fun b o hb q => gy.keep b o hb q, fun b hb q => gy.still b hb q, fun k' b q => gy.names _ _ (g1.names _ _ q)⟩, ?_, ?_⟩
    · intro p hp
      rcases List.mem_cons.mp hp with rfl | hp
      · exact gy.names _ _ (if_pos rfl)
      · exact h1 p hp
    · intro k' b e
      rcases h2 k' b e with q | ⟨sp', q⟩
      · have q' : (if k' = k then some a else x.α k') = some b := q
        split at q'
        · rename_i ek; cases q'; subst ek; exact .inr ⟨sp, List.mem_cons_self⟩
        · exact .inl q'
      · exact .inr ⟨sp', List.mem_cons_of_mem _ q⟩

/-! ## frames let go -/
noncomputable def dropAll (x : Cfg) : List Key → Cfg
  | [] => x
  | k :: r => dropAll (x.drop k) r
noncomputable def eraseAll (σ : H) : List Key → H
  | [] => σ
  | k :: r => eraseAll (σ.erase k) r
theorem Ok.dropAll : ∀ {ks : List Key} {σ : H} {x : Cfg}, Ok w h₀ σ x → (∀ k ∈ ks, k.isFr = true) → Ok w h₀ (eraseAll σ ks) (Mine.dropAll x ks) ∧ (Mine.dropAll x ks).h = x.h
  | [], _, _, ok, _ => ⟨ok, rfl⟩
  | k :: r, _, _, ok, h => Ok.dropAll (ks := r) (ok.dropF (h k List.mem_cons_self)) fun k' hk' => h k' (List.mem_cons_of_mem _ hk')
theorem After.dropAll {x : Cfg} : ∀ {ks : List Key} {y : Cfg}, After x y → (∀ k ∈ ks, x.α k = none) → After x (Mine.dropAll y ks)
  | [], _, a, _ => a
  | k :: r, _, a, h => After.dropAll (ks := r) (a.dropF (h k List.mem_cons_self)) fun k' hk' => h k' (List.mem_cons_of_mem _ hk')
theorem Rep.dropAll : ∀ {ks : List Key} {x : Cfg} {v : Value} {d : D}, Rep w x v d → (∀ k ∈ ks, k.isFr = true) → Rep w (Mine.dropAll x ks) v d
  | [], _, _, _, r, _ => r
  | k :: ks, _, _, _, r, h => Rep.dropAll (ks := ks) (r.dropF (h k List.mem_cons_self)) fun k' hk' => h k' (List.mem_cons_of_mem _ hk')
theorem eraseAll_eq : ∀ {ks : List Key} {σ : H} (k : Key), eraseAll σ ks k = if k ∈ ks then none else σ k
  | [], σ, k => by simp [eraseAll]
  | k' :: r, σ, k => by
    rw [eraseAll, eraseAll_eq]
    unfold H.erase
    by_cases h1 : k ∈ r
    · rw [if_pos h1, if_pos (List.mem_cons_of_mem _ h1)]
    · rw [if_neg h1]
      by_cases h2 : k = k'
      · rw [if_pos h2, if_pos (by rw [h2]; exact List.mem_cons_self)]
      · rw [if_neg h2, if_neg (by rw [List.mem_cons]; rintro (e | e); exact h2 e; exact h1 e)]
theorem eraseAll_to {ks : List Key} (h1 : ∀ k, k ∉ ks → σ k = σ' k) (h2 : ∀ k ∈ ks, σ' k = none) : eraseAll σ ks = σ' := by
  funext k
  rw [eraseAll_eq]
  by_cases h : k ∈ ks
  · rw [if_pos h, h2 k h]
  · rw [if_neg h, h1 k h]
end
end Mine

/-! # F16 -/
namespace Mine
/-! ## what does not speak of a key -/
mutual
noncomputable def D.lacks (k : Key) : D → Prop
  | .list xs => lacksAll k xs
  | .tup xs => lacksAll k xs
  | .res k' => k' ≠ k
  | .val _ => True
  | .int _ => True
  | .str _ => True
  | .bytes _ => True
  | .dict _ => True
  | .rng _ _ => True
noncomputable def lacksAll (k : Key) : List D → Prop
  | [] => True
  | d :: ds => d.lacks k ∧ lacksAll k ds
end
noncomputable def Sp.lacks (k : Key) : Sp → Prop
  | .ns g => ∀ y d, g y = some d → d.lacks k
  | .list xs => lacksAll k xs
  | .cell (some d) => d.lacks k
  | _ => True
section
variable {w : World} {h₀ : Heap} {A : Around} {env : Env} {c : Key} {ck : List (Str × Key)} {σ σ' σ₁ σ₂ σ₃ σ₄ σ₅ : H} {d d₁ d₂ d₃ : D} {pos : Pos}
mutual
theorem Rep.lacks {x : Cfg} {k : Key} (hk : x.α k = none) : ∀ {v d}, Rep w x v d → d.lacks k
  | _, _, .val => trivial
  | _, _, .int => trivial
  | _, _, .str => trivial
  | _, _, .bytes => trivial
  | _, _, .list _ _ hr => by unfold D.lacks; exact Reps.lacks hk hr
  | _, _, .tup _ _ hr => by unfold D.lacks; exact Reps.lacks hk hr
  | _, _, .dict _ _ _ _ => trivial
  | _, _, .rng _ _ => trivial
  | _, _, .res _ e => by
    unfold D.lacks
    rintro rfl
    rw [hk] at e; cases e
theorem Reps.lacks {x : Cfg} {k : Key} (hk : x.α k = none) : ∀ {vs ds}, Reps w x vs ds → lacksAll k ds
  | _, _, .nil => trivial
  | _, _, .cons a b => by unfold lacksAll; exact ⟨Rep.lacks hk a, Reps.lacks hk b⟩
end
theorem Is.lacks {x : Cfg} {k : Key} {a : Addr} {sp : Sp} (hk : x.α k = none) (h : Is w x a sp) : sp.lacks k := by
  cases sp with
  | ns g => obtain ⟨m, _, hm⟩ := h; exact fun y d e => let ⟨v, _, hr⟩ := hm y d e; hr.lacks hk
  | list xs => obtain ⟨vs, n, _, hr⟩ := h; exact hr.lacks hk
  | dict kvs => trivial
  | cell d => cases d with
    | none => trivial
    | some d => obtain ⟨o, v, _, _, hr⟩ := h; exact hr.lacks hk
  | junk => trivial

/-- a key and its mark let go -/
noncomputable def Cfg.freeze (x : Cfg) (k : Key) (a : Addr) : Cfg := { M := fun b => x.M b ∧ b ≠ a, α := fun k' => if k' = k then none else x.α k', h := x.h }
mutual
theorem Rep.freeze {x : Cfg} {k : Key} {a : Addr} : ∀ {v d}, Rep w x v d → d.lacks k → Rep w (x.freeze k a) v d
  | _, _, .val, _ => .val
  | _, _, .int, _ => .int
  | _, _, .str, _ => .str
  | _, _, .bytes, _ => .bytes
  | _, _, .list hm hg hr, h => .list (fun q => hm q.1) hg (Reps.freeze hr (by unfold D.lacks at h; exact h))
  | _, _, .tup hm hg hr, h => .tup (fun q => hm q.1) hg (Reps.freeze hr (by unfold D.lacks at h; exact h))
  | _, _, .dict hm hq hg hr, _ => .dict (fun q => hm q.1) hq hg hr
  | _, _, .rng hm hg, _ => .rng (fun q => hm q.1) hg
  | _, _, .res (k := k') (a := b) q e, h => .res q (show (if k' = k then none else x.α k') = some b by
      unfold D.lacks at h
      rw [if_neg h]; exact e)
theorem Reps.freeze {x : Cfg} {k : Key} {a : Addr} : ∀ {vs ds}, Reps w x vs ds → lacksAll k ds → Reps w (x.freeze k a) vs ds
  | _, _, .nil, _ => .nil
  | _, _, .cons r rs, h => by unfold lacksAll at h; exact .cons (Rep.freeze r h.1) (Reps.freeze rs h.2)
end
theorem Is.freeze {x : Cfg} {k : Key} {a b : Addr} {sp : Sp} (h : Is w x b sp) (hl : sp.lacks k) : Is w (x.freeze k a) b sp := by
  cases sp with
  | ns g => obtain ⟨m, hn, hm⟩ := h; exact ⟨m, hn, fun y d e => let ⟨v, h1, h2⟩ := hm y d e; ⟨v, h1, h2.freeze (hl y d e)⟩⟩
  | list xs => obtain ⟨vs, n, h1, h2⟩ := h; exact ⟨vs, n, h1, h2.freeze hl⟩
  | dict kvs => exact h
  | cell d => cases d with
    | none => exact h
    | some d => obtain ⟨o, v, h1, h2, h3⟩ := h; exact ⟨o, v, h1, h2, h3.freeze hl⟩
  | junk => trivial

/-- back to the keys of before -/
theorem Ok.freeze {x y : Cfg} {k : Key} {a : Addr} {sp : Sp} (okx : Ok w h₀ σ x) (hk : σ k = none) (oky : Ok w h₀ (σ.set k sp) y) (af : After x y) (ha : y.α k = some a) :
    Ok w h₀ σ (y.freeze k a) ∧ After x (y.freeze k a) := by
  have hno := okx.noname hk
  have hge : x.h.objs.size ≤ a := by
    rcases af.fresh k a ha with q | q
    · rw [hno] at q; cases q
    · exact q
  refine ⟨⟨oky.base, fun b hb => oky.off b hb.1, fun k' sp' h => ?_, fun k' b h => ?_, fun k₁ k₂ b h1 h2 => ?_, fun b hb => oky.lim b hb.1⟩,
    ⟨af.size, af.keep, fun b hb hnb => Iff.trans ⟨fun h => h.1, fun h => ⟨h, fun q => Nat.lt_irrefl _ (Nat.lt_of_lt_of_le hb (q ▸ hge))⟩⟩ (af.marks b hb hnb), fun k' b e => ?_, fun k' b e => ?_⟩⟩
  · have hne : k' ≠ k := by rintro rfl; rw [hk] at h; cases h
    have h' : (σ.set k sp) k' = some sp' := by unfold H.set; rw [if_neg hne]; exact h
    obtain ⟨b, h1, h2, h3, h4⟩ := oky.live k' sp' h'
    obtain ⟨b', q1, _, _, q4⟩ := okx.live k' sp' h
    refine ⟨b, by show (if k' = k then none else y.α k') = some b; rw [if_neg hne]; exact h1, ⟨h2, fun q => hne (oky.inj k' k a (q ▸ h1) ha)⟩, h3, h4.freeze (q4.lacks hno)⟩
  · have h' : (if k' = k then none else y.α k') = some b := h
    split at h'
    · cases h'
    · rename_i hne
      have := oky.dom k' b h'
      unfold H.set at this
      rw [if_neg hne] at this; exact this
  · have h1' : (if k₁ = k then none else y.α k₁) = some b := h1
    have h2' : (if k₂ = k then none else y.α k₂) = some b := h2
    split at h1' <;> split at h2' <;> first | cases h1' | cases h2' | exact oky.inj k₁ k₂ b h1' h2'
  · show (if k' = k then none else y.α k') = some b
    rw [if_neg (by rintro rfl; rw [hno] at e; cases e)]; exact af.names k' b e
  · have e' : (if k' = k then none else y.α k') = some b := e
    split at e'
    · cases e'
    · exact af.fresh k' b e'

theorem CallD.freezeDict {f : Value} {ds : List D} {k : Key} {kvs : List (Int × Int)} (h : CallD w h₀ A f ds σ (.res k) (σ.set k (.dict kvs))) (hk : σ k = none) : CallD w h₀ A f ds σ (.dict kvs) σ := fun x vs ok hr s hs =>
  wpAny_mono (h x vs ok hr s hs) (fun v s' ⟨y, tk, e, oky, af, rv⟩ => by
    subst e
    cases rv with
    | res q ha =>
      rename_i a hpost
      obtain ⟨ok', af'⟩ := ok.freeze hk oky af ha
      obtain ⟨b, h1, _, _, h2, o, h3, h4⟩ := oky.live k (.dict kvs) (by unfold H.set; rw [if_pos rfl])
      rw [ha] at h1; cases h1
      exact ⟨y.freeze k a, tk, rfl, ok', af', .dict (fun q => q.2 rfl) h2 h3 h4⟩) fun _ _ e => e
/-! ## calls -/
theorem CallD.def' {a : Addr} {o : Obj} {fd : FuncData} {body : List Stmt} {ds : List D} {g : Str → Option D} {kf : Key} {n : Nat} {out : Out} (cap : Cap A (n + 1)) (ho : h₀.get? a = some o) (hd : o.data = .func fd) (hbody : fd.body = .stmts body) (hlim : h₀.NoLimit)
    (hcd : h₀.CodeRec fd.code fd.qualname) (hcell : ∀ x ∈ fd.scope.names, x.2 ≠ .cell) (hco : fd.scope.isCoroutine = false) (hgen : fd.scope.isGenerator = false) (hk : fd.scope.kind = .function) (tk : Takes w h₀ fd ds g)
    (hkf : kf.isFr = true) (hno : σ kf = none) (hno' : σ' kf = none)
    (hb : ∀ L, ∃ τ, Exs w h₀ (A.deeper (callEnv fd L a)) (callEnv fd L a) kf [] body (σ.set kf (.ns g)) out τ ∧ (∀ k, k ≠ kf → τ k = σ' k) ∧ (τ kf).isSome) :
    CallD w h₀ A (.ref a) ds σ (outVal out) σ' := fun x vs ok hr s hs => by
  have hbase : ∀ b o, h₀.get? b = some o → s.heap.get? b = some o := fun b o e => hs ▸ ok.base b o e
  obtain ⟨binds, hbt, hloc, hg⟩ := tk x s vs hbase hr
  refine wpAny_call (codeAny_call_def cap.room (hbase _ _ ho) hd (hlim.keeps hbase) ?_ hbody hbt hcell hloc (fun h₁ hns hk₁ => ?_) hco hgen hk)
  · obtain ⟨c, o, us, t, e1, e2, e3⟩ := hcd
    exact ⟨c, o, us, t, e1, hbase _ _ e2, e3⟩
  have hns' : h₁.Ns x.h.objs.size (fun y => binds.reverse.lookup y) := hs ▸ hns
  have keep : ∀ b o, x.h.get? b = some o → h₁.get? b = some o := fun b o e => hk₁ b o (hs ▸ e)
  have hlt : x.h.objs.size < h₁.objs.size := hns'.lt
  have hα := ok.noname hno
  have gr : Grow x (x.named kf x.h.objs.size h₁) := ⟨fun b o _ e => keep b o e, fun b hb hm h => h.elim hm (fun q => Nat.lt_irrefl _ (q ▸ hb)), fun k' b e => by
    show (if k' = kf then some _ else x.α k') = some b
    rw [if_neg (by rintro rfl; rw [hα] at e; cases e)]; exact e⟩
  obtain ⟨ok1, af1⟩ := ok.alloc (sp := .ns g) hno keep (Nat.le_of_lt hlt) (Nat.le_refl _) hlt ⟨_, hns', fun y d e => let ⟨v, h1, h2⟩ := hg y d e; ⟨v, h1, h2.grow gr⟩⟩
  have en1 : InEnv (callEnv fd s.heap.objs.size a) kf [] (x.named kf x.h.objs.size h₁) := ⟨by rw [hs]; exact if_pos rfl, fun y k h => by cases h⟩
  obtain ⟨τ, hbody', hτ, hτf⟩ := hb s.heap.objs.size
  refine wpAny_mono ((hbody' _ ok1 en1) _ rfl) (fun f s' ⟨y, tk', e, ok2, af2, hf⟩ => ?_) fun _ _ e => e.elim
  subst e
  have ok3 := ok2.dropF hkf
  have e3 : τ.erase kf = σ' := by
    funext k
    unfold H.erase
    by_cases q : k = kf
    · rw [if_pos q, q, hno']
    · rw [if_neg q, hτ k q]
  rw [e3] at ok3
  refine ⟨y.drop kf, tk', rfl, ok3, (af1.trans af2).dropF hα, ?_⟩
  cases out with
  | next => cases f with
    | next => exact .val
    | _ => exact hf.elim
  | ret d => cases f with
    | ret v => exact hf.dropF hkf
    | _ => exact hf.elim

theorem lookup_of_mem : ∀ {ck : List (Str × Key)} {q : Str × Key}, (ck.map (·.1)).Nodup → q ∈ ck → ck.lookup q.1 = some q.2
  | (n, k) :: r, q, hn, hq => by
    rw [List.map_cons, List.nodup_cons] at hn
    rw [List.lookup_cons]
    rcases List.mem_cons.mp hq with rfl | hq
    · simp
    · have hne : (q.1 == n) = false := by
        rw [beq_eq_false_iff_ne]
        exact fun e => hn.1 (List.mem_map.mpr ⟨q, hq, e⟩)
      rw [hne]
      exact lookup_of_mem hn.2 hq
/-- a call of a def with cells -/
theorem CallD.defC {a : Addr} {o : Obj} {fd : FuncData} {body : List Stmt} {ds : List D} {g gc : Str → Option D} {kf : Key} {n : Nat} {out : Out} (cap : Cap A (n + 1)) (ho : h₀.get? a = some o) (hd : o.data = .func fd) (hbody : fd.body = .stmts body) (hlim : h₀.NoLimit)
    (hcd : h₀.CodeRec fd.code fd.qualname) (hclo : fd.closure = []) (hco : fd.scope.isCoroutine = false) (hgen : fd.scope.isGenerator = false) (hk : fd.scope.kind = .function)
    (hbind : ∀ vs, vs.length = ds.length → ∃ binds, bindArgs fd ⟨vs, []⟩ = pure binds ∧
      (∀ L, ∀ y ∈ binds, fd.scope.names.lookup y.1 = some .local ∨ (fd.scope.names.lookup y.1 = some .cell ∧ ((cellsFrom (L + 1) fd.scope.names []).lookup y.1).isSome = true)) ∧
      ∀ L x, Reps w x vs ds → (∀ y d, g y = some d → ∃ v, bindL (callEnvC fd L a).kindOf binds (fun _ => none) y = some v ∧ Rep w x v d) ∧
        (∀ y k, ck.lookup y = some k → match gc y with
          | some d => ∃ v, bindC (callEnvC fd L a).kindOf binds (fun _ => none) y = some v ∧ Rep w x v d
          | none => bindC (callEnvC fd L a).kindOf binds (fun _ => none) y = none))
    (hck : ∀ L, ∀ p ∈ ck, ((cellsFrom (L + 1) fd.scope.names []).lookup p.1).isSome = true) (hns : (ck.map (·.1)).Nodup) (hnk : (kf :: ck.map (·.2)).Nodup) (hfr : ∀ k ∈ kf :: ck.map (·.2), k.isFr = true ∧ σ k = none ∧ σ' k = none)
    (hb : ∀ L, ∃ τ, Exs w h₀ (A.deeper (callEnvC fd L a)) (callEnvC fd L a) kf ck body (gives σ ((kf, L, .ns g) :: ck.map fun p => (p.2, ((cellsFrom (L + 1) fd.scope.names []).lookup p.1).getD 0, .cell (gc p.1)))) out τ ∧
      (∀ k, k ∉ kf :: ck.map (·.2) → τ k = σ' k)) :
    CallD w h₀ A (.ref a) ds σ (outVal out) σ' := fun x vs ok hr s hs => by
  have hbase : ∀ b o, h₀.get? b = some o → s.heap.get? b = some o := fun b o e => hs ▸ ok.base b o e
  obtain ⟨binds, hbt, hkind, hg⟩ := hbind vs hr.length
  obtain ⟨τ, hbody', hτ⟩ := hb s.heap.objs.size
  refine wpAny_call (codeAny_call_cells cap.room (hbase _ _ ho) hd (hlim.keeps hbase) ?_ hbody hbt hclo (hkind _) (fun s₁ x₁ => ?_) hco hgen hk)
  · obtain ⟨c, o, us, t, e1, e2, e3⟩ := hcd
    exact ⟨c, o, us, t, e1, hbase _ _ e2, e3⟩
  obtain ⟨h₁, tk, rfl, hk₁⟩ := x₁.done
  have keep : ∀ b o, x.h.get? b = some o → h₁.get? b = some o := fun b o e => hk₁ b o (hs ▸ e)
  have hNs : h₁.Ns s.heap.objs.size (bindL (callEnvC fd s.heap.objs.size a).kindOf binds fun _ => none) := x₁.toInCall.ns
  have hLx : s.heap.objs.size = x.h.objs.size := by rw [hs]
  have hlt : x.h.objs.size < h₁.objs.size := hLx ▸ hNs.lt
  obtain ⟨ok1, af1, hf1⟩ := ok.freshAll keep (Nat.le_of_lt hlt)
  have cellAt : ∀ p ∈ ck, ∃ b, (cellsFrom (s.heap.objs.size + 1) fd.scope.names []).lookup p.1 = some b ∧ s.heap.objs.size < b ∧ h₁.IsCell b (bindC (callEnvC fd s.heap.objs.size a).kindOf binds (fun _ => none) p.1) := fun p hp => by
    obtain ⟨b, hb'⟩ := Option.isSome_iff_exists.mp (hck s.heap.objs.size p hp)
    exact ⟨b, hb', x₁.above p.1 b (mem_of_lookup hb'), x₁.cell p.1 b hb'⟩
  let l : List (Key × Addr × Sp) := (kf, s.heap.objs.size, .ns g) :: ck.map fun p => (p.2, ((cellsFrom (s.heap.objs.size + 1) fd.scope.names []).lookup p.1).getD 0, .cell (gc p.1))
  have n1 : (l.map (·.1)).Nodup := by
    have e : l.map (·.1) = kf :: ck.map (·.2) := by simp [l, Function.comp_def]
    rw [e]; exact hnk
  have n2 : (l.map (·.2.1)).Nodup := by
    have e : l.map (·.2.1) = s.heap.objs.size :: ck.map fun p => ((cellsFrom (s.heap.objs.size + 1) fd.scope.names []).lookup p.1).getD 0 := by simp [l, Function.comp_def]
    rw [e, List.nodup_cons]
    refine ⟨fun h => ?_, ?_⟩
    · obtain ⟨p, hp, e⟩ := List.mem_map.mp h
      obtain ⟨b, h1, h2, _⟩ := cellAt p hp
      rw [h1] at e
      simp only [Option.getD_some] at e
      rw [e] at h2; exact Nat.lt_irrefl _ h2
    · have gen : ∀ (r : List (Str × Key)), (∀ p ∈ r, p ∈ ck) → (r.map (·.1)).Nodup → (r.map fun p => ((cellsFrom (s.heap.objs.size + 1) fd.scope.names []).lookup p.1).getD 0).Nodup := by
        intro r
        induction r with
        | nil => intro _ _; exact List.nodup_nil
        | cons p r ih =>
          intro hm hn
          rw [List.map_cons, List.nodup_cons] at hn ⊢
          refine ⟨fun h => ?_, ih (fun q hq => hm q (List.mem_cons_of_mem _ hq)) hn.2⟩
          obtain ⟨q, hq, e⟩ := List.mem_map.mp h
          obtain ⟨b, h1, _, _⟩ := cellAt p (hm p List.mem_cons_self)
          obtain ⟨b', h1', _, _⟩ := cellAt q (hm q (List.mem_cons_of_mem _ hq))
          rw [h1, h1'] at e
          simp only [Option.getD_some] at e
          subst e
          exact hn.1 (List.mem_map.mpr ⟨q, hq, (name_of_addr x₁.apart (mem_of_lookup h1') (mem_of_lookup h1))⟩)
      exact gen ck (fun p hp => hp) hns
  have hgr : ∀ y : Cfg, y.h = h₁ → Grow (x.fresh h₁) y → Grow x y := fun y e gy => ⟨fun b o hb q => by rw [e]; exact keep b o q, fun b hb q => gy.still b (Nat.lt_of_lt_of_le hb (Nat.le_of_lt hlt)) (fun h => h.elim q fun h => Nat.lt_irrefl _ (Nat.lt_of_lt_of_le hb h.1)), fun k b q => gy.names k b q⟩
  obtain ⟨y, e1, e2, oky, gy, hy1, hy2⟩ := ok1.gives (l := l) n1 n2 (fun p hp => by
    rcases List.mem_cons.mp hp with rfl | hp
    · exact ⟨(hfr kf List.mem_cons_self).2.1, .inr ⟨Nat.le_of_eq hLx.symm, hLx ▸ hlt⟩, hf1 _ (Nat.le_of_eq hLx.symm)⟩
    · obtain ⟨q, hq, rfl⟩ := List.mem_map.mp hp
      obtain ⟨b, h1, h2, o, ho, _⟩ := cellAt q hq
      simp only [h1, Option.getD_some]
      have hge : x.h.objs.size ≤ b := by rw [← hLx]; exact Nat.le_of_lt h2
      exact ⟨(hfr q.2 (List.mem_cons_of_mem _ (List.mem_map_of_mem hq))).2.1, .inr ⟨hge, Heap.lt_size ho⟩, hf1 _ hge⟩) (fun p hp y ey gy => by
    have g' := hgr y ey gy
    have hr' := hr.grow g'
    obtain ⟨q1, q2⟩ := hg s.heap.objs.size y hr'
    rcases List.mem_cons.mp hp with rfl | hp
    · exact ⟨_, by rw [ey]; exact hNs, q1⟩
    · obtain ⟨q, hq, rfl⟩ := List.mem_map.mp hp
      obtain ⟨b, h1, h2, o, ho, hd'⟩ := cellAt q hq
      have hlk : ck.lookup q.1 = some q.2 := by
        exact lookup_of_mem hns hq
      have hc := q2 q.1 q.2 hlk
      simp only [h1, Option.getD_some]
      cases hgc : gc q.1 with
      | none => rw [hgc] at hc; exact ⟨o, by rw [ey]; exact ho, by rw [hd', hc]⟩
      | some d =>
        rw [hgc] at hc
        obtain ⟨v, h3, h4⟩ := hc
        exact ⟨o, v, by rw [ey]; exact ho, by rw [hd', h3], h4⟩)
  have afy : After x y := ⟨by rw [e1]; exact af1.size, fun b o hb q => by rw [e1]; exact af1.keep b o hb q, fun b hb hnb => by rw [e2]; exact af1.marks b hb hnb, fun k b q => gy.names k b q, fun k b q => by
    rcases hy2 k b q with h | ⟨sp, h⟩
    · exact .inl h
    · right
      rcases List.mem_cons.mp h with h | h
      · cases h; exact Nat.le_of_eq hLx.symm
      · obtain ⟨p, hp, e⟩ := List.mem_map.mp h
        obtain ⟨b', h1, h2, _⟩ := cellAt p hp
        rw [h1] at e
        cases e
        simp only [Option.getD_some]
        rw [← hLx]; exact Nat.le_of_lt h2⟩
  have en1 : InEnv (callEnvC fd s.heap.objs.size a) kf ck y := ⟨hy1 _ List.mem_cons_self, fun v k hv => by
    have hm := mem_of_lookup hv
    obtain ⟨b, h1, _, _⟩ := cellAt (v, k) hm
    refine ⟨b, h1, ?_⟩
    have := hy1 _ (List.mem_cons_of_mem _ (List.mem_map_of_mem (f := fun p : Str × Key => (p.2, ((cellsFrom (s.heap.objs.size + 1) fd.scope.names []).lookup p.1).getD 0, Sp.cell (gc p.1))) hm))
    simpa [h1] using this⟩
  refine wpAny_mono ((hbody' y oky en1) _ e1.symm) (fun f s' ⟨z, tk', e, ok2, af2, hf⟩ => ?_) fun _ _ e => e.elim
  subst e
  obtain ⟨ok3, e3⟩ := ok2.dropAll fun k hk => (hfr k hk).1
  rw [eraseAll_to hτ fun k hk => (hfr k hk).2.2] at ok3
  refine ⟨Mine.dropAll z (kf :: ck.map (·.2)), tk', by rw [e3], ok3, (afy.trans af2).dropAll fun k hk => ok.noname (hfr k hk).2.1, ?_⟩
  cases out with
  | next => cases f with
    | next => exact .val
    | _ => exact hf.elim
  | ret d => cases f with
    | ret v => exact Rep.dropAll hf fun k hk => (hfr k hk).1
    | _ => exact hf.elim
end
end Mine

/-! # X1 -/
section
set_option maxRecDepth 100000
namespace Mine
open Builtin
theorem fn_lk : typeLookup (.type "function") "__name__" = pure (some (.builtin "function.__name__")) := by rw [typeLookup_type, builtinLookup_eq_fast]; kernel_rfl
theorem fn_ty : typeOf (.builtin "function.__name__") = pure (.type "getset_descriptor") := by show builtinType _ = _; rw [builtinType_eq_fast]; kernel_rfl
theorem fn_entry : entryFor table "function.__name__" = some Builtin.«function.__name__» := entryFor_of_tree (by kernel_rfl)
theorem fn_ga : Slot "function" "__getattribute__" "object.__getattribute__" :=
  .of (owner := "object") (n := "__getattribute__") (by rw [typeLookup_type, builtinLookup_eq_fast]; kernel_rfl) (by decide +kernel) (by decide +kernel) (by decide +kernel)
    (by first | exact .inl (by decide +kernel) | exact .inr (by decide +kernel)) (by rw [isSubtype_type]; kernel_rfl)
theorem fn_hook : typeLookup (.type "function") "__getattr__" = pure none := by rw [typeLookup_type, builtinLookup_eq_fast]; kernel_rfl
theorem fn_owner : isSubtype (.type "function") (.type (".".intercalate ("function.__name__".cutAt '.').dropLast)) = pure true := by
  rw [show ".".intercalate ("function.__name__".cutAt '.').dropLast = "function" from by decide +kernel, isSubtype_type]; kernel_rfl
theorem fn_ga_entry : entryFor table "object.__getattribute__" = some Builtin.«object.__getattribute__» := entryFor_of_tree (by kernel_rfl)
section
variable {prog : Program} {w : World} {A : Around} {E : Value → Shared → Prop} {h : Heap} {g : Array GenState} {d : Drawn} {t : Nat} {os : OsState} {a : Addr} {o : Obj} {fd : FuncData}
theorem fn_get {R : Result → Shared → Prop} (hx : h.get? a = some o) (hc : o.cls = .type "function") (hd : o.data = .func fd) (hz : fd.name.length ≤ sizeLine) (hq : R (.ok (.ret (.str fd.name t))) ⟨h, g, d, t + 1, os⟩) :
    codeAny (model prog w) A (.call (.builtin "getset_descriptor.__get__") ⟨[.builtin "function.__name__", .ref a, .type "function"], []⟩) R ⟨h, g, d, t, os⟩ := by
  have hT : (⟨h, g, d, t, os⟩ : Shared).TypeIs (.ref a) "function" := ⟨_, hx, hc⟩
  have hT5 : (⟨h, g, d, t, os⟩ : Shared).TypeIs (.builtin "function.__name__") "getset_descriptor" := fn_ty
  have f8 := fn_owner
  refine codeAny_call_builtin F.slot_gs_get.plain F.entry_gs_get (F.slot_gs_get.check _ _ _ _ _ _ _ _ hT5 (F.args_gs_get _ _ _) ?_)
  repeat (any_goals (first | assumption | wp_step))
  refine ⟨Code.quiet_builtin _ (by decide +kernel), codeAny_builtin fn_entry ?_⟩
  unfold Builtin.«function.__name__»
  refine wpAny_bind ?_
  show wpAny _ _ (load a >>= _) _ _ _
  refine wpAny_bind (wpAny_load hx ?_)
  rw [hd]
  exact wpAny_pure (wpAny_bind (wpAny_mkStr (wpAny_pure hq) hz))
theorem fn_ent {tk : Tok} {Q : Fin → Shared → Prop} (hx : h.get? a = some o) (hc : o.cls = .type "function") (hd : o.data = .func fd) (hz : fd.name.length ≤ sizeLine) (hq : Q (.done (.ret (.str fd.name t))) ⟨h, g, d, t + 1, os⟩) :
    wpAny (model prog w) A (Builtin.«object.__getattribute__» ⟨[.ref a, .str "__name__" tk], []⟩) Q E ⟨h, g, d, t, os⟩ := by
  have hT : (⟨h, g, d, t, os⟩ : Shared).TypeIs (.ref a) "function" := ⟨_, hx, hc⟩
  have hT5 : (⟨h, g, d, t, os⟩ : Shared).TypeIs (.builtin "function.__name__") "getset_descriptor" := fn_ty
  have f4 := fn_lk
  have f5 := fn_ty
  have f6 := F.slot_gs_get.lookup
  have f7 := F.slot_gs_set.lookup
  repeat (any_goals (first | assumption | wp_step))
  refine fn_get hx hc hd hz ?_
  repeat (any_goals (first | assumption | wp_step))
theorem fn_call {tk : Tok} {R : Result → Shared → Prop} (hx : h.get? a = some o) (hc : o.cls = .type "function") (hd : o.data = .func fd) (hz : fd.name.length ≤ sizeLine) (hq : R (.ok (.ret (.str fd.name t))) ⟨h, g, d, t + 1, os⟩) :
    codeAny (model prog w) A (.call (.builtin "object.__getattribute__") ⟨[.ref a, .str "__name__" tk], []⟩) R ⟨h, g, d, t, os⟩ :=
  codeAny_call_builtin fn_ga.plain fn_ga_entry (fn_ga.check _ _ _ _ _ _ _ _ (show (⟨h, g, d, t, os⟩ : Shared).TypeIs (.ref a) "function" from ⟨_, hx, hc⟩) (by unfold argsOk; kernel_rfl) (fn_ent hx hc hd hz hq))
theorem fn_attr {tk : Tok} {Q : Value → Shared → Prop} (hx : h.get? a = some o) (hc : o.cls = .type "function") (hd : o.data = .func fd) (hz : fd.name.length ≤ sizeLine) (hq : Q (.str fd.name t) ⟨h, g, d, t + 1, os⟩) :
    wpAny (model prog w) A (getAttrBy (.ref a) (.str "__name__" tk) true true) Q E ⟨h, g, d, t, os⟩ := by
  have hT : (⟨h, g, d, t, os⟩ : Shared).TypeIs (.ref a) "function" := ⟨_, hx, hc⟩
  have f2 := fn_ga.lookup
  have f3 := fn_ga.bind (.ref a)
  repeat (any_goals (first | assumption | wp_step))
  refine fn_call hx hc hd hz ?_
  repeat (any_goals (first | assumption | wp_step))
end
end Mine
end

/-! # Head -/
namespace Mine
set_option maxRecDepth 100000 in
set_option maxHeartbeats 8000000 in
open_top hd for PySem.Challenge.rw_xg0007_01
end Mine

/-! # G1 -/
namespace Mine
noncomputable abbrev KK (w : World) : Frag := Mine.hd.heap_39 w.params
/-- what the text's top has left -/
structure Base (w : World) (h₀ : Heap) : Prop where
  K : (KK w).In h₀
  lim : h₀.NoLimit
  top : ∃ q loose mg mb, TopRead q loose mg mb h₀
theorem Glb.main {w : World} {h₀ : Heap} {y : Str} {v : Value} (B : Base w h₀) (e : nsIn (KK w) mainGlobals y = some (some v)) : Glb h₀ y v := by
  obtain ⟨q, loose, mg, mb, T⟩ := B.top
  exact ⟨mg, T.g, .inl (mg_of B.K T.g e)⟩
theorem Glb.boot {w : World} {h₀ : Heap} {y : Str} {v : Value} (B : Base w h₀) (e : nsIn (KK w) mainGlobals y = some none) (hv : bootBuiltins y = some v) (hn : y ≠ "__name__") : Glb h₀ y v := by
  obtain ⟨q, loose, mg, mb, T⟩ := B.top
  exact ⟨mg, T.g, .inr ⟨mg_none_of B.K T.g e, mb, T.b, (T.builtins y hn).trans hv⟩⟩

/-- the text's i-th statement, a def -/
noncomputable def defAt (i : Nat) : Str × Arguments × List Stmt × Scope := match prog.main.body.drop i with
  | .FunctionDef n a b _ _ _ s _ _ _ :: _ => (n, a, b, s)
  | _ => default
noncomputable def bodyAt (i : Nat) : List Stmt := (defAt i).2.2.1
noncomputable def scopeAt (i : Nat) : Scope := (defAt i).2.2.2
noncomputable def objOf (w : World) (a : Addr) : Obj := ((KK w).lookup a).getD default
noncomputable def fdOf (w : World) (a : Addr) : FuncData := match (objOf w a).data with
  | .func fd => fd
  | _ => default

structure FnOk (w : World) (h₀ : Heap) (a : Addr) (i : Nat) : Prop where
  obj : h₀.get? a = some (objOf w a)
  data : (objOf w a).data = .func (fdOf w a)
  body : (fdOf w a).body = .stmts (bodyAt i)
  scope : (fdOf w a).scope = scopeAt i
  globals : (fdOf w a).globals = mainGlobals
  builtins : (fdOf w a).builtins = builtinsNs
  code : h₀.CodeRec (fdOf w a).code (fdOf w a).qualname
set_option maxRecDepth 100000 in
theorem FnOk.of {w : World} {h₀ : Heap} {a : Addr} {i : Nat} (B : Base w h₀) (h1 : (KK w).lookup a = some (objOf w a)) (h2 : (objOf w a).data = .func (fdOf w a)) (h3 : (fdOf w a).body = .stmts (bodyAt i)) (hs : (fdOf w a).scope = scopeAt i)
    (hg : (fdOf w a).globals = mainGlobals) (hb : (fdOf w a).builtins = builtinsNs)
    (h4 : codeIn (KK w) (fdOf w a).code (fdOf w a).qualname = true) : FnOk w h₀ a i :=
  ⟨B.K _ _ h1, h2, h3, hs, hg, hb, codeRec_of B.K h4⟩

set_option maxRecDepth 100000 in
theorem fn67 {w : World} {h₀ : Heap} (B : Base w h₀) : FnOk w h₀ 67 9 := .of B (by kernel_rfl) (by kernel_rfl) (by kernel_rfl) (by kernel_rfl) (by kernel_rfl) (by kernel_rfl) (by kernel_rfl)
end Mine

/-! # X2 -/
section
set_option maxRecDepth 100000
namespace Mine
/-- a heap with one place let go -/
noncomputable def hole (h : Heap) (a : Addr) : Heap := { h with objs := h.objs.modify a fun o => { o with data := .freed } }
theorem hole_get {h : Heap} {a b : Addr} {o : Obj} : (hole h a).get? b = some o ↔ b ≠ a ∧ h.get? b = some o := by
  rw [Heap.get?_some_iff, Heap.get?_some_iff]
  unfold hole
  simp only [Array.getElem?_modify]
  by_cases e : a = b
  · subst e
    simp only [if_true, ne_eq, not_true_eq_false, false_and, iff_false]
    rintro ⟨h1, h2⟩
    cases hx : h.objs[a]? with
    | none => rw [hx] at h1; cases h1
    | some x =>
      rw [hx] at h1
      simp only [Option.map_some, Option.some.injEq] at h1
      subst h1
      simp [Obj.isFreed] at h2
  · simp only [if_neg e]
    exact ⟨fun h => ⟨fun q => e q.symm, h⟩, fun h => h.2⟩
theorem hole_self {h : Heap} {a : Addr} : (hole h a).get? a = none := by
  cases e : (hole h a).get? a with
  | none => rfl
  | some o => exact absurd rfl (hole_get.mp e).1

section
variable {prog : Program} {w : World} {A : Around} {E : Value → Shared → Prop} {s : Shared} {env : Env}
/-- an index past a tuple's end -/
theorem getItem_tuple_out {t : Addr} {items : Array Value} {k : Nat} {u : Tok} {Q : Value → Shared → Prop} (hA : A.handled = none) (ht : IsTup s.heap t items) (hk : items.size ≤ k) (hk2 : (k : Int) < 2 ^ 63)
    (hE : ∀ h' tk e, Heap.NewExc s.heap h' e "IndexError" → E (.ref e) { s with heap := h', toks := tk }) : wpAny (model prog w) A (getItem (.ref t) (.int k u)) Q E s := by
  unfold getItem
  try with_reducible refine wpAny_holding ?_
  first | refine wpAny_bind (wpAny_pure ?_) | skip
  refine wpAny_bind (wpAny_sequenceKey ht.typeIs (by decide) ?_)
  refine wpAny_bind (wpAny_callSpecial?_slot (name := Str.ofString "__getitem__") ht.typeIs slot_tuple_getitem
    (wpAny_call_entry slot_tuple_getitem ht.typeIs entry_tuple_getitem ?_ (args_tuple_getitem _ _)))
  show wpAny _ _ (Builtin.Tuple.tupleItemsOf (.ref t) >>= _) _ _ s
  refine wpAny_bind (tupleItemsOf_ ht ?_)
  refine wpAny_bind (wpAny_typeOf (typeIs_int s k u) ?_)
  rw [if_neg (by decide)]
  refine wpAny_bind (wpAny_specialOf (T := "int") (typeIs_int s k u) int_index ?_)
  rw [if_neg (by simp)]
  refine wpAny_bind (wpAny_of_eq (a := (k : Int)) rfl ?_)
  rw [if_neg (by simp only [Bool.or_eq_true, decide_eq_true_eq]; omega)]
  have hj : (seqIndex? (k : Int) items.size).bind (items[·]?) = none := by
    cases hs : seqIndex? (k : Int) items.size with
    | none => rfl
    | some j =>
      unfold seqIndex? at hs
      rw [if_neg (show ¬ ((k : Int) < 0) by omega)] at hs
      exact absurd hs (by simp; omega)
  rw [hj]
  first
    | exact wpAny_bind (wpAny_rule (by exact_raiseError plainExc_IndexError hA hE))
    | exact wpAny_bind (wpAny_rule (wpAny_bind (by exact_raiseError plainExc_IndexError hA hE)))
    | exact wpAny_bind (wpAny_bind (wpAny_rule (by exact_raiseError plainExc_IndexError hA hE)))
    | exact wpAny_rule (by exact_raiseError plainExc_IndexError hA hE)

/-- a handler that catches all -/
theorem handleBy_bare {e : Addr} {b₀ : Stmt} {suite : List Stmt} {pos : Pos} {Q : Flow → Shared → Prop}
    (h : wpAny (model prog w) (A.mark (some (.ref e))) (setFlight (.ref e) none) (fun _ s₁ => wpAny (model prog w) (A.mark (some (.ref e))) (execs (b₀ :: suite) env) Q (fun _ _ => False) s₁) (fun _ _ => False) s) :
    wpAny (model prog w) A (handleBy (.ref e) env [.ExceptHandler none none (b₀ :: suite) pos]) Q E s := by
  rw [handleBy]
  refine wpAny_bind (wpAny_pure ?_)
  simp only [Bool.not_true, Bool.false_eq_true, if_false]
  refine wpAny_bind (wpAny_holding (wpAny_runOwn (codeAny_handlers_suite (wpAny_mono h (fun _ s₁ h₁ => wpAny_mono h₁ (fun f s₂ h₂ => ?_) fun _ _ e => e.elim) fun _ _ e => e.elim)) (by intro q; cases q)))
  exact wpAny_pure h₂

end
/-- a call that looks at the caller's own names -/
noncomputable def CallE (w : World) (h₀ : Heap) (A : Around) (env : Env) (c : Key) (ck : List (Str × Key)) (f : Value) (ds : List D) (σ : H) (d : D) (σ' : H) : Prop :=
  ∀ x vs, Ok w h₀ σ x → InEnv env c ck x → Reps w x vs ds → Runs w h₀ A σ' x (call f vs) (fun r y => Rep w y r d)

/-- the names of a frame, read by hand -/
theorem local_by {prog : Program} {w : World} {A : Around} {E : Value → Shared → Prop} {s : Shared} {env : Env} {y : Str} {p : Pos} {L : Addr} {m : Str → Option Value} {v : Value} {Q : Value → Shared → Prop} (hn : s.heap.Ns L m) (hL : env.locals = L) (hv : m y = some v)
    (hk : env.scope.kind = .function) (hl : env.kindOf y = some .local) (hd : (y == ("__debug__" : Str)) = false) (h : Q v s) : wpAny (model prog w) A (eval (.Name y p) env) Q E s :=
  wpAny_Name (wpAny_loadName_local hk hl (hL ▸ hn) hv h) hd

section
variable {w : World} {h₀ : Heap} {A : Around} {env : Env} {c : Key} {ck : List (Str × Key)} {σ : H} {d₁ d₂ : D} {g : Str → Option D}
theorem FnOk.noCell {a : Addr} {i : Nat} (F : FnOk w h₀ a i) (h : (scopeAt i).names.all (fun z => z.2 != .cell) = true) : ∀ z ∈ (fdOf w a).scope.names, z.2 ≠ .cell := by
  rw [F.scope]
  intro z hz e
  have := List.all_eq_true.mp h z hz
  rw [e] at this; cases this
theorem FnOk.locals {a : Addr} {i : Nat} {binds : List (Str × Value)} (F : FnOk w h₀ a i) (h : (binds.map (·.1)).all (fun z => (scopeAt i).names.lookup z == some .local) = true) : ∀ z ∈ binds, (fdOf w a).scope.names.lookup z.1 = some .local := by
  rw [F.scope]
  intro z hz
  have := List.all_eq_true.mp h z.1 (List.mem_map_of_mem hz)
  exact beq_iff_eq.mp this
theorem binds39 {s : Shared} (B : Base w h₀) (hk : ∀ b o, h₀.get? b = some o → s.heap.get? b = some o) (v₁ v₂ v₃ : Value) : BindsTo s (fdOf w 39) ⟨[v₁, v₂, v₃], []⟩ [("value", v₁), ("what", v₂), ("func", v₃)] :=
  kp_binds (B.K.keeps hk) (fun S => by kernel_rfl)
theorem binds67 {s : Shared} (B : Base w h₀) (hk : ∀ b o, h₀.get? b = some o → s.heap.get? b = some o) (v₁ : Value) : BindsTo s (fdOf w 67) ⟨[v₁], []⟩ [("func", v₁)] :=
  kp_binds (B.K.keeps hk) (fun S => by kernel_rfl)
theorem getName {s : Shared} {A : Around} {E : Value → Shared → Prop} {a : Addr} {o : Obj} {fd : FuncData} {y : Str} {Q : Value → Shared → Prop} (hx : s.heap.get? a = some o) (hc : o.cls = .type "function") (hd : o.data = .func fd) (hy : fd.name = y) (hz : y.length ≤ sizeLine)
    (h : ∀ t' tk, Q (.str y t') { s with toks := tk }) : wpAny (model prog w) A (getAttr (.ref a) "__name__" true) Q E s := by
  subst hy
  unfold getAttr
  exact wpAny_bind (wpAny_mkText (fn_attr hx hc hd hz (h _ _)))
theorem len_le {a b : Str} {m n : Nat} (h1 : a.length ≤ m) (h2 : b.length ≤ n) : (a ++ b).length ≤ m + n := by rw [Str.length_append]; exact Nat.add_le_add h1 h2
/-- what a call leaves that was thrown at and caught -/
noncomputable def Mid (x : Cfg) (s : Shared) (L : Addr) (m : Str → Option Value) (out : Str) (r : Value) (s' : Shared) : Prop :=
  ∃ h' tk t, r = .str out t ∧ s' = { s with heap := h', toks := tk } ∧ (∀ b o, b ≠ L → x.h.get? b = some o → h'.get? b = some o) ∧ h'.Ns L m
set_option maxHeartbeats 400000 in
theorem safe_fail {y out : Str} (B : Base w h₀) (F : FnOk w h₀ 39 2) (F' : FnOk w h₀ 67 9) (cap : Cap A 3) (hfr : A.frames = some [env]) (hef : env.frame = some env.locals) (hkm : env.scope.kind ≠ .module) (hc : σ c = some (.ns g)) (hy : y.length ≤ 1000)
    (hout : out = ((((Str.empty ++ "<") ++ y) ++ " ") ++ "func_get_function_name") ++ "() failed>") :
    CallE w h₀ A env c ck (.ref 39) [.tup [d₁, d₂], .str y, .val (.ref 67)] σ (.str out) σ := fun x vs ok en hr s hs => by
  obtain ⟨v, u, t, rfl, hv, hu, ht⟩ := hr.three
  obtain ⟨ta, ts, tn, rfl, htM, htg, htr⟩ := hv.asTup
  cases hu; cases ht
  rename_i ty
  have hbase : ∀ b o, h₀.get? b = some o → s.heap.get? b = some o := fun b o e => hs ▸ ok.base b o e
  have hM0 : x.M env.locals := by
    obtain ⟨b, h1, h2, _⟩ := ok.live c _ hc
    rw [en.loc] at h1; cases h1; exact h2
  obtain ⟨m₀, hn₀, hm₀⟩ := ok.ns hc en.loc
  have fin : ∀ r s', s.heap.objs.size ≤ s'.heap.objs.size ∧ Mid x s env.locals m₀ out r s' → Post w h₀ σ x s (fun r y => Rep w y r (.str out)) r s' := by
    rintro r s' ⟨hz, h', tk, t, rfl, rfl, hk, hn⟩
    have gr : Grow x { x with h := h' } := ⟨fun b o hb e => hk b o (fun q => hb (q ▸ hM0)) e, fun _ _ e => e, fun _ _ e => e⟩
    obtain ⟨ok', af⟩ := ok.upd (sp := .ns g) en.loc hk (by rw [← hs]; exact hz) ⟨m₀, hn, fun y d e => let ⟨v, h1, h2⟩ := hm₀ y d e; ⟨v, h1, h2.grow gr⟩⟩
    exact ⟨_, tk, rfl, ok'.le (set_le_self hc), af, .str⟩
  refine wpAny_mono (wpAny_size (Q := Mid x s env.locals m₀ out) (E := fun _ _ => False) ?_) fin fun _ _ e => e
  refine wpAny_call (codeAny_call_def (R := fun r s' => match r with | .ok (.ret v) => Mid x s env.locals m₀ out v s' | .ok _ => False | .error e => False) cap.room (hbase _ _ F.obj) F.data (B.lim.keeps hbase) ?_ F.body
    (binds39 B hbase (.ref ta) (.str y ty) (.ref 67)) (F.noCell (by kernel_rfl)) (F.locals (by kernel_rfl)) (fun h₁ hns₁ hk₁ => ?_) (by rw [F.scope]; kernel_rfl) (by rw [F.scope]; kernel_rfl) (by rw [F.scope]; kernel_rfl))
  · obtain ⟨c', o', us, t', e1, e2, e3⟩ := F.code
    exact ⟨c', o', us, t', e1, hbase _ _ e2, e3⟩
  dsimp only
  have hL1 : s.heap.objs.size = x.h.objs.size := by rw [hs]
  generalize hbinds : ([("value", Value.ref ta), ("what", Value.str y ty), ("func", Value.ref 67)] : List (Str × Value)) = binds at hns₁ ⊢
  generalize hE1 : callEnv (fdOf w 39) s.heap.objs.size 39 = env1 at ⊢
  have l1 : env1.locals = s.heap.objs.size := by rw [← hE1]; rfl
  have f1 : env1.frame = some s.heap.objs.size := by rw [← hE1]; rfl
  have k1 : env1.scope.kind = .function := by rw [← hE1]; show (fdOf w 39).scope.kind = _; rw [F.scope]; kernel_rfl
  have n1 : env1.kindOf "func" = some .local := by rw [← hE1]; kernel_rfl
  have n2 : env1.kindOf "value" = some .local := by rw [← hE1]; kernel_rfl
  have n3 : env1.kindOf "what" = some .local := by rw [← hE1]; kernel_rfl
  have b1 : binds.reverse.lookup ("value" : Str) = some (.ref ta) := by rw [← hbinds]; kernel_rfl
  have b2 : binds.reverse.lookup ("what" : Str) = some (.str y ty) := by rw [← hbinds]; kernel_rfl
  have b3 : binds.reverse.lookup ("func" : Str) = some (.ref 67) := by rw [← hbinds]; kernel_rfl
  have fr1 : (A.deeper env1).frames = some [env1, env] := Around.frames_deeper hfr
  have cap1 : Cap (A.deeper env1) 2 := cap.deeper
  refine wpAny_execs_cons (wpAny_Try_except (wpAny_execs_cons (wpAny_Return_some (Call_ (local_by hns₁ l1 b3 k1 n1 (by decide +kernel) ?_)))))
  refine callWith_def F'.data ?_
  refine args_cons (local_by hns₁ l1 b1 k1 n2 (by decide +kernel) (args_nil ?_))
  have hbase₁ : ∀ b o, h₀.get? b = some o → h₁.get? b = some o := fun b o e => hk₁ b o (hbase b o e)
  refine ⟨hbase₁ _ _ F'.obj, ?_⟩
  refine wpAny_call (codeAny_call_def cap1.room (hbase₁ _ _ F'.obj) F'.data (B.lim.keeps hbase₁) ?_ F'.body
    (binds67 B hbase₁ (.ref ta)) (F'.noCell (by kernel_rfl)) (F'.locals (by kernel_rfl)) (fun h₂ hns₂ hk₂ => ?_) (by rw [F'.scope]; kernel_rfl) (by rw [F'.scope]; kernel_rfl) (by rw [F'.scope]; kernel_rfl))
  · obtain ⟨c', o', us, t', e1, e2, e3⟩ := F'.code
    exact ⟨c', o', us, t', e1, hbase₁ _ _ e2, e3⟩
  dsimp only at hns₂ hk₂ ⊢
  generalize hbinds2 : ([("func", Value.ref ta)] : List (Str × Value)) = binds2 at hns₂ ⊢
  generalize hE2 : callEnv (fdOf w 67) h₁.objs.size 67 = env2 at ⊢
  have l2 : env2.locals = h₁.objs.size := by rw [← hE2]; rfl
  have f2 : env2.frame = some h₁.objs.size := by rw [← hE2]; rfl
  have k2 : env2.scope.kind = .function := by rw [← hE2]; show (fdOf w 67).scope.kind = _; rw [F'.scope]; kernel_rfl
  have n4 : env2.kindOf "func" = some .local := by rw [← hE2]; kernel_rfl
  have b4 : binds2.reverse.lookup ("func" : Str) = some (.ref ta) := by rw [← hbinds2]; kernel_rfl
  have fr2 : ((A.deeper env1).deeper env2).frames = some [env2, env1, env] := Around.frames_deeper fr1
  have cap2 : Cap ((A.deeper env1).deeper env2) 1 := cap1.deeper
  refine wpAny_execs_cons (wpAny_Return_some (Subscript_ (local_by hns₂ l2 b4 k2 n4 (by decide +kernel) (wpAny_Constant_int ?_))))
  have htg₂ : h₂.get? ta = some (tobj ts tn) := hk₂ _ _ (hk₁ _ _ (hs ▸ htg))
  have hlen : ts.length = 2 := htr.length
  have hit : IsTup h₂ ta ts.toArray := ⟨_, htg₂, rfl, tn, rfl⟩
  refine tail_any hit.typeIs slot_tuple_getitem.lookup (getItem_tuple_out (k := 2) (items := ts.toArray) cap2.handled hit (by simp [hlen]) (by decide) fun h₃ tk₃ e hx => ?_) rfl
  dsimp only at hx ⊢
  obtain ⟨hxk, hxn, oe, a0, he, hec, hed⟩ := hx
  -- what may not change: all but the caller's own names
  have hb1 : ∀ b o, (hole x.h env.locals).get? b = some o → x.h.get? b = some o := fun b o q => (hole_get.mp q).2
  have up1 : ∀ b o, x.h.get? b = some o → h₃.get? b = some o := fun b o q => hxk _ _ (hk₂ _ _ (hk₁ _ _ (hs ▸ q)))
  have stay : (hole x.h env.locals).StaysIn h₃ := fun b o q => up1 b o (hb1 b o q)
  have none_of : ∀ {a : Addr}, x.h.get? a = none → (hole x.h env.locals).get? a = none := fun {a} h => by
    cases q : (hole x.h env.locals).get? a with
    | none => rfl
    | some o => rw [hb1 _ _ q] at h; cases h
  have past : ∀ {a : Addr}, x.h.objs.size ≤ a → x.h.get? a = none := fun {a} h => by
    cases q : x.h.get? a with
    | none => rfl
    | some o => exact absurd (Heap.lt_size q) (Nat.not_lt.mpr h)
  have en0 : x.h.get? e = none := by
    cases q : x.h.get? e with
    | none => rfl
    | some o => rw [hk₂ _ _ (hk₁ _ _ (hs ▸ q))] at hxn; cases hxn
  have hz1 : x.h.objs.size ≤ h₁.objs.size := by rw [← hL1]; exact Nat.le_of_lt hns₁.lt
  have frame : ∀ {h : Heap} {a : Addr} {m : Str → Option Value}, h.Ns a m → ∃ o, h.get? a = some o ∧ ∀ vs, o.data ≠ .fields vs := fun hn => by
    obtain ⟨o, es, ep, ho, hd, _⟩ := hn
    exact ⟨o, ho, fun vs q => by rw [hd] at q; cases q⟩
  have hl : h₃.FunFrames (hole x.h env.locals) [env2, env1, env] := by
    obtain ⟨o2, ho2, hd2⟩ := frame hns₂
    obtain ⟨o1, ho1, hd1⟩ := frame hns₁
    obtain ⟨o0, ho0, hd0⟩ := frame hn₀
    exact ⟨by rw [k2]; decide, ⟨_, o2, f2, none_of (past hz1), hxk _ _ ho2, hd2⟩, by rw [k1]; decide, ⟨_, o1, f1, none_of (past (Nat.le_of_eq hL1.symm)), hxk _ _ (hk₂ _ _ ho1), hd1⟩,
      hkm, ⟨_, o0, hef, hole_self, up1 _ _ ho0, hd0⟩, trivial⟩
  refine wpAny_leaving_firstW (a0 := a0) fr2 hl f2 he stay (none_of en0) hed rfl rfl fun h₄ ⟨x1, ⟨_, _, x2⟩, x3, x4⟩ => ?_
  dsimp only at x4 ⊢
  have sm4 : h₃.UpToSlots h₄ := x4
  refine wpAny_looks_onW fr1 f1 ⟨x1, none_of en0, x2, x3⟩ fun h₅ held sm5 => ?_
  dsimp only at sm5 ⊢
  refine wpAny_landsW held fun h₆ fly sm6 => ?_
  dsimp only at sm6 ⊢
  refine handleBy_bare (wpAny_setFlight_noneW fly.1 fly.2.2.1 fly.2.2.2.at fun h₇ y1 y2 y3 y4 => ?_)
  dsimp only at y4 ⊢
  have sm7 : h₆.UpToSlots h₇ := fun b o q hn => ⟨o.slots, y4 b o q hn⟩
  have sm : h₃.UpToSlots h₇ := ((sm4.trans sm5).trans sm6).trans sm7
  have hns₇ : h₇.Ns s.heap.objs.size (fun x => binds.reverse.lookup x) := (((Heap.UpToSlots.of_keeps hk₂).trans (Heap.UpToSlots.of_keeps hxk)).trans sm).ns hns₁
  have hn₇ : h₇.Ns env.locals m₀ := ((Heap.UpToSlots.of_keeps up1).trans sm).ns hn₀
  have hk₇ : ∀ b o, b ≠ env.locals → x.h.get? b = some o → h₇.get? b = some o := fun b o hb q => y1 b o (hole_get.mpr ⟨hb, q⟩)
  have h67 : h₇.get? 67 = some (objOf w 67) := hk₇ _ _ (fun q => by have := ok.off _ hM0; rw [← q, F'.obj] at this; cases this) (ok.base _ _ F'.obj)
  have z1 : (Str.empty ++ Str.ofString "<").length ≤ 1 := by decide
  have z2 : ((Str.empty ++ Str.ofString "<") ++ y).length ≤ 1 + 1000 := len_le z1 hy
  have z3 : (((Str.empty ++ Str.ofString "<") ++ y) ++ Str.ofString " ").length ≤ 1 + 1000 + 1 := len_le z2 (by decide)
  have z4 : ((((Str.empty ++ Str.ofString "<") ++ y) ++ Str.ofString " ") ++ Str.ofString "func_get_function_name").length ≤ 1 + 1000 + 1 + 22 := len_le z3 (by decide)
  have z5 : (((((Str.empty ++ Str.ofString "<") ++ y) ++ Str.ofString " ") ++ Str.ofString "func_get_function_name") ++ Str.ofString "() failed>").length ≤ 1 + 1000 + 1 + 22 + 10 := len_le z4 (by decide)
  have sz : ∀ {n m : Nat}, n ≤ m → m ≤ 16777216 → n ≤ sizeLine := fun h1 h2 => by rw [sizeLine_eq]; exact Nat.le_trans h1 h2
  refine wpAny_execs_cons (wpAny_Return_some (PyProof.Rows.JoinedStr_many ?_))
  refine joinParts_cons (wpAny_Constant_str ⟨sz z1 (by decide), ?_⟩)
  refine joinParts_cons (PyProof.Rows.FormattedValue_plain (local_by hns₇ l1 b2 k1 n3 (by decide +kernel) (PyProof.Rows.formatField_str (fun t' tk' => ⟨sz z2 (by decide), ?_⟩) (sz hy (by decide)))))
  refine joinParts_cons (wpAny_Constant_str ⟨sz z3 (by decide), ?_⟩)
  refine joinParts_cons (PyProof.Rows.FormattedValue_plain (Attribute_name (local_by hns₇ l1 b3 k1 n1 (by decide +kernel) ?_)))
  refine getName (y := "func_get_function_name") h67 (by kernel_rfl) F'.data (by kernel_rfl) (sz (m := 22) (by decide) (by decide)) fun t' tk' => ?_
  refine PyProof.Rows.formatField_str (fun t' tk' => ⟨sz z4 (by decide), ?_⟩) (sz (m := 22) (by decide) (by decide))
  rw [arm_evalEach_cons, arm_evalEach_nil]
  refine joinParts_cons ?_
  refine wpAny_Constant_str ?_
  refine ⟨sz z5 (by decide), ?_⟩
  have z6 : out.length ≤ sizeLine := by
    rw [hout]
    exact sz z5 (by decide)
  rw [← hout]
  refine PyProof.Rows.joinParts_nil (M := model prog w) ?_ z6
  dsimp only
  exact ⟨h₇, _, _, rfl, rfl, hk₇, hn₇⟩
end
end Mine
end

/-! # S1 -/
section
set_option maxRecDepth 100000
namespace Mine
section
variable {w : World} {h₀ : Heap} {A : Around} {env : Env} {c : Key} {ck : List (Str × Key)} {σ σ' : H} {d d₁ d₂ : D}
theorem hset_same {k : Key} {sp : Sp} : (σ.set k sp) k = some sp := if_pos rfl
theorem hset_ne {k k' : Key} {sp : Sp} {r : Option Sp} (h : k' ≠ k) (e : σ k' = r) : (σ.set k sp) k' = r := (if_neg h).trans e
theorem gs_same {g : Str → Option D} {y : Str} {d : D} : gset g y d y = some d := if_pos rfl
theorem gs_ne {g : Str → Option D} {y z : Str} {d : D} {r : Option D} (h : decide (z = y) = false) (e : g z = r) : gset g y d z = r := (if_neg (of_decide_eq_false h)).trans e

local macro_rules | `(tactic| walk_at "hp") => `(tactic| ((repeat (first | exact hset_same | exact gs_same | refine hset_ne (by decide) ?_ | refine gs_ne (by kernel_rfl) ?_)); try first | assumption | rfl))

theorem hset_set {k : Key} {a b : Sp} : (σ.set k a).set k b = σ.set k b := by
  funext k'; unfold H.set; split <;> rfl
theorem Sp.Le.refl (a : Sp) : Sp.Le a a := by cases a <;> simp [Sp.Le]
theorem H.Le.refl (σ : H) : H.Le σ σ := fun k => by
  cases σ k with
  | none => trivial
  | some a => exact Sp.Le.refl a
theorem H.Le.set {k : Key} {a b : Sp} (h : H.Le σ σ') (hs : Sp.Le a b) : H.Le (σ.set k a) (σ'.set k b) := fun k' => by
  unfold H.set
  by_cases e : k' = k
  · rw [if_pos e, if_pos e]; exact hs
  · rw [if_neg e, if_neg e]; exact h k'
theorem le_g0 {g' : Str → Option D} : ∀ y d, g0 y = some d → g' y = some d := fun y d e => by cases e
theorem le_gset {g g' : Str → Option D} {x : Str} {d₀ : D} (h : g' x = some d₀) (hr : ∀ y d, g y = some d → g' y = some d) : ∀ y d, gset g x d₀ y = some d → g' y = some d := fun y d e => by
  unfold gset at e
  split at e
  · rename_i q; rw [q, h]; exact e
  · exact hr y d e
local macro_rules | `(tactic| walk_at "gle") => `(tactic| (repeat (first | exact le_g0 | refine le_gset (by walk_at "hp") ?_)))

theorem takes67 (B : Base w h₀) : Takes w h₀ (fdOf w 67) [d] (gset g0 "func" d) := fun x s vs hk hr => by
  obtain ⟨v, rfl, hv⟩ := hr.one
  refine ⟨_, binds67 B hk v, FnOk.locals (fn67 B) (by kernel_rfl), fun y d' e => ?_⟩
  unfold gset at e
  split at e
  · rename_i q; cases e; subst q
    exact ⟨v, by kernel_rfl, hv⟩
  · cases e
theorem spec67 {xs : List D} (B : Base w h₀) (cap : Cap A 1) (hx : xs[2]? = some d) (hb : xs.length ≤ 1000) (hf : σ (.fr 90) = none) : CallD w h₀ A (.ref 67) [.tup xs] σ d σ := by
  have F := fn67 B
  refine CallD.def' (out := .ret d) (kf := .fr 90) cap F.obj F.data F.body B.lim F.code (F.noCell (by kernel_rfl)) (by rw [F.scope]; kernel_rfl) (by rw [F.scope]; kernel_rfl) (by rw [F.scope]; kernel_rfl) (takes67 B) rfl hf hf fun L => ⟨_, Exs.ret (Ex.ret (Ev.sub
    (Ev.loc (g := gset g0 "func" (.tup xs)) (by rw [show (callEnv (fdOf w 67) L 67).scope = (fdOf w 67).scope from rfl, F.scope]; kernel_rfl) (by kernel_rfl) (by walk_at "hp") (by walk_at "hp") (by kernel_rfl)) Ev.intC (SubD.tup (j := 2) (fun _ _ => rfl) (by rw [sizeLine_eq]; omega) (by decide) rfl hx))), fun k hk => ?_, by rw [hset_same]; rfl⟩
  exact if_neg hk

theorem fn39 (B : Base w h₀) : FnOk w h₀ 39 2 := .of B (by kernel_rfl) (by kernel_rfl) (by kernel_rfl) (by kernel_rfl) (by kernel_rfl) (by kernel_rfl) (by kernel_rfl)
theorem takes39 {d₃ : D} (B : Base w h₀) : Takes w h₀ (fdOf w 39) [d, d₂, d₃] (gset (gset (gset g0 "func" d₃) "what" d₂) "value" d) := fun x s vs hk hr => by
  obtain ⟨v, u, t, rfl, hv, hu, ht⟩ := hr.three
  refine ⟨_, binds39 B hk v u t, FnOk.locals (fn39 B) (by kernel_rfl), fun y d' e => ?_⟩
  unfold gset at e
  split at e
  · rename_i q; cases e; subst q; exact ⟨_, by kernel_rfl, hv⟩
  · split at e
    · rename_i q; cases e; subst q; exact ⟨_, by kernel_rfl, hu⟩
    · split at e
      · rename_i q; cases e; subst q; exact ⟨_, by kernel_rfl, ht⟩
      · cases e
theorem spec39 {xs : List D} (B : Base w h₀) (cap : Cap A 2) (hx : xs[2]? = some d) (hb : xs.length ≤ 1000) (hf : σ (.fr 90) = none) (hf' : σ (.fr 91) = none) : CallD w h₀ A (.ref 39) [.tup xs, d₂, .val (.ref 67)] σ d σ := by
  have F := fn39 B
  refine CallD.def' (out := .ret d) (kf := .fr 91) cap F.obj F.data F.body B.lim F.code (F.noCell (by kernel_rfl)) (by rw [F.scope]; kernel_rfl) (by rw [F.scope]; kernel_rfl) (by rw [F.scope]; kernel_rfl) (takes39 B) rfl hf' hf' fun L => ⟨_, Exs.ret (Ex.tryRet (Exs.ret (Ex.ret (Ev.callF
    (Ev.loc (g := gset (gset (gset g0 "func" (.val (.ref 67))) "what" d₂) "value" (.tup xs)) (by rw [show (callEnv (fdOf w 39) L 39).scope = (fdOf w 39).scope from rfl, F.scope]; kernel_rfl) (by kernel_rfl) (by walk_at "hp") (by walk_at "hp") (by kernel_rfl))
    (Evs.cons (Ev.loc (g := gset (gset (gset g0 "func" (.val (.ref 67))) "what" d₂) "value" (.tup xs)) (by rw [show (callEnv (fdOf w 39) L 39).scope = (fdOf w 39).scope from rfl, F.scope]; kernel_rfl) (by kernel_rfl) (by walk_at "hp") (by walk_at "hp") (by kernel_rfl)) Evs.nil rfl)
    (fn67 B).obj (fn67 B).data (spec67 B cap.deeper hx hb (by walk_at "hp")) (fun _ => rfl) rfl)))), fun k hk => ?_, by rw [hset_same]; rfl⟩
  exact if_neg hk

theorem fn81 (B : Base w h₀) : FnOk w h₀ 81 11 := .of B (by kernel_rfl) (by kernel_rfl) (by kernel_rfl) (by kernel_rfl) (by kernel_rfl) (by kernel_rfl) (by kernel_rfl)
theorem takes81 (B : Base w h₀) : Takes w h₀ (fdOf w 81) [d] (gset g0 "callers" d) := fun x s vs hk hr => by
  obtain ⟨v, rfl, hv⟩ := hr.one
  refine ⟨[("callers", v)], kp_binds (B.K.keeps hk) (fun S => by kernel_rfl), FnOk.locals (fn81 B) (by kernel_rfl), fun y d' e => ?_⟩
  unfold gset at e
  split at e
  · rename_i q; cases e; subst q
    exact ⟨v, by kernel_rfl, hv⟩
  · cases e
noncomputable def psum (kvs : List (Int × Int)) (i : Nat) : Int := ((kvs.take i).map (·.2)).sum
theorem psum_succ {kvs : List (Int × Int)} {i : Nat} {p : Int × Int} (h : kvs[i]? = some p) : psum kvs (i + 1) = psum kvs i + p.2 := by
  obtain ⟨hlt, e⟩ := List.getElem?_eq_some_iff.mp h
  unfold psum
  rw [List.take_succ_eq_append_getElem hlt, List.map_append, List.sum_append, e]; simp
theorem spec81 {kvs : List (Int × Int)} (B : Base w h₀) (cap : Cap A 1) (hf : σ (.fr 90) = none) : CallD w h₀ A (.ref 81) [.dict kvs] σ (.int (psum kvs kvs.length)) σ := by
  have F := fn81 B
  have hs : ∀ L, (callEnv (fdOf w 81) L 81).scope.kind = .function := fun L => by rw [show (callEnv (fdOf w 81) L 81).scope = (fdOf w 81).scope from rfl, F.scope]; kernel_rfl
  have k1 : ∀ L, (callEnv (fdOf w 81) L 81).kindOf "nc" = some .local := fun L => by kernel_rfl
  have k2 : ∀ L, (callEnv (fdOf w 81) L 81).kindOf "calls" = some .local := fun L => by kernel_rfl
  have k3 : ∀ L, (callEnv (fdOf w 81) L 81).kindOf "callers" = some .local := fun L => by kernel_rfl
  refine CallD.def' (out := .ret (.int (psum kvs kvs.length))) (kf := .fr 90) cap F.obj F.data F.body B.lim F.code (F.noCell (by kernel_rfl)) (by rw [F.scope]; kernel_rfl) (by rw [F.scope]; kernel_rfl) (by rw [F.scope]; kernel_rfl) (takes81 B) rfl hf hf fun L => ?_
  let σs : Nat → H := fun i => σ.set (.fr 90) (.ns (gset (gset g0 "callers" (.dict kvs)) "nc" (.int (psum kvs i))))
  have lp : Exs w h₀ (A.deeper (callEnv (fdOf w 81) L 81)) (callEnv (fdOf w 81) L 81) (.fr 90) [] (bodyAt 11) (σ.set (.fr 90) (.ns (gset g0 "callers" (.dict kvs)))) (.ret (.int (psum kvs kvs.length))) (σs (valL kvs).length) := by
    refine Exs.cons (Ex.assign Ev.intC (St.loc (k1 L) (hs L) hset_same) rfl) ?_
    rw [hset_set]
    refine Exs.cons (Ex.forT (ds := valL kvs) σs (ItrT.values B.lim cap.deeper.handled (Ev.loc (hs L) (k3 L) hset_same (by walk_at "hp") (by kernel_rfl)) (fun _ _ => rfl) rfl rfl rfl) (fun _ _ => trivial) (fun i d' hd => ?_) (fun _ => rfl)) ?_
    · unfold valL at hd
      rw [List.getElem?_map, Option.map_eq_some_iff] at hd
      obtain ⟨p, hp, rfl⟩ := hd
      refine ⟨_, Tgt.name (St.loc (k2 L) (hs L) hset_same), Exs.le (Exs.cons (Ex.aug (Ld.loc (hs L) (k1 L) hset_same (by walk_at "hp")) (Ev.loc (hs L) (k2 L) hset_same (by walk_at "hp") (by kernel_rfl)) Inp.add (St.loc (k1 L) (hs L) hset_same)) Exs.nil) ?_⟩
      rw [hset_set, hset_set]
      refine H.Le.set (.refl _) ?_
      rw [psum_succ hp]
      walk_at "gle"
    · have e : (valL kvs).length = kvs.length := by unfold valL; rw [List.length_map]
      rw [e]
      exact Exs.ret (Ex.ret (Ev.loc (hs L) (k1 L) hset_same (by walk_at "hp") (by kernel_rfl)))
  exact ⟨_, lp, fun k hk => if_neg hk, by simp only [σs]; rw [hset_same]; rfl⟩
end
end Mine
end

local macro_rules | `(tactic| walk_at "hp") => `(tactic| ((repeat (first | exact Mine.hset_same | exact Mine.gs_same | refine Mine.hset_ne (by decide) ?_ | refine Mine.gs_ne (by kernel_rfl) ?_)); try first | assumption | rfl))
local macro_rules | `(tactic| walk_at "gle") => `(tactic| (repeat (first | exact Mine.le_g0 | refine Mine.le_gset (by walk_at "hp") ?_)))

/-! # S2 -/
section
set_option maxRecDepth 100000
namespace Mine
section
variable {w : World} {h₀ : Heap} {A : Around} {env : Env} {c : Key} {ck : List (Str × Key)} {σ σ' : H} {d d₁ d₂ : D}
theorem hset_swap {k k' : Key} {a b c : Sp} (h : k ≠ k') : ((σ.set k a).set k' b).set k c = (σ.set k c).set k' b := by
  funext q; unfold H.set
  by_cases e : q = k
  · rw [if_pos e, if_neg (fun e' => h (e ▸ e')), if_pos e]
  · rw [if_neg e, if_neg e, if_neg e]
theorem hset_comm {k k' : Key} {a b : Sp} (h : k ≠ k') : (σ.set k a).set k' b = (σ.set k' b).set k a := by
  funext q; unfold H.set
  by_cases e : q = k
  · rw [if_neg (fun e' => h (e ▸ e')), if_pos e, if_pos e]
  · rw [if_neg e, if_neg e]

theorem Tst.as {e : Expr} {b b' : Bool} (q : b = b') (h : Tst w h₀ A env c ck e σ b σ') : Tst w h₀ A env c ck e σ b' σ' := q ▸ h
theorem fn74 (B : Base w h₀) : FnOk w h₀ 74 10 := .of B (by kernel_rfl) (by kernel_rfl) (by kernel_rfl) (by kernel_rfl) (by kernel_rfl) (by kernel_rfl) (by kernel_rfl)
theorem takes74 (B : Base w h₀) : Takes w h₀ (fdOf w 74) [d₁, d₂] (gset (gset g0 "source" d₂) "target" d₁) := fun x s vs hk hr => by
  obtain ⟨v, u, rfl, hv, hu⟩ := hr.two
  refine ⟨[("target", v), ("source", u)], kp_binds (B.K.keeps hk) (fun S => by kernel_rfl), FnOk.locals (fn74 B) (by kernel_rfl), fun y d' e => ?_⟩
  unfold gset at e
  split at e
  · rename_i q; cases e; subst q
    exact ⟨v, by kernel_rfl, hv⟩
  · split at e
    · rename_i q; cases e; subst q
      exact ⟨u, by kernel_rfl, hu⟩
    · cases e
noncomputable def dcopy (kvs : List (Int × Int)) : Nat → List (Int × Int)
  | 0 => []
  | n + 1 => dput (dcopy kvs n) ((kvs.getD n (0, 0)).1) ((kvs.getD n (0, 0)).2)
noncomputable def addC (kvs : List (Int × Int)) (k v : Int) : List (Int × Int) :=
  match dget (dcopy kvs kvs.length) k with
  | some old => dput (dcopy kvs kvs.length) k (old + v)
  | none => dput (dcopy kvs kvs.length) k v
theorem dcopy_length (kvs : List (Int × Int)) : ∀ n, (dcopy kvs n).length ≤ n
  | 0 => Nat.le_refl _
  | n + 1 => Nat.le_trans (dput_length _ _ _) (Nat.succ_le_succ (dcopy_length kvs n))
theorem spec74 {kvs : List (Int × Int)} {k v : Int} (B : Base w h₀) (cap : Cap A 1) (hl : kvs.length ≤ 1000) (hf : σ (.fr 90) = none) (hn : σ (.n 90) = none) : CallD w h₀ A (.ref 74) [.dict kvs, .dict [(k, v)]] σ (.dict (addC kvs k v)) σ := by
  have F := fn74 B
  have hs : ∀ L, (callEnv (fdOf w 74) L 74).scope.kind = .function := fun L => by rw [show (callEnv (fdOf w 74) L 74).scope = (fdOf w 74).scope from rfl, F.scope]; kernel_rfl
  have k1 : ∀ L, (callEnv (fdOf w 74) L 74).kindOf "new_callers" = some .local := fun L => by kernel_rfl
  have k2 : ∀ L, (callEnv (fdOf w 74) L 74).kindOf "target" = some .local := fun L => by kernel_rfl
  have k3 : ∀ L, (callEnv (fdOf w 74) L 74).kindOf "source" = some .local := fun L => by kernel_rfl
  have k4 : ∀ L, (callEnv (fdOf w 74) L 74).kindOf "func" = some .local := fun L => by kernel_rfl
  have k5 : ∀ L, (callEnv (fdOf w 74) L 74).kindOf "caller" = some .local := fun L => by kernel_rfl
  refine CallD.freezeDict (k := .n 90) ?_ hn
  refine CallD.def' (out := .ret (.res (.n 90))) (kf := .fr 90) cap F.obj F.data F.body B.lim F.code (F.noCell (by kernel_rfl)) (by rw [F.scope]; kernel_rfl) (by rw [F.scope]; kernel_rfl) (by rw [F.scope]; kernel_rfl) (takes74 B) rfl hf (by walk_at "hp") fun L => ?_
  let g1 : Str → Option D := gset (gset (gset g0 "source" (.dict [(k, v)])) "target" (.dict kvs)) "new_callers" (.res (.n 90))
  let S : List (Int × Int) → H := fun m => (σ.set (.n 90) (.dict m)).set (.fr 90) (.ns g1)
  have lp : Exs w h₀ (A.deeper (callEnv (fdOf w 74) L 74)) (callEnv (fdOf w 74) L 74) (.fr 90) [] (bodyAt 10) (σ.set (.fr 90) (.ns (gset (gset g0 "source" (.dict [(k, v)])) "target" (.dict kvs)))) (.ret (.res (.n 90))) (S (addC kvs k v)) := by
    refine Exs.cons (Ex.assign (Ev.dictNil B.lim (.key (k := .n 90) rfl (by walk_at "hp"))) (St.loc (k1 L) (hs L) (by walk_at "hp")) rfl) ?_
    rw [hset_swap (by decide), hset_comm (by decide)]
    refine Exs.cons (Ex.forT (ds := itemL kvs) (fun i => S (dcopy kvs i)) (ItrT.items B.lim cap.deeper.handled (Ev.loc (hs L) (k2 L) hset_same (by walk_at "hp") (by kernel_rfl)) rfl rfl rfl) (fun _ _ => trivial) (fun i d' hd => ?_) (fun _ => rfl)) ?_
    · unfold itemL at hd
      rw [List.getElem?_map, Option.map_eq_some_iff] at hd
      obtain ⟨p, hp, rfl⟩ := hd
      refine ⟨_, Tgt.tup2 cap.deeper.handled (Tgt.name (St.loc (k4 L) (hs L) hset_same)) (Tgt.name (St.loc (k5 L) (hs L) hset_same)) rfl rfl rfl, Exs.le (Exs.cons (Ex.setSub (Ev.loc (hs L) (k5 L) hset_same (by walk_at "hp") (by kernel_rfl)) (Ev.loc (hs L) (k1 L) hset_same (by walk_at "hp") (by kernel_rfl)) (Ev.loc (hs L) (k4 L) hset_same (by walk_at "hp") (by kernel_rfl))
        (SetD.dict (key := .n 90) (kvs := dcopy kvs i) (by walk_at "hp") ?_) rfl) Exs.nil) ?_⟩
      · have := dcopy_length kvs i
        have h2 := (List.getElem?_eq_some_iff.mp hp).1
        omega
      · show H.Le (H.set (H.set (H.set (H.set (H.set σ _ _) _ _) _ _) _ _) _ _) (S (dcopy kvs (i + 1)))
        rw [hset_set, hset_set, hset_swap (by decide)]
        have e : dcopy kvs (i + 1) = dput (dcopy kvs i) p.1 p.2 := by
          show dput _ ((kvs.getD i (0, 0)).1) ((kvs.getD i (0, 0)).2) = _
          rw [List.getD_eq_getElem?_getD, hp]; rfl
        rw [e]
        refine H.Le.set (.refl _) ?_
        walk_at "gle"
    · have el : (itemL kvs).length = kvs.length := by unfold itemL; rw [List.length_map]
      rw [el]
      have G1 : Glb h₀ "isinstance" (.builtin "isinstance") := .boot B (by kernel_rfl) (by kernel_rfl) (by decide)
      have G2 : Glb h₀ "tuple" (.type "tuple") := .boot B (by kernel_rfl) (by kernel_rfl) (by decide)
      have k6 : (callEnv (fdOf w 74) L 74).kindOf "isinstance" = some .globalImplicit := by kernel_rfl
      have k7 : (callEnv (fdOf w 74) L 74).kindOf "tuple" = some .globalImplicit := by kernel_rfl
      have hgl : (callEnv (fdOf w 74) L 74).globals = mainGlobals := F.globals
      have hbu : (callEnv (fdOf w 74) L 74).builtins = builtinsNs := F.builtins
      refine Exs.cons (Ex.forT (ds := itemL [(k, v)]) (fun i => S (if i = 0 then dcopy kvs kvs.length else addC kvs k v)) (ItrT.items B.lim cap.deeper.handled (Ev.loc (hs L) (k3 L) hset_same (by walk_at "hp") (by kernel_rfl)) rfl rfl rfl) (fun _ _ => trivial) (fun i d' hd => ?_) (fun _ => rfl)) ?_
      · cases i with
        | succ i => simp [itemL] at hd
        | zero =>
          have e : d' = .tup [.int k, .int v] := by simpa [itemL] using hd.symm
          subst e
          refine ⟨_, Tgt.tup2 cap.deeper.handled (Tgt.name (St.loc (k4 L) (hs L) hset_same)) (Tgt.name (St.loc (k5 L) (hs L) hset_same)) rfl rfl rfl, ?_⟩
          show Exs _ _ _ _ _ _ _ (H.set (H.set (H.set (H.set σ _ _) _ _) _ _) _ _) _ _
          rw [hset_set, hset_set]
          have hlen := dcopy_length kvs kvs.length
          cases hd0 : dget (dcopy kvs kvs.length) k with
          | none =>
            have ea : addC kvs k v = dput (dcopy kvs kvs.length) k v := by unfold addC; rw [hd0]
            refine Exs.le (Exs.cons (Ex.iff (b := false) (Tst.as (by rw [hd0]; rfl) (Tst.cmp (Ev.loc (hs L) (k4 L) hset_same (by walk_at "hp") (by kernel_rfl)) (Ev.loc (hs L) (k1 L) hset_same (by walk_at "hp") (by kernel_rfl)) (Cmp.inD (kvs := dcopy kvs kvs.length) (.inr ⟨.n 90, rfl, by walk_at "hp"⟩)) rfl))
              (Exs.cons (Ex.setSub (Ev.loc (hs L) (k5 L) hset_same (by walk_at "hp") (by kernel_rfl)) (Ev.loc (hs L) (k1 L) hset_same (by walk_at "hp") (by kernel_rfl)) (Ev.loc (hs L) (k4 L) hset_same (by walk_at "hp") (by kernel_rfl)) (SetD.dict (key := .n 90) (kvs := dcopy kvs kvs.length) (by walk_at "hp") (by omega)) rfl) Exs.nil)) Exs.nil) ?_
            rw [hset_swap (by decide)]
            show H.Le _ (S (addC kvs k v))
            rw [ea]
            exact H.Le.set (.refl _) (by walk_at "gle")
          | some old =>
            have ea : addC kvs k v = dput (dcopy kvs kvs.length) k (old + v) := by unfold addC; rw [hd0]
            refine Exs.le (Exs.cons (Ex.iff (b := true) (Tst.as (by rw [hd0]; rfl) (Tst.cmp (Ev.loc (hs L) (k4 L) hset_same (by walk_at "hp") (by kernel_rfl)) (Ev.loc (hs L) (k1 L) hset_same (by walk_at "hp") (by kernel_rfl)) (Cmp.inD (kvs := dcopy kvs kvs.length) (.inr ⟨.n 90, rfl, by walk_at "hp"⟩)) rfl))
              (Exs.cons (Ex.iff (b := false) (Tst.val (fun _ _ => rfl) (Ev.callB (Ev.glob G1 (hs L) k6 hgl hbu (by kernel_rfl)) (Evs.cons (Ev.loc (hs L) (k5 L) hset_same (by walk_at "hp") (by kernel_rfl)) (Evs.cons (Ev.glob G2 (hs L) k7 hgl hbu (by kernel_rfl)) Evs.nil rfl) rfl) CallD.isTup (fun _ => rfl) rfl rfl))
                (Exs.cons (Ex.augSub (Ev.loc (hs L) (k1 L) hset_same (by walk_at "hp") (by kernel_rfl)) (Ev.loc (hs L) (k4 L) hset_same (by walk_at "hp") (by kernel_rfl)) (GetD.dict (kvs := dcopy kvs kvs.length) (.inr ⟨.n 90, rfl, by walk_at "hp"⟩) hd0) (Ev.loc (hs L) (k5 L) hset_same (by walk_at "hp") (by kernel_rfl)) Inp.add (SetD.dict (key := .n 90) (kvs := dcopy kvs kvs.length) (by walk_at "hp") (by omega)) (fun _ _ _ => rfl)) Exs.nil)) Exs.nil)) Exs.nil) ?_
            rw [hset_swap (by decide)]
            show H.Le _ (S (addC kvs k v))
            rw [ea]
            exact H.Le.set (.refl _) (by walk_at "gle")
      · exact Exs.ret (Ex.ret (Ev.loc (hs L) (k1 L) hset_same (by walk_at "hp") (by kernel_rfl)))
  exact ⟨_, lp, fun q hq => if_neg hq, by simp only [S]; rw [hset_same]; rfl⟩
end
end Mine
end

/-! # S3 -/
section
set_option maxRecDepth 100000
namespace Mine
section
variable {w : World} {h₀ : Heap} {A : Around} {env : Env} {c : Key} {ck : List (Str × Key)} {σ σ' : H} {d d₁ d₂ d₃ : D}

/-! ## _paren_depth -/
theorem quoted (B : Base w h₀) : IsQuoted h₀ 52 := ⟨_, _, _, _, _, _, B.K 52 (objOf w 52) (by kernel_rfl), by kernel_rfl, by kernel_rfl, (by kernel_rfl : (objOf w 52).data = .fields (match (objOf w 52).data with | .fields fs => fs | _ => #[])), (by kernel_rfl : _ = Value.ref 51), by kernel_rfl, by kernel_rfl, B.K 51 (objOf w 51) (by kernel_rfl),
  (by kernel_rfl : (objOf w 51).data = .seq (match (objOf w 51).data with | .seq vs _ => vs | _ => #[]) 0), by kernel_rfl⟩
theorem fn60 (B : Base w h₀) : FnOk w h₀ 60 7 := .of B (by kernel_rfl) (by kernel_rfl) (by kernel_rfl) (by kernel_rfl) (by kernel_rfl) (by kernel_rfl) (by kernel_rfl)
theorem takes60 (B : Base w h₀) : Takes w h₀ (fdOf w 60) [d₁, d₂] (gset (gset g0 "depth" d₂) "data" d₁) := fun x s vs hk hr => by
  obtain ⟨v, u, rfl, hv, hu⟩ := hr.two
  refine ⟨[("data", v), ("depth", u)], kp_binds (B.K.keeps hk) (fun S => by kernel_rfl), FnOk.locals (fn60 B) (by kernel_rfl), fun y d' e => ?_⟩
  unfold gset at e
  split at e
  · rename_i q; cases e; subst q
    exact ⟨v, by kernel_rfl, hv⟩
  · split at e
    · rename_i q; cases e; subst q
      exact ⟨u, by kernel_rfl, hu⟩
    · cases e
theorem takes60' (B : Base w h₀) : Takes w h₀ (fdOf w 60) [d₁] (gset (gset g0 "depth" (.int 0)) "data" d₁) := fun x s vs hk hr => by
  obtain ⟨v, rfl, hv⟩ := hr.one
  refine ⟨[("data", v), ("depth", .int 0 352)], kp_binds (B.K.keeps hk) (fun S => by kernel_rfl), FnOk.locals (fn60 B) (by kernel_rfl), fun y d' e => ?_⟩
  unfold gset at e
  split at e
  · rename_i q; cases e; subst q
    exact ⟨v, by kernel_rfl, hv⟩
  · split at e
    · rename_i q; cases e; subst q
      exact ⟨.int 0 352, by kernel_rfl, .int⟩
    · cases e
/-- the net depth of what is left -/
noncomputable def net (full : List Nat) : Int := (countB 40 (toB full).toArray : Int) - countB 41 (toB full).toArray
theorem body60 {b : Array UInt8} {full : List Nat} {n : Int} (B : Base w h₀) (hh : A.handled = none) (hb : b.size ≤ 1000000) (hseg : Segs (b.toList.map (·.toNat)) full) (L : Addr) :
    ∃ τ, Exs w h₀ A (callEnv (fdOf w 60) L 60) (.fr 90) [] (bodyAt 7) (σ.set (.fr 90) (.ns (gset (gset g0 "depth" (.int n)) "data" (.bytes b)))) (.ret (.int (n + net full))) τ ∧ (∀ k, k ≠ .fr 90 → τ k = σ k) ∧ (τ (.fr 90)).isSome := by
  have F := fn60 B
  have hs : (callEnv (fdOf w 60) L 60).scope.kind = .function := by rw [show (callEnv (fdOf w 60) L 60).scope = (fdOf w 60).scope from rfl, F.scope]; kernel_rfl
  have k1 : (callEnv (fdOf w 60) L 60).kindOf "data" = some .local := by kernel_rfl
  have k2 : (callEnv (fdOf w 60) L 60).kindOf "depth" = some .local := by kernel_rfl
  have k3 : (callEnv (fdOf w 60) L 60).kindOf "_quoted" = some .globalImplicit := by kernel_rfl
  have G1 : Glb h₀ "_quoted" (.ref 52) := .main B (by kernel_rfl)
  have q := quoted B
  have e : n + net full = n + (countB 40 (toB full).toArray : Int) - countB 41 (toB full).toArray := by unfold net; omega
  rw [e]
  refine ⟨_, Exs.cons (Ex.assign (Ev.meth (Ev.glob G1 hs k3 F.globals F.builtins (by kernel_rfl)) (Meth.pat q) (Evs.cons Ev.bytesC (Evs.cons (Ev.loc hs k1 hset_same (by walk_at "hp") (by kernel_rfl)) Evs.nil rfl) rfl) (CallD.sub q hb hseg hh) rfl rfl rfl (fun _ _ e => by cases e; rfl) rfl) (St.loc k1 hs hset_same) rfl)
    (Exs.ret (Ex.ret (Ev.bin (Ev.bin (Ev.loc hs k2 hset_same (by walk_at "hp") (by kernel_rfl))
      (Ev.meth (Ev.loc hs k1 hset_same (by walk_at "hp") (by kernel_rfl)) (Meth.bytes slot_bytes_count type_bytes_count) (Evs.cons Ev.bytesC Evs.nil rfl) CallD.count rfl rfl rfl (fun _ _ e => by cases e; rfl) rfl) Bin.add)
      (Ev.meth (Ev.loc hs k1 hset_same (by walk_at "hp") (by kernel_rfl)) (Meth.bytes slot_bytes_count type_bytes_count) (Evs.cons Ev.bytesC Evs.nil rfl) CallD.count rfl rfl rfl (fun _ _ e => by cases e; rfl) rfl) Bin.sub))), fun k hk => ?_, ?_⟩
  · rw [hset_set]; exact if_neg hk
  · rw [hset_same]; rfl
theorem spec60 {b : Array UInt8} {full : List Nat} {n : Int} (B : Base w h₀) (cap : Cap A 1) (hb : b.size ≤ 1000000) (hseg : Segs (b.toList.map (·.toNat)) full) (hf : σ (.fr 90) = none) : CallD w h₀ A (.ref 60) [.bytes b, .int n] σ (.int (n + net full)) σ := by
  have F := fn60 B
  exact CallD.def' (out := .ret _) (kf := .fr 90) cap F.obj F.data F.body B.lim F.code (F.noCell (by kernel_rfl)) (by rw [F.scope]; kernel_rfl) (by rw [F.scope]; kernel_rfl) (by rw [F.scope]; kernel_rfl) (takes60 B) rfl hf hf fun L => body60 B cap.deeper.handled hb hseg L
theorem spec60' {b : Array UInt8} {full : List Nat} (B : Base w h₀) (cap : Cap A 1) (hb : b.size ≤ 1000000) (hseg : Segs (b.toList.map (·.toNat)) full) (hf : σ (.fr 90) = none) : CallD w h₀ A (.ref 60) [.bytes b] σ (.int (0 + net full)) σ := by
  have F := fn60 B
  exact CallD.def' (out := .ret _) (kf := .fr 90) cap F.obj F.data F.body B.lim F.code (F.noCell (by kernel_rfl)) (by rw [F.scope]; kernel_rfl) (by rw [F.scope]; kernel_rfl) (by rw [F.scope]; kernel_rfl) (takes60' B) rfl hf hf fun L => body60 B cap.deeper.handled hb hseg L
end
end Mine
end

/-! # S4 -/
section
set_option maxRecDepth 100000
namespace Mine
section
variable {w : World} {h₀ : Heap} {A : Around} {env : Env} {c : Key} {ck : List (Str × Key)} {σ σ' : H} {d d₁ d₂ d₃ : D}

/-! ## _law_label -/
theorem fn93 (B : Base w h₀) : FnOk w h₀ 93 14 := .of B (by kernel_rfl) (by kernel_rfl) (by kernel_rfl) (by kernel_rfl) (by kernel_rfl) (by kernel_rfl) (by kernel_rfl)
theorem takes93 (B : Base w h₀) : Takes w h₀ (fdOf w 93) [d₁, d₂] (gset (gset g0 "kind" d₂) "k" d₁) := fun x s vs hk hr => by
  obtain ⟨v, u, rfl, hv, hu⟩ := hr.two
  refine ⟨[("k", v), ("kind", u)], kp_binds (B.K.keeps hk) (fun S => by kernel_rfl), FnOk.locals (fn93 B) (by kernel_rfl), fun y d' e => ?_⟩
  unfold gset at e
  split at e
  · rename_i q; cases e; subst q
    exact ⟨v, by kernel_rfl, hv⟩
  · split at e
    · rename_i q; cases e; subst q
      exact ⟨u, by kernel_rfl, hu⟩
    · cases e
noncomputable def labs (k : Int) : List D := let name := byteArr [97 + k]
  [.bytes (([34] : List UInt8).toArray ++ name ++ ([34] : List UInt8).toArray), .bytes (([34, 40] : List UInt8).toArray ++ name ++ ([34] : List UInt8).toArray), .bytes (([34] : List UInt8).toArray ++ name ++ ([92, 34, 41, 34] : List UInt8).toArray)]
theorem byteArr_size (k : Int) : (byteArr [97 + k]).size = 1 := by unfold byteArr; simp
theorem spec93 {k kind : Int} {j : Nat} (B : Base w h₀) (cap : Cap A 1) (hk0 : 0 ≤ k) (hk1 : k < 100) (hj : kind.fmod 3 = j) (hd : (labs k)[j]? = some d) (hf : σ (.fr 90) = none) : CallD w h₀ A (.ref 93) [.int k, .int kind] σ d σ := by
  have F := fn93 B
  refine CallD.def' (out := .ret d) (kf := .fr 90) cap F.obj F.data F.body B.lim F.code (F.noCell (by kernel_rfl)) (by rw [F.scope]; kernel_rfl) (by rw [F.scope]; kernel_rfl) (by rw [F.scope]; kernel_rfl) (takes93 B) rfl hf hf fun L => ?_
  have hs : (callEnv (fdOf w 93) L 93).scope.kind = .function := by rw [show (callEnv (fdOf w 93) L 93).scope = (fdOf w 93).scope from rfl, F.scope]; kernel_rfl
  have k1 : (callEnv (fdOf w 93) L 93).kindOf "k" = some .local := by kernel_rfl
  have k2 : (callEnv (fdOf w 93) L 93).kindOf "kind" = some .local := by kernel_rfl
  have k3 : (callEnv (fdOf w 93) L 93).kindOf "name" = some .local := by kernel_rfl
  have k4 : (callEnv (fdOf w 93) L 93).kindOf "bytes" = some .globalImplicit := by kernel_rfl
  have G1 : Glb h₀ "bytes" (.type "bytes") := .boot B (by kernel_rfl) (by kernel_rfl) (by decide)
  have z := byteArr_size k
  refine ⟨_, Exs.cons (Ex.assign (Ev.callT (Ev.glob G1 hs k4 F.globals F.builtins (by kernel_rfl)) (Evs.cons (Ev.listD (Evs.cons (Ev.bin Ev.intC (Ev.loc hs k1 hset_same (by walk_at "hp") (by kernel_rfl)) Bin.add) Evs.nil rfl) .frozen (by rw [sizeLine_eq]; show 1 ≤ 16777216; decide)) Evs.nil rfl)
      (CallD.bytes (ns := [97 + k]) (.inl rfl) (by intro n hn; rw [List.mem_singleton.mp hn]; omega) (by show 1 ≤ 16777216; decide) cap.deeper.handled) (fun _ => rfl) rfl rfl) (St.loc k3 hs hset_same) rfl)
    (Exs.ret (Ex.ret (Ev.sub (Ev.listD (Evs.cons (Ev.bin (Ev.bin Ev.bytesC (Ev.loc hs k3 hset_same (by walk_at "hp") (by kernel_rfl)) (Bin.addB (by rw [z]; decide))) Ev.bytesC (Bin.addB (by rw [Array.size_append, z]; decide)))
      (Evs.cons (Ev.bin (Ev.bin Ev.bytesC (Ev.loc hs k3 hset_same (by walk_at "hp") (by kernel_rfl)) (Bin.addB (by rw [z]; decide))) Ev.bytesC (Bin.addB (by rw [Array.size_append, z]; decide)))
      (Evs.cons (Ev.bin (Ev.bin Ev.bytesC (Ev.loc hs k3 hset_same (by walk_at "hp") (by kernel_rfl)) (Bin.addB (by rw [z]; decide))) Ev.bytesC (Bin.addB (by rw [Array.size_append, z]; decide))) Evs.nil rfl) rfl) rfl) .frozen (by rw [sizeLine_eq]; show 3 ≤ 16777216; decide))
      (Ev.bin (Ev.loc hs k2 hset_same (by walk_at "hp") (by kernel_rfl)) Ev.intC (Bin.mod (by decide))) (SubD.list (j := j) (.inl rfl) (fun _ _ => rfl) (by rw [sizeLine_eq]; show 3 ≤ 16777216; decide) (.inl ⟨by rw [hj]; omega, hj⟩) hd)))), fun k hk => ?_, ?_⟩
  · rw [hset_set]; exact if_neg hk
  · rw [hset_same]; rfl

/-! ## _max_append -/
theorem fn47 (B : Base w h₀) : FnOk w h₀ 47 4 := .of B (by kernel_rfl) (by kernel_rfl) (by kernel_rfl) (by kernel_rfl) (by kernel_rfl) (by kernel_rfl) (by kernel_rfl)
theorem takes47 (B : Base w h₀) : Takes w h₀ (fdOf w 47) [d₁, d₂, d₃] (gset (gset (gset (gset g0 "extra" (.str "")) "maxlen" d₃) "s" d₂) "L" d₁) := fun x s vs hk hr => by
  obtain ⟨v, u, t, rfl, hv, hu, ht⟩ := hr.three
  refine ⟨[("L", v), ("s", u), ("maxlen", t), ("extra", .str "" 295)], kp_binds (B.K.keeps hk) (fun S => by kernel_rfl), FnOk.locals (fn47 B) (by kernel_rfl), fun y d' e => ?_⟩
  unfold gset at e
  split at e
  · rename_i q; cases e; subst q
    exact ⟨v, by kernel_rfl, hv⟩
  · split at e
    · rename_i q; cases e; subst q
      exact ⟨u, by kernel_rfl, hu⟩
    · split at e
      · rename_i q; cases e; subst q
        exact ⟨t, by kernel_rfl, ht⟩
      · split at e
        · rename_i q; cases e; subst q
          exact ⟨.str "" 295, by kernel_rfl, .str⟩
        · cases e
/-- what _max_append makes of a list of texts -/
noncomputable def maxApp (ys : List Str) (s : Str) (n : Int) : List Str :=
  match ys.getLast? with
  | none => ys ++ [Txt.lstrip s]
  | some l => if (l.length : Int) + s.length ≤ n then ys.dropLast ++ [l ++ ("" ++ s)] else ys ++ [Txt.lstrip s]
theorem spec47 {k : Key} {ys : List Str} {s : Str} {n : Int} (B : Base w h₀) (cap : Cap A 1) (hk : σ k = some (.list (ys.map .str))) (hkf : k.isFr = false) (hl : ys.length ≤ 1000) (hy : ∀ y ∈ ys, y.length ≤ 1000) (hsl : s.length ≤ 1000) (hf : σ (.fr 90) = none) :
    CallD w h₀ A (.ref 47) [.res k, .str s, .int n] σ (.val .none) (σ.set k (.list ((maxApp ys s n).map .str))) := by
  have F := fn47 B
  have hne : k ≠ .fr 90 := by rintro rfl; cases hkf
  refine CallD.def' (out := .next) (kf := .fr 90) cap F.obj F.data F.body B.lim F.code (F.noCell (by kernel_rfl)) (by rw [F.scope]; kernel_rfl) (by rw [F.scope]; kernel_rfl) (by rw [F.scope]; kernel_rfl) (takes47 B) rfl hf ((hset_ne (Ne.symm hne) hf)) fun L => ?_
  have hs : (callEnv (fdOf w 47) L 47).scope.kind = .function := by rw [show (callEnv (fdOf w 47) L 47).scope = (fdOf w 47).scope from rfl, F.scope]; kernel_rfl
  have k1 : (callEnv (fdOf w 47) L 47).kindOf "L" = some .local := by kernel_rfl
  have k2 : (callEnv (fdOf w 47) L 47).kindOf "s" = some .local := by kernel_rfl
  have k3 : (callEnv (fdOf w 47) L 47).kindOf "maxlen" = some .local := by kernel_rfl
  have k4 : (callEnv (fdOf w 47) L 47).kindOf "extra" = some .local := by kernel_rfl
  have k5 : (callEnv (fdOf w 47) L 47).kindOf "isinstance" = some .globalImplicit := by kernel_rfl
  have k6 : (callEnv (fdOf w 47) L 47).kindOf "str" = some .globalImplicit := by kernel_rfl
  have k7 : (callEnv (fdOf w 47) L 47).kindOf "len" = some .globalImplicit := by kernel_rfl
  have G1 : Glb h₀ "isinstance" (.builtin "isinstance") := .boot B (by kernel_rfl) (by kernel_rfl) (by decide)
  have G2 : Glb h₀ "str" (.type "str") := .boot B (by kernel_rfl) (by kernel_rfl) (by decide)
  have G3 : Glb h₀ "len" (.builtin "len") := .boot B (by kernel_rfl) (by kernel_rfl) (by decide)
  let τ : H := σ.set (.fr 90) (.ns (gset (gset (gset (gset g0 "extra" (.str "")) "maxlen" (.int n)) "s" (.str s)) "L" (.res k)))
  have hkτ : τ k = some (.list (ys.map .str)) := hset_ne hne hk
  have lst : Lst τ (.res k) (ys.map .str) := .inr ⟨k, rfl, hkτ⟩
  have fin : ∀ sp : Sp, (∀ q, q ≠ Key.fr 90 → (τ.set k sp) q = (σ.set k sp) q) ∧ ((τ.set k sp) (.fr 90)).isSome := fun sp => by
    refine ⟨fun q hq => ?_, ?_⟩
    · show (if q = k then some sp else if q = Key.fr 90 then _ else σ q) = if q = k then some sp else σ q
      rw [if_neg hq]
    · rw [hset_ne (Ne.symm hne) hset_same]; rfl
  refine ⟨_, Exs.cons (Ex.iff (b := false) (Tst.not (b := true) (Tst.val (fun _ _ => rfl) (Ev.callB (Ev.glob G1 hs k5 F.globals F.builtins (by kernel_rfl)) (Evs.cons (Ev.loc hs k2 hset_same (by walk_at "hp") (by kernel_rfl)) (Evs.cons (Ev.glob G2 hs k6 F.globals F.builtins (by kernel_rfl)) Evs.nil rfl) rfl) CallD.isStr (fun _ => rfl) rfl rfl))) Exs.nil)
    (Exs.cons (σ₁ := τ.set k (.list ((maxApp ys s n).map .str))) ?_ Exs.nil), (fin _).1, (fin _).2⟩
  have sz : (ys.map D.str).length ≤ sizeLine := by rw [List.length_map, sizeLine_eq]; omega
  cases hlast : ys.getLast? with
  | none =>
    have h0 : ys = [] := List.getLast?_eq_none_iff.mp hlast
    have e : (maxApp ys s n).map D.str = ys.map D.str ++ [.str (Txt.lstrip s)] := by unfold maxApp; rw [hlast]; simp
    rw [e]
    exact Ex.iff (b := true) (Tst.as (by rw [h0]; rfl) (Tst.not (Tst.list (fun _ _ => rfl) (Ev.loc hs k1 hset_same (by walk_at "hp") (by kernel_rfl)) lst sz)))
      (Exs.cons (Ex.expr (Ev.meth (Ev.loc hs k1 hset_same (by walk_at "hp") (by kernel_rfl)) (Meth.list lst PySem.F.slot_list_append type_list_append') (Evs.cons (Ev.meth (Ev.loc hs k2 hset_same (by walk_at "hp") (by kernel_rfl)) (Meth.str PySem.F.slot_str_lstrip PySem.F.type_str_lstrip) Evs.nil (CallD.lstrip (by omega)) rfl rfl rfl (fun _ _ e => by cases e) rfl) Evs.nil rfl)
        (CallD.append hkτ sz) rfl rfl rfl (fun _ _ e => by cases e; rfl) rfl) (by intro a; simp) rfl rfl) Exs.nil)
  | some l =>
    obtain ⟨zs, hz⟩ := List.getLast?_eq_some_iff.mp hlast
    have hlen : 0 < ys.length := by rw [hz]; simp
    have hb1 : (Str.ofString "").length + s.length ≤ 16777216 := Nat.le_trans (Nat.add_le_add (show (Str.ofString "").length ≤ 0 by decide) hsl) (by decide)
    have hb3 : (Str.ofString "" ++ s).length ≤ 0 + 1000 := len_le (by decide) hsl
    have hb2 : l.length + (Str.ofString "" ++ s).length ≤ 16777216 := Nat.le_trans (Nat.add_le_add (hy l (List.mem_of_getLast? hlast)) hb3) (by decide)
    have hl1 : l.length ≤ 1000 := hy l (List.mem_of_getLast? hlast)
    have hget : (ys.map D.str)[ys.length - 1]? = some (.str l) := by
      rw [List.getElem?_map, ← List.getLast?_eq_getElem?, hlast]; rfl
    have hneg : (-1 : Int) < 0 ∧ (-1 : Int) + (ys.map D.str).length = ((ys.length - 1 : Nat) : Int) := ⟨by decide, by rw [List.length_map]; omega⟩
    refine Ex.iff (b := false) (Tst.as (by rw [hz]; simp) (Tst.not (Tst.list (fun _ _ => rfl) (Ev.loc hs k1 hset_same (by walk_at "hp") (by kernel_rfl)) lst sz))) (Exs.cons ?_ Exs.nil)
    have tst : ∀ p1 p2 p3 p4 p5 p6 p7 p8 p9 p10 p11 p12 z, Tst w h₀ (A.deeper (callEnv (fdOf w 47) L 47)) (callEnv (fdOf w 47) L 47) (.fr 90) []
        (.Compare (.BinOp (.Call (.Name "len" p1) [.Subscript (.Name "L" p2) (.UnaryOp .USub (.Constant (.int 1) z p3) p4) p5] [] p6) .Add (.Call (.Name "len" p7) [.Name "s" p8] [] p9) p10) [.LtE] [.Name "maxlen" p11] p12) τ (decide ((l.length : Int) + s.length ≤ n)) τ := fun _ _ _ _ _ _ _ _ _ _ _ _ _ =>
      Tst.cmp (Ev.bin (Ev.callB (Ev.glob G3 hs k7 F.globals F.builtins (by kernel_rfl)) (Evs.cons (Ev.sub (Ev.loc hs k1 hset_same (by walk_at "hp") (by kernel_rfl)) (Ev.una Ev.intC Una.neg) (SubD.list (j := ys.length - 1) lst (fun _ _ => rfl) sz (.inr hneg) hget)) Evs.nil rfl) (CallD.lenStr (by omega)) (fun _ => rfl) rfl rfl)
        (Ev.callB (Ev.glob G3 hs k7 F.globals F.builtins (by kernel_rfl)) (Evs.cons (Ev.loc hs k2 hset_same (by walk_at "hp") (by kernel_rfl)) Evs.nil rfl) (CallD.lenStr (by omega)) (fun _ => rfl) rfl rfl) Bin.add) (Ev.loc hs k3 hset_same (by walk_at "hp") (by kernel_rfl)) Cmp.le rfl
    by_cases hle : (l.length : Int) + s.length ≤ n
    · have e : (maxApp ys s n).map D.str = (ys.map D.str).set (ys.length - 1) (.str (l ++ ("" ++ s))) := by
        unfold maxApp; rw [hlast]; dsimp only; rw [if_pos hle]
        rw [hz]
        simp
      rw [e]
      exact Ex.iff (b := true) (Tst.as (decide_eq_true hle) (tst _ _ _ _ _ _ _ _ _ _ _ _ _))
        (Exs.cons (Ex.augSub (Ev.loc hs k1 hset_same (by walk_at "hp") (by kernel_rfl)) (Ev.una Ev.intC Una.neg) (GetD.list (j := ys.length - 1) lst sz (.inr hneg) hget) (Ev.bin (Ev.loc hs k4 hset_same (by walk_at "hp") (by kernel_rfl)) (Ev.loc hs k2 hset_same (by walk_at "hp") (by kernel_rfl)) (Bin.addS hb1)) (Inp.addS hb2) (SetD.list hkτ sz (.inr hneg) (by rw [List.length_map]; omega)) (fun _ _ _ => rfl)) Exs.nil)
    · have e : (maxApp ys s n).map D.str = ys.map D.str ++ [.str (Txt.lstrip s)] := by unfold maxApp; rw [hlast]; dsimp only; rw [if_neg hle]; simp
      rw [e]
      exact Ex.iff (b := false) (Tst.as (decide_eq_false hle) (tst _ _ _ _ _ _ _ _ _ _ _ _ _))
        (Exs.cons (Ex.expr (Ev.meth (Ev.loc hs k1 hset_same (by walk_at "hp") (by kernel_rfl)) (Meth.list lst PySem.F.slot_list_append type_list_append') (Evs.cons (Ev.meth (Ev.loc hs k2 hset_same (by walk_at "hp") (by kernel_rfl)) (Meth.str PySem.F.slot_str_lstrip PySem.F.type_str_lstrip) Evs.nil (CallD.lstrip (by omega)) rfl rfl rfl (fun _ _ e => by cases e) rfl) Evs.nil rfl)
          (CallD.append hkτ sz) rfl rfl rfl (fun _ _ e => by cases e; rfl) rfl) (by intro a; simp) rfl rfl) Exs.nil)
end
end Mine
end

/-! # S5 -/
section
set_option maxRecDepth 100000
namespace Mine
section
variable {w : World} {h₀ : Heap} {A : Around} {env : Env} {c : Key} {ck : List (Str × Key)} {σ σ' : H} {d d₁ d₂ d₃ : D}

/-! ## slices -/
theorem dpick_run {α : Type} (xs : List α) (a : Nat) : ∀ k : Nat, ((List.range k).map (a + ·)).filterMap (xs[·]?) = (xs.drop a).take k
  | 0 => by simp
  | k + 1 => by
    rw [List.range_succ, List.map_append, List.filterMap_append, dpick_run xs a k, List.take_add_one]
    congr 1
    simp only [List.map_cons, List.map_nil, List.getElem?_drop]
    cases h : xs[a + k]? <;> simp [h]
theorem dpick_plain (xs : List D) (lo hi : Option Int) : dpick xs lo hi none = (xs.drop (lo.elim 0 (clipAt xs.length))).take (hi.elim xs.length (clipAt xs.length) - lo.elim 0 (clipAt xs.length)) := by
  unfold dpick
  rw [sliceBounds_plain]
  simp only [sliceRange_one, dpick_run]
theorem dpick_from (xs : List D) (a : Nat) : dpick xs (some a) none none = xs.drop a := by
  rw [dpick_plain]
  simp only [Option.elim, clipAt_nat]
  rcases Nat.le_total a xs.length with h | h
  · rw [Nat.min_eq_left h, List.take_of_length_le (by simp)]
  · rw [Nat.min_eq_right h, List.drop_of_length_le (Nat.le_refl _), List.drop_of_length_le h]; simp
theorem dpick_upto (xs : List D) (b : Nat) : dpick xs none (some b) none = xs.take b := by
  rw [dpick_plain]
  simp only [Option.elim, clipAt_nat, List.drop_zero, Nat.sub_zero]
  rcases Nat.le_total b xs.length with h | h
  · rw [Nat.min_eq_left h]
  · rw [Nat.min_eq_right h, List.take_of_length_le (Nat.le_refl _), List.take_of_length_le h]

/-! ## _law_fence -/
noncomputable def aheadOf (ds : List Int) (stay : Int) (k : Nat) : Nat := ((ds.take k).filter fun d => decide (d + stay ≤ ds.getD k 0)).length
noncomputable def fence (ds : List Int) (stay price : Int) : Nat → List Int × List Int
  | 0 => ([0], [])
  | k + 1 =>
    let p := fence ds stay price k
    let lk := p.1.getD k 0
    let la := p.1.getD (aheadOf ds stay k) 0
    (p.1 ++ [if la + price < lk + 1 then la + price else lk + 1], p.2 ++ [lk - la])
theorem fence_len1 (ds : List Int) (stay price : Int) : ∀ k, (fence ds stay price k).1.length = k + 1
  | 0 => rfl
  | k + 1 => by unfold fence; simp [fence_len1 ds stay price k]
theorem fence_len2 (ds : List Int) (stay price : Int) : ∀ k, (fence ds stay price k).2.length = k
  | 0 => rfl
  | k + 1 => by unfold fence; simp [fence_len2 ds stay price k]
theorem aheadOf_le (ds : List Int) (stay : Int) (k : Nat) : aheadOf ds stay k ≤ k := by
  unfold aheadOf
  exact Nat.le_trans (List.length_filter_le _ _) (by rw [List.length_take]; omega)

theorem fn86 (B : Base w h₀) : FnOk w h₀ 86 13 := .of B (by kernel_rfl) (by kernel_rfl) (by kernel_rfl) (by kernel_rfl) (by kernel_rfl) (by kernel_rfl) (by kernel_rfl)
noncomputable def ck86 : List (Str × Key) := [("days", .fr 91), ("stay", .fr 92), ("k", .fr 93)]
noncomputable def gc86 (d₁ d₂ : D) : Str → Option D := gset (gset g0 "stay" d₂) "days" d₁
/-- the state of the fence's call -/
noncomputable def st86 (σ : H) (ds ps : D) (l t : Option (List Int)) (k : Option D) (g : Str → Option D) : H := fun q =>
  if q = .fr 90 then some (.ns g) else if q = .fr 91 then some (.cell (some ds)) else if q = .fr 92 then some (.cell (some ps)) else if q = .fr 93 then some (.cell k)
  else if q = .f 100 then l.map (fun l => .list (l.map .int)) else if q = .f 101 then t.map (fun t => .list (t.map .int)) else σ q
variable {ds ps : D} {l t : Option (List Int)} {k : Option D} {g : Str → Option D}
theorem st86_g {g' : Str → Option D} : (st86 σ ds ps l t k g).set (.fr 90) (.ns g') = st86 σ ds ps l t k g' := by
  funext q; unfold H.set st86; split <;> rfl
theorem st86_k {k' : Option D} : (st86 σ ds ps l t k g).set (.fr 93) (.cell k') = st86 σ ds ps l t k' g := by
  funext q; unfold H.set st86
  by_cases e : q = .fr 93
  · subst e; rfl
  · rw [if_neg e]; simp only [if_neg e]
theorem st86_l {xs : List D} {l' : List Int} (h : xs = l'.map .int) : (st86 σ ds ps l t k g).set (.f 100) (.list xs) = st86 σ ds ps (some l') t k g := by
  subst h
  funext q; unfold H.set st86
  by_cases e : q = .f 100
  · subst e; rfl
  · rw [if_neg e]; simp only [if_neg e]
theorem st86_t {xs : List D} {t' : List Int} (h : xs = t'.map .int) : (st86 σ ds ps l t k g).set (.f 101) (.list xs) = st86 σ ds ps l (some t') k g := by
  subst h
  funext q; unfold H.set st86
  by_cases e : q = .f 101
  · subst e; rfl
  · rw [if_neg e]; simp only [if_neg e]
theorem st86_le {g' : Str → Option D} (h : ∀ y d, g' y = some d → g y = some d) : H.Le (st86 σ ds ps l t k g) (st86 σ ds ps l t k g') := by
  have := H.Le.set (k := .fr 90) (a := .ns g) (b := .ns g') (H.Le.refl (st86 σ ds ps l t k g)) h
  rwa [st86_g, st86_g] at this
theorem hbind86 (B : Base w h₀) {p : D} : ∀ vs : List Value, vs.length = [ds, ps, p].length → ∃ binds, bindArgs (fdOf w 86) ⟨vs, []⟩ = pure binds ∧
      (∀ L, ∀ y ∈ binds, (fdOf w 86).scope.names.lookup y.1 = some .local ∨ ((fdOf w 86).scope.names.lookup y.1 = some .cell ∧ ((cellsFrom (L + 1) (fdOf w 86).scope.names []).lookup y.1).isSome = true)) ∧
      ∀ L x, Reps w x vs [ds, ps, p] → (∀ y d, gset g0 "price" p y = some d → ∃ v, bindL (callEnvC (fdOf w 86) L 86).kindOf binds (fun _ => none) y = some v ∧ Rep w x v d) ∧
        (∀ y k, ck86.lookup y = some k → match gc86 ds ps y with
          | some d => ∃ v, bindC (callEnvC (fdOf w 86) L 86).kindOf binds (fun _ => none) y = some v ∧ Rep w x v d
          | none => bindC (callEnvC (fdOf w 86) L 86).kindOf binds (fun _ => none) y = none) := fun vs hv => by
  obtain ⟨v, vs, rfl⟩ : ∃ v r, vs = v :: r := by cases vs with | nil => cases hv | cons v r => exact ⟨v, r, rfl⟩
  obtain ⟨u, vs, rfl⟩ : ∃ v r, vs = v :: r := by cases vs with | nil => cases hv | cons v r => exact ⟨v, r, rfl⟩
  obtain ⟨t, vs, rfl⟩ : ∃ v r, vs = v :: r := by cases vs with | nil => cases hv | cons v r => exact ⟨v, r, rfl⟩
  obtain rfl : vs = [] := by cases vs with | nil => rfl | cons v r => cases hv
  refine ⟨[("days", v), ("stay", u), ("price", t)], by kernel_rfl, fun L y hy => ?_, fun L x hr => ?_⟩
  · simp only [List.mem_cons, List.not_mem_nil, or_false] at hy
    rcases hy with rfl | rfl | rfl
    · exact .inr ⟨by kernel_rfl, by kernel_rfl⟩
    · exact .inr ⟨by kernel_rfl, by kernel_rfl⟩
    · exact .inl (by kernel_rfl)
  · obtain ⟨_, _, _, e, h1, h2, h3⟩ := hr.three
    cases e
    refine ⟨fun y d' e => ?_, fun y k e => ?_⟩
    · unfold gset at e
      split at e
      · rename_i q; cases e; subst q
        exact ⟨t, by kernel_rfl, h3⟩
      · cases e
    · unfold ck86 at e
      have hm := mem_of_lookup e
      simp only [List.mem_cons, List.not_mem_nil, or_false, Prod.mk.injEq] at hm
      rcases hm with ⟨rfl, rfl⟩ | ⟨rfl, rfl⟩ | ⟨rfl, rfl⟩
      · rw [show gc86 ds ps "days" = some ds from gs_same]
        exact ⟨v, by kernel_rfl, h1⟩
      · rw [show gc86 ds ps "stay" = some ps by walk_at "hp"]
        exact ⟨u, by kernel_rfl, h2⟩
      · rw [show gc86 ds ps "k" = none by walk_at "hp"]
        dsimp only
        kernel_rfl

theorem getD_some {xs : List Int} {i : Nat} (h : i < xs.length) : (xs.map D.int)[i]? = some (.int (xs.getD i 0)) := by
  rw [List.getElem?_map, List.getElem?_eq_getElem h, List.getD_eq_getElem?_getD, List.getElem?_eq_getElem h]; rfl
theorem CompOk.of {scope : Scope} {ck ck' : List (Str × Key)} (h1 : scope.names.all (fun y => !(y.2 == .free) || (env.cells.lookup y.1).isSome) = true) (h2 : scope.names.all (fun y => y.2 != .cell) = true) (h3 : scope.kind = .function)
    (h4 : scope.names.all (fun y => !(y.2 == .local) || (scope.names.lookup y.1 == some .local)) = true) (h5 : ck'.all (fun p => (ck.lookup p.1 == some p.2) && (scope.names.lookup p.1 == some .free)) = true) : CompOk scope env ck ck' where
  clos := fun y hy e => by
    have := List.all_eq_true.mp h1 y hy
    rw [e] at this; simpa using this
  noCell := fun y hy e => by
    have := List.all_eq_true.mp h2 y hy
    rw [e] at this; simp at this
  kind := h3
  names := fun y hy e => by
    have := List.all_eq_true.mp h4 y hy
    rw [e] at this; simpa using this
  keys := fun y k e => by
    have := List.all_eq_true.mp h5 (y, k) (mem_of_lookup e)
    simp only [Bool.and_eq_true, beq_iff_eq] at this
    exact ⟨this.1, mem_of_lookup this.2⟩
theorem Exs.step {st : Stmt} {rest : List Stmt} {o : Out} {σ₁ σ₂ : H} (h : Ex w h₀ A env c ck st σ .next σ₁) (e : σ₁ = σ₂) (hr : Exs w h₀ A env c ck rest σ₂ o σ') : Exs w h₀ A env c ck (st :: rest) σ o σ' := Exs.cons h (e ▸ hr)
noncomputable def bodyFor86 : List Stmt := match bodyAt 13 with
  | _ :: _ :: .For _ _ b _ _ :: _ => b
  | _ => []
noncomputable def compOf86 : Expr := match bodyFor86 with
  | .Assign _ (.Call _ [e] _ _) _ :: _ => e
  | _ => default
noncomputable def compSc86 : Scope := match compOf86 with
  | .ListComp _ _ s _ => s
  | _ => default
noncomputable def compIfs86 : List Expr := match compOf86 with
  | .ListComp _ [⟨_, _, i, _⟩] _ _ => i
  | _ => []
noncomputable def compFor86 (pos : Pos) : Expr := match compOf86 with
  | .ListComp e g s _ => .ListComp e g s pos
  | _ => default
theorem flat_pick (p : Int → Prop) [DecidablePred p] (xs : List Int) : ((List.range xs.length).flatMap fun j => if p (xs.getD j 0) then [D.int (xs.getD j 0)] else []) = (xs.filter fun x => decide (p x)).map D.int := by
  induction xs with
  | nil => rfl
  | cons x r ih =>
    rw [List.length_cons, List.range_succ_eq_map, List.flatMap_cons, List.flatMap_map]
    simp only [List.getD_cons_zero, List.getD_cons_succ]
    rw [ih]
    by_cases h : p x
    · rw [if_pos h, List.filter_cons_of_pos (by simpa using h)]; rfl
    · rw [if_neg h, List.filter_cons_of_neg (by simpa using h)]; rfl
theorem spec86 {ns : List Int} {stay price : Int} (B : Base w h₀) (cap : Cap A 2) (hn : ns.length ≤ 1000)
    (hf : ∀ q, q = Key.fr 90 ∨ q = Key.fr 91 ∨ q = Key.fr 92 ∨ q = Key.fr 93 ∨ q = Key.fr 94 ∨ q = Key.f 100 ∨ q = Key.f 101 → σ q = none) :
    CallD w h₀ A (.ref 86) [.list (ns.map .int), .int stay, .int price] σ (.tup [.res (.f 100), .res (.f 101)])
      ((σ.set (.f 100) (.list ((fence ns stay price ns.length).1.map .int))).set (.f 101) (.list ((fence ns stay price ns.length).2.map .int))) := by
  have F := fn86 B
  have f90 := hf (.fr 90) (by simp)
  have f91 := hf (.fr 91) (by simp)
  have f92 := hf (.fr 92) (by simp)
  have f93 := hf (.fr 93) (by simp)
  have f94 := hf (.fr 94) (by simp)
  have f100 := hf (.f 100) (by simp)
  have f101 := hf (.f 101) (by simp)
  refine CallD.defC (out := .ret (.tup [.res (.f 100), .res (.f 101)])) (kf := .fr 90) (ck := ck86) (g := gset g0 "price" (.int price)) (gc := gc86 (.list (ns.map .int)) (.int stay)) cap F.obj F.data F.body B.lim F.code (by kernel_rfl)
    (by rw [F.scope]; kernel_rfl) (by rw [F.scope]; kernel_rfl) (by rw [F.scope]; kernel_rfl) (hbind86 B) (fun L p hp => ?_) (by decide) (by decide) (fun k hk => ?_) fun L => ?_
  · unfold ck86 at hp
    simp only [List.mem_cons, List.not_mem_nil, or_false] at hp
    rcases hp with rfl | rfl | rfl <;> kernel_rfl
  · simp only [ck86, List.map, List.mem_cons, List.not_mem_nil, or_false] at hk
    rcases hk with rfl | rfl | rfl | rfl
    · exact ⟨rfl, f90, hset_ne (by decide) (hset_ne (by decide) f90)⟩
    · exact ⟨rfl, f91, hset_ne (by decide) (hset_ne (by decide) f91)⟩
    · exact ⟨rfl, f92, hset_ne (by decide) (hset_ne (by decide) f92)⟩
    · exact ⟨rfl, f93, hset_ne (by decide) (hset_ne (by decide) f93)⟩
  have hs : (callEnvC (fdOf w 86) L 86).scope.kind = .function := by rw [show (callEnvC (fdOf w 86) L 86).scope = (fdOf w 86).scope from rfl, F.scope]; kernel_rfl
  have kLeast : (callEnvC (fdOf w 86) L 86).kindOf "least" = some .local := by kernel_rfl
  have kTaken : (callEnvC (fdOf w 86) L 86).kindOf "taken" = some .local := by kernel_rfl
  have kAhead : (callEnvC (fdOf w 86) L 86).kindOf "ahead" = some .local := by kernel_rfl
  have kPrice : (callEnvC (fdOf w 86) L 86).kindOf "price" = some .local := by kernel_rfl
  have kDays : (callEnvC (fdOf w 86) L 86).kindOf "days" = some .cell := by kernel_rfl
  have kK : (callEnvC (fdOf w 86) L 86).kindOf "k" = some .cell := by kernel_rfl
  have kLen : (callEnvC (fdOf w 86) L 86).kindOf "len" = some .globalImplicit := by kernel_rfl
  have kRange : (callEnvC (fdOf w 86) L 86).kindOf "range" = some .globalImplicit := by kernel_rfl
  have kMin : (callEnvC (fdOf w 86) L 86).kindOf "min" = some .globalImplicit := by kernel_rfl
  have GLen : Glb h₀ "len" (.builtin "len") := .boot B (by kernel_rfl) (by kernel_rfl) (by decide)
  have GRange : Glb h₀ "range" (.type "range") := .boot B (by kernel_rfl) (by kernel_rfl) (by decide)
  have GMin : Glb h₀ "min" (.builtin "min") := .boot B (by kernel_rfl) (by kernel_rfl) (by decide)
  have e0 : gives σ ((.fr 90, L, .ns (gset g0 "price" (.int price))) :: ck86.map fun p => (p.2, ((cellsFrom (L + 1) (fdOf w 86).scope.names []).lookup p.1).getD 0, .cell (gc86 (.list (ns.map .int)) (.int stay) p.1))) =
      st86 σ (.list (ns.map .int)) (.int stay) none none none (gset g0 "price" (.int price)) := by
    simp only [ck86, List.map, gives]
    funext q
    unfold H.set st86
    rw [show gc86 (.list (ns.map .int)) (.int stay) "days" = some (.list (ns.map .int)) from gs_same, show gc86 (.list (ns.map .int)) (.int stay) "stay" = some (.int stay) by walk_at "hp", show gc86 (.list (ns.map .int)) (.int stay) "k" = none by walk_at "hp"]
    by_cases q0 : q = .fr 90
    · subst q0; rfl
    by_cases q1 : q = .fr 91
    · subst q1; rfl
    by_cases q2 : q = .fr 92
    · subst q2; rfl
    by_cases q3 : q = .fr 93
    · subst q3; rfl
    by_cases q4 : q = .f 100
    · subst q4; simpa using f100
    by_cases q5 : q = .f 101
    · subst q5; simpa using f101
    simp only [if_neg q0, if_neg q1, if_neg q2, if_neg q3, if_neg q4, if_neg q5]
  rw [e0]
  let G : Str → Option D := gset (gset (gset g0 "price" (.int price)) "least" (.res (.f 100))) "taken" (.res (.f 101))
  let σs : Nat → H := fun i => st86 σ (.list (ns.map .int)) (.int stay) (some (fence ns stay price i).1) (some (fence ns stay price i).2) (if i = 0 then none else some (.int ((i - 1 : Nat) : Int))) G
  have st0 : ∀ {l t : Option (List Int)} {k : Option D} {g : Str → Option D}, (st86 σ (.list (ns.map .int)) (.int stay) l t k g) (.fr 90) = some (.ns g) := rfl
  have hn' : (ns.map D.int).length ≤ sizeLine := by rw [List.length_map, sizeLine_eq]; omega
  have lk : ∀ i, (fence ns stay price i).1.length = i + 1 := fence_len1 ns stay price
  have lt : ∀ i, (fence ns stay price i).2.length = i := fence_len2 ns stay price
  have turn : ∀ i, i < ns.length → Exs w h₀ (A.deeper (callEnvC (fdOf w 86) L 86)) (callEnvC (fdOf w 86) L 86) (.fr 90) ck86 (bodyFor86) (st86 σ (.list (ns.map .int)) (.int stay) (some (fence ns stay price i).1) (some (fence ns stay price i).2) (some (.int (i : Int))) G) .next (σs (i + 1)) := fun i hi => by
    let τ : H := st86 σ (.list (ns.map .int)) (.int stay) (some (fence ns stay price i).1) (some (fence ns stay price i).2) (some (.int (i : Int))) G
    have hi' : (ns.map D.int)[i]? = some (.int (ns.getD i 0)) := getD_some hi
    let add : Nat → List D := fun j => if (ns.take i).getD j 0 + stay ≤ ns.getD i 0 then [D.int ((ns.take i).getD j 0)] else []
    have hadd : ((List.range ((ns.take i).map D.int).length).flatMap add).length = aheadOf ns stay i := by
      rw [List.length_map]; show List.length (List.flatMap _ _) = _; rw [flat_pick (fun x => x + stay ≤ ns.getD i 0)]; rw [List.length_map]; rfl
    have hal := aheadOf_le ns stay i
    have hcomp : ∀ pos, Ev w h₀ (A.deeper (callEnvC (fdOf w 86) L 86)) (callEnvC (fdOf w 86) L 86) (.fr 90) ck86 (compFor86 pos) τ (.list ((List.range ((ns.take i).map D.int).length).flatMap add)) τ := fun pos => by
      refine Ev.comp (kf := .fr 94) (ck' := ck86) (ds := (ns.take i).map .int) (fun _ => τ) add rfl (fun _ _ => f94) (fun _ _ => ?_) (.of (by kernel_rfl) (by kernel_rfl) (by kernel_rfl) (by kernel_rfl) (by kernel_rfl))
        (Itr.list (Ev.slice (Ev.cell hs kDays (k := .fr 91) (by kernel_rfl) rfl (by kernel_rfl)) Prt.no (Prt.yes (Ev.cell hs kK (k := .fr 93) (by kernel_rfl) rfl (by kernel_rfl))) (.inl rfl) hn' .frozen (fun _ _ => rfl)) (.inl (by rw [dpick_upto, List.map_take])) cap.deeper.handled ?_) (fun C j d' hd => ?_) .frozen ?_ (fun _ _ => rfl) (fun _ => rfl)
      · exact .inl (by rw [dpick_upto, List.map_take])
      · rw [List.length_map, List.length_take, sizeLine_eq]; omega
      · rw [List.getElem?_map, Option.map_eq_some_iff] at hd
        obtain ⟨n, hn, rfl⟩ := hd
        have hn2 : (ns.take i).getD j 0 = n := by rw [List.getD_eq_getElem?_getD, hn]; rfl
        let σd : H := (τ.set (.fr 94) (.ns g0)).set (.fr 94) (.ns (gset g0 "day" (.int n)))
        have hl : H.Le σd (τ.set (.fr 94) (.ns g0)) := by
          show H.Le ((τ.set (.fr 94) (.ns g0)).set (.fr 94) (.ns (gset g0 "day" (.int n)))) _
          rw [hset_set]
          exact H.Le.set (.refl _) (by walk_at "gle")
        have kd : (cenvOf compSc86 (callEnvC (fdOf w 86) L 86) C).kindOf "day" = some .local := by kernel_rfl
        have kst : (cenvOf compSc86 (callEnvC (fdOf w 86) L 86) C).kindOf "stay" = some .cell := by kernel_rfl
        have kda : (cenvOf compSc86 (callEnvC (fdOf w 86) L 86) C).kindOf "days" = some .cell := by kernel_rfl
        have kkk : (cenvOf compSc86 (callEnvC (fdOf w 86) L 86) C).kindOf "k" = some .cell := by kernel_rfl
        have hsk : (cenvOf compSc86 (callEnvC (fdOf w 86) L 86) C).scope.kind = .function := by kernel_rfl
        refine ⟨σd, Tgt.name (St.loc kd hsk hset_same), ?_⟩
        have tst : Tsts w h₀ (A.deeper (callEnvC (fdOf w 86) L 86)) (cenvOf compSc86 (callEnvC (fdOf w 86) L 86) C) (.fr 94) ck86 compIfs86 σd (decide (n + stay ≤ ns.getD i 0)) σd :=
          Tsts.one (Tst.cmp (Ev.bin (Ev.loc hsk kd hset_same gs_same (by kernel_rfl)) (Ev.cell hsk kst (k := .fr 92) (by kernel_rfl) rfl (by kernel_rfl)) Bin.add)
            (Ev.sub (Ev.cell hsk kda (k := .fr 91) (by kernel_rfl) rfl (by kernel_rfl)) (Ev.cell hsk kkk (k := .fr 93) (by kernel_rfl) rfl (by kernel_rfl)) (SubD.list (j := i) (.inl rfl) (fun _ _ => rfl) hn' (.inl ⟨by omega, rfl⟩) hi')) Cmp.le rfl)
        by_cases hc : n + stay ≤ ns.getD i 0
        · rw [decide_eq_true hc] at tst
          refine .inl ⟨σd, .int n, σd, tst, Ev.loc hsk kd hset_same gs_same (by kernel_rfl), hl, ?_⟩
          show (if _ then _ else _) = _
          rw [hn2, if_pos hc]
        · rw [decide_eq_false hc] at tst
          refine .inr ⟨σd, tst, hl, ?_⟩
          show (if _ then _ else _) = _
          rw [hn2, if_neg hc]
      · rw [List.length_map, List.length_take, sizeLine_eq]; omega
    refine Exs.step (σ₂ := st86 σ (.list (ns.map .int)) (.int stay) (some (fence ns stay price i).1) (some (fence ns stay price i).2) (some (.int (i : Int))) (gset G "ahead" (.int (aheadOf ns stay i : Nat))))
      (Ex.assign (Ev.callB (Ev.glob GLen hs kLen F.globals F.builtins (by kernel_rfl)) (Evs.cons (hcomp _) Evs.nil rfl) (CallD.lenList (.inl rfl) (by rw [hadd, sizeLine_eq]; omega)) (fun _ => rfl) rfl rfl) (St.loc kAhead hs rfl) rfl) (by rw [hadd]; exact st86_g) ?_
    let σa : H := st86 σ (.list (ns.map .int)) (.int stay) (some (fence ns stay price i).1) (some (fence ns stay price i).2) (some (.int (i : Int))) (gset G "ahead" (.int (aheadOf ns stay i : Nat)))
    have gi : (((fence ns stay price i).1).map D.int)[i]? = some (.int ((fence ns stay price i).1.getD i 0)) := getD_some (by rw [lk]; omega)
    have ga : (((fence ns stay price i).1).map D.int)[aheadOf ns stay i]? = some (.int ((fence ns stay price i).1.getD (aheadOf ns stay i) 0)) := getD_some (by rw [lk]; omega)
    have s1 : (((fence ns stay price i).1).map D.int).length ≤ sizeLine := by rw [List.length_map, lk, sizeLine_eq]; omega
    have s2 : (((fence ns stay price i).2).map D.int).length ≤ sizeLine := by rw [List.length_map, lt, sizeLine_eq]; omega
    refine Exs.step (σ₂ := st86 σ (.list (ns.map .int)) (.int stay) (some (fence ns stay price i).1) (some (fence ns stay price (i + 1)).2) (some (.int (i : Int))) (gset G "ahead" (.int (aheadOf ns stay i : Nat))))
      (Ex.expr (Ev.meth (Ev.loc hs kTaken rfl (by walk_at "hp") (by kernel_rfl)) (Meth.list (.inr ⟨.f 101, rfl, rfl⟩) PySem.F.slot_list_append type_list_append')
        (Evs.cons (Ev.bin (Ev.sub (Ev.loc hs kLeast rfl (by walk_at "hp") (by kernel_rfl)) (Ev.cell hs kK (k := .fr 93) (by kernel_rfl) rfl (by kernel_rfl)) (SubD.list (j := i) (.inr ⟨.f 100, rfl, rfl⟩) (fun _ _ => rfl) s1 (.inl ⟨by omega, rfl⟩) gi))
          (Ev.sub (Ev.loc hs kLeast rfl (by walk_at "hp") (by kernel_rfl)) (Ev.loc hs kAhead rfl (by walk_at "hp") (by kernel_rfl)) (SubD.list (j := aheadOf ns stay i) (.inr ⟨.f 100, rfl, rfl⟩) (fun _ _ => rfl) s1 (.inl ⟨by omega, rfl⟩) ga)) Bin.sub) Evs.nil rfl)
        (CallD.append (k := .f 101) rfl s2) rfl rfl rfl (fun _ _ e => by cases e; rfl) rfl) (by intro a; simp) rfl rfl) (st86_t (by simp [fence])) ?_
    refine Exs.step (σ₂ := st86 σ (.list (ns.map .int)) (.int stay) (some (fence ns stay price (i + 1)).1) (some (fence ns stay price (i + 1)).2) (some (.int (i : Int))) (gset G "ahead" (.int (aheadOf ns stay i : Nat))))
      (Ex.expr (Ev.meth (Ev.loc hs kLeast rfl (by walk_at "hp") (by kernel_rfl)) (Meth.list (.inr ⟨.f 100, rfl, rfl⟩) PySem.F.slot_list_append type_list_append')
        (Evs.cons (Ev.callB (Ev.glob GMin hs kMin F.globals F.builtins (by kernel_rfl)) (Evs.cons (Ev.bin (Ev.sub (Ev.loc hs kLeast rfl (by walk_at "hp") (by kernel_rfl)) (Ev.cell hs kK (k := .fr 93) (by kernel_rfl) rfl (by kernel_rfl)) (SubD.list (j := i) (.inr ⟨.f 100, rfl, rfl⟩) (fun _ _ => rfl) s1 (.inl ⟨by omega, rfl⟩) gi)) Ev.intC Bin.add)
          (Evs.cons (Ev.bin (Ev.sub (Ev.loc hs kLeast rfl (by walk_at "hp") (by kernel_rfl)) (Ev.loc hs kAhead rfl (by walk_at "hp") (by kernel_rfl)) (SubD.list (j := aheadOf ns stay i) (.inr ⟨.f 100, rfl, rfl⟩) (fun _ _ => rfl) s1 (.inl ⟨by omega, rfl⟩) ga)) (Ev.loc hs kPrice rfl (by walk_at "hp") (by kernel_rfl)) Bin.add) Evs.nil rfl) rfl)
          (CallD.min2 cap.deeper.handled) (fun _ => rfl) rfl rfl) Evs.nil rfl)
        (CallD.append (k := .f 100) rfl s1) rfl rfl rfl (fun _ _ e => by cases e; rfl) rfl) (by intro a; simp) rfl rfl) (st86_l (by simp [fence])) ?_
    refine Exs.le Exs.nil ?_
    show H.Le (st86 _ _ _ _ _ _ _) (st86 _ _ _ _ _ _ _)
    rw [if_neg (Nat.succ_ne_zero i), Nat.add_sub_cancel]
    exact st86_le (by walk_at "gle")
  refine ⟨σs ns.length |>.set (.fr 90) (.ns G), ?_, ?_⟩
  · refine Exs.step (Ex.assign (Ev.listD (Evs.cons Ev.intC Evs.nil rfl) (.key (k := .f 100) rfl rfl) (by rw [sizeLine_eq]; decide)) (St.loc kLeast hs rfl) rfl) (σ₂ := st86 σ (.list (ns.map .int)) (.int stay) (some [0]) none none (gset (gset g0 "price" (.int price)) "least" (.res (.f 100)))) ((congrArg (fun s : H => s.set (.fr 90) _) (st86_l (l' := [0]) rfl)).trans st86_g) ?_
    refine Exs.step (Ex.assign (Ev.listD Evs.nil (.key (k := .f 101) rfl rfl) (by decide)) (St.loc kTaken hs rfl) rfl) (σ₂ := st86 σ (.list (ns.map .int)) (.int stay) (some [0]) (some []) none G) ((congrArg (fun s : H => s.set (.fr 90) _) (st86_t (t' := []) rfl)).trans st86_g) ?_
    refine Exs.step (σ₂ := σs ns.length |>.set (.fr 90) (.ns G)) (Ex.for (ds := rngL ns.length) σs (Itr.range (Ev.callT (Ev.glob GRange hs kRange F.globals F.builtins (by kernel_rfl)) (Evs.cons (Ev.callB (Ev.glob GLen hs kLen F.globals F.builtins (by kernel_rfl)) (Evs.cons (Ev.cell hs kDays (k := .fr 91) (by kernel_rfl) rfl (by kernel_rfl)) Evs.nil rfl) (CallD.lenList (.inl rfl) hn') (fun _ => rfl) rfl rfl) Evs.nil rfl) (by rw [List.length_map]; exact CallD.range) (fun _ => rfl) rfl rfl) cap.deeper.handled (by rw [sizeLine_eq]; omega)) (fun _ _ => trivial) (fun i d' hd => ?_) (fun _ _ => rfl) (fun _ => rfl)) ?_ ?_
    · unfold rngL at hd
      rw [List.getElem?_map, Option.map_eq_some_iff] at hd
      obtain ⟨n, hn, rfl⟩ := hd
      obtain ⟨hlt, rfl⟩ := List.getElem?_eq_some_iff.mp hn
      rw [List.length_range] at hlt
      rw [List.getElem_range]
      exact ⟨_, Tgt.name (St.cell hs kK (k := .fr 93) (by kernel_rfl) rfl), st86_k ▸ turn i hlt⟩
    · show st86 _ _ _ _ _ _ _ = H.set (st86 _ _ _ _ _ _ _) _ _
      rw [st86_g]
      unfold rngL
      rw [List.length_map, List.length_range]
    · exact Exs.ret (Ex.ret (Ev.tupD (Evs.cons (Ev.loc hs kLeast hset_same (by walk_at "hp") (by kernel_rfl)) (Evs.cons (Ev.loc hs kTaken hset_same (by walk_at "hp") (by kernel_rfl)) Evs.nil rfl) rfl) (by rw [sizeLine_eq]; decide)))
  · intro q hq
    simp only [ck86, List.map, List.mem_cons, List.not_mem_nil, or_false, not_or] at hq
    obtain ⟨q0, q1, q2, q3⟩ := hq
    unfold H.set
    simp only [σs, st86, if_neg q0, if_neg q1, if_neg q2, if_neg q3]
    by_cases q4 : q = .f 100
    · subst q4; rfl
    by_cases q5 : q = .f 101
    · subst q5; rfl
    simp only [if_neg q4, if_neg q5]
end
end Mine
end

/-! # P1 -/
section
set_option maxRecDepth 100000
namespace Mine
/-! ## the law's machine, without the program -/
structure MS where
  st : List (Int × Int)
  fr : List Int
  kept : List Int
  ref : List Int
  lines : List (List Str)
  seen : List Int
  book : List (Int × Int)
  depth : Int
  pn : Int
  tn : Int
  si : Nat
  ri : Nat
noncomputable def lbl (k : Int) : Str := ⟨#[(97 + k).toNat]⟩
noncomputable def gapS (n k : Int) : Str := Txt.mul " " n ++ lbl k
noncomputable def rel (dk : Int) (s : MS) : Nat := (s.st.takeWhile fun p => decide (p.1 ≤ dk)).length
noncomputable def relS (s : MS) (j : Nat) : MS := { s with st := s.st.drop j, fr := s.fr ++ (s.st.take j).map (·.2), pn := s.pn - j, si := s.si + j }
noncomputable def midS (ds : List Int) (k : Nat) (s : MS) : MS :=
  let r := relS s (rel (ds.getD k 0) s)
  { r with depth := r.depth + r.pn, tn := r.tn + r.pn }
noncomputable def inS (ds : List Int) (stay : Int) (k : Nat) (b : MS) (told : Int) : MS :=
  { b with lines := b.lines.set told.toNat (maxApp (b.lines.getD told.toNat []) (gapS (ds.getD k 0 - b.seen.getD told.toNat 0 - 1) k) stay), seen := b.seen.set told.toNat (ds.getD k 0), fr := b.fr.drop 1, ri := b.ri + 1, st := b.st ++ [(ds.getD k 0 + stay, told)], book := addC b.book told 1, kept := b.kept ++ [(k : Int)], pn := 1 }
noncomputable def outS (k : Nat) (b : MS) : MS := { b with ref := b.ref ++ [(k : Int)], pn := 0 }
noncomputable def stepS (ds least : List Int) (stay : Int) (k : Nat) (s : MS) : MS :=
  let b := midS ds k s
  if least.getD (k + 1) 0 = least.getD k 0 then outS k b else inS ds stay k b (b.fr.getD 0 0)
noncomputable def okS (ds least taken : List Int) (stay price : Int) (k : Nat) (s : MS) : Bool :=
  let b := midS ds k s
  decide (b.depth = taken.getD k 0) && (if least.getD (k + 1) 0 = least.getD k 0 then b.fr.isEmpty
    else
      let told := b.fr.getD 0 0
      let row := b.lines.getD told.toNat []
      let n := ds.getD k 0 - b.seen.getD told.toNat 0 - 1
      !b.fr.isEmpty && decide (told = (least.getD k 0).fmod price) && decide (0 ≤ told) && decide (told < price) && decide (-1000 ≤ n) && decide (n ≤ 500) && decide (row.length ≤ 1000) && row.all (fun r => decide (r.length ≤ 1000)) &&
        decide (b.book.length ≤ 1000))
noncomputable def s0 (price : Int) : MS := { st := [], fr := (List.range price.toNat).map (fun (i : Nat) => (i : Int)), kept := [], ref := [], lines := List.replicate price.toNat [], seen := List.replicate price.toNat 0, book := [], depth := 0, pn := 0, tn := 0, si := 0, ri := 0 }
noncomputable def stS (ds least : List Int) (stay price : Int) : Nat → MS
  | 0 => s0 price
  | k + 1 => stepS ds least stay k (stS ds least stay price k)
noncomputable def everyK (xs : List Int) (room price : Int) : List Int := (sliceRange (sliceBounds (some room) none (some price) xs.length).1 (sliceBounds (some room) none (some price) xs.length).2.1 (sliceBounds (some room) none (some price) xs.length).2.2).filterMap (xs[·]?)
/-- the refused ones, from the last -/
noncomputable def rowsS (ds : List Int) (stay : Int) : List Int → List Str × Int → List Str × Int
  | [], p => p
  | k :: r, p => rowsS ds stay r (maxApp p.1 (gapS (p.2 - ds.getD k.toNat 0 - 1) k) stay, ds.getD k.toNat 0)
noncomputable def rowsOk (ds : List Int) (stay : Int) : List Int → List Str × Int → Bool
  | [], p => decide (p.1.length ≤ 1000) && p.1.all (fun r => decide (r.length ≤ 1000) && decide (0 < r.length))
  | k :: r, p => decide (p.1.length ≤ 1000) && p.1.all (fun r => decide (r.length ≤ 1000)) && decide (-1000 ≤ p.2 - ds.getD k.toNat 0 - 1) && decide (p.2 - ds.getD k.toNat 0 - 1 ≤ 500) && decide (0 ≤ k) && decide (k < ds.length) &&
      rowsOk ds stay r (maxApp p.1 (gapS (p.2 - ds.getD k.toNat 0 - 1) k) stay, ds.getD k.toNat 0)
noncomputable def endsS (rows : List Str) : List Int := rows.map fun r => (r.cps.getD 0 0 : Int) - 97
noncomputable def overS (ds ends : List Int) (stay : Int) (k : Nat) : List Int := ends.filter fun e => decide (ds.getD e.toNat 0 - stay < ds.getD k 0) && decide (ds.getD k 0 ≤ ds.getD e.toNat 0)
noncomputable def fenS (ds ends kept : List Int) (stay : Int) : Nat → List (Int × Int) × Int
  | 0 => ([], 0)
  | k + 1 =>
    let p := fenS ds ends kept stay k
    match overS ds ends stay k with
    | [] => (p.1, p.2 + 1)
    | e :: _ => if kept.any (· == (k : Int)) then (addC p.1 e 1, p.2) else p
noncomputable def fenOk (ds ends kept ref : List Int) (stay : Int) (k : Nat) : Bool :=
  decide ((overS ds ends stay k).length ≤ 1) && !((overS ds ends stay k).isEmpty && ref.any (· == (k : Int))) && decide ((fenS ds ends kept stay k).1.length ≤ 1000)
noncomputable def postOk (ds least : List Int) (stay price : Int) (n : Nat) (s : MS) : Bool :=
  let R := rowsS ds stay s.ref.reverse ([], ds.getD (n - 1) 0 + 1)
  let ends := endsS R.1
  let F := fenS ds ends s.kept stay n
  decide (s.tn + s.pn - s.st.length = 0) &&
  decide (s.lines = (List.range price.toNat).map fun (r : Nat) => (everyK s.kept (r : Int) price).map lbl) &&
  ((List.range price.toNat).all fun (r : Nat) => decide ((everyK s.kept (r : Int) price).length ≤ 100) && (everyK s.kept (r : Int) price).all fun k => decide (0 ≤ k) && decide (k < 20)) &&
  (decide (s.book.length = (dputs (fun i => i) (fun i => ((everyK s.kept i price).length : Int)) price.toNat).length) && s.book.all fun p => dget (dputs (fun i => i) (fun i => ((everyK s.kept i price).length : Int)) price.toNat) p.1 == some p.2) &&
  rowsOk ds stay s.ref.reverse ([], ds.getD (n - 1) 0 + 1) &&
  decide (Txt.replace (Txt.join "" R.1) " " "" = Txt.join "" (s.ref.reverse.map lbl)) &&
  ends.all (fun e => decide (0 ≤ e) && decide (e < n)) &&
  (List.range n).all (fun k => fenOk ds ends s.kept s.ref stay k) &&
  (decide (F.1.length = (dputs (fun i => ends.getD i 0) (fun _ => price) ends.length).length) && F.1.all fun p => dget (dputs (fun i => ends.getD i 0) (fun _ => price) ends.length) p.1 == some p.2) &&
  decide (psum s.book s.book.length = least.getD n 0) && decide (psum F.1 F.1.length + F.2 = least.getD n 0)
noncomputable def daysOf : Int → List Int → List Int
  | _, [] => []
  | a, t :: r => (a + 1 + t) :: daysOf (a + 1 + t) r
noncomputable def runOk (ds least taken : List Int) (stay price : Int) : Nat → Nat → MS → Bool
  | 0, n, s => postOk ds least stay price n s
  | f + 1, k, s => okS ds least taken stay price k s && runOk ds least taken stay price f (k + 1) (stepS ds least stay k s)
noncomputable def goodD (ds : List Int) (stay price : Int) : Bool :=
  let F := fence ds stay price ds.length
  runOk ds F.1 F.2 stay price ds.length 0 (s0 price)
noncomputable def tails : Nat → List (List Int)
  | 0 => [[]]
  | n + 1 => (tails n).flatMap fun t => [0 :: t, 1 :: t, 2 :: t]
noncomputable def allSteps : List (List Int) := ((List.range 5).flatMap tails).map (· ++ [0, 0, 1, 2])
noncomputable def goodT (t : List Int) (i : Nat) : Bool := goodD (daysOf 0 t) (3 + (i % 4 : Nat)) (1 + (i / 4 : Nat))
end Mine
end

/-! # P2 -/
section
set_option maxRecDepth 100000
namespace Mine
/-! ## bytes cut into tokens -/
theorem Segs.append {a b oa ob : List Nat} (ha : Segs a oa) (hb : Segs b ob) : Segs (a ++ b) (oa ++ ob) := by
  induction ha with
  | @last bs h =>
    cases hb with
    | last h2 => exact .last (fun x hx => by rcases List.mem_append.mp hx with q | q <;> first | exact h x q | exact h2 x q)
    | @more bs2 us r out h2 hu hr =>
      rw [← List.append_assoc, ← List.append_assoc]
      exact .more (fun x hx => by rcases List.mem_append.mp hx with q | q <;> first | exact h x q | exact h2 x q) hu hr
  | @more bs us r out h hu hr ih =>
    have e : bs ++ 34 :: (us ++ 34 :: r) ++ b = bs ++ 34 :: (us ++ 34 :: (r ++ b)) := by simp
    rw [e, List.append_assoc]
    exact .more h hu ih
theorem net_append (a b : List Nat) : net (a ++ b) = net a + net b := by
  unfold net countB toB
  simp only [List.map_append, List.count_append]
  omega
noncomputable def TokNet (b : Array UInt8) (v : Int) : Prop := ∃ full, Segs (b.toList.map (·.toNat)) full ∧ net full = v
theorem TokNet.append {a b : Array UInt8} {u v : Int} (ha : TokNet a u) (hb : TokNet b v) : TokNet (a ++ b) (u + v) := by
  obtain ⟨f, h1, h2⟩ := ha
  obtain ⟨g, h3, h4⟩ := hb
  refine ⟨f ++ g, ?_, by rw [net_append, h2, h4]⟩
  rw [Array.toList_append, List.map_append]
  exact h1.append h3
theorem TokNet.nil : TokNet #[] 0 := ⟨[], .last (fun _ h => by cases h), rfl⟩
theorem TokNet.open : TokNet #[40] 1 := ⟨[40], .last (by decide), by decide⟩
theorem TokNet.close : TokNet #[41] (-1) := ⟨[41], .last (by decide), by decide⟩
noncomputable def closeN (j : Nat) : Array UInt8 := (List.replicate j 41).toArray
theorem closeN_succ (j : Nat) : closeN (j + 1) = closeN j ++ #[41] := by
  unfold closeN
  rw [List.replicate_succ']
  exact Array.toList_inj.mp (by simp)
theorem TokNet.closes : ∀ j : Nat, TokNet (closeN j) (-(j : Int))
  | 0 => .nil
  | j + 1 => by
    rw [closeN_succ, show (-((j + 1 : Nat) : Int)) = -(j : Int) + -1 by omega]
    exact (TokNet.closes j).append .close
/-- a label's bytes -/
noncomputable def labA (k kind : Int) : Array UInt8 :=
  let name := byteArr [97 + k]
  if kind.fmod 3 = 0 then ([34] : List UInt8).toArray ++ name ++ ([34] : List UInt8).toArray
  else if kind.fmod 3 = 1 then ([34, 40] : List UInt8).toArray ++ name ++ ([34] : List UInt8).toArray
  else ([34] : List UInt8).toArray ++ name ++ ([92, 34, 41, 34] : List UInt8).toArray
theorem labA_at (k kind : Int) : ∃ j : Nat, kind.fmod 3 = j ∧ (labs k)[j]? = some (.bytes (labA k kind)) := by
  have h0 := Int.fmod_nonneg_of_pos kind (show (0 : Int) < 3 by decide)
  have h1 := Int.fmod_lt_of_pos kind (show (0 : Int) < 3 by decide)
  unfold labA
  by_cases e0 : kind.fmod 3 = 0
  · exact ⟨0, e0, by simp [labs, e0]⟩
  by_cases e1 : kind.fmod 3 = 1
  · exact ⟨1, e1, by simp [labs, e1]⟩
  · exact ⟨2, by omega, by simp [labs, e0, e1]⟩
theorem labA_size (k kind : Int) : (labA k kind).size ≤ 10 := by
  unfold labA
  dsimp only
  have := byteArr_size k
  split
  · simp [this]
  · split <;> simp [this]
theorem labA_net {k kind : Int} (h0 : 0 ≤ k) (h1 : k < 20) : TokNet (labA k kind) 0 := by
  obtain ⟨n, rfl⟩ : ∃ n : Nat, k = n := ⟨k.toNat, by omega⟩
  have key : ∀ n : Nat, n < 20 → ∃ b : UInt8, byteArr [97 + (n : Int)] = #[b] ∧ (b.toNat == 34) = false ∧ (b.toNat == 92) = false := by
    intro n hn
    refine ⟨(97 + (n : Int)).toNat.toUInt8, rfl, ?_⟩
    have : ∀ n : Nat, n < 20 → (((97 + (n : Int)).toNat.toUInt8).toNat == 34) = false ∧ (((97 + (n : Int)).toNat.toUInt8).toNat == 92) = false := by decide
    exact this n hn
  obtain ⟨b, e, q1, q2⟩ := key n (by omega)
  unfold labA
  rw [e]
  dsimp only
  have nq : ∀ x ∈ ([] : List Nat), (x == 34) = false := fun _ h => by cases h
  split
  · exact ⟨[], Segs.more (bs := []) (us := [b.toNat]) (r := []) nq (.plain q1 q2 .nil) (.last nq), rfl⟩
  · split
    · exact ⟨[], Segs.more (bs := []) (us := [40, b.toNat]) (r := []) nq (.plain rfl rfl (.plain q1 q2 .nil)) (.last nq), rfl⟩
    · exact ⟨[], Segs.more (bs := []) (us := [b.toNat, 92, 34, 41]) (r := []) nq (.plain q1 q2 (.esc rfl (.plain rfl rfl .nil))) (.last nq), rfl⟩
/-- from a run that is good to each of its steps -/
theorem runOk_all {ds least taken : List Int} {stay price : Int} : ∀ (f k : Nat), runOk ds least taken stay price f k (stS ds least stay price k) = true →
    (∀ j, k ≤ j → j < k + f → okS ds least taken stay price j (stS ds least stay price j) = true) ∧ postOk ds least stay price (k + f) (stS ds least stay price (k + f)) = true
  | 0, k, h => ⟨fun j h1 h2 => absurd h2 (by omega), h⟩
  | f + 1, k, h => by
    unfold runOk at h
    rw [Bool.and_eq_true] at h
    obtain ⟨h1, h2⟩ := runOk_all f (k + 1) h.2
    refine ⟨fun j a b => ?_, by rw [show k + (f + 1) = k + 1 + f by omega]; exact h2⟩
    by_cases e : j = k
    · subst e; exact h.1
    · exact h1 j (by omega) (by omega)
end Mine
end

/-! # L1 -/
section
set_option maxRecDepth 100000
namespace Mine
/-! ## the law's frame -/
noncomputable def lawEnv (L fa cd : Addr) : Env := envOfC "law" (scopeAt 15) L fa (.ref cd)
noncomputable def lck : List (Str × Key) := [("stay", .fr 1), ("price", .fr 2), ("days", .fr 3), ("kept", .fr 4), ("k", .fr 5)]
structure LS where
  g : Str → Option D
  cl : Nat → Option D
  f : Nat → Option Sp
  s : Nat → Option Sp
  r : Nat → Option Sp
noncomputable def upd {α : Type} (f : Nat → α) (i : Nat) (a : α) : Nat → α := fun j => if j = i then a else f j
noncomputable def lawH (x : LS) : H
  | .fr 0 => some (.ns x.g)
  | .fr (i + 1) => if i < 5 then some (.cell (x.cl (i + 1))) else none
  | .f i => x.f i
  | .s i => x.s i
  | .r i => x.r i
  | .n _ => none
section
variable {w : World} {h₀ : Heap} {A : Around} {L fa cd : Addr} {x : LS} {σ σ' : H} {d d₁ d₂ d₃ : D} {pos : Pos}
theorem lawH_g {g : Str → Option D} : (lawH x).set (.fr 0) (.ns g) = lawH { x with g := g } := by
  funext q; unfold H.set
  split
  · rename_i e; subst e; rfl
  · rename_i e
    cases q <;> first | rfl | skip
    rename_i i; cases i
    · exact absurd rfl e
    · rfl
theorem lawH_c {i : Nat} {o : Option D} (h : i < 5) : (lawH x).set (.fr (i + 1)) (.cell o) = lawH { x with cl := upd x.cl (i + 1) o } := by
  funext q; unfold H.set
  split
  · rename_i e; subst e; simp [lawH, h, upd]
  · rename_i e
    cases q <;> first | rfl | skip
    rename_i j; cases j
    · rfl
    · rename_i j
      have : j ≠ i := fun q => e (by rw [q])
      simp [lawH, upd, this]
theorem lawH_f {i : Nat} {sp : Sp} : (lawH x).set (.f i) sp = lawH { x with f := upd x.f i (some sp) } := by
  funext q; unfold H.set
  by_cases e : q = .f i
  · subst e; simp [lawH, upd]
  · rw [if_neg e]
    cases q with
    | f j =>
      have : j ≠ i := fun q => e (by rw [q])
      simp [lawH, upd, this]
    | fr j => cases j <;> rfl
    | _ => rfl
theorem lawH_s {i : Nat} {sp : Sp} : (lawH x).set (.s i) sp = lawH { x with s := upd x.s i (some sp) } := by
  funext q; unfold H.set
  by_cases e : q = .s i
  · subst e; simp [lawH, upd]
  · rw [if_neg e]
    cases q with
    | s j =>
      have : j ≠ i := fun q => e (by rw [q])
      simp [lawH, upd, this]
    | fr j => cases j <;> rfl
    | _ => rfl
theorem lawH_r {i : Nat} {sp : Sp} : (lawH x).set (.r i) sp = lawH { x with r := upd x.r i (some sp) } := by
  funext q; unfold H.set
  by_cases e : q = .r i
  · subst e; simp [lawH, upd]
  · rw [if_neg e]
    cases q with
    | r j =>
      have : j ≠ i := fun q => e (by rw [q])
      simp [lawH, upd, this]
    | fr j => cases j <;> rfl
    | _ => rfl
theorem lawKind : (lawEnv L fa cd).scope.kind = .function := by kernel_rfl
variable {g : Str → Option D} {cl : Nat → Option D} {f s r : Nat → Option Sp}
/-- a local of the law -/
theorem LL {y : Str} (e : g y = some d) (hl : (lawEnv L fa cd).kindOf y = some .local := by kernel_rfl) (hd : (y == ("__debug__" : Str)) = false := by kernel_rfl) :
    Ev w h₀ A (lawEnv L fa cd) (.fr 0) lck (.Name y pos) (lawH ⟨g, cl, f, s, r⟩) d (lawH ⟨g, cl, f, s, r⟩) := Ev.loc lawKind hl rfl e hd
theorem LLd {y : Str} (e : g y = some d) (hl : (lawEnv L fa cd).kindOf y = some .local := by kernel_rfl) :
    ∀ x, Ok w h₀ (lawH ⟨g, cl, f, s, r⟩) x → InEnv (lawEnv L fa cd) (.fr 0) lck x → Runs w h₀ A (lawH ⟨g, cl, f, s, r⟩) x (loadName (lawEnv L fa cd) y) (fun v z => Rep w z v d) := Ld.loc lawKind hl rfl e
/-- a cell of the law -/
theorem LC {y : Str} (i : Nat) (e : cl (i + 1) = some d) (hi : i < 5 := by decide) (hl : (lawEnv L fa cd).kindOf y = some .cell := by kernel_rfl) (hc : lck.lookup y = some (.fr (i + 1)) := by kernel_rfl) (hd : (y == ("__debug__" : Str)) = false := by kernel_rfl) :
    Ev w h₀ A (lawEnv L fa cd) (.fr 0) lck (.Name y pos) (lawH ⟨g, cl, f, s, r⟩) d (lawH ⟨g, cl, f, s, r⟩) := Ev.cell lawKind hl hc (by simp [lawH, hi, e]) hd
theorem LSt {y : Str} (hl : (lawEnv L fa cd).kindOf y = some .local := by kernel_rfl) : St w h₀ A (lawEnv L fa cd) (.fr 0) lck y d (lawH ⟨g, cl, f, s, r⟩) (lawH ⟨gset g y d, cl, f, s, r⟩) := by
  have h := St.loc (w := w) (h₀ := h₀) (A := A) (ck := lck) (d := d) (σ := lawH ⟨g, cl, f, s, r⟩) (c := .fr 0) (g := g) hl lawKind rfl
  rwa [lawH_g] at h
theorem LCt {y : Str} (i : Nat) (hi : i < 5 := by decide) (hl : (lawEnv L fa cd).kindOf y = some .cell := by kernel_rfl) (hc : lck.lookup y = some (.fr (i + 1)) := by kernel_rfl) :
    St w h₀ A (lawEnv L fa cd) (.fr 0) lck y d (lawH ⟨g, cl, f, s, r⟩) (lawH ⟨g, upd cl (i + 1) (some d), f, s, r⟩) := by
  have h := St.cell (w := w) (h₀ := h₀) (A := A) (c := .fr 0) (d := d) (σ := lawH ⟨g, cl, f, s, r⟩) lawKind hl hc (d₀ := cl (i + 1)) (by simp [lawH, hi])
  rwa [lawH_c hi] at h
theorem upd_same {α : Type} {f : Nat → α} {i : Nat} {a : α} : upd f i a i = a := if_pos rfl
theorem upd_ne {α : Type} {f : Nat → α} {i j : Nat} {a : α} {b : α} (h : j ≠ i) (e : f j = b) : upd f i a j = b := (if_neg h).trans e
theorem LG {y : Str} {v : Value} (G : Glb h₀ y v) (hl : (lawEnv L fa cd).kindOf y = some .globalImplicit := by kernel_rfl) (hd : (y == ("__debug__" : Str)) = false := by kernel_rfl) :
    Ev w h₀ A (lawEnv L fa cd) (.fr 0) lck (.Name y pos) σ (.val v) σ := Ev.glob G lawKind hl rfl rfl hd
theorem lawLe {x y : LS} (hg : ∀ z d, y.g z = some d → x.g z = some d) (hc : x.cl = y.cl) (hf : x.f = y.f) (hs : x.s = y.s) (hr : x.r = y.r) : H.Le (lawH x) (lawH y) := by
  obtain ⟨g, cl, f, s, r⟩ := x
  obtain ⟨g', cl', f', s', r'⟩ := y
  dsimp only at hg hc hf hs hr
  subst hc hf hs hr
  have := H.Le.set (k := .fr 0) (a := .ns g) (b := .ns g') (H.Le.refl (lawH ⟨g, cl, f, s, r⟩)) hg
  rwa [lawH_g, lawH_g] at this

/-! ## what the other texts lack -/
theorem noI_bytes_add : typeLookup (.type "bytes") (dunderI "add") = pure none := by rw [typeLookup_type, builtinLookup_eq_fast]; kernel_rfl
theorem Inp.addB {x y : Array UInt8} (hb : x.size + y.size ≤ 16777216) : Inp w h₀ A .Add (.bytes x) (.bytes y) σ (.bytes (x ++ y)) σ := fun _ v u ok hv hu s hs => by
  cases hv; cases hu
  rename_i tx ty
  refine iconcat_gives (typeIs_bytes s x tx) (typeIs_bytes s y ty) noI_bytes_add KBy.noFill_bytes_add KBy.seq_bytes_add FB.slot_bytes_add FB.entry_bytes_add (FB.args_bytes_add_2 _ _) (KBy.gives_bytes_add (KBy.tooLong_not hb)) ?_
  by_cases hx : x.isEmpty = true
  · rw [if_pos hx]
    have e : x = #[] := Array.isEmpty_iff.1 hx
    have h' := Post.of (R := fun (v : Value) z => Rep w z v (D.bytes (x ++ y))) (b := Value.bytes (x ++ y) ty) (tk := s.toks) hs ok Rep.bytes
    rw [e, Array.empty_append] at h' ⊢
    exact h'
  · rw [if_neg hx]
    by_cases hy : y.isEmpty = true
    · rw [if_pos hy]
      have e : y = #[] := Array.isEmpty_iff.1 hy
      have h' := Post.of (R := fun (v : Value) z => Rep w z v (D.bytes (x ++ y))) (b := Value.bytes (x ++ y) tx) (tk := s.toks) hs ok Rep.bytes
      rw [e, Array.append_empty] at h' ⊢
      exact h'
    · rw [if_neg hy]
      exact ⟨by rw [Array.size_append, sizeLine_eq]; exact hb, Post.of hs ok .bytes⟩
end
end Mine
end

local macro_rules | `(tactic| walk_at "hp") => `(tactic| ((repeat (first | exact Mine.hset_same | exact Mine.gs_same | exact Mine.upd_same | refine Mine.upd_ne (by decide) ?_ | refine Mine.hset_ne (by decide) ?_ | refine Mine.gs_ne (by kernel_rfl) ?_)); try first | assumption | rfl))
local macro_rules | `(tactic| walk_at "gle") => `(tactic| (repeat (first | exact Mine.le_g0 | refine Mine.le_gset (by walk_at "hp") ?_)))

/-! # L2 -/
section
set_option maxRecDepth 100000
namespace Mine
section
variable {w : World} {h₀ : Heap} {A : Around} {L fa cd : Addr} {σ σ' : H} {d d₁ d₂ d₃ : D} {pos : Pos}

noncomputable def nsOf (xs : List Int) : List Int := (xs.take 4).map (fun x => x.fmod 1000000) ++ [0, 3, 7, 8]
/-- the first statement's comprehension -/
noncomputable def compN : Expr := match bodyAt 15 with
  | .Assign _ (.BinOp e _ _ _) _ :: _ => e
  | _ => default
noncomputable def compNsc : Scope := match compN with
  | .ListComp _ _ s _ => s
  | _ => default
noncomputable def compNat (pos : Pos) : Expr := match compN with
  | .ListComp e g s _ => .ListComp e g s pos
  | _ => default
theorem map_flat {α : Type} (f : α → D) (xs : List α) (dflt : α) : (List.range xs.length).flatMap (fun j => [f (xs.getD j dflt)]) = xs.map f := by
  induction xs with
  | nil => rfl
  | cons x r ih =>
    rw [List.length_cons, List.range_succ_eq_map, List.flatMap_cons, List.flatMap_map]
    simp only [List.getD_cons_zero, List.getD_cons_succ]
    rw [ih]; rfl
theorem numbersEv {g : Str → Option D} {cl : Nat → Option D} {f s r : Nat → Option Sp} {xs : List Int} (hx : xs.length ≤ 1000) (hh : A.handled = none) (hg : g "script" = some (.list (xs.map .int))) :
    Ev w h₀ A (lawEnv L fa cd) (.fr 0) lck (compNat pos) (lawH ⟨g, cl, f, s, r⟩) (.list (((xs.take 4).map (fun x => x.fmod 1000000)).map .int)) (lawH ⟨g, cl, f, s, r⟩) := by
  have hs1 : (xs.map D.int).length ≤ sizeLine := by rw [List.length_map, sizeLine_eq]; omega
  have hs2 : ((xs.take 4).map D.int).length ≤ sizeLine := by rw [List.length_map, List.length_take, sizeLine_eq]; omega
  have e : ((xs.take 4).map (fun x => x.fmod 1000000)).map D.int = (List.range ((xs.take 4).map D.int).length).flatMap (fun j => [D.int (((xs.take 4).getD j 0).fmod 1000000)]) := by
    rw [List.length_map, map_flat (fun x : Int => D.int (x.fmod 1000000)) (xs.take 4) 0, List.map_map]; rfl
  rw [e]
  refine Ev.comp (kf := .fr 94) (ck' := []) (ds := (xs.take 4).map .int) (fun _ => lawH ⟨g, cl, f, s, r⟩) _ rfl (fun _ _ => rfl) (fun _ _ => .inl (by rw [show (4 : Int) = ((4 : Nat) : Int) from rfl, dpick_upto, List.map_take])) (.of (by kernel_rfl) (by kernel_rfl) (by kernel_rfl) (by kernel_rfl) (by kernel_rfl))
    (Itr.list (Ev.slice (LL hg) Prt.no (Prt.yes Ev.intC) (.inl rfl) hs1 .frozen (fun _ _ => rfl)) (.inl (by rw [show (4 : Int) = ((4 : Nat) : Int) from rfl, dpick_upto, List.map_take])) hh hs2) (fun C j d' hd => ?_) .frozen hs2 (fun _ _ => rfl) (fun _ => rfl)
  rw [List.getElem?_map, Option.map_eq_some_iff] at hd
  obtain ⟨n, hn, rfl⟩ := hd
  have hn2 : (xs.take 4).getD j 0 = n := by rw [List.getD_eq_getElem?_getD, hn]; rfl
  have kx : (cenvOf compNsc (lawEnv L fa cd) C).kindOf "x" = some .local := by kernel_rfl
  have hsk : (cenvOf compNsc (lawEnv L fa cd) C).scope.kind = .function := by kernel_rfl
  refine ⟨_, Tgt.name (St.loc kx hsk hset_same), .inl ⟨_, .int (n.fmod 1000000), _, Tsts.nil, Ev.bin (Ev.loc hsk kx hset_same gs_same (by kernel_rfl)) Ev.intC (Bin.mod (by decide)), ?_, by rw [hn2]⟩⟩
  rw [hset_set]
  exact H.Le.set (.refl _) (by walk_at "gle")
theorem Ex.forN {env : Env} {c : Key} {ck : List (Str × Key)} {target iter : Expr} {body : List Stmt} {ds : List D} {C : H → Prop} {n : Nat} (σs : Nat → H) (hn : ds.length = n) (hi : Itr w h₀ A (eval iter env) env c ck σ ds C (σs 0))
    (hC : ∀ i, i ≤ ds.length → C (σs i)) (hb : ∀ i d, ds[i]? = some d → ∃ τ, Tgt w h₀ A env c ck target d (σs i) τ ∧ Exs w h₀ A env c ck body τ .next (σs (i + 1)))
    (ht : ∀ it v, letOwnedTupleGo target it v = pure ()) (hf : ∀ x, foldedSetIterable iter env x = pure x) :
    Ex w h₀ A env c ck (.For target iter body [] pos) σ .next (σs n) := hn ▸ Ex.for σs hi hC hb ht hf
noncomputable def lawFrom (i : Nat) : List Stmt := (bodyAt 15).drop i
noncomputable def dayS (ns : List Int) : Nat → List Int
  | 0 => [0]
  | k + 1 => dayS ns k ++ [(dayS ns k).getLastD 0 + 1 + (ns.getD k 0).fmod 3]
theorem dayS_ne (ns : List Int) : ∀ k, (dayS ns k).length = k + 1
  | 0 => rfl
  | k + 1 => by unfold dayS; simp [dayS_ne ns k]
noncomputable def f1 (ds : List Int) : Nat → Option Sp := upd (fun _ => none) 5 (some (.list (ds.map .int)))
noncomputable def gA1 (xs : List Int) : Str → Option D := gset (gset g0 "script" (.list (xs.map .int))) "numbers" (.list ((nsOf xs).map .int))
noncomputable def clA (stay price : Int) (days : D) : Nat → Option D := upd (upd (upd (fun _ => none) 1 (some (.int stay))) 2 (some (.int price))) 3 (some days)
theorem partA1 {xs : List Int} {out : Out} (B : Base w h₀) (hx : xs.length ≤ 1000) (hh : A.handled = none) (hz : (nsOf xs).sum < 1000000000 ∧ 0 ≤ (nsOf xs).sum)
    (h : Exs w h₀ A (lawEnv L fa cd) (.fr 0) lck (lawFrom 6) (lawH ⟨gA1 xs, clA (3 + (nsOf xs).sum.fmod 4) (1 + ((nsOf xs).sum.fdiv 4).fmod 3) (.list (((dayS (nsOf xs) (nsOf xs).length).drop 1).map .int)), f1 (dayS (nsOf xs) (nsOf xs).length), fun _ => none, fun _ => none⟩) out σ') :
    Exs w h₀ A (lawEnv L fa cd) (.fr 0) lck (bodyAt 15) (lawH ⟨gset g0 "script" (.list (xs.map .int)), fun _ => none, fun _ => none, fun _ => none, fun _ => none⟩) out σ' := by
  have GSum : Glb h₀ "sum" (.builtin "sum") := .boot B (by kernel_rfl) (by kernel_rfl) (by decide)
  have hl : (nsOf xs).length ≤ 8 := by unfold nsOf; simp; omega
  have hnum : ((nsOf xs).map D.int) = ((xs.take 4).map (fun x => x.fmod 1000000)).map .int ++ [0, 3, 7, 8].map .int := by unfold nsOf; rw [List.map_append]
  refine Exs.cons (Ex.assign (Ev.bin (numbersEv hx hh (by walk_at "hp")) (Ev.listD (Evs.cons Ev.intC (Evs.cons Ev.intC (Evs.cons Ev.intC (Evs.cons Ev.intC Evs.nil rfl) rfl) rfl) rfl) .frozen (by rw [sizeLine_eq]; decide)) (Bin.addList (.inl rfl) (.inl rfl) .frozen (by rw [List.length_map, List.length_map, List.length_take, sizeLine_eq]; simp; omega))) LSt rfl) ?_
  rw [show (((xs.take 4).map (fun x => x.fmod 1000000)).map D.int ++ [.int 0, .int 3, .int 7, .int 8]) = (nsOf xs).map D.int from hnum.symm]
  have hln : 0 < (nsOf xs).length := by unfold nsOf; simp
  unfold gA1 at h
  generalize nsOf xs = ns at *
  clear hnum
  have hns : (ns.map D.int).length ≤ sizeLine := by rw [List.length_map, sizeLine_eq]; omega
  have sumE : ∀ {g : Str → Option D} {cl : Nat → Option D} {f s r : Nat → Option Sp} {p1 p2 p3 : Pos}, g "numbers" = some (.list (ns.map .int)) → Ev w h₀ A (lawEnv L fa cd) (.fr 0) lck (.Call (.Name "sum" p1) [.Name "numbers" p2] [] p3) (lawH ⟨g, cl, f, s, r⟩) (.int ns.sum) (lawH ⟨g, cl, f, s, r⟩) := fun hg =>
    Ev.callB (LG GSum) (Evs.cons (LL hg) Evs.nil rfl) (CallD.sum (.inl rfl) hh) (fun _ => rfl) rfl rfl
  refine Exs.cons (Ex.assign (Ev.bin Ev.intC (Ev.bin (sumE (by walk_at "hp")) Ev.intC (Bin.mod (by decide))) Bin.add) (LCt 0) rfl) ?_
  refine Exs.cons (Ex.assign (Ev.bin Ev.intC (Ev.bin (Ev.bin (sumE (by walk_at "hp")) Ev.intC (Bin.fdiv (by decide) rfl)) Ev.intC (Bin.mod (by decide))) Bin.add) (LCt 1) rfl) ?_
  refine Exs.cons (Ex.assign (Ev.listD (Evs.cons Ev.intC Evs.nil rfl) (.key (k := .f 5) rfl rfl) (by rw [sizeLine_eq]; decide)) (lawH_f ▸ LCt 2) rfl) ?_
  let cl2 : Nat → Option D := clA (3 + ns.sum.fmod 4) (1 + (ns.sum.fdiv 4).fmod 3) (.res (.f 5))
  let g2 : Str → Option D := gset (gset g0 "script" (.list (xs.map .int))) "numbers" (.list (ns.map .int))
  refine Exs.cons (σ₁ := lawH ⟨g2, cl2, f1 (dayS ns ns.length), fun _ => none, fun _ => none⟩) ?_ ?_
  · refine Ex.forN (ds := ns.map .int) (n := ns.length) (fun i => lawH ⟨g2, cl2, f1 (dayS ns i), fun _ => none, fun _ => none⟩) (List.length_map ..) (Itr.list (LL (by walk_at "hp")) (.inl rfl) hh hns) (fun _ _ => .inl rfl) (fun i d' hd => ?_) (fun _ _ => rfl) (fun _ => rfl)
    rw [List.getElem?_map, Option.map_eq_some_iff] at hd
    obtain ⟨n, hn, rfl⟩ := hd
    have hn2 : ns.getD i 0 = n := by rw [List.getD_eq_getElem?_getD, hn]; rfl
    have hi : i < ns.length := (List.getElem?_eq_some_iff.mp hn).1
    have hd1 := dayS_ne ns i
    have hsz : ((dayS ns i).map D.int).length ≤ sizeLine := by rw [List.length_map, hd1, sizeLine_eq]; omega
    have hlast : ((dayS ns i).map D.int)[i]? = some (.int ((dayS ns i).getLastD 0)) := by
      rw [List.getElem?_map]
      have : (dayS ns i)[i]? = some ((dayS ns i).getLastD 0) := by
        rw [List.getLastD_eq_getLast?, List.getLast?_eq_getElem?, hd1, Nat.add_sub_cancel, List.getElem?_eq_getElem (by omega)]; rfl
      rw [this]; rfl
    refine ⟨_, Tgt.name LSt, Exs.le (Exs.step (Ex.expr (Ev.meth (LC 2 rfl) (Meth.list (.inr ⟨.f 5, rfl, rfl⟩) PySem.F.slot_list_append type_list_append')
      (Evs.cons (Ev.bin (Ev.bin (Ev.sub (LC 2 rfl) (Ev.una Ev.intC Una.neg) (SubD.list (j := i) (.inr ⟨.f 5, rfl, rfl⟩) (fun _ _ => rfl) hsz (.inr ⟨by decide, by rw [List.length_map, hd1]; omega⟩) hlast)) Ev.intC Bin.add) (Ev.bin (LL (by walk_at "hp")) Ev.intC (Bin.mod (by decide))) Bin.add) Evs.nil rfl)
      (CallD.append (k := .f 5) rfl hsz) rfl rfl rfl (fun _ _ e => by cases e; rfl) rfl) (by intro a; simp) rfl rfl) lawH_f Exs.nil) ?_⟩
    refine lawLe (by walk_at "gle") rfl ?_ rfl rfl
    funext j
    unfold f1 upd
    dsimp only
    split
    · show _ = some (Sp.list ((dayS ns i ++ [(dayS ns i).getLastD 0 + 1 + (ns.getD i 0).fmod 3]).map .int))
      rw [hn2, List.map_append]; rfl
    · rfl
  · refine Exs.cons (Ex.assign (Ev.slice (LC 2 rfl) (Prt.yes Ev.intC) Prt.no (.inr ⟨.f 5, rfl, rfl⟩) (by rw [List.length_map, dayS_ne, sizeLine_eq]; omega) .frozen (fun _ _ => rfl)) (LCt 2) rfl) ?_
    refine Exs.of_le (σ₁ := lawH ⟨g2, clA (3 + ns.sum.fmod 4) (1 + (ns.sum.fdiv 4).fmod 3) (.list (((dayS ns ns.length).drop 1).map .int)), f1 (dayS ns ns.length), fun _ => none, fun _ => none⟩) (lawLe (fun _ _ e => e) ?_ rfl rfl rfl) h
    funext j
    dsimp only [clA, upd]
    split
    · rw [show (1 : Int) = ((1 : Nat) : Int) from rfl, dpick_from, List.map_drop]
    · rename_i hj
      simp only [cl2, clA, upd, if_neg hj]
end
end Mine
end

/-! # L3 -/
section
set_option maxRecDepth 100000
namespace Mine
section
variable {w : World} {h₀ : Heap} {A : Around} {L fa cd : Addr} {σ σ' : H} {d d₁ d₂ d₃ : D} {pos : Pos}

noncomputable def OLe : Option Sp → Option Sp → Prop
  | some a, some b => Sp.Le a b
  | none, none => True
  | _, _ => False
theorem OLe.refl : ∀ a, OLe a a
  | none => trivial
  | some a => Sp.Le.refl a
theorem lawLe' {x y : LS} (hg : ∀ z d, y.g z = some d → x.g z = some d) (hc : x.cl = y.cl) (hf : ∀ i, OLe (x.f i) (y.f i)) (hs : ∀ i, OLe (x.s i) (y.s i)) (hr : ∀ i, OLe (x.r i) (y.r i)) : H.Le (lawH x) (lawH y) := fun k => by
  have key : ∀ {a b : Option Sp}, OLe a b → (match a, b with | some a, some b => Sp.Le a b | none, none => True | _, _ => False) := fun {a b} h => by
    cases a <;> cases b <;> exact h
  cases k with
  | n i => trivial
  | s i => exact key (hs i)
  | f i => exact key (hf i)
  | r i => exact key (hr i)
  | fr i =>
    cases i with
    | zero => exact hg
    | succ i =>
      show (match (if i < 5 then some (Sp.cell (x.cl (i + 1))) else none), (if i < 5 then some (Sp.cell (y.cl (i + 1))) else none) with | some a, some b => Sp.Le a b | none, none => True | _, _ => False)
      rw [hc]
      exact key (a := if i < 5 then some (Sp.cell (y.cl (i + 1))) else none) (OLe.refl _)
theorem Cap.le {m n : Nat} (h : Cap A m) (q : n ≤ m) : Cap A n := ⟨h.handled, by have := h.depth; omega, by have := h.units; omega⟩
noncomputable def lawAt (i : Nat) : Stmt := match (bodyAt 15).drop i with
  | st :: _ => st
  | [] => .Pass default
/-- the scope of a comprehension behind «=» -/
noncomputable def lawSc (i : Nat) : Scope := match lawAt i with
  | .Assign _ (.ListComp _ _ s _) _ => s
  | _ => default
/-- the main loop's state -/
noncomputable def prD (p : Int × Int) : D := .tup [.int p.1, .int p.2]
noncomputable def gM (ns : List Int) (n p : Nat) (s : MS) (text piece : Array UInt8) : Str → Option D :=
  gset (gset (gset (gset (gset (gset (gset (gset (gset (gset (gset (gset (gset g0 "numbers" (.list (ns.map .int))) "comers" (.rng 0 n)) "least" (.res (.f 100))) "taken" (.res (.f 101))) "free" (.res (.r s.ri))) "staying" (.res (.s s.si))) "refused" (.res (.f 1)))
    "lines" (.list ((List.range p).map fun i => .res (.f (10 + i))))) "seen" (.res (.f 2))) "book" (.dict s.book)) "text" (.bytes text)) "piece" (.bytes piece)) "depth" (.int s.depth)
noncomputable def clM (stay : Int) (p : Nat) (ds : List Int) (k : Option D) : Nat → Option D := upd (upd (clA stay p (.list (ds.map .int))) 4 (some (.res (.f 0)))) 5 k
noncomputable def fM (least taken : List Int) (s : MS) : Nat → Option Sp := fun i =>
  if i = 0 then some (.list (s.kept.map .int)) else if i = 1 then some (.list (s.ref.map .int)) else if i = 2 then some (.list (s.seen.map .int)) else if i = 5 then some .junk
  else if i = 100 then some (.list (least.map .int)) else if i = 101 then some (.list (taken.map .int)) else if 10 ≤ i then (s.lines[i - 10]?).map (fun ys => .list (ys.map .str)) else none
noncomputable def sM (s : MS) : Nat → Option Sp := fun j => if j = s.si then some (.list (s.st.map prD)) else if j < s.si then some .junk else none
noncomputable def rM (s : MS) : Nat → Option Sp := fun j => if j = s.ri then some (.list (s.fr.map .int)) else if j < s.ri then some .junk else none
noncomputable def lsM (ns ds least taken : List Int) (stay : Int) (p : Nat) (k : Option D) (s : MS) (text piece : Array UInt8) : LS :=
  ⟨gM ns ds.length p s text piece, clM stay p ds k, fM least taken s, sM s, rM s⟩

theorem partA2 {xs ns ds : List Int} {fx : List Int} {stay : Int} {p : Nat} {out : Out} (B : Base w h₀) (cap : Cap A 3) (hds : ds.length ≤ 100) (hp : p ≤ 3)
    (h : Exs w h₀ A (lawEnv L fa cd) (.fr 0) lck (lawFrom 18) (lawH (lsM ns ds (fence ds stay p ds.length).1 (fence ds stay p ds.length).2 stay p none (s0 p) #[] #[])) out σ') :
    Exs w h₀ A (lawEnv L fa cd) (.fr 0) lck (lawFrom 6) (lawH ⟨gset (gset g0 "script" (.list (xs.map .int))) "numbers" (.list (ns.map .int)), clA stay p (.list (ds.map .int)), f1 fx, fun _ => none, fun _ => none⟩) out σ' := by
  have hh := cap.handled
  have GLen : Glb h₀ "len" (.builtin "len") := .boot B (by kernel_rfl) (by kernel_rfl) (by decide)
  have GRange : Glb h₀ "range" (.type "range") := .boot B (by kernel_rfl) (by kernel_rfl) (by decide)
  have GList : Glb h₀ "list" (.type "list") := .boot B (by kernel_rfl) (by kernel_rfl) (by decide)
  have GFence : Glb h₀ "_law_fence" (.ref 86) := .main B (by kernel_rfl)
  have hd' : (ds.map D.int).length ≤ sizeLine := by rw [List.length_map, sizeLine_eq]; omega
  refine Exs.cons (Ex.assign (d := .rng 0 ds.length) (Ev.callT (LG GRange) (Evs.cons (Ev.callB (LG GLen) (Evs.cons (LC 2 rfl) Evs.nil rfl) (CallD.lenList (.inl rfl) hd') (fun _ => rfl) rfl rfl) Evs.nil rfl) (by rw [List.length_map]; exact CallD.range) (fun _ => rfl) rfl rfl) LSt rfl) ?_
  have fen : ∀ {g : Str → Option D} {cl : Nat → Option D}, CallD w h₀ A (.ref 86) [.list (ds.map .int), .int stay, .int p] (lawH ⟨g, cl, f1 fx, fun _ => none, fun _ => none⟩) (.tup [.res (.f 100), .res (.f 101)])
      (lawH ⟨g, cl, upd (upd (f1 fx) 100 (some (.list ((fence ds stay p ds.length).1.map .int)))) 101 (some (.list ((fence ds stay p ds.length).2.map .int))), fun _ => none, fun _ => none⟩) := fun {g cl} => by
    have := spec86 (σ := lawH ⟨g, cl, f1 fx, fun _ => none, fun _ => none⟩) (stay := stay) (price := p) (ns := ds) B (cap.le (by decide)) (by omega) (fun q hq => by
      rcases hq with rfl | rfl | rfl | rfl | rfl | rfl | rfl <;> rfl)
    rwa [lawH_f, lawH_f] at this
  refine Exs.cons (Ex.assignTup (Ev.callF (LG GFence) (Evs.cons (LC 2 rfl) (Evs.cons (LC 0 rfl) (Evs.cons (LC 1 rfl) Evs.nil rfl) rfl) rfl) (fn86 B).obj (fn86 B).data fen (fun _ => rfl) rfl) (Tgt.tup2 hh (Tgt.name LSt) (Tgt.name LSt) rfl rfl rfl) rfl rfl) ?_
  have NI : ∀ i : Int, (0 : Int) + i = i := fun i => by omega
  refine Exs.cons (Ex.assign (Ev.callT (LG GList) (Evs.cons (Ev.callT (LG GRange) (Evs.cons (LC 1 rfl) Evs.nil rfl) CallD.range (fun _ => rfl) rfl rfl) Evs.nil rfl) (CallD.listRange hh (by omega) (.key (k := .r 0) rfl rfl)) (fun _ => rfl) rfl rfl) (lawH_r ▸ LSt) rfl) ?_
  refine Exs.cons (Ex.assign (Ev.listD Evs.nil (.key (k := .s 0) rfl rfl) (by decide)) (lawH_s ▸ LSt) rfl) ?_
  refine Exs.cons (Ex.assign (Ev.listD Evs.nil (.key (k := .f 0) rfl rfl) (by decide)) (lawH_f ▸ LCt 3) rfl) ?_
  refine Exs.cons (Ex.assign (Ev.listD Evs.nil (.key (k := .f 1) rfl rfl) (by decide)) (lawH_f ▸ LSt) rfl) ?_
  let fb : Nat → Option Sp := upd (upd (upd (upd (f1 fx) 100 (some (.list ((fence ds stay p ds.length).1.map .int)))) 101 (some (.list ((fence ds stay p ds.length).2.map .int)))) 0 (some (.list []))) 1 (some (.list []))
  let fl : Nat → Nat → Option Sp := fun i j => if 10 ≤ j ∧ j < 10 + i then some (.list []) else fb j
  have fl0 : fl 0 = fb := by funext j; simp only [fl]; rw [if_neg (by omega)]
  have rl : (rngL p).length = p := by unfold rngL; rw [List.length_map, List.length_range]
  have rlz : (rngL p).length ≤ sizeLine := by rw [rl, sizeLine_eq]; omega
  have fln : ∀ i, i < p → fl i (10 + i) = none := fun i hi => by
    simp only [fl]
    rw [if_neg (by omega)]
    simp only [fb, f1, upd]
    repeat rw [if_neg (by omega)]
  have fls : ∀ i, upd (fl i) (10 + i) (some (.list [])) = fl (i + 1) := fun i => by
    funext j
    simp only [fl, upd]
    by_cases e : j = 10 + i
    · rw [if_pos e, if_pos (by omega)]
    · rw [if_neg e]
      by_cases e2 : 10 ≤ j ∧ j < 10 + i
      · rw [if_pos e2, if_pos (by omega)]
      · rw [if_neg e2, if_neg (by omega)]
  have rgt : ∀ {i : Nat} {d : D}, (rngL p)[i]? = some d → i < p ∧ d = .int i := fun {i d} hd => by
    unfold rngL at hd
    rw [List.getElem?_map, Option.map_eq_some_iff] at hd
    obtain ⟨n, hn, rfl⟩ := hd
    obtain ⟨hlt, rfl⟩ := List.getElem?_eq_some_iff.mp hn
    rw [List.length_range] at hlt
    rw [List.getElem_range]
    exact ⟨hlt, rfl⟩
  have lines : ∀ {g : Str → Option D} {cl : Nat → Option D} {s r : Nat → Option Sp}, cl 2 = some (.int p) → Ex w h₀ A (lawEnv L fa cd) (.fr 0) lck (lawAt 12) (lawH ⟨g, cl, fb, s, r⟩) .next (lawH ⟨gset g "lines" (.list ((List.range p).map fun i => .res (.f (10 + i)))), cl, fl p, s, r⟩) := fun {g cl s r} hc => by
    have e : ((List.range p).map fun i => D.res (.f (10 + i))) = (List.range (rngL p).length).flatMap (fun i => [D.res (.f (10 + i))]) := by
      rw [rl, List.map_eq_flatMap]
    rw [e]
    refine Ex.assignComp (kf := .fr 94) (ck' := []) (ds := rngL p) (fun i => lawH ⟨g, cl, fl i, s, r⟩) (fun i => [D.res (.f (10 + i))]) rfl (fun _ _ => rfl) (fun _ _ => trivial) (.of (by kernel_rfl) (by kernel_rfl) (by kernel_rfl) (by kernel_rfl) (by kernel_rfl))
      (by rw [fl0]; exact Itr.range (Ev.callT (LG GRange) (Evs.cons (LC 1 hc) Evs.nil rfl) CallD.range (fun _ => rfl) rfl rfl) hh (by rw [sizeLine_eq]; omega)) (fun C j d' hd => ?_) .frozen (by rw [rl]; exact LSt) rlz (fun _ _ => rfl) (fun _ => rfl) rfl
    obtain ⟨hj, rfl⟩ := rgt hd
    have kx : (cenvOf (lawSc 12) (lawEnv L fa cd) C).kindOf "room" = some .local := by kernel_rfl
    have hsk : (cenvOf (lawSc 12) (lawEnv L fa cd) C).scope.kind = .function := by kernel_rfl
    refine ⟨_, Tgt.name (St.loc kx hsk hset_same), .inl ⟨_, .res (.f (10 + j)), _, Tsts.nil, Ev.listD Evs.nil (.key (k := .f (10 + j)) rfl ?_) (by decide), ?_, rfl⟩⟩
    · exact hset_ne (by simp) (hset_ne (by simp) (fln j hj))
    · rw [hset_set, hset_comm (by simp), lawH_f, fls]
      exact H.Le.set (.refl _) (by walk_at "gle")
  have seen : ∀ {g : Str → Option D} {cl : Nat → Option D} {f s r : Nat → Option Sp}, cl 2 = some (.int p) → f 2 = none → Ex w h₀ A (lawEnv L fa cd) (.fr 0) lck (lawAt 13) (lawH ⟨g, cl, f, s, r⟩) .next (lawH ⟨gset g "seen" (.res (.f 2)), cl, upd f 2 (some (.list ((List.replicate p (0 : Int)).map .int))), s, r⟩) := fun {g cl f s r} hc hf => by
    have e : ((List.replicate p (0 : Int)).map D.int) = (List.range (rngL p).length).flatMap (fun i => [D.int 0]) := by
      rw [rl, ← List.map_eq_flatMap, List.map_const', List.length_range, List.map_replicate]
    rw [e]
    refine Ex.assignComp (kf := .fr 94) (ck' := []) (ds := rngL p) (σ₁ := lawH ⟨g, cl, upd f 2 (some (.list ((List.range (rngL p).length).flatMap (fun i => [D.int 0])))), s, r⟩) (d := .res (.f 2)) (fun i => lawH ⟨g, cl, f, s, r⟩) (fun i => [D.int 0]) rfl (fun _ _ => rfl) (fun _ _ => trivial) (.of (by kernel_rfl) (by kernel_rfl) (by kernel_rfl) (by kernel_rfl) (by kernel_rfl))
      (Itr.range (Ev.callT (LG GRange) (Evs.cons (LC 1 hc) Evs.nil rfl) CallD.range (fun _ => rfl) rfl rfl) hh (by rw [sizeLine_eq]; omega)) (fun C j d' hd => ?_) (by have h := Made.key (σ := lawH ⟨g, cl, f, s, r⟩) (xs := (List.range (rngL p).length).flatMap (fun i => [D.int 0])) (k := .f 2) rfl hf; rwa [lawH_f] at h) LSt rlz (fun _ _ => rfl) (fun _ => rfl) rfl
    obtain ⟨hj, rfl⟩ := rgt hd
    have kx : (cenvOf (lawSc 13) (lawEnv L fa cd) C).kindOf "room" = some .local := by kernel_rfl
    have hsk : (cenvOf (lawSc 13) (lawEnv L fa cd) C).scope.kind = .function := by kernel_rfl
    refine ⟨_, Tgt.name (St.loc kx hsk hset_same), .inl ⟨_, .int 0, _, Tsts.nil, Ev.intC, ?_, rfl⟩⟩
    rw [hset_set]
    exact H.Le.set (.refl _) (by walk_at "gle")
  refine Exs.cons (lines rfl) ?_
  refine Exs.cons (seen rfl ?_) ?_
  · simp only [fl]; rw [if_neg (by omega)]; rfl
  refine Exs.cons (Ex.assign (Ev.dictNil B.lim .frozen) LSt rfl) ?_
  refine Exs.cons (Ex.assign Ev.bytesC LSt rfl) ?_
  refine Exs.cons (Ex.assign Ev.bytesC LSt rfl) ?_
  refine Exs.cons (Ex.assign Ev.intC LSt rfl) ?_
  refine Exs.of_le (σ₁ := lawH (lsM ns ds (fence ds stay p ds.length).1 (fence ds stay p ds.length).2 stay p none (s0 p) #[] #[])) (lawLe' (by walk_at "gle") ?_ (fun i => ?_) (fun i => ?_) (fun i => ?_)) h
  · funext j
    show _ = upd _ 5 none j
    unfold upd
    by_cases e : j = 5
    · subst e; rfl
    · rw [if_neg e]
  · show OLe (upd (fl p) 2 _ i) (fM _ _ (s0 p) i)
    simp only [fM, fl, fb, f1, upd, s0]
    by_cases e2 : i = 2
    · subst e2; simp [OLe, Sp.Le]
    by_cases e0 : i = 0
    · subst e0; simp [OLe, Sp.Le]
    by_cases e1 : i = 1
    · subst e1; simp [OLe, Sp.Le]
    by_cases e5 : i = 5
    · subst e5; simp [OLe, Sp.Le]
    by_cases e100 : i = 100
    · subst e100; rw [if_neg (by omega), if_neg (by omega)]; simp [OLe, Sp.Le]
    by_cases e101 : i = 101
    · subst e101; rw [if_neg (by omega), if_neg (by omega)]; simp [OLe, Sp.Le]
    simp only [if_neg e2, if_neg e0, if_neg e1, if_neg e5, if_neg e100, if_neg e101]
    by_cases e10 : 10 ≤ i
    · rw [if_pos e10]
      by_cases e : i < 10 + p
      · rw [if_pos ⟨e10, e⟩, List.getElem?_replicate, if_pos (by simp; omega)]; simp [OLe, Sp.Le]
      · rw [if_neg (by omega), List.getElem?_replicate, if_neg (by simp; omega)]; trivial
    · rw [if_neg e10, if_neg (by omega)]; trivial
  · show OLe (upd (fun _ => none) 0 _ i) (if i = 0 then some (.list []) else if i < 0 then some .junk else none)
    simp only [upd]
    by_cases e0 : i = 0
    · subst e0; simp [OLe, Sp.Le]
    · rw [if_neg e0, if_neg e0, if_neg (by omega)]; trivial
  · show OLe (upd (fun _ => none) 0 _ i) (if i = 0 then some (.list (((List.range (p : Int).toNat).map (fun (i : Nat) => (i : Int))).map .int)) else if i < 0 then some .junk else none)
    simp only [upd]
    by_cases e0 : i = 0
    · subst e0
      rw [if_pos rfl, if_pos rfl]
      unfold rngL
      simp [OLe, Sp.Le]
    · rw [if_neg e0, if_neg e0, if_neg (by omega)]; trivial
end
end Mine
end

/-! # L4 -/
section
set_option maxRecDepth 100000
namespace Mine
section
variable {w : World} {h₀ : Heap} {A : Around} {L fa cd : Addr} {σ σ' : H} {d d₁ d₂ d₃ : D} {pos : Pos}

/-! ## the main loop: the while in it -/
noncomputable def pdP (p : Int × Int) : PyData := .tuple [.int p.1, .int p.2]
theorem canLay_pairs : ∀ l : List (Int × Int), PyData.canLayAll0 (l.map pdP) = true
  | [] => by simp [PyData.canLayAll0]
  | p :: r => by simp [PyData.canLayAll0, pdP, PyData.canLay0, canLay_pairs r]
theorem depth_pairs : ∀ l : List (Int × Int), PyData.depthAll (l.map pdP) ≤ 1
  | [] => by simp [PyData.depthAll]
  | p :: r => by
    have := depth_pairs r
    simp [PyData.depthAll, pdP, PyData.depth] at this ⊢
    omega
theorem shaped_pairs (l : List (Int × Int)) : SeqAt.shaped (.list (l.map pdP)) = true := by
  have := depth_pairs l
  have h2 := canLay_pairs l
  unfold SeqAt.shaped
  simp [PyData.canLay0, PyData.depth, h2]
  omega
theorem Pds.pairs : ∀ {l : List (Int × Int)}, Pds σ (l.map prD) (l.map pdP)
  | [] => .nil
  | _ :: _ => .cons (.tup (.cons .int (.cons .int .nil))) Pds.pairs
theorem Cmp.neNil {l : List (Int × Int)} {n : Nat} (h : Lst σ d (l.map prD)) (cap : Cap A n) : Cmp w h₀ A .NotEq d (.list []) σ (!l.isEmpty) σ := by
  have := Cmp.neL (w := w) (h₀ := h₀) (A := A) (Pd.list h Pds.pairs) (Pd.list (.inl rfl) .nil : Pd σ (.list []) (.list [])) (shaped_pairs l) (by decide) cap
  have e : (!(PyData.list (l.map pdP)).eqv (.list [])) = !l.isEmpty := by
    cases l <;> simp [PyData.eqv, PyData.eqvAll]
  rwa [e] at this
noncomputable def loopBody : List Stmt := match lawAt 18 with
  | .For _ _ b _ _ => b
  | _ => []
noncomputable def loopAt (i : Nat) : Stmt := match loopBody.drop i with
  | st :: _ => st
  | [] => .Pass default
theorem relS_zero (s : MS) : relS s 0 = s := by
  cases s; simp [relS]
theorem relS_succ (s : MS) (i : Nat) (p : Int × Int) (h : s.st[i]? = some p) : relS s (i + 1) = { relS s i with st := s.st.drop (i + 1), fr := (relS s i).fr ++ [p.2], pn := (relS s i).pn - 1, si := (relS s i).si + 1 } := by
  obtain ⟨hlt, e⟩ := List.getElem?_eq_some_iff.mp h
  simp only [relS]
  rw [List.take_succ_eq_append_getElem hlt, List.map_append, e]
  simp
  omega
variable {ns ds least taken : List Int} {stay : Int} {p : Nat} {k : Nat} {s : MS} {text piece : Array UInt8}
theorem tw_at {α : Type} (f : α → Bool) : ∀ (l : List α) (i : Nat), i < (l.takeWhile f).length → ∃ q, l[i]? = some q ∧ f q = true
  | [], i, h => by simp at h
  | x :: r, i, h => by
    rw [List.takeWhile_cons] at h
    by_cases e : f x = true
    · rw [if_pos e] at h
      cases i with
      | zero => exact ⟨x, rfl, e⟩
      | succ i =>
        rw [List.length_cons] at h
        obtain ⟨q, h1, h2⟩ := tw_at f r i (by omega)
        exact ⟨q, by rw [List.getElem?_cons_succ]; exact h1, h2⟩
    · rw [if_neg e] at h; simp at h
theorem tw_end {α : Type} (f : α → Bool) : ∀ (l : List α), l.drop (l.takeWhile f).length = [] ∨ ∃ q r, l.drop (l.takeWhile f).length = q :: r ∧ f q = false
  | [] => .inl (by simp)
  | x :: r => by
    rw [List.takeWhile_cons]
    by_cases e : f x = true
    · rw [if_pos e, List.length_cons, List.drop_succ_cons]; exact tw_end f r
    · rw [if_neg e]; exact .inr ⟨x, r, rfl, by simpa using e⟩
theorem whileL (cap : Cap A 3) (hst : s.st.length ≤ 100) (hfr : s.fr.length ≤ 100) (hds : ds.length ≤ 100) (hk : k < ds.length) (hpz : piece.size ≤ 1000) :
    Ex w h₀ A (lawEnv L fa cd) (.fr 0) lck (loopAt 0) (lawH (lsM ns ds least taken stay p (some (.int k)) s text piece)) .next
      (lawH (lsM ns ds least taken stay p (some (.int k)) (relS s (rel (ds.getD k 0) s)) text (piece ++ closeN (rel (ds.getD k 0) s)))) := by
  have hd' : (ds.map D.int).length ≤ sizeLine := by rw [List.length_map, sizeLine_eq]; omega
  let W : Nat → H := fun i => lawH (lsM ns ds least taken stay p (some (.int k)) (relS s i) text (piece ++ closeN i))
  have e0 : lawH (lsM ns ds least taken stay p (some (.int k)) s text piece) = W 0 := by
    simp only [W]; rw [relS_zero, show closeN 0 = #[] from rfl, Array.append_empty]
  rw [e0]
  have lst : ∀ i, Lst (W i) (.res (.s (s.si + i))) ((s.st.drop i).map prD) := fun i => .inr ⟨_, rfl, by
    show sM (relS s i) (s.si + i) = _
    unfold sM
    rw [if_pos (show s.si + i = (relS s i).si from rfl)]; rfl⟩
  have hlen : ∀ i, ((s.st.drop i).map prD).length ≤ sizeLine := fun i => by rw [List.length_map, List.length_drop, sizeLine_eq]; omega
  have days : ∀ {g : Str → Option D} {f s' r : Nat → Option Sp} {p1 p2 p3 : Pos}, Ev w h₀ A (lawEnv L fa cd) (.fr 0) lck (.Subscript (.Name "days" p1) (.Name "k" p2) p3) (lawH ⟨g, clM stay p ds (some (.int k)), f, s', r⟩) (.int (ds.getD k 0)) (lawH ⟨g, clM stay p ds (some (.int k)), f, s', r⟩) := fun {g f s' r p1 p2 p3} =>
    Ev.sub (LC 2 rfl) (LC 4 rfl) (SubD.list (j := k) (.inl rfl) (fun _ _ => rfl) hd' (.inl ⟨by omega, rfl⟩) (getD_some hk))
  have head : ∀ i q r, s.st.drop i = q :: r → ∀ {p1 p2 p3 : Pos} {z : Nat}, Ev w h₀ A (lawEnv L fa cd) (.fr 0) lck (.Subscript (.Name "staying" p1) (.Constant (.int 0) z p2) p3) (W i) (prD q) (W i) := fun i q r e {p1 p2 p3 z} =>
    Ev.sub (LL (d := .res (.s (s.si + i))) (by walk_at "hp")) Ev.intC (SubD.list (j := 0) (lst i) (fun _ _ => rfl) (hlen i) (.inl ⟨by decide, rfl⟩) (by rw [e]; rfl))
  have test1 : ∀ i b, (!(s.st.drop i).isEmpty) = b → ∀ {p1 p2 p3 : Pos}, Tst w h₀ A (lawEnv L fa cd) (.fr 0) lck (.Compare (.Name "staying" p1) [.NotEq] [.List [] p2] p3) (W i) b (W i) := fun i b e {p1 p2 p3} =>
    Tst.as e (Tst.cmp (LL (d := .res (.s (s.si + i))) (by walk_at "hp")) (Ev.listD Evs.nil .frozen (by decide)) (Cmp.neNil (lst i) cap) rfl)
  refine Ex.while (rel (ds.getD k 0) s) W W (fun i hi => ?_) (fun i hi => ?_) ?_
  · obtain ⟨q, hq, hle⟩ := tw_at _ _ _ hi
    obtain ⟨hlt, e⟩ := List.getElem?_eq_some_iff.mp hq
    have hd : s.st.drop i = q :: s.st.drop (i + 1) := by rw [List.drop_eq_getElem_cons hlt, e]
    exact Tst.andT (test1 i true (by rw [hd]; rfl)) (Tst.andT (Tst.as hle (Tst.cmp (Ev.sub (head i _ _ hd) Ev.intC (SubD.tup (j := 0) (fun _ _ => rfl) (by rw [sizeLine_eq]; show 2 ≤ 16777216; decide) (by decide) rfl rfl)) days Cmp.le rfl)) Tst.andN)
  · obtain ⟨q, hq, hle⟩ := tw_at _ _ _ hi
    obtain ⟨hlt, e⟩ := List.getElem?_eq_some_iff.mp hq
    have hd : s.st.drop i = q :: s.st.drop (i + 1) := by rw [List.drop_eq_getElem_cons hlt, e]
    have hs := relS_succ s i q hq
    let R : Nat → Option Sp := upd (rM (relS s i)) s.ri (some (.list ((relS s i).fr.map .int ++ [.int q.2])))
    have hz : ((relS s i).fr.map D.int).length ≤ sizeLine := by
      rw [List.length_map, sizeLine_eq]
      show (s.fr ++ (s.st.take i).map (·.2)).length ≤ _
      rw [List.length_append, List.length_map, List.length_take]; omega
    have hr : (W i) (.r s.ri) = some (.list ((relS s i).fr.map .int)) := by
      show rM (relS s i) s.ri = _
      exact if_pos rfl
    have hno : sM (relS s i) (s.si + i + 1) = none := by
      unfold sM
      rw [if_neg (by show ¬ (s.si + i + 1 = s.si + i); omega), if_neg (by show ¬ (s.si + i + 1 < s.si + i); omega)]
    have hclz : (piece ++ closeN i).size + 1 ≤ 16777216 := by
      have : (closeN i).size = i := by unfold closeN; simp
      rw [Array.size_append, this]; omega
    refine Exs.le (Exs.step (σ₂ := lawH ⟨gM ns ds.length p (relS s i) text (piece ++ closeN i), clM stay p ds (some (.int k)), fM least taken (relS s i), sM (relS s i), R⟩)
      (Ex.expr (Ev.meth (LL (d := .res (.r s.ri)) (by walk_at "hp")) (Meth.list (.inr ⟨.r s.ri, rfl, hr⟩) PySem.F.slot_list_append type_list_append') (Evs.cons (Ev.sub (head i _ _ hd) Ev.intC (SubD.tup (j := 1) (fun _ _ => rfl) (by rw [sizeLine_eq]; show 2 ≤ 16777216; decide) (by decide) rfl rfl)) Evs.nil rfl)
        (CallD.append (k := .r s.ri) hr hz) rfl rfl rfl (fun _ _ e => by cases e; rfl) rfl) (by intro a; simp) rfl rfl) lawH_r
      (Exs.cons (Ex.assign (Ev.slice (LL (d := .res (.s (s.si + i))) (by walk_at "hp")) (Prt.yes Ev.intC) Prt.no (.inr ⟨_, rfl, (lst i).elim (fun q => by cases q) (fun ⟨_, e, h⟩ => by cases e; exact h)⟩) (hlen i) (.key (k := .s (s.si + i + 1)) rfl hno) (fun _ _ => rfl)) (lawH_s ▸ LSt) rfl)
      (Exs.cons (Ex.aug (LLd (d := .bytes (piece ++ closeN i)) (by walk_at "hp")) Ev.bytesC (Inp.addB hclz) LSt) Exs.nil))) ?_
    show H.Le _ (lawH (lsM ns ds least taken stay p (some (.int k)) (relS s (i + 1)) text (piece ++ closeN (i + 1))))
    rw [closeN_succ, ← Array.append_assoc]
    refine lawLe' (by walk_at "gle") rfl (fun j => OLe.refl _) (fun j => ?_) (fun j => ?_)
    · show OLe (upd (sM (relS s i)) (s.si + i + 1) (some (.list (dpick ((s.st.drop i).map prD) (some 1) none none))) j) (sM (relS s (i + 1)) j)
      unfold upd
      have e1 : (relS s (i + 1)).si = s.si + i + 1 := rfl
      have e2 : (relS s i).si = s.si + i := rfl
      by_cases ej : j = s.si + i + 1
      · rw [if_pos ej]
        unfold sM
        rw [if_pos (by rw [e1]; exact ej), show (1 : Int) = ((1 : Nat) : Int) from rfl, dpick_from, ← List.map_drop, List.drop_drop, show (relS s (i + 1)).st = s.st.drop (i + 1) from rfl]
        exact OLe.refl _
      · rw [if_neg ej]
        unfold sM
        rw [if_neg (show ¬ j = (relS s (i + 1)).si by rw [e1]; exact ej)]
        by_cases ek : j = s.si + i
        · rw [if_pos (by rw [e2]; exact ek), if_pos (by rw [e1]; omega)]; trivial
        · rw [if_neg (by rw [e2]; exact ek), e1, e2]
          by_cases el : j < s.si + i
          · rw [if_pos el, if_pos (by omega)]; trivial
          · rw [if_neg el, if_neg (by omega)]; trivial
    · show OLe (upd (rM (relS s i)) s.ri (some (.list ((relS s i).fr.map .int ++ [.int q.2]))) j) (rM (relS s (i + 1)) j)
      unfold upd rM
      have e1 : (relS s (i + 1)).ri = s.ri := rfl
      have e2 : (relS s i).ri = s.ri := rfl
      rw [e1, e2]
      by_cases ej : j = s.ri
      · rw [if_pos ej, if_pos ej, show (relS s (i + 1)).fr = (relS s i).fr ++ [q.2] from congrArg MS.fr hs, List.map_append]
        exact OLe.refl _
      · rw [if_neg ej, if_neg ej, if_neg ej]; exact OLe.refl _
  · rcases tw_end (fun p : Int × Int => decide (p.1 ≤ ds.getD k 0)) s.st with hd | ⟨q, r, hd, hle⟩
    · exact Tst.andF (test1 _ false (by unfold rel; rw [hd]; rfl))
    · exact Tst.andT (test1 _ true (by unfold rel; rw [hd]; rfl)) (Tst.andF (Tst.as hle (Tst.cmp (Ev.sub (head _ _ _ hd) Ev.intC (SubD.tup (j := 0) (fun _ _ => rfl) (by rw [sizeLine_eq]; show 2 ≤ 16777216; decide) (by decide) rfl rfl)) days Cmp.le rfl)))
end
end Mine
end

/-! # L5 -/
section
set_option maxRecDepth 100000
namespace Mine
section
variable {w : World} {h₀ : Heap} {A : Around} {env : Env} {c : Key} {ck : List (Str × Key)} {L fa cd : Addr} {σ σ' σ₁ σ₂ σ₃ : H} {d d₁ d₂ d₃ : D} {pos : Pos}

theorem Ev.callE {func e : Expr} {es : List Expr} {a : Addr} {o : Obj} {fd : FuncData} {ds : List D} (hf : Ev w h₀ A env c ck func σ (.val (.ref a)) σ₁) (ha : Evs w h₀ A env c ck (e :: es) σ₁ ds σ₂)
    (ho : h₀.get? a = some o) (hd : o.data = .func fd) (hc : CallE w h₀ A env c ck (.ref a) ds σ₂ d σ₃)
    (he : ∀ env, eval (.Call func (e :: es) [] pos) env = (do callWith pos (← eval func env) [] (backTo pos (starEach (e :: es) env)) (backToKw pos (keywordEach [] env))))
    (hq : starEach (e :: es) env = (false, eval e env) :: starEach es env) :
    Ev w h₀ A env c ck (.Call func (e :: es) [] pos) σ d σ₃ := fun x ok en s hs =>
  Call_ ((hf x ok en).next hs fun v y tk oky af rv => by
    cases rv
    exact callWith_def hd ((ha pos y oky (en.after af)).next rfl fun vs z tk' okz af' rvs =>
      ⟨okz.base _ _ ho, (hc z vs okz ((en.after af).after af') rvs).last s tk' (af.trans af')⟩) hq) (he env)
theorem Bin.addTupNil {xs : List D} (h1 : xs ≠ []) : Bin w h₀ A .Add (.tup xs) (.tup []) σ (.tup xs) σ := fun x v u ok hv hu s hs => by
  have hv' := hv
  obtain ⟨a, vs, n, rfl, m1, hg, hr⟩ := hv.asTup
  obtain ⟨b, us, n2, rfl, m2, hg2, hr2⟩ := hu.asTup
  cases hr2
  have hne : ¬ vs.toArray.isEmpty = true := by
    have := hr.length
    cases vs with
    | nil => cases xs <;> simp_all
    | cons _ _ => simp
  exact concat_meets ⟨_, (hs ▸ hg : s.heap.get? a = some (tobj vs n)), rfl⟩ ⟨_, (hs ▸ hg2 : s.heap.get? b = some (tobj [] n2)), rfl⟩ noFill_tuple_add seq_tuple_add PySem.F.slot_tuple_add PySem.F.entry_tuple_add (PySem.F.args_tuple_add_2 _ _)
    (AutoSeq1.tuple___add___tuple_tuple_1 a vs.toArray n b #[] n2 hne rfl) ⟨hs ▸ hg, hs ▸ hg2, Post.of' hs ok hv'⟩
variable {ns ds least taken : List Int} {stay : Int} {p : Nat} {k : Nat} {s : MS} {text piece : Array UInt8} {g : Str → Option D} {cl : Nat → Option D} {f s' r : Nat → Option Sp}
theorem daysEv (hds : ds.length ≤ 100) (hk : k < ds.length) {p1 p2 p3 : Pos} : Ev w h₀ A (lawEnv L fa cd) (.fr 0) lck (.Subscript (.Name "days" p1) (.Name "k" p2) p3) (lawH ⟨g, clM stay p ds (some (.int k)), f, s', r⟩) (.int (ds.getD k 0)) (lawH ⟨g, clM stay p ds (some (.int k)), f, s', r⟩) :=
  Ev.sub (LC 2 rfl) (LC 4 rfl) (SubD.list (j := k) (.inl rfl) (fun _ _ => rfl) (by rw [List.length_map, sizeLine_eq]; omega) (.inl ⟨by omega, rfl⟩) (getD_some hk))
/-- depth, its test, text -/
theorem turn1 {rest : List Stmt} {out : Out} (B : Base w h₀) (cap : Cap A 3) (hk : k < taken.length) (hz : taken.length ≤ 100) (ht : TokNet piece s.pn) (hp : piece.size ≤ 1000) (htx : text.size ≤ 1000) (hd : s.depth + s.pn = taken.getD k 0)
    (h : Exs w h₀ A (lawEnv L fa cd) (.fr 0) lck (loopBody.drop 4) (lawH (lsM ns ds least taken stay p (some (.int k)) { s with depth := s.depth + s.pn, tn := s.tn + s.pn } (text ++ piece) piece)) out σ') :
    Exs w h₀ A (lawEnv L fa cd) (.fr 0) lck (loopBody.drop 1) (lawH (lsM ns ds least taken stay p (some (.int k)) s text piece)) out σ' := by
  obtain ⟨full, hseg, hnet⟩ := ht
  have GPD : Glb h₀ "_paren_depth" (.ref 60) := .main B (by kernel_rfl)
  refine Exs.cons (Ex.assign (Ev.callF (LG GPD) (Evs.cons (LL (d := .bytes piece) (by walk_at "hp")) (Evs.cons (LL (d := .int s.depth) (by walk_at "hp")) Evs.nil rfl) rfl) (fn60 B).obj (fn60 B).data (spec60 B (cap.le (by decide)) (by omega) hseg rfl) (fun _ => rfl) rfl) LSt rfl) ?_
  rw [hnet]
  refine Exs.cons (Ex.iff (b := false) (Tst.as (by rw [hd]; simp) (Tst.cmp (LL (d := .int (s.depth + s.pn)) (by walk_at "hp")) (Ev.sub (LL (d := .res (.f 101)) (by walk_at "hp")) (LC 4 rfl) (SubD.list (j := k) (.inr ⟨.f 101, rfl, rfl⟩) (fun _ _ => rfl) (by rw [List.length_map, sizeLine_eq]; omega) (.inl ⟨by omega, rfl⟩) (getD_some hk))) Cmp.ne rfl)) Exs.nil) ?_
  refine Exs.cons (Ex.aug (LLd (d := .bytes text) (by walk_at "hp")) (LL (d := .bytes piece) (by walk_at "hp")) (Inp.addB (by omega)) LSt) ?_
  refine Exs.of_le ?_ h
  exact lawLe' (by walk_at "gle") rfl (fun j => OLe.refl _) (fun j => OLe.refl _) (fun j => OLe.refl _)
noncomputable def failT : Str := ((((Str.empty ++ "<") ++ "room") ++ " ") ++ "func_get_function_name") ++ "() failed>"
theorem turnOut (B : Base w h₀) (cap : Cap A 3) (hfr : A.frames = some [lawEnv L fa cd]) (hds : ds.length ≤ 20) (hk : k < ds.length) (hns : ns.length = ds.length) (hll : least.length = ds.length + 1) (href : s.ref.length ≤ 100) (hf : s.fr = []) (he : least.getD (k + 1) 0 = least.getD k 0) :
    Exs w h₀ A (lawEnv L fa cd) (.fr 0) lck (loopBody.drop 4) (lawH (lsM ns ds least taken stay p (some (.int k)) s text piece)) .next
      (lawH (lsM ns ds least taken stay p (some (.int k)) (outS k s) text (labA k ((ns.getD k 0).fdiv 3)))) := by
  have G39 : Glb h₀ "_safe_string" (.ref 39) := .main B (by kernel_rfl)
  have G67 : Glb h₀ "func_get_function_name" (.ref 67) := .main B (by kernel_rfl)
  have G93 : Glb h₀ "_law_label" (.ref 93) := .main B (by kernel_rfl)
  have GTup : Glb h₀ "tuple" (.type "tuple") := .boot B (by kernel_rfl) (by kernel_rfl) (by decide)
  have frE : ∀ {g : Str → Option D} {cl : Nat → Option D} {p1 p2 p3 p4 : Pos} {z : Nat}, g "free" = some (.res (.r s.ri)) → Ev w h₀ A (lawEnv L fa cd) (.fr 0) lck (.Subscript (.Name "free" p1) (.Slice none (some (.Constant (.int 1) z p2)) none p3) p4) (lawH ⟨g, cl, fM least taken s, sM s, rM s⟩) (.list []) (lawH ⟨g, cl, fM least taken s, sM s, rM s⟩) := fun {g cl p1 p2 p3 p4 z} hg => by
    have hr : (lawH ⟨g, cl, fM least taken s, sM s, rM s⟩) (.r s.ri) = some (.list []) := by
      show rM s s.ri = _
      unfold rM; rw [if_pos rfl, hf]; rfl
    exact Ev.slice (LL hg) Prt.no (Prt.yes Ev.intC) (.inr ⟨_, rfl, hr⟩) (by decide) .frozen (fun _ _ => rfl)
  refine Exs.cons (Ex.assign (Ev.callE (LG G39) (Evs.cons (Ev.bin (Ev.tupD (Evs.cons Ev.strC (Evs.cons (daysEv (by omega) hk) Evs.nil rfl) rfl) (by rw [sizeLine_eq]; show 2 ≤ 16777216; decide)) (Ev.callT (LG GTup) (Evs.cons (frE (by walk_at "hp")) Evs.nil rfl) (CallD.tuple (.inl rfl) (by decide)) (fun _ => rfl) rfl rfl) (Bin.addTupNil (by simp)))
    (Evs.cons Ev.strC (Evs.cons (LG G67) Evs.nil rfl) rfl) rfl) (fn39 B).obj (fn39 B).data (safe_fail (out := failT) B (fn39 B) (fn67 B) cap hfr rfl (by rw [lawKind]; decide) rfl (by decide) rfl) (fun _ => rfl) rfl) LSt rfl) ?_
  obtain ⟨j, hj, hlab⟩ := labA_at (k : Int) ((ns.getD k 0).fdiv 3)
  have hnz : (ns.map D.int).length ≤ sizeLine := by rw [List.length_map, sizeLine_eq]; omega
  have hlz : (least.map D.int).length ≤ sizeLine := by rw [List.length_map, sizeLine_eq]; omega
  refine Exs.cons (Ex.assign (Ev.callF (LG G93) (Evs.cons (LC 4 rfl) (Evs.cons (Ev.bin (Ev.sub (LL (d := .list (ns.map .int)) (by walk_at "hp")) (LC 4 rfl) (SubD.list (j := k) (.inl rfl) (fun _ _ => rfl) hnz (.inl ⟨by omega, rfl⟩) (getD_some (by omega)))) Ev.intC (Bin.fdiv (by decide) rfl)) Evs.nil rfl) rfl) (fn93 B).obj (fn93 B).data
    (spec93 B (cap.le (by decide)) (by omega) (by omega) hj hlab rfl) (fun _ => rfl) rfl) LSt rfl) ?_
  have hrf : ∀ {g : Str → Option D} {cl : Nat → Option D}, (lawH ⟨g, cl, fM least taken s, sM s, rM s⟩) (.f 1) = some (.list (s.ref.map .int)) := rfl
  have hrz : (s.ref.map D.int).length ≤ sizeLine := by rw [List.length_map, sizeLine_eq]; omega
  refine Exs.cons (Ex.iff (b := true) (Tst.as (by rw [he]; simp) (Tst.cmp (Ev.sub (LL (d := .res (.f 100)) (by walk_at "hp")) (Ev.bin (LC 4 rfl) Ev.intC Bin.add) (SubD.list (j := k + 1) (.inr ⟨.f 100, rfl, rfl⟩) (fun _ _ => rfl) hlz (.inl ⟨by omega, by omega⟩) (getD_some (by omega))))
    (Ev.sub (LL (d := .res (.f 100)) (by walk_at "hp")) (LC 4 rfl) (SubD.list (j := k) (.inr ⟨.f 100, rfl, rfl⟩) (fun _ _ => rfl) hlz (.inl ⟨by omega, rfl⟩) (getD_some (by omega)))) Cmp.eq rfl))
    (Exs.cons (Ex.iff (b := false) (Tst.as (by decide +kernel) (Tst.cmp (LL (d := .str failT) (by walk_at "hp")) Ev.strC Cmp.neS rfl)) Exs.nil)
      (Exs.cons (Ex.expr (Ev.meth (LL (d := .res (.f 1)) (by walk_at "hp")) (Meth.list (.inr ⟨.f 1, rfl, hrf⟩) PySem.F.slot_list_append type_list_append') (Evs.cons (LC 4 rfl) Evs.nil rfl) (CallD.append (k := .f 1) hrf hrz) rfl rfl rfl (fun _ _ e => by cases e; rfl) rfl) (by intro a; simp) rfl rfl) Exs.nil))) ?_
  rw [lawH_f]
  refine Exs.le Exs.nil ?_
  refine lawLe' (by walk_at "gle") rfl (fun i => ?_) (fun j => OLe.refl _) (fun j => OLe.refl _)
  show OLe (upd (fM least taken s) 1 (some (.list (s.ref.map .int ++ [.int k]))) i) (fM least taken (outS k s) i)
  by_cases e : i = 1
  · subst e
    rw [upd_same]
    show Sp.Le _ (.list ((s.ref ++ [(k : Int)]).map .int))
    rw [List.map_append]; exact Sp.Le.refl _
  · rw [upd_ne e rfl]
    unfold fM
    simp only [if_neg e]
    exact OLe.refl _
end
end Mine
end

/-! # L6 -/
section
set_option maxRecDepth 100000
namespace Mine
section
variable {w : World} {h₀ : Heap} {A : Around} {env : Env} {c : Key} {ck : List (Str × Key)} {L fa cd : Addr} {σ σ' σ₁ σ₂ σ₃ : H} {d d₁ d₂ d₃ : D} {pos : Pos}
variable {ns ds least taken : List Int} {stay : Int} {p : Nat} {k : Nat} {s : MS} {text piece : Array UInt8} {g : Str → Option D} {cl : Nat → Option D} {f s' r : Nat → Option Sp}
/-- told, and the label, for one who is let in -/
theorem turnTold {t : Nat} {rest : List Int} (B : Base w h₀) (cap : Cap A 3) (hds : ds.length ≤ 20) (hk : k < ds.length) (hns : ns.length = ds.length) (hll : least.length = ds.length + 1) (hf : s.fr = (t : Int) :: rest) (hfl : s.fr.length ≤ 100) (he : least.getD (k + 1) 0 ≠ least.getD k 0)
    (h : Exs w h₀ A (lawEnv L fa cd) (.fr 0) lck (match loopAt 6 with | .If _ _ o _ => o | _ => []) (lawH ⟨gset (gset (gM ns ds.length p s text piece) "told" (.int t)) "piece" (.bytes (labA k ((ns.getD k 0).fdiv 3))), clM stay p ds (some (.int k)), fM least taken s, sM s, rM s⟩) .next σ') :
    Exs w h₀ A (lawEnv L fa cd) (.fr 0) lck (loopBody.drop 4) (lawH (lsM ns ds least taken stay p (some (.int k)) s text piece)) .next σ' := by
  have G39 : Glb h₀ "_safe_string" (.ref 39) := .main B (by kernel_rfl)
  have G67 : Glb h₀ "func_get_function_name" (.ref 67) := .main B (by kernel_rfl)
  have G93 : Glb h₀ "_law_label" (.ref 93) := .main B (by kernel_rfl)
  have GTup : Glb h₀ "tuple" (.type "tuple") := .boot B (by kernel_rfl) (by kernel_rfl) (by decide)
  have frE : ∀ {g : Str → Option D} {cl : Nat → Option D} {p1 p2 p3 p4 : Pos} {z : Nat}, g "free" = some (.res (.r s.ri)) → Ev w h₀ A (lawEnv L fa cd) (.fr 0) lck (.Subscript (.Name "free" p1) (.Slice none (some (.Constant (.int 1) z p2)) none p3) p4) (lawH ⟨g, cl, fM least taken s, sM s, rM s⟩) (.list [.int t]) (lawH ⟨g, cl, fM least taken s, sM s, rM s⟩) := fun {g cl p1 p2 p3 p4 z} hg => by
    have hr : (lawH ⟨g, cl, fM least taken s, sM s, rM s⟩) (.r s.ri) = some (.list (s.fr.map .int)) := by
      show rM s s.ri = _
      unfold rM; rw [if_pos rfl]
    have e : dpick (s.fr.map D.int) none (some 1) none = [.int t] := by
      rw [show (1 : Int) = ((1 : Nat) : Int) from rfl, dpick_upto, hf]; rfl
    rw [← e]
    exact Ev.slice (LL hg) Prt.no (Prt.yes Ev.intC) (.inr ⟨_, rfl, hr⟩) (by rw [List.length_map, sizeLine_eq]; omega) .frozen (fun _ _ => rfl)
  refine Exs.cons (Ex.assign (Ev.callF (LG G39) (Evs.cons (Ev.bin (Ev.tupD (Evs.cons Ev.strC (Evs.cons (daysEv (by omega) hk) Evs.nil rfl) rfl) (by rw [sizeLine_eq]; show 2 ≤ 16777216; decide)) (Ev.callT (LG GTup) (Evs.cons (frE (by walk_at "hp")) Evs.nil rfl) (CallD.tuple (.inl rfl) (by show 1 ≤ 16777216; decide)) (fun _ => rfl) rfl rfl) (Bin.addTup (by simp) (by simp) (by rw [sizeLine_eq]; show 3 ≤ 16777216; decide)))
    (Evs.cons Ev.strC (Evs.cons (LG G67) Evs.nil rfl) rfl) rfl) (fn39 B).obj (fn39 B).data (spec39 B (cap.le (by decide)) rfl (by show 3 ≤ 1000; decide) rfl rfl) (fun _ => rfl) rfl) LSt rfl) ?_
  obtain ⟨j, hj, hlab⟩ := labA_at (k : Int) ((ns.getD k 0).fdiv 3)
  have hnz : (ns.map D.int).length ≤ sizeLine := by rw [List.length_map, sizeLine_eq]; omega
  have hlz : (least.map D.int).length ≤ sizeLine := by rw [List.length_map, sizeLine_eq]; omega
  refine Exs.cons (Ex.assign (Ev.callF (LG G93) (Evs.cons (LC 4 rfl) (Evs.cons (Ev.bin (Ev.sub (LL (d := .list (ns.map .int)) (by walk_at "hp")) (LC 4 rfl) (SubD.list (j := k) (.inl rfl) (fun _ _ => rfl) hnz (.inl ⟨by omega, rfl⟩) (getD_some (by omega)))) Ev.intC (Bin.fdiv (by decide) rfl)) Evs.nil rfl) rfl) (fn93 B).obj (fn93 B).data
    (spec93 B (cap.le (by decide)) (by omega) (by omega) hj hlab rfl) (fun _ => rfl) rfl) LSt rfl) ?_
  exact Exs.cons (Ex.iff (b := false) (Tst.as (by simpa using he) (Tst.cmp (Ev.sub (LL (d := .res (.f 100)) (by walk_at "hp")) (Ev.bin (LC 4 rfl) Ev.intC Bin.add) (SubD.list (j := k + 1) (.inr ⟨.f 100, rfl, rfl⟩) (fun _ _ => rfl) hlz (.inl ⟨by omega, by omega⟩) (getD_some (by omega))))
    (Ev.sub (LL (d := .res (.f 100)) (by walk_at "hp")) (LC 4 rfl) (SubD.list (j := k) (.inr ⟨.f 100, rfl, rfl⟩) (fun _ _ => rfl) hlz (.inl ⟨by omega, rfl⟩) (getD_some (by omega)))) Cmp.eq rfl)) h) Exs.nil
end
end Mine
end

/-! # L7 -/
section
set_option maxRecDepth 100000
namespace Mine
section
variable {w : World} {h₀ : Heap} {A : Around} {env : Env} {c : Key} {ck : List (Str × Key)} {L fa cd : Addr} {σ σ' σ₁ σ₂ σ₃ : H} {d d₁ d₂ d₃ : D} {pos : Pos}
variable {ns ds least taken : List Int} {stay : Int} {p : Nat} {k : Nat} {s : MS} {text piece : Array UInt8} {g : Str → Option D} {cl : Nat → Option D} {f s' r : Nat → Option Sp}
theorem mulOk {n : Int} (h0 : -1000 ≤ n) (h1 : n ≤ 500) : MulOk " " n := mulOk_of 1 500 (by decide) (by omega) (by omega) (by decide) (by decide)
theorem mul_len {n : Int} (h1 : n ≤ 500) : (Txt.mul " " n).length ≤ 500 := by
  unfold Txt.mul
  by_cases e : n < 1
  · rw [if_pos e]; decide
  · rw [if_neg e]
    have gen : ∀ (m : Nat) (a : Array Nat), ((List.replicate m (Str.ofString " ").cps).foldl (· ++ ·) a).size = a.size + m := by
      intro m
      induction m with
      | zero => intro a; rfl
      | succ m ih =>
        intro a
        rw [List.replicate_succ, List.foldl_cons, ih, Array.size_append, show (Str.ofString " ").cps.size = 1 from rfl]; omega
    split
    · decide
    · show Array.size _ ≤ 500
      rw [gen]
      show 0 + n.toNat ≤ 500
      omega
theorem fM_line {t : Nat} (ht : t < 3) : fM least taken s (10 + t) = (s.lines[t]?).map (fun ys => .list (ys.map .str)) := by
  unfold fM
  rw [if_neg (by omega), if_neg (by omega), if_neg (by omega), if_neg (by omega), if_neg (by omega), if_neg (by omega), if_pos (by omega), Nat.add_sub_cancel_left]
theorem line_at {t : Nat} {row : List Str} (h : t < s.lines.length) (hrow : s.lines.getD t [] = row) : s.lines[t]? = some row := by
  rw [List.getElem?_eq_getElem h]
  rw [List.getD_eq_getElem?_getD, List.getElem?_eq_getElem h] at hrow
  exact congrArg some hrow
theorem ne10 {t : Nat} : (2 ≠ 10 + t) ∧ (0 ≠ 10 + t) := ⟨by omega, by omega⟩
theorem cast_at {a b : Nat} (h : a = b) : 0 ≤ (a : Int) ∧ (a : Int) = (b : Int) := ⟨by omega, by omega⟩
theorem le_size {n : Nat} (h : n ≤ 1000) : n ≤ sizeLine := by rw [sizeLine_eq]; omega
theorem turnIn {t : Nat} {piece0 : Array UInt8} {rest : List Int} {row : List Str} (B : Base w h₀) (cap : Cap A 3) (hds : ds.length ≤ 20) (hk : k < ds.length) (hll : least.length = ds.length + 1) (hf : s.fr = (t : Int) :: rest) (hfl : s.fr.length ≤ 100) (hsl : s.st.length ≤ 100) (hkl : s.kept.length ≤ 100)
    (ht : t < p) (hp : p ≤ 3) (he : (t : Int) = (least.getD k 0).fmod p) (hlin : s.lines.length = p) (hrow : s.lines.getD t [] = row) (hsn : s.seen.length = p) (hn0 : -1000 ≤ ds.getD k 0 - s.seen.getD t 0 - 1) (hn1 : ds.getD k 0 - s.seen.getD t 0 - 1 ≤ 500)
    (hr1 : row.length ≤ 1000) (hr2 : ∀ y ∈ row, y.length ≤ 1000) (hbk : s.book.length ≤ 1000) (hpz : piece.size ≤ 10) :
    Exs w h₀ A (lawEnv L fa cd) (.fr 0) lck (match loopAt 6 with | .If _ _ o _ => o | _ => []) (lawH ⟨gset (gset (gM ns ds.length p s text piece0) "told" (.int t)) "piece" (.bytes piece), clM stay p ds (some (.int k)), fM least taken s, sM s, rM s⟩) .next
      (lawH (lsM ns ds least taken stay p (some (.int k)) (inS ds stay k s t) text (#[40] ++ piece))) := by
  have G47 : Glb h₀ "_max_append" (.ref 47) := .main B (by kernel_rfl)
  have G74 : Glb h₀ "add_callers" (.ref 74) := .main B (by kernel_rfl)
  have GChr : Glb h₀ "chr" (.builtin "chr") := .boot B (by kernel_rfl) (by kernel_rfl) (by decide)
  have hlz : (least.map D.int).length ≤ sizeLine := by rw [List.length_map, sizeLine_eq]; omega
  have hsz : (s.seen.map D.int).length ≤ sizeLine := by rw [List.length_map, hsn]; exact le_size (Nat.le_trans hp (by decide))
  have hp0 : (p : Int) ≠ 0 := by omega
  have hds' : ds.length ≤ 100 := Nat.le_trans hds (by decide)
  let G : Str → Option D := gset (gset (gM ns ds.length p s text piece0) "told" (.int t)) "piece" (.bytes piece)
  have leastE : ∀ {g : Str → Option D} {f s' r : Nat → Option Sp} {p1 p2 p3 : Pos}, g "least" = some (.res (.f 100)) → f 100 = some (.list (least.map .int)) → Ev w h₀ A (lawEnv L fa cd) (.fr 0) lck (.Subscript (.Name "least" p1) (.Name "k" p2) p3) (lawH ⟨g, clM stay p ds (some (.int k)), f, s', r⟩) (.int (least.getD k 0)) (lawH ⟨g, clM stay p ds (some (.int k)), f, s', r⟩) := fun hg h1 =>
    Ev.sub (LL hg) (LC 4 rfl) (SubD.list (j := k) (.inr ⟨.f 100, rfl, h1⟩) (fun _ _ => rfl) hlz (.inl ⟨by omega, rfl⟩) (getD_some (by omega)))
  -- told is the room
  refine Exs.cons (Ex.iff (b := false) (Tst.as (by rw [← he]; simp) (Tst.cmp (LL (d := .int t) (by walk_at "hp")) (Ev.bin (leastE (by walk_at "hp") rfl) (LC 1 rfl) (Bin.mod hp0)) Cmp.ne rfl)) Exs.nil) ?_
  have hrow' : (lawH ⟨G, clM stay p ds (some (.int k)), fM least taken s, sM s, rM s⟩) (.f (10 + t)) = some (.list (row.map .str)) := by
    show fM least taken s (10 + t) = _
    rw [fM_line (Nat.lt_of_lt_of_le ht hp), line_at (hlin ▸ ht) hrow]; rfl
  have hgap : (gapS (ds.getD k 0 - s.seen.getD t 0 - 1) k).length ≤ 501 := by
    unfold gapS
    rw [Str.length_append]
    have := mul_len hn1
    have e : (lbl (k : Int)).length = 1 := rfl
    omega
  -- the row grows
  refine Exs.step (σ₂ := lawH ⟨G, clM stay p ds (some (.int k)), upd (fM least taken s) (10 + t) (some (.list ((maxApp row (gapS (ds.getD k 0 - s.seen.getD t 0 - 1) k) stay).map .str))), sM s, rM s⟩)
    (Ex.expr (Ev.callF (LG G47) (Evs.cons (Ev.sub (LL (d := .list ((List.range p).map fun i => .res (.f (10 + i)))) (by walk_at "hp")) (LL (d := .int t) (by walk_at "hp")) (SubD.list (j := t) (d := .res (.f (10 + t))) (.inl rfl) (fun _ _ => rfl) (by rw [List.length_map, List.length_range]; exact le_size (Nat.le_trans hp (by decide))) (.inl (cast_at rfl)) (by rw [List.getElem?_map, List.getElem?_range ht]; rfl)))
      (Evs.cons (Ev.bin (Ev.bin Ev.strC (Ev.bin (Ev.bin (daysEv hds' hk) (Ev.sub (LL (d := .res (.f 2)) (by walk_at "hp")) (LL (d := .int t) (by walk_at "hp")) (SubD.list (j := t) (.inr ⟨.f 2, rfl, rfl⟩) (fun _ _ => rfl) hsz (.inl (cast_at rfl)) (getD_some (hsn ▸ ht)))) Bin.sub) Ev.intC Bin.sub) (Bin.mulS (mulOk hn0 hn1)))
        (Ev.callB (LG GChr) (Evs.cons (Ev.bin Ev.intC (LC 4 rfl) Bin.add) Evs.nil rfl) (CallD.chr (by omega) (by omega)) (fun _ => rfl) rfl rfl) (Bin.addS (by have := mul_len hn1; show _ + 1 ≤ _; omega)))
      (Evs.cons (LC 0 rfl) Evs.nil rfl) rfl) rfl) (fn47 B).obj (fn47 B).data (spec47 B (cap.le (by decide)) hrow' rfl hr1 hr2 (Nat.le_trans hgap (by decide)) rfl) (fun _ => rfl) rfl) (by intro a; simp) rfl rfl) lawH_f ?_
  let f1 : Nat → Option Sp := upd (fM least taken s) (10 + t) (some (.list ((maxApp row (gapS (ds.getD k 0 - s.seen.getD t 0 - 1) k) stay).map .str)))
  have hf2 : f1 2 = some (.list (s.seen.map .int)) := upd_ne ne10.1 rfl
  have hf0 : f1 0 = some (.list (s.kept.map .int)) := upd_ne ne10.2 rfl
  -- seen
  refine Exs.step (σ₂ := lawH ⟨G, clM stay p ds (some (.int k)), upd f1 2 (some (.list ((s.seen.map D.int).set t (.int (ds.getD k 0))))), sM s, rM s⟩)
    (Ex.setSub (daysEv hds' hk) (LL (d := .res (.f 2)) (by walk_at "hp")) (LL (d := .int t) (by walk_at "hp")) (SetD.list (k := .f 2) (j := t) hf2 hsz (.inl (cast_at rfl)) (by rw [List.length_map]; exact hsn ▸ ht)) rfl) lawH_f ?_
  let f2 : Nat → Option Sp := upd f1 2 (some (.list ((s.seen.map D.int).set t (.int (ds.getD k 0)))))
  have hr : rM s s.ri = some (.list (s.fr.map .int)) := if_pos rfl
  have hrn : rM s (s.ri + 1) = none := by unfold rM; rw [if_neg (by omega), if_neg (by omega)]
  have hs : sM s s.si = some (.list (s.st.map prD)) := if_pos rfl
  have hk0 : f2 0 = some (.list (s.kept.map .int)) := upd_ne (by decide) hf0
  -- free
  refine Exs.cons (Ex.assign (Ev.slice (xs := s.fr.map .int) (LL (d := .res (.r s.ri)) (by walk_at "hp")) (Prt.yes Ev.intC) Prt.no (.inr ⟨_, rfl, hr⟩) (by rw [List.length_map]; exact le_size (Nat.le_trans hfl (by decide))) (.key (k := .r (s.ri + 1)) rfl hrn) (fun _ _ => rfl)) (lawH_r ▸ LSt) rfl) ?_
  let G2 : Str → Option D := gset G "free" (.res (.r (s.ri + 1)))
  let r2 : Nat → Option Sp := upd (rM s) (s.ri + 1) (some (.list (dpick (s.fr.map D.int) (some 1) none none)))
  have hs2 : (lawH ⟨G2, clM stay p ds (some (.int k)), f2, sM s, r2⟩) (.s s.si) = some (.list (s.st.map prD)) := hs
  -- staying
  refine Exs.step (σ₂ := lawH ⟨G2, clM stay p ds (some (.int k)), f2, upd (sM s) s.si (some (.list (s.st.map prD ++ [prD (ds.getD k 0 + stay, (t : Int))]))), r2⟩)
    (Ex.expr (Ev.meth (LL (d := .res (.s s.si)) (by walk_at "hp")) (Meth.list (.inr ⟨.s s.si, rfl, hs2⟩) PySem.F.slot_list_append type_list_append')
      (Evs.cons (Ev.tupD (Evs.cons (Ev.bin (daysEv hds' hk) (LC 0 rfl) Bin.add) (Evs.cons (LL (d := .int t) (by walk_at "hp")) Evs.nil rfl) rfl) (by rw [sizeLine_eq]; show 2 ≤ 16777216; decide)) Evs.nil rfl)
      (CallD.append (k := .s s.si) hs2 (by rw [List.length_map]; exact le_size (Nat.le_trans hsl (by decide)))) rfl rfl rfl (fun _ _ e => by cases e; rfl) rfl) (by intro a; simp) rfl rfl) lawH_s ?_
  -- book
  refine Exs.cons (Ex.assign (Ev.callF (LG G74) (Evs.cons (LL (d := .dict s.book) (by walk_at "hp")) (Evs.cons (Ev.dictOne B.lim (LL (d := .int t) (by walk_at "hp")) Ev.intC) Evs.nil rfl) rfl) (fn74 B).obj (fn74 B).data
    (spec74 B (cap.le (by decide)) hbk rfl rfl) (fun _ => rfl) rfl) LSt rfl) ?_
  -- kept
  refine Exs.step (Ex.expr (Ev.meth (LC (d := .res (.f 0)) 3 rfl) (Meth.list (.inr ⟨.f 0, rfl, hk0⟩) PySem.F.slot_list_append type_list_append') (Evs.cons (LC 4 rfl) Evs.nil rfl)
      (CallD.append (k := .f 0) hk0 (by rw [List.length_map]; exact le_size (Nat.le_trans hkl (by decide)))) rfl rfl rfl (fun _ _ e => by cases e; rfl) rfl) (by intro a; simp) rfl rfl) lawH_f ?_
  -- piece
  refine Exs.cons (Ex.assign (Ev.bin Ev.bytesC (LL (d := .bytes piece) (by walk_at "hp")) (Bin.addB (by show 1 + piece.size ≤ _; omega))) LSt rfl) ?_
  refine Exs.le Exs.nil ?_
  refine lawLe' (by walk_at "gle") rfl (fun i => ?_) (fun j => ?_) (fun j => ?_)
  · show OLe (upd f2 0 (some (.list (s.kept.map D.int ++ [.int k]))) i) (fM least taken (inS ds stay k s t) i)
    by_cases e0 : i = 0
    · subst e0
      rw [upd_same]
      show Sp.Le _ (.list ((s.kept ++ [(k : Int)]).map .int))
      rw [List.map_append]; exact Sp.Le.refl _
    rw [upd_ne e0 rfl]
    by_cases e2 : i = 2
    · subst e2
      show Sp.Le (.list ((s.seen.map D.int).set t (.int (ds.getD k 0)))) (.list ((s.seen.set t (ds.getD k 0)).map .int))
      rw [List.map_set]; exact Sp.Le.refl _
    show OLe (upd f1 2 _ i) _
    rw [upd_ne e2 rfl]
    show OLe (upd (fM least taken s) (10 + t) _ i) _
    by_cases et : i = 10 + t
    · subst et
      rw [upd_same, fM_line (Nat.lt_of_lt_of_le ht hp)]
      show OLe _ (((s.lines.set t (maxApp (s.lines.getD t []) (gapS (ds.getD k 0 - s.seen.getD t 0 - 1) k) stay))[t]?).map _)
      rw [List.getElem?_set_self (hlin ▸ ht), hrow]
      exact OLe.refl _
    · rw [upd_ne et rfl]
      unfold fM
      rw [if_neg e0, if_neg e0, if_neg e2, if_neg e2]
      by_cases e10 : 10 ≤ i
      · have : (inS ds stay k s t).lines[i - 10]? = s.lines[i - 10]? := by
          show (s.lines.set t _)[i - 10]? = _
          rw [List.getElem?_set_ne (by omega)]
        rw [this]
        exact OLe.refl _
      · simp only [if_neg e10]
        exact OLe.refl _
  · show OLe (upd (sM s) s.si _ j) (sM (inS ds stay k s t) j)
    unfold upd sM
    show OLe _ (if j = s.si then some (Sp.list ((s.st ++ [(ds.getD k 0 + stay, (t : Int))]).map prD)) else if j < s.si then some .junk else none)
    by_cases e : j = s.si
    · rw [if_pos e, if_pos e, List.map_append]; exact OLe.refl _
    · rw [if_neg e, if_neg e, if_neg e]; exact OLe.refl _
  · show OLe (upd (rM s) (s.ri + 1) _ j) (rM (inS ds stay k s t) j)
    unfold upd rM
    show OLe _ (if j = s.ri + 1 then some (Sp.list ((s.fr.drop 1).map .int)) else if j < s.ri + 1 then some .junk else none)
    by_cases e : j = s.ri + 1
    · rw [if_pos e, if_pos e, show (1 : Int) = ((1 : Nat) : Int) from rfl, dpick_from, List.map_drop]; exact OLe.refl _
    · rw [if_neg e, if_neg e]
      by_cases e1 : j = s.ri
      · rw [if_pos e1, if_pos (by omega)]; trivial
      · rw [if_neg e1]
        by_cases e2 : j < s.ri
        · rw [if_pos e2, if_pos (by omega)]; trivial
        · rw [if_neg e2, if_neg (by omega)]; trivial
end
end Mine
end

/-! # L8 -/
section
set_option maxRecDepth 100000
namespace Mine
section
variable {w : World} {h₀ : Heap} {A : Around} {env : Env} {c : Key} {ck : List (Str × Key)} {L fa cd : Addr} {σ σ' σ₁ σ₂ σ₃ : H} {d d₁ d₂ d₃ : D} {pos : Pos}
variable {ns ds least taken : List Int} {stay : Int} {p : Nat} {k : Nat} {s : MS} {text piece : Array UInt8}
/-- sizes along the run -/
structure Inv (p k : Nat) (s : MS) : Prop where
  st : s.st.length ≤ k
  fr : s.fr.length + s.st.length ≤ p + k
  kept : s.kept.length ≤ k
  ref : s.ref.length ≤ k
  lines : s.lines.length = p
  seen : s.seen.length = p
theorem Inv.zero : Inv p 0 (s0 p) := ⟨by simp [s0], by simp [s0], by simp [s0], by simp [s0], by simp [s0], by simp [s0]⟩
theorem Inv.rel (h : Inv p k s) (j : Nat) : Inv p k (relS s j) :=
  ⟨by show (s.st.drop j).length ≤ k; rw [List.length_drop]; have := h.st; omega,
   by
    show (s.fr ++ (s.st.take j).map (·.2)).length + (s.st.drop j).length ≤ p + k
    rw [List.length_append, List.length_map, List.length_drop, List.length_take]
    have := h.fr
    omega, h.kept, h.ref, h.lines, h.seen⟩
theorem Inv.mid (h : Inv p k s) : Inv p k (midS ds k s) :=
  let r := h.rel (Mine.rel (ds.getD k 0) s)
  ⟨r.st, r.fr, r.kept, r.ref, r.lines, r.seen⟩
theorem Inv.step (h : Inv p k s) : Inv p (k + 1) (stepS ds least stay k s) := by
  have m := h.mid (ds := ds)
  unfold stepS
  dsimp only
  split
  · exact ⟨Nat.le_succ_of_le m.st, Nat.le_succ_of_le m.fr, Nat.le_succ_of_le m.kept, by show (_ ++ [_]).length ≤ _; rw [List.length_append]; have := m.ref; simpa using this, m.lines, m.seen⟩
  · refine ⟨?_, ?_, ?_, Nat.le_succ_of_le m.ref, ?_, ?_⟩
    · show (_ ++ [_]).length ≤ _; rw [List.length_append]; have := m.st; simpa using this
    · show (List.drop 1 _).length + (_ ++ [_]).length ≤ _
      rw [List.length_append, List.length_drop]
      have := m.fr
      simp only [List.length_cons, List.length_nil]
      omega
    · show (_ ++ [_]).length ≤ _; rw [List.length_append]; have := m.kept; simpa using this
    · show (List.set _ _ _).length = _; rw [List.length_set]; exact m.lines
    · show (List.set _ _ _).length = _; rw [List.length_set]; exact m.seen
theorem inv_all : ∀ k, Inv p k (stS ds least stay p k)
  | 0 => .zero
  | k + 1 => (inv_all k).step
/-- the text and the piece -/
noncomputable def pcOf (ns least : List Int) (k : Nat) : Array UInt8 := if least.getD (k + 1) 0 = least.getD k 0 then labA k ((ns.getD k 0).fdiv 3) else #[40] ++ labA k ((ns.getD k 0).fdiv 3)
noncomputable def txt (ns ds least : List Int) (stay : Int) (p : Nat) : Nat → Array UInt8 × Array UInt8
  | 0 => (#[], #[])
  | k + 1 => ((txt ns ds least stay p k).1 ++ ((txt ns ds least stay p k).2 ++ closeN (Mine.rel (ds.getD k 0) (stS ds least stay p k))), pcOf ns least k)
theorem pcOf_size : (pcOf ns least k).size ≤ 11 := by
  unfold pcOf
  have := labA_size (k : Int) ((ns.getD k 0).fdiv 3)
  split
  · omega
  · rw [Array.size_append]; show 1 + _ ≤ 11; omega
theorem rel_le (dk : Int) (s : MS) : Mine.rel dk s ≤ s.st.length := by
  unfold Mine.rel
  exact (List.takeWhile_sublist _).length_le
theorem closeN_size (j : Nat) : (closeN j).size = j := by unfold closeN; simp
theorem txt_size : ∀ k, (txt ns ds least stay p k).2.size ≤ 11 ∧ (txt ns ds least stay p k).1.size ≤ k * (11 + k)
  | 0 => ⟨Nat.zero_le _, Nat.zero_le _⟩
  | k + 1 => by
    obtain ⟨h1, h2⟩ := txt_size k
    refine ⟨pcOf_size, ?_⟩
    show Array.size (_ ++ (_ ++ _)) ≤ _
    rw [Array.size_append, Array.size_append, closeN_size]
    have h3 := rel_le (ds.getD k 0) (stS ds least stay p k)
    have h4 := (inv_all (ds := ds) (least := least) (stay := stay) (p := p) k).st
    have e : (k + 1) * (11 + (k + 1)) = k * (11 + k) + k + (11 + (k + 1)) := by
      rw [Nat.succ_mul, show 11 + (k + 1) = (11 + k) + 1 by omega, Nat.mul_succ]
    rw [e]
    omega
theorem pcOf_net (hk : k < 20) : TokNet (pcOf ns least k) (stepS ds least stay k s).pn := by
  unfold pcOf stepS
  dsimp only
  have h := labA_net (k := (k : Int)) (kind := (ns.getD k 0).fdiv 3) (by omega) (by omega)
  split
  · exact h
  · have := TokNet.open.append h
    exact this
theorem txt_net : ∀ k, k ≤ 20 → TokNet (txt ns ds least stay p k).2 (stS ds least stay p k).pn ∧ TokNet (txt ns ds least stay p k).1 (stS ds least stay p k).tn
  | 0, _ => ⟨.nil, .nil⟩
  | k + 1, hk => by
    obtain ⟨h1, h2⟩ := txt_net k (by omega)
    refine ⟨pcOf_net (by omega), ?_⟩
    have h3 := h2.append (h1.append (TokNet.closes (Mine.rel (ds.getD k 0) (stS ds least stay p k))))
    have e : (stS ds least stay p (k + 1)).tn = (stS ds least stay p k).tn + ((stS ds least stay p k).pn + -((Mine.rel (ds.getD k 0) (stS ds least stay p k) : Nat) : Int)) := by
      have e1 : (midS ds k (stS ds least stay p k)).tn = (stS ds least stay p k).tn + ((stS ds least stay p k).pn - ((Mine.rel (ds.getD k 0) (stS ds least stay p k) : Nat) : Int)) := rfl
      rw [← Int.sub_eq_add_neg, ← e1]
      show (stepS ds least stay k (stS ds least stay p k)).tn = _
      unfold stepS
      dsimp only
      split <;> rfl
    rw [e]
    exact h3
theorem upd_upd {α : Type} {f : Nat → α} {i : Nat} {a b : α} : upd (upd f i a) i b = upd f i b := by
  funext j; unfold upd; split <;> rfl
theorem sz11 {k n p a b c : Nat} (hn : n ≤ 20) (hk : k < n) (hp : p ≤ 3) (h1 : a ≤ k) (h2 : b + a ≤ p + k) (h3 : c ≤ a) : a ≤ 100 ∧ b ≤ 100 ∧ c ≤ 20 := by omega
theorem sz12 {k n t : Nat} (hn : n ≤ 20) (hk : k < n) (h : t ≤ k) : t ≤ 100 := by omega
theorem sz13 {k n t : Nat} (ht : t = n) (hn : n ≤ 20) (hk : k < n) : k < t ∧ t ≤ 100 := by omega
theorem sz14 {t p : Nat} {x : Int} (e : x = t) (h : x < p) : t < p := by omega
theorem turn (B : Base w h₀) (cap : Cap A 3) (hfr : A.frames = some [lawEnv L fa cd]) (hds : ds.length ≤ 20) (hk : k < ds.length) (hns : ns.length = ds.length) (hll : least.length = ds.length + 1) (htk : taken.length = ds.length) (hp : p ≤ 3)
    (inv : Inv p k s) (ok : okS ds least taken stay p k s = true) (htn : TokNet piece s.pn) (hpz : piece.size ≤ 100) (htx : text.size ≤ 1000) :
    Exs w h₀ A (lawEnv L fa cd) (.fr 0) lck loopBody (lawH (lsM ns ds least taken stay p (some (.int k)) s text piece)) .next
      (lawH (lsM ns ds least taken stay p (some (.int k)) (stepS ds least stay k s) (text ++ (piece ++ closeN (Mine.rel (ds.getD k 0) s))) (pcOf ns least k))) := by
  have i1 := inv.rel (Mine.rel (ds.getD k 0) s)
  have im := inv.mid (ds := ds)
  have h1 := inv.st
  have h2 := inv.fr
  have h3 := rel_le (ds.getD k 0) s
  have hpc := closeN_size (Mine.rel (ds.getD k 0) s)
  obtain ⟨u1, u2, u3⟩ := sz11 hds hk hp h1 h2 h3
  refine Exs.cons (whileL cap u1 u2 (Nat.le_trans hds (by decide)) hk (Nat.le_trans hpz (by decide))) ?_
  unfold okS at ok
  dsimp only at ok
  rw [Bool.and_eq_true] at ok
  obtain ⟨ok1, ok2⟩ := ok
  have tn' : TokNet (piece ++ closeN (Mine.rel (ds.getD k 0) s)) (relS s (Mine.rel (ds.getD k 0) s)).pn := by
    have := htn.append (TokNet.closes (Mine.rel (ds.getD k 0) s))
    rwa [← Int.sub_eq_add_neg] at this
  refine turn1 (rest := []) B cap (sz13 htk hds hk).1 (sz13 htk hds hk).2 tn' (by rw [Array.size_append, hpc]; exact Nat.le_trans (Nat.add_le_add hpz u3) (by decide)) htx (of_decide_eq_true ok1) ?_
  show Exs _ _ _ _ _ _ _ (lawH (lsM ns ds least taken stay p (some (.int k)) (midS ds k s) _ _)) _ _
  generalize text ++ (piece ++ closeN (Mine.rel (ds.getD k 0) s)) = text'
  generalize piece ++ closeN (Mine.rel (ds.getD k 0) s) = piece'
  have m1 := im.st
  have m2 := im.fr
  have m3 := im.kept
  have m4 := im.ref
  have m5 := im.lines
  have m6 := im.seen
  unfold stepS pcOf
  dsimp only
  generalize midS ds k s = b at *
  by_cases he : least.getD (k + 1) 0 = least.getD k 0
  · rw [if_pos he] at ok2
    rw [if_pos he, if_pos he]
    exact turnOut B cap hfr hds hk hns hll (sz12 hds hk m4) (List.isEmpty_iff.mp ok2) he
  · rw [if_neg he] at ok2
    rw [if_neg he, if_neg he]
    simp only [Bool.and_eq_true, decide_eq_true_eq, Bool.not_eq_true'] at ok2
    obtain ⟨⟨⟨⟨⟨⟨⟨⟨q1, q2⟩, q3⟩, q4⟩, q5⟩, q6⟩, q7⟩, q8⟩, q9⟩ := ok2
    cases hf : b.fr with
    | nil => rw [hf] at q1; cases q1
    | cons told rest =>
      have e0 : b.fr.getD 0 0 = told := by rw [hf]; rfl
      rw [hf] at q2 q3 q4 q5 q6 q7 q8
      simp only [List.getD_cons_zero] at q2 q3 q4 q5 q6 q7 q8 ⊢
      obtain ⟨t, rfl⟩ : ∃ t : Nat, told = t := ⟨told.toNat, by omega⟩
      rw [show (t : Int).toNat = t from rfl] at q5 q6 q7 q8
      obtain ⟨v1, v2, _⟩ := sz11 hds hk hp m1 m2 (Nat.zero_le _)
      refine turnTold B cap hds hk hns hll hf v2 he ?_
      exact turnIn B cap hds hk hll hf v2 v1 (sz12 hds hk m3) (sz14 rfl q4) hp q2 m5 rfl m6 q5 q6 q7 (fun y hy => of_decide_eq_true (List.all_eq_true.mp q8 y hy)) q9 (labA_size _ _)
/-- the whole main loop -/
theorem mainLoop (B : Base w h₀) (cap : Cap A 3) (hfr : A.frames = some [lawEnv L fa cd]) (hds : ds.length ≤ 20) (hns : ns.length = ds.length) (hll : least.length = ds.length + 1) (htk : taken.length = ds.length) (hp : p ≤ 3)
    (ok : ∀ k, k < ds.length → okS ds least taken stay p k (stS ds least stay p k) = true) :
    Ex w h₀ A (lawEnv L fa cd) (.fr 0) lck (lawAt 18) (lawH (lsM ns ds least taken stay p none (s0 p) #[] #[])) .next
      (lawH (lsM ns ds least taken stay p (if ds.length = 0 then none else some (.int ((ds.length - 1 : Nat) : Int))) (stS ds least stay p ds.length) (txt ns ds least stay p ds.length).1 (txt ns ds least stay p ds.length).2)) := by
  refine Ex.forN (ds := rngL ds.length) (n := ds.length) (fun i => lawH (lsM ns ds least taken stay p (if i = 0 then none else some (.int ((i - 1 : Nat) : Int))) (stS ds least stay p i) (txt ns ds least stay p i).1 (txt ns ds least stay p i).2))
    (by unfold rngL; rw [List.length_map, List.length_range]) (Itr.range (LL (d := .rng 0 ds.length) (by walk_at "hp")) cap.handled (by rw [sizeLine_eq]; omega)) (fun _ _ => trivial) (fun i d' hd => ?_) (fun _ _ => rfl) (fun _ => rfl)
  unfold rngL at hd
  rw [List.getElem?_map, Option.map_eq_some_iff] at hd
  obtain ⟨n, hn, rfl⟩ := hd
  obtain ⟨hlt, rfl⟩ := List.getElem?_eq_some_iff.mp hn
  rw [List.length_range] at hlt
  rw [List.getElem_range]
  have hst : St w h₀ A (lawEnv L fa cd) (.fr 0) lck "k" (.int (i : Int)) (lawH (lsM ns ds least taken stay p (if i = 0 then none else some (.int ((i - 1 : Nat) : Int))) (stS ds least stay p i) (txt ns ds least stay p i).1 (txt ns ds least stay p i).2))
      (lawH (lsM ns ds least taken stay p (some (.int i)) (stS ds least stay p i) (txt ns ds least stay p i).1 (txt ns ds least stay p i).2)) := by
    have h := LCt (w := w) (h₀ := h₀) (A := A) (L := L) (fa := fa) (cd := cd) (d := .int (i : Int)) (g := gM ns ds.length p (stS ds least stay p i) (txt ns ds least stay p i).1 (txt ns ds least stay p i).2) (cl := clM stay p ds (if i = 0 then none else some (.int ((i - 1 : Nat) : Int))))
      (f := fM least taken (stS ds least stay p i)) (s := sM (stS ds least stay p i)) (r := rM (stS ds least stay p i)) (y := "k") 4
    unfold clM at h
    rw [upd_upd] at h
    exact h
  refine ⟨_, Tgt.name hst, ?_⟩
  obtain ⟨z1, z2⟩ := txt_size (ns := ns) (ds := ds) (least := least) (stay := stay) (p := p) i
  have z3 : i * (11 + i) ≤ 19 * 30 := Nat.mul_le_mul (by omega) (by omega)
  have := turn (s := stS ds least stay p i) (text := (txt ns ds least stay p i).1) (piece := (txt ns ds least stay p i).2) B cap hfr hds hlt hns hll htk hp (inv_all i) (ok i hlt) (txt_net i (by omega)).1 (by omega) (by omega)
  rw [if_neg (Nat.succ_ne_zero i), Nat.add_sub_cancel]
  exact this
end
end Mine
end

/-! # L9 -/
section
set_option maxRecDepth 100000
namespace Mine
section
variable {w : World} {h₀ : Heap} {A : Around} {env : Env} {c : Key} {ck : List (Str × Key)} {L fa cd : Addr} {σ σ' σ₁ σ₂ σ₃ : H} {d d₁ d₂ d₃ : D} {pos : Pos}
variable {ns ds least taken : List Int} {stay : Int} {p : Nat} {k : Nat} {s : MS} {text piece : Array UInt8} {out : Out} {g : Str → Option D} {cl : Nat → Option D} {f s' r : Nat → Option Sp}

/-! ## behind the main loop: the whole text's depth -/
theorem mulClose (j : Nat) : ((List.replicate j ([41] : List UInt8)).flatten).toArray = closeN j := by
  unfold closeN
  congr 1
  induction j with
  | zero => rfl
  | succ j ih => rw [List.replicate_succ, List.flatten_cons, ih]; rfl
theorem st19 {ko : Option D} (B : Base w h₀) (cap : Cap A 3) (h1 : TokNet text s.tn) (h2 : TokNet piece s.pn) (he : s.tn + s.pn - s.st.length = 0) (hst : s.st.length ≤ 100) (htx : text.size ≤ 1000) (hpz : piece.size ≤ 100)
    (h : Exs w h₀ A (lawEnv L fa cd) (.fr 0) lck (lawFrom 20) (lawH (lsM ns ds least taken stay p ko s text piece)) out σ') :
    Exs w h₀ A (lawEnv L fa cd) (.fr 0) lck (lawFrom 19) (lawH (lsM ns ds least taken stay p ko s text piece)) out σ' := by
  have GPD : Glb h₀ "_paren_depth" (.ref 60) := .main B (by kernel_rfl)
  have GLen : Glb h₀ "len" (.builtin "len") := .boot B (by kernel_rfl) (by kernel_rfl) (by decide)
  obtain ⟨full, hseg, hnet⟩ := (h1.append h2).append (TokNet.closes s.st.length)
  have hs : sM s s.si = some (.list (s.st.map prD)) := if_pos rfl
  have hb : (([41] : List UInt8).toArray.size : Nat) = 1 := rfl
  have e : (((List.replicate ((s.st.map prD).length : Int).toNat ([41] : List UInt8)).flatten).toArray) = closeN s.st.length := by
    rw [List.length_map, Int.toNat_natCast, mulClose]
  have hz := closeN_size s.st.length
  have mul : Bin w h₀ A .Mult (.bytes ([41] : List UInt8).toArray) (.int ((s.st.map prD).length : Nat)) (lawH (lsM ns ds least taken stay p ko s text piece)) (.bytes (closeN s.st.length)) (lawH (lsM ns ds least taken stay p ko s text piece)) := by
    rw [← e]
    exact Bin.mulB (by simp) (by rw [List.length_map]; omega) (by rw [List.length_map]; omega) (by decide)
  refine Exs.cons (Ex.iff (b := false) (Tst.as (by rw [hnet]; simp; omega) (Tst.cmp (Ev.callF (LG GPD) (Evs.cons
    (Ev.bin (Ev.bin (LL (d := .bytes text) (by walk_at "hp")) (LL (d := .bytes piece) (by walk_at "hp")) (Bin.addB (by omega)))
      (Ev.bin Ev.bytesC (Ev.callB (LG GLen) (Evs.cons (LL (d := .res (.s s.si)) (by walk_at "hp")) Evs.nil rfl) (CallD.lenList (.inr ⟨_, rfl, hs⟩) (by rw [List.length_map, sizeLine_eq]; omega)) (fun _ => rfl) rfl rfl) mul)
      (Bin.addB (by rw [Array.size_append]; omega))) Evs.nil rfl) (fn60 B).obj (fn60 B).data (spec60' B (cap.le (by decide)) (by rw [Array.size_append, Array.size_append]; omega) hseg rfl) (fun _ => rfl) rfl) Ev.intC Cmp.ne rfl)) Exs.nil) h

/-! ## the lines -/
theorem pick_map {α β : Type} (f : α → β) (xs : List α) (js : List Nat) : js.filterMap ((xs.map f)[·]?) = (js.filterMap (xs[·]?)).map f := by
  induction js with
  | nil => rfl
  | cons j r ih =>
    rw [List.filterMap_cons, List.filterMap_cons, List.getElem?_map, ih]
    cases xs[j]? <;> rfl
theorem dpick_every (xs : List Int) (room price : Int) : dpick (xs.map .int) (some room) none (some price) = (everyK xs room price).map .int := by
  unfold dpick everyK
  rw [pick_map, List.length_map]
noncomputable def lineRhs : Expr := match lawAt 20 with
  | .If (.Compare _ _ [e] _) _ _ _ => e
  | _ => default
noncomputable def lineIn : Expr := match lineRhs with
  | .ListComp e _ _ _ => e
  | _ => default
noncomputable def lineSc : Scope := match lineRhs with
  | .ListComp _ _ s _ => s
  | _ => default
noncomputable def lineInSc : Scope := match lineIn with
  | .ListComp _ _ s _ => s
  | _ => default
noncomputable def ckL : List (Str × Key) := [("price", .fr 2), ("kept", .fr 4)]
noncomputable def rowD (kept : List Int) (p : Nat) (room : Int) : D := .list (((everyK kept room p).map lbl).map .str)
theorem rgt {p : Nat} {i : Nat} {d : D} (hd : (rngL p)[i]? = some d) : i < p ∧ d = .int i := by
  unfold rngL at hd
  rw [List.getElem?_map, Option.map_eq_some_iff] at hd
  obtain ⟨n, hn, rfl⟩ := hd
  obtain ⟨hlt, rfl⟩ := List.getElem?_eq_some_iff.mp hn
  rw [List.length_range] at hlt
  rw [List.getElem_range]
  exact ⟨hlt, rfl⟩
theorem rngL_length (p : Nat) : (rngL p).length = p := by unfold rngL; rw [List.length_map, List.length_range]
/-- chr(97 + k) in a comprehension's frame -/
theorem chrEv {sc : Scope} {C : Addr} {kf : Key} {ck' : List (Str × Key)} {τ : H} {gk : Str → Option D} {k : Int} {p1 p2 p3 p4 p5 : Pos} {z : Nat} (B : Base w h₀) (h0 : 0 ≤ k) (h1 : k < 100) (hsk : (cenvOf sc env C).scope.kind = .function) (kk : (cenvOf sc env C).kindOf "k" = some .local) (kc : (cenvOf sc env C).kindOf "chr" = some .globalImplicit)
    (hg : (cenvOf sc env C).globals = mainGlobals) (hb : (cenvOf sc env C).builtins = builtinsNs) (ht : τ kf = some (.ns gk)) (hk : gk "k" = some (.int k)) :
    Ev w h₀ A (cenvOf sc env C) kf ck' (.Call (.Name "chr" p1) [.BinOp (.Constant (.int 97) z p2) .Add (.Name "k" p3) p4] [] p5) τ (.str (lbl k)) τ := by
  have GChr : Glb h₀ "chr" (.builtin "chr") := .boot B (by kernel_rfl) (by kernel_rfl) (by decide)
  exact Ev.callB (Ev.glob GChr hsk kc hg hb (by kernel_rfl)) (Evs.cons (Ev.bin Ev.intC (Ev.loc hsk kk ht hk (by kernel_rfl)) Bin.add) Evs.nil rfl) (CallD.chr (by omega) (by omega)) (fun _ => rfl) rfl rfl
theorem lineEv {kept : List Int} (B : Base w h₀) (hh : A.handled = none) (hp : p ≤ 3) (hp0 : 0 < p) (hk : kept.length ≤ 100) (hev : ∀ r, r < p → (everyK kept (r : Int) p).length ≤ 100 ∧ ∀ k ∈ everyK kept (r : Int) p, 0 ≤ k ∧ k < 20) (c2 : cl 2 = some (.int p)) (c4 : cl 4 = some (.res (.f 0))) (f0 : f 0 = some (.list (kept.map .int))) :
    Ev w h₀ A (lawEnv L fa cd) (.fr 0) lck lineRhs (lawH ⟨g, cl, f, s', r⟩) (.list ((List.range p).map fun (i : Nat) => rowD kept p i)) (lawH ⟨g, cl, f, s', r⟩) := by
  have GRange : Glb h₀ "range" (.type "range") := .boot B (by kernel_rfl) (by kernel_rfl) (by decide)
  have e : ((List.range p).map fun (i : Nat) => rowD kept p i) = (List.range (rngL p).length).flatMap (fun (i : Nat) => [rowD kept p i]) := by
    rw [rngL_length, List.map_eq_flatMap]
  rw [e]
  have hkz : (kept.map D.int).length ≤ sizeLine := by rw [List.length_map, sizeLine_eq]; omega
  refine Ev.comp (kf := .fr 94) (ck' := ckL) (ds := rngL p) (fun _ => lawH ⟨g, cl, f, s', r⟩) (fun (i : Nat) => [rowD kept p i]) rfl (fun _ _ => rfl) (fun _ _ => trivial) (.of (by kernel_rfl) (by kernel_rfl) (by kernel_rfl) (by kernel_rfl) (by kernel_rfl))
    (Itr.range (Ev.callT (LG GRange) (Evs.cons (LC 1 c2) Evs.nil rfl) CallD.range (fun _ => rfl) rfl rfl) hh (by rw [sizeLine_eq]; omega)) (fun C j d' hd => ?_) .frozen (by rw [rngL_length, sizeLine_eq]; omega) (fun _ _ => rfl) (fun _ => rfl)
  obtain ⟨hj, rfl⟩ := rgt hd
  have kr : (cenvOf lineSc (lawEnv L fa cd) C).kindOf "room" = some .local := by kernel_rfl
  have kk : (cenvOf lineSc (lawEnv L fa cd) C).kindOf "kept" = some .cell := by kernel_rfl
  have kp : (cenvOf lineSc (lawEnv L fa cd) C).kindOf "price" = some .cell := by kernel_rfl
  have hsk : (cenvOf lineSc (lawEnv L fa cd) C).scope.kind = .function := by kernel_rfl
  let τ : H := ((lawH ⟨g, cl, f, s', r⟩).set (.fr 94) (.ns g0)).set (.fr 94) (.ns (gset g0 "room" (.int j)))
  have t4 : τ (.fr 4) = some (.cell (some (.res (.f 0)))) := hset_ne (by decide) (hset_ne (by decide) (by simp [lawH, c4]))
  have t2 : τ (.fr 2) = some (.cell (some (.int p))) := hset_ne (by decide) (hset_ne (by decide) (by simp [lawH, c2]))
  have tf : τ (.f 0) = some (.list (kept.map .int)) := hset_ne (by decide) (hset_ne (by decide) f0)
  obtain ⟨hev1, hev2⟩ := hev j hj
  have lst : Lst τ (.res (.f 0)) (kept.map .int) := .inr ⟨_, rfl, tf⟩
  refine ⟨τ, Tgt.name (St.loc kr hsk hset_same), .inl ⟨τ, rowD kept p j, τ, Tsts.nil, ?_, ?_, rfl⟩⟩
  · unfold rowD
    have e2 : ((everyK kept (j : Int) p).map lbl).map D.str = (List.range ((everyK kept (j : Int) p).map D.int).length).flatMap (fun i => [D.str (lbl ((everyK kept (j : Int) p).getD i 0))]) := by
      rw [List.length_map, map_flat (fun k : Int => D.str (lbl k)) (everyK kept (j : Int) p) 0, List.map_map]; rfl
    rw [e2]
    show Ev w h₀ A (cenvOf lineSc (lawEnv L fa cd) C) (.fr 94) ckL lineIn τ _ τ
    have hdz : (dpick (kept.map D.int) (some (j : Int)) none (some (p : Int))) = (everyK kept (j : Int) p).map .int := dpick_every kept j p
    refine Ev.comp (kf := .fr 95) (ck' := []) (ds := (everyK kept (j : Int) p).map .int) (fun _ => τ) _ rfl (fun _ _ => rfl) (fun _ _ => .inl (congrArg D.list hdz)) (.of (by kernel_rfl) (by kernel_rfl) (by kernel_rfl) (by kernel_rfl) (by kernel_rfl))
      (Itr.list (Ev.sliceStep (Ev.cell hsk kk (k := .fr 4) (by kernel_rfl) t4 (by kernel_rfl)) (Prt.yes (Ev.loc hsk kr hset_same gs_same (by kernel_rfl))) Prt.no (Prt.yes (Ev.cell hsk kp (k := .fr 2) (by kernel_rfl) t2 (by kernel_rfl))) lst hkz (by omega) .frozen (fun _ _ => rfl))
        (.inl (congrArg D.list hdz)) hh (by rw [List.length_map, sizeLine_eq]; omega)) (fun C2 i d2 hd2 => ?_) .frozen (by rw [List.length_map, sizeLine_eq]; omega) (fun _ _ => rfl) (fun _ => rfl)
    rw [List.getElem?_map, Option.map_eq_some_iff] at hd2
    obtain ⟨n, hn, rfl⟩ := hd2
    have hn2 : (everyK kept (j : Int) p).getD i 0 = n := by rw [List.getD_eq_getElem?_getD, hn]; rfl
    obtain ⟨n0, n1⟩ := hev2 n (List.mem_of_getElem? hn)
    have kk2 : (cenvOf lineInSc (cenvOf lineSc (lawEnv L fa cd) C) C2).kindOf "k" = some .local := by kernel_rfl
    have kc2 : (cenvOf lineInSc (cenvOf lineSc (lawEnv L fa cd) C) C2).kindOf "chr" = some .globalImplicit := by kernel_rfl
    have hsk2 : (cenvOf lineInSc (cenvOf lineSc (lawEnv L fa cd) C) C2).scope.kind = .function := by kernel_rfl
    rw [hn2]
    refine ⟨_, Tgt.name (St.loc kk2 hsk2 hset_same), .inl ⟨_, .str (lbl n), _, Tsts.nil, chrEv B n0 (by omega) hsk2 kk2 kc2 rfl rfl hset_same gs_same, ?_, rfl⟩⟩
    rw [hset_set]
    exact H.Le.set (.refl _) (by walk_at "gle")
  · show H.Le (((lawH ⟨g, cl, f, s', r⟩).set (.fr 94) (.ns g0)).set (.fr 94) (.ns (gset g0 "room" (.int j)))) _
    rw [hset_set]
    exact H.Le.set (.refl _) (by walk_at "gle")
/-- lists of lists of texts -/
noncomputable def pdR (ys : List Str) : PyData := .list (ys.map .str)
theorem canLay_strs : ∀ l : List Str, (∀ y ∈ l, PyData.strOk y = true) → PyData.canLayAll0 (l.map .str) = true
  | [], _ => by simp [PyData.canLayAll0]
  | p :: r, h => by simp [PyData.canLayAll0, PyData.canLay0, canLay_strs r fun y hy => h y (List.mem_cons_of_mem _ hy), h p List.mem_cons_self]
theorem depth_strs : ∀ l : List Str, PyData.depthAll (l.map .str) ≤ 0
  | [] => by simp [PyData.depthAll]
  | p :: r => by
    have := depth_strs r
    simp [PyData.depthAll, PyData.depth] at this ⊢
    omega
theorem canLay_rows : ∀ l : List (List Str), (∀ ys ∈ l, ∀ y ∈ ys, PyData.strOk y = true) → PyData.canLayAll0 (l.map pdR) = true
  | [], _ => by simp [PyData.canLayAll0]
  | p :: r, h => by
    have h1 := canLay_strs p (h p List.mem_cons_self)
    have h2 := canLay_rows r fun y hy => h y (List.mem_cons_of_mem _ hy)
    simp [PyData.canLayAll0, pdR, PyData.canLay0, h1, h2]
theorem lbl_ok {k : Int} (h0 : 0 ≤ k) (h1 : k < 20) : PyData.strOk (lbl k) = true := by
  unfold lbl PyData.strOk
  simp
  omega
theorem depth_rows : ∀ l : List (List Str), PyData.depthAll (l.map pdR) ≤ 1
  | [] => by simp [PyData.depthAll]
  | p :: r => by
    have h1 := depth_rows r
    have h2 := depth_strs p
    simp [PyData.depthAll, pdR, PyData.depth] at h1 h2 ⊢
    omega
theorem shaped_rows (l : List (List Str)) (h : ∀ ys ∈ l, ∀ y ∈ ys, PyData.strOk y = true) : SeqAt.shaped (.list (l.map pdR)) = true := by
  have := depth_rows l
  have h2 := canLay_rows l h
  unfold SeqAt.shaped
  simp [PyData.canLay0, PyData.depth, h2]
  omega
theorem eqv_strs : ∀ l : List Str, PyData.eqvAll (l.map .str) (l.map .str) = true
  | [] => by simp [PyData.eqvAll]
  | p :: r => by simp [PyData.eqvAll, PyData.eqv, eqv_strs r]
theorem eqv_rows : ∀ l : List (List Str), PyData.eqvAll (l.map pdR) (l.map pdR) = true
  | [] => by simp [PyData.eqvAll]
  | p :: r => by
    have := eqv_strs p
    simp [PyData.eqvAll, pdR, PyData.eqv, eqv_rows r]
    exact this
theorem Pds.of {α : Type} {F : α → D} {G : α → PyData} : ∀ {l : List α}, (∀ x ∈ l, Pd σ (F x) (G x)) → Pds σ (l.map F) (l.map G)
  | [], _ => .nil
  | x :: r, h => .cons (h x List.mem_cons_self) (Pds.of fun y hy => h y (List.mem_cons_of_mem _ hy))
theorem st20 {ko : Option D} (B : Base w h₀) (cap : Cap A 3) (hp : p ≤ 3) (hp0 : 0 < p) (hk : s.kept.length ≤ 100) (hll : s.lines.length = p) (hev : ∀ r, r < p → (everyK s.kept (r : Int) p).length ≤ 100 ∧ ∀ k ∈ everyK s.kept (r : Int) p, 0 ≤ k ∧ k < 20)
    (he : s.lines = (List.range p).map fun (r : Nat) => (everyK s.kept (r : Int) p).map lbl)
    (h : Exs w h₀ A (lawEnv L fa cd) (.fr 0) lck (lawFrom 21) (lawH (lsM ns ds least taken stay p ko s text piece)) out σ') :
    Exs w h₀ A (lawEnv L fa cd) (.fr 0) lck (lawFrom 20) (lawH (lsM ns ds least taken stay p ko s text piece)) out σ' := by
  have ee : (List.range p).map (fun (i : Nat) => pdR ((everyK s.kept (i : Int) p).map lbl)) = ((List.range p).map fun (r : Nat) => (everyK s.kept (r : Int) p).map lbl).map pdR := by
    rw [List.map_map]; rfl
  have hok : ∀ ys ∈ (List.range p).map (fun (r : Nat) => (everyK s.kept (r : Int) p).map lbl), ∀ y ∈ ys, PyData.strOk y = true := fun ys hys y hy => by
    obtain ⟨r, hr, rfl⟩ := List.mem_map.mp hys
    obtain ⟨q, hq, rfl⟩ := List.mem_map.mp hy
    obtain ⟨q0, q1⟩ := (hev r (List.mem_range.mp hr)).2 q hq
    exact lbl_ok q0 q1
  have hc := Cmp.neL (w := w) (h₀ := h₀) (A := A) (σ := lawH (lsM ns ds least taken stay p ko s text piece)) (d₁ := .list ((List.range p).map fun i => .res (.f (10 + i)))) (d₂ := .list ((List.range p).map fun (i : Nat) => rowD s.kept p i))
    (p₁ := .list ((List.range p).map fun (i : Nat) => pdR ((everyK s.kept (i : Int) p).map lbl))) (p₂ := .list ((List.range p).map fun (i : Nat) => pdR ((everyK s.kept (i : Int) p).map lbl)))
    (.list (.inl rfl) (Pds.of fun i hi => .list (.inr ⟨_, rfl, by
      rw [List.mem_range] at hi
      show fM least taken s (10 + i) = _
      unfold fM
      rw [if_neg (by omega), if_neg (by omega), if_neg (by omega), if_neg (by omega), if_neg (by omega), if_neg (by omega), if_pos (by omega), Nat.add_sub_cancel_left, he, List.getElem?_map, List.getElem?_range hi]
      rfl⟩) Pds.strs)) (.list (.inl rfl) (Pds.of fun i hi => .list (.inl rfl) Pds.strs)) (by rw [ee]; exact shaped_rows _ hok) (by rw [ee]; exact shaped_rows _ hok) cap
  have eb : (!(PyData.list ((List.range p).map fun (i : Nat) => pdR ((everyK s.kept (i : Int) p).map lbl))).eqv (.list ((List.range p).map fun (i : Nat) => pdR ((everyK s.kept (i : Int) p).map lbl)))) = false := by
    rw [ee]
    have := eqv_rows ((List.range p).map fun (r : Nat) => (everyK s.kept (r : Int) p).map lbl)
    unfold PyData.eqv
    rw [this]; rfl
  rw [eb] at hc
  exact Exs.cons (Ex.iff (b := false) (Tst.cmp (LL (d := .list ((List.range p).map fun i => .res (.f (10 + i)))) (by walk_at "hp")) (lineEv B cap.handled hp hp0 hk hev rfl rfl rfl) hc rfl) Exs.nil) h
end
end Mine
end

/-! # L10 -/
section
set_option maxRecDepth 100000
namespace Mine
section
variable {w : World} {h₀ : Heap} {A : Around} {env : Env} {c : Key} {ck : List (Str × Key)} {L fa cd : Addr} {σ σ' σ₁ σ₂ σ₃ : H} {d d₁ d₂ d₃ : D} {pos : Pos}
variable {ns ds least taken : List Int} {stay : Int} {p : Nat} {k : Nat} {s : MS} {text piece : Array UInt8} {out : Out} {g : Str → Option D} {cl : Nat → Option D} {f s' r : Nat → Option Sp} {ko : Option D}

/-! ## the book -/
noncomputable def bookRhs : Expr := match lawAt 21 with
  | .If (.Compare _ _ [e] _) _ _ _ => e
  | _ => default
noncomputable def bookSc : Scope := match bookRhs with
  | .DictComp _ _ _ s _ => s
  | _ => default
theorem bookEv {kept : List Int} (B : Base w h₀) (hh : A.handled = none) (hp : p ≤ 3) (hp0 : 0 < p) (hk : kept.length ≤ 100) (hev : ∀ r, r < p → (everyK kept (r : Int) p).length ≤ 100 ∧ ∀ k ∈ everyK kept (r : Int) p, 0 ≤ k ∧ k < 20) (c2 : cl 2 = some (.int p)) (c4 : cl 4 = some (.res (.f 0))) (f0 : f 0 = some (.list (kept.map .int))) :
    Ev w h₀ A (lawEnv L fa cd) (.fr 0) lck bookRhs (lawH ⟨g, cl, f, s', r⟩) (.dict (dputs (fun i => (i : Int)) (fun i => ((everyK kept (i : Int) p).length : Int)) p)) (lawH ⟨g, cl, f, s', r⟩) := by
  have GRange : Glb h₀ "range" (.type "range") := .boot B (by kernel_rfl) (by kernel_rfl) (by decide)
  have GLen : Glb h₀ "len" (.builtin "len") := .boot B (by kernel_rfl) (by kernel_rfl) (by decide)
  have hkz : (kept.map D.int).length ≤ sizeLine := by rw [List.length_map, sizeLine_eq]; omega
  have main : Ev w h₀ A (lawEnv L fa cd) (.fr 0) lck bookRhs (lawH ⟨g, cl, f, s', r⟩) (.dict (dputs (fun i => (i : Int)) (fun i => ((everyK kept (i : Int) p).length : Int)) (rngL p).length)) (lawH ⟨g, cl, f, s', r⟩) := by
    refine Ev.dictComp (kf := .fr 94) (ck' := ckL) (ds := rngL p) (fun _ => lawH ⟨g, cl, f, s', r⟩) (fun i => (i : Int)) (fun i => ((everyK kept (i : Int) p).length : Int)) rfl (fun _ _ => rfl) (fun _ _ => trivial) (.of (by kernel_rfl) (by kernel_rfl) (by kernel_rfl) (by kernel_rfl) (by kernel_rfl))
      (Itr.range (Ev.callT (LG GRange) (Evs.cons (LC 1 c2) Evs.nil rfl) CallD.range (fun _ => rfl) rfl rfl) hh (by rw [sizeLine_eq]; omega)) (fun C j d' hd => ?_) B.lim (by rw [rngL_length, sizeLine_eq]; omega) (fun _ _ => rfl) (fun _ => rfl)
    obtain ⟨hj, rfl⟩ := rgt hd
    have kr : (cenvOf bookSc (lawEnv L fa cd) C).kindOf "room" = some .local := by kernel_rfl
    have kk : (cenvOf bookSc (lawEnv L fa cd) C).kindOf "kept" = some .cell := by kernel_rfl
    have kp : (cenvOf bookSc (lawEnv L fa cd) C).kindOf "price" = some .cell := by kernel_rfl
    have kl : (cenvOf bookSc (lawEnv L fa cd) C).kindOf "len" = some .globalImplicit := by kernel_rfl
    have hsk : (cenvOf bookSc (lawEnv L fa cd) C).scope.kind = .function := by kernel_rfl
    let τ : H := ((lawH ⟨g, cl, f, s', r⟩).set (.fr 94) (.ns g0)).set (.fr 94) (.ns (gset g0 "room" (.int j)))
    have t4 : τ (.fr 4) = some (.cell (some (.res (.f 0)))) := hset_ne (by decide) (hset_ne (by decide) (by simp [lawH, c4]))
    have t2 : τ (.fr 2) = some (.cell (some (.int p))) := hset_ne (by decide) (hset_ne (by decide) (by simp [lawH, c2]))
    have tf : τ (.f 0) = some (.list (kept.map .int)) := hset_ne (by decide) (hset_ne (by decide) f0)
    obtain ⟨hev1, hev2⟩ := hev j hj
    have lst : Lst τ (.res (.f 0)) (kept.map .int) := .inr ⟨_, rfl, tf⟩
    have hdz : (dpick (kept.map D.int) (some (j : Int)) none (some (p : Int))) = (everyK kept (j : Int) p).map .int := dpick_every kept j p
    have hlen : (dpick (kept.map D.int) (some (j : Int)) none (some (p : Int))).length = (everyK kept (j : Int) p).length := by rw [hdz, List.length_map]
    refine ⟨τ, τ, τ, Tgt.name (St.loc kr hsk hset_same), Ev.loc hsk kr hset_same gs_same (by kernel_rfl), ?_, ?_⟩
    · rw [← hlen]
      exact Ev.callB (Ev.glob GLen hsk kl rfl rfl (by kernel_rfl)) (Evs.cons (Ev.sliceStep (Ev.cell hsk kk (k := .fr 4) (by kernel_rfl) t4 (by kernel_rfl)) (Prt.yes (Ev.loc hsk kr hset_same gs_same (by kernel_rfl))) Prt.no (Prt.yes (Ev.cell hsk kp (k := .fr 2) (by kernel_rfl) t2 (by kernel_rfl))) lst hkz (by omega) .frozen (fun _ _ => rfl)) Evs.nil rfl)
        (CallD.lenList (.inl rfl) (by rw [hlen, sizeLine_eq]; omega)) (fun _ => rfl) rfl rfl
    · show H.Le (((lawH ⟨g, cl, f, s', r⟩).set (.fr 94) (.ns g0)).set (.fr 94) (.ns (gset g0 "room" (.int j)))) _
      rw [hset_set]
      exact H.Le.set (.refl _) (by walk_at "gle")
  rwa [rngL_length] at main
theorem st21 (B : Base w h₀) (cap : Cap A 3) (hp : p ≤ 3) (hp0 : 0 < p) (hk : s.kept.length ≤ 100) (hev : ∀ r, r < p → (everyK s.kept (r : Int) p).length ≤ 100 ∧ ∀ k ∈ everyK s.kept (r : Int) p, 0 ≤ k ∧ k < 20)
    (h1 : s.book.length = (dputs (fun i => (i : Int)) (fun i => ((everyK s.kept (i : Int) p).length : Int)) p).length) (h2 : (s.book.all fun q => dget (dputs (fun i => (i : Int)) (fun i => ((everyK s.kept (i : Int) p).length : Int)) p) q.1 == some q.2) = true)
    (h : Exs w h₀ A (lawEnv L fa cd) (.fr 0) lck (lawFrom 22) (lawH (lsM ns ds least taken stay p ko s text piece)) out σ') :
    Exs w h₀ A (lawEnv L fa cd) (.fr 0) lck (lawFrom 21) (lawH (lsM ns ds least taken stay p ko s text piece)) out σ' :=
  Exs.cons (Ex.iff (b := false) (Tst.cmp (LL (d := .dict s.book) (by walk_at "hp")) (bookEv B cap.handled hp hp0 hk hev rfl rfl rfl) (Cmp.neD (.inl rfl) (.inl rfl) h1 h2 cap) rfl) Exs.nil) h

/-! ## the refused ones' rows -/
theorem rowsS_snoc (k : Int) : ∀ (l : List Int) (q : List Str × Int), rowsS ds stay (l ++ [k]) q = (maxApp (rowsS ds stay l q).1 (gapS ((rowsS ds stay l q).2 - ds.getD k.toNat 0 - 1) k) stay, ds.getD k.toNat 0)
  | [], q => rfl
  | x :: l, q => by
    show rowsS ds stay (l ++ [k]) _ = _
    rw [rowsS_snoc k l]; rfl
noncomputable def rowsAt (ds : List Int) (stay : Int) (l : List Int) (b0 : Int) (i : Nat) : List Str × Int := rowsS ds stay (l.take i) ([], b0)
theorem rowsOk_all : ∀ (l : List Int) (q : List Str × Int), rowsOk ds stay l q = true →
    (∀ (i : Nat) (k : Int), l[i]? = some k → (rowsS ds stay (l.take i) q).1.length ≤ 1000 ∧ (∀ r ∈ (rowsS ds stay (l.take i) q).1, r.length ≤ 1000) ∧ -1000 ≤ (rowsS ds stay (l.take i) q).2 - ds.getD k.toNat 0 - 1 ∧ (rowsS ds stay (l.take i) q).2 - ds.getD k.toNat 0 - 1 ≤ 500 ∧ 0 ≤ k ∧ k < ds.length) ∧
      (rowsS ds stay l q).1.length ≤ 1000 ∧ ∀ r ∈ (rowsS ds stay l q).1, r.length ≤ 1000 ∧ 0 < r.length
  | [], q, h => by
    unfold rowsOk at h
    simp only [Bool.and_eq_true, decide_eq_true_eq, List.all_eq_true] at h
    exact ⟨fun i k e => by simp at e, h.1, h.2⟩
  | x :: l, q, h => by
    unfold rowsOk at h
    simp only [Bool.and_eq_true, decide_eq_true_eq, List.all_eq_true] at h
    obtain ⟨⟨⟨⟨⟨⟨a1, a2⟩, a3⟩, a4⟩, a5⟩, a6⟩, a7⟩ := h
    obtain ⟨b1, b2⟩ := rowsOk_all l _ a7
    refine ⟨fun i k e => ?_, b2⟩
    cases i with
    | zero =>
      simp only [List.getElem?_cons_zero, Option.some.injEq] at e
      subst e
      exact ⟨a1, a2, a3, a4, a5, a6⟩
    | succ i =>
      rw [List.getElem?_cons_succ] at e
      exact b1 i k e
/-- the law's state in its last part -/
noncomputable def lsR (ns ds least taken : List Int) (stay : Int) (p : Nat) (k : Option D) (s : MS) (text piece : Array UInt8) (q : List Str × Int) : LS :=
  ⟨gset (gset (gM ns ds.length p s text piece) "rows" (.res (.f 3))) "behind" (.int q.2), clM stay p ds k, upd (fM least taken s) 3 (some (.list (q.1.map .str))), sM s, rM s⟩
theorem setK {g : Str → Option D} {f s' r : Nat → Option Sp} {k : Int} : St w h₀ A (lawEnv L fa cd) (.fr 0) lck "k" (.int k) (lawH ⟨g, clM stay p ds ko, f, s', r⟩) (lawH ⟨g, clM stay p ds (some (.int k)), f, s', r⟩) := by
  have h := LCt (w := w) (h₀ := h₀) (A := A) (L := L) (fa := fa) (cd := cd) (d := .int k) (g := g) (cl := clM stay p ds ko) (f := f) (s := s') (r := r) (y := "k") 4
  unfold clM at h
  rw [upd_upd] at h
  exact h
theorem rowTurn {kn : Nat} {q : List Str × Int} (B : Base w h₀) (cap : Cap A 3) (hds : ds.length ≤ 20) (hk : kn < ds.length) (hq1 : q.1.length ≤ 1000) (hq2 : ∀ r ∈ q.1, r.length ≤ 1000) (hn0 : -1000 ≤ q.2 - ds.getD kn 0 - 1) (hn1 : q.2 - ds.getD kn 0 - 1 ≤ 500) :
    Exs w h₀ A (lawEnv L fa cd) (.fr 0) lck (match lawAt 24 with | .For _ _ b _ _ => b | _ => []) (lawH (lsR ns ds least taken stay p (some (.int kn)) s text piece q)) .next
      (lawH (lsR ns ds least taken stay p (some (.int kn)) s text piece (maxApp q.1 (gapS (q.2 - ds.getD kn 0 - 1) kn) stay, ds.getD kn 0))) := by
  have G47 : Glb h₀ "_max_append" (.ref 47) := .main B (by kernel_rfl)
  have GChr : Glb h₀ "chr" (.builtin "chr") := .boot B (by kernel_rfl) (by kernel_rfl) (by decide)
  have hgap : (gapS (q.2 - ds.getD kn 0 - 1) kn).length ≤ 501 := by
    unfold gapS
    rw [Str.length_append]
    have := mul_len hn1
    have e : (lbl (kn : Int)).length = 1 := rfl
    omega
  have hrow' : (lawH (lsR ns ds least taken stay p (some (.int kn)) s text piece q)) (.f 3) = some (.list (q.1.map .str)) := rfl
  refine Exs.step (Ex.expr (Ev.callF (LG G47) (Evs.cons (LL (d := .res (.f 3)) (by walk_at "hp"))
      (Evs.cons (Ev.bin (Ev.bin Ev.strC (Ev.bin (Ev.bin (LL (d := .int q.2) (by walk_at "hp")) (daysEv (by omega) hk) Bin.sub) Ev.intC Bin.sub) (Bin.mulS (mulOk hn0 hn1)))
        (Ev.callB (LG GChr) (Evs.cons (Ev.bin Ev.intC (LC 4 rfl) Bin.add) Evs.nil rfl) (CallD.chr (by omega) (by omega)) (fun _ => rfl) rfl rfl) (Bin.addS (by have := mul_len hn1; show _ + 1 ≤ _; omega)))
      (Evs.cons (LC 0 rfl) Evs.nil rfl) rfl) rfl) (fn47 B).obj (fn47 B).data (spec47 B (cap.le (by decide)) hrow' rfl hq1 hq2 (Nat.le_trans hgap (by decide)) rfl) (fun _ => rfl) rfl) (by intro a; simp) rfl rfl) lawH_f ?_
  refine Exs.cons (Ex.assign (daysEv (by omega) hk) LSt rfl) ?_
  refine Exs.le Exs.nil ?_
  refine lawLe' (by walk_at "gle") rfl (fun i => ?_) (fun j => OLe.refl _) (fun j => OLe.refl _)
  show OLe (upd (upd (fM least taken s) 3 _) 3 (some (.list ((maxApp q.1 (gapS (q.2 - ds.getD kn 0 - 1) kn) stay).map .str))) i) (upd (fM least taken s) 3 (some (.list ((maxApp q.1 (gapS (q.2 - ds.getD kn 0 - 1) kn) stay).map .str))) i)
  rw [upd_upd]
  exact OLe.refl _
noncomputable def koR (l : List Int) (ko : Option D) (i : Nat) : Option D := if i = 0 then ko else some (.int (l.getD (i - 1) 0))
theorem st22 (B : Base w h₀) (cap : Cap A 3) (hds : ds.length ≤ 20) (hd0 : 0 < ds.length) (href : s.ref.length ≤ 100) (hok : rowsOk ds stay s.ref.reverse ([], ds.getD (ds.length - 1) 0 + 1) = true)
    (h : Exs w h₀ A (lawEnv L fa cd) (.fr 0) lck (lawFrom 25) (lawH (lsR ns ds least taken stay p (koR s.ref.reverse ko s.ref.reverse.length) s text piece (rowsS ds stay s.ref.reverse ([], ds.getD (ds.length - 1) 0 + 1)))) out σ') :
    Exs w h₀ A (lawEnv L fa cd) (.fr 0) lck (lawFrom 22) (lawH (lsM ns ds least taken stay p ko s text piece)) out σ' := by
  have GRev : Glb h₀ "reversed" (.type "reversed") := .boot B (by kernel_rfl) (by kernel_rfl) (by decide)
  have hd' : (ds.map D.int).length ≤ sizeLine := by rw [List.length_map, sizeLine_eq]; omega
  refine Exs.cons (Ex.assign (Ev.listD Evs.nil (.key (k := .f 3) rfl rfl) (by decide)) (lawH_f ▸ LSt) rfl) ?_
  refine Exs.cons (Ex.assign (Ev.bin (Ev.sub (LC 2 rfl) (Ev.una Ev.intC Una.neg) (SubD.list (j := ds.length - 1) (.inl rfl) (fun _ _ => rfl) hd' (.inr ⟨by decide, by rw [List.length_map]; omega⟩) (getD_some (by omega)))) Ev.intC Bin.add) LSt rfl) ?_
  show Exs _ _ _ _ _ _ _ (lawH (lsR ns ds least taken stay p ko s text piece ([], ds.getD (ds.length - 1) 0 + 1))) _ _
  generalize ds.getD (ds.length - 1) 0 + 1 = b0 at *
  obtain ⟨k1, k2⟩ := rowsOk_all _ _ hok
  have e1 : (s.ref.map D.int).reverse = s.ref.reverse.map .int := List.map_reverse.symm
  have hl : ∀ {ls : LS}, ls.f 1 = some (.list (s.ref.map .int)) → Lst (lawH ls) (.res (.f 1)) (s.ref.map .int) := fun h => .inr ⟨_, rfl, h⟩
  refine Exs.cons (σ₁ := lawH (lsR ns ds least taken stay p (koR s.ref.reverse ko s.ref.reverse.length) s text piece (rowsS ds stay s.ref.reverse ([], b0)))) ?_ h
  have eN : rowsS ds stay s.ref.reverse ([], b0) = rowsAt ds stay s.ref.reverse b0 s.ref.reverse.length := by
    unfold rowsAt; rw [List.take_of_length_le (Nat.le_refl _)]
  rw [eN]
  refine Ex.forN (ds := (s.ref.map D.int).reverse) (n := s.ref.reverse.length) (fun i => lawH (lsR ns ds least taken stay p (koR s.ref.reverse ko i) s text piece (rowsAt ds stay s.ref.reverse b0 i))) (by rw [e1, List.length_map])
    (Itr.rev (LG GRev) (LL (d := .res (.f 1)) (by walk_at "hp")) (hl rfl) cap.handled (fun _ => rfl) rfl rfl) (fun _ _ => hl rfl) (fun i d' hd => ?_) (fun _ _ => rfl) (fun _ => rfl)
  rw [e1, List.getElem?_map, Option.map_eq_some_iff] at hd
  obtain ⟨n, hn, rfl⟩ := hd
  obtain ⟨q1, q2, q3, q4, q5, q6⟩ := k1 i n hn
  obtain ⟨kn, rfl⟩ : ∃ kn : Nat, n = kn := ⟨n.toNat, by omega⟩
  refine ⟨_, Tgt.name setK, ?_⟩
  have hlt : i < s.ref.reverse.length := (List.getElem?_eq_some_iff.mp hn).1
  have e2 : koR s.ref.reverse ko (i + 1) = some (.int kn) := by
    unfold koR
    rw [if_neg (Nat.succ_ne_zero i), Nat.add_sub_cancel, List.getD_eq_getElem?_getD, hn]; rfl
  have e3 : rowsAt ds stay s.ref.reverse b0 (i + 1) = (maxApp (rowsAt ds stay s.ref.reverse b0 i).1 (gapS ((rowsAt ds stay s.ref.reverse b0 i).2 - ds.getD kn 0 - 1) kn) stay, ds.getD kn 0) := by
    unfold rowsAt
    rw [List.take_add_one, hn]
    exact rowsS_snoc (kn : Int) _ _
  rw [e2, e3]
  exact rowTurn B cap hds (by omega) q1 q2 q3 q4
end
end Mine
end

/-! # L11 -/
section
set_option maxRecDepth 100000
namespace Mine
section
variable {w : World} {h₀ : Heap} {A : Around} {env : Env} {c : Key} {ck : List (Str × Key)} {L fa cd : Addr} {σ σ' σ₁ σ₂ σ₃ : H} {d d₁ d₂ d₃ : D} {pos : Pos}
variable {ns ds least taken : List Int} {stay : Int} {p : Nat} {k : Nat} {s : MS} {text piece : Array UInt8} {out : Out} {g : Str → Option D} {cl : Nat → Option D} {f s' r : Nat → Option Sp} {ko : Option D}

/-! ## the rows' guests are the refused ones -/
theorem SubD.str {value slice : Expr} {y : Str} {i : Int} {j n : Nat} (hp : PlainSub slice) (hb : y.length ≤ 1000) (hi : i = j) (hx : y.cps[j]? = some n) :
    SubD w h₀ A value slice (.str y) (.int i) σ (.str ⟨#[n]⟩) σ := fun x v u ok hv hu s hs => by
  cases hv with
  | str =>
    rename_i t
    cases hu
    have hj : j < y.length := (Array.getElem?_eq_some_iff.mp hx).1
    refine tail_any (typeIs_str s y t) PySem.F.slot_str_getitem.lookup ?_ (hp _ _)
    refine PySem.P.getItem_str (c := n) ?_ ?_ (Post.of hs ok .str)
    · simp; omega
    · rw [seqIndex_of (by omega) (by omega), hi]
      exact hx
theorem sum_len_le {ys : List Str} {c : Nat} (h : ∀ y ∈ ys, y.length ≤ c) : (ys.map (·.length)).sum ≤ ys.length * c := by
  induction ys with
  | nil => simp
  | cons y r ih =>
    have h1 := h y List.mem_cons_self
    have h2 := ih fun z hz => h z (List.mem_cons_of_mem _ hz)
    rw [List.map_cons, List.sum_cons, List.length_cons, Nat.succ_mul]
    omega
theorem empty_len : (Str.ofString "").length = 0 := by decide
theorem join_len (ys : List Str) : (Txt.join (Str.ofString "") ys).length = (ys.map (·.length)).sum := by
  show (Builtin.Str.glued (Str.ofString "") ys).length = _
  rw [size_glued, empty_len, Nat.mul_zero, Nat.add_zero]
noncomputable def jnComp : Expr := match lawAt 25 with
  | .If (.Compare _ _ [.Call _ [e] _ _] _) _ _ _ => e
  | _ => default
noncomputable def jnSc : Scope := match jnComp with
  | .ListComp _ _ s _ => s
  | _ => default
theorem jnEv {ref : List Int} (B : Base w h₀) (hh : A.handled = none) (hr : ref.length ≤ 100) (he : ∀ k ∈ ref, 0 ≤ k ∧ k < 20) (hg : g "refused" = some (.res (.f 1))) (f1 : f 1 = some (.list (ref.map .int))) :
    Ev w h₀ A (lawEnv L fa cd) (.fr 0) lck jnComp (lawH ⟨g, cl, f, s', r⟩) (.list ((ref.reverse.map lbl).map .str)) (lawH ⟨g, cl, f, s', r⟩) := by
  have GRev : Glb h₀ "reversed" (.type "reversed") := .boot B (by kernel_rfl) (by kernel_rfl) (by decide)
  have e1 : (ref.map D.int).reverse = ref.reverse.map .int := List.map_reverse.symm
  have e2 : (ref.reverse.map lbl).map D.str = (List.range ((ref.map D.int).reverse).length).flatMap (fun i => [D.str (lbl (ref.reverse.getD i 0))]) := by
    rw [e1, List.length_map, map_flat (fun k : Int => D.str (lbl k)) ref.reverse 0, List.map_map]; rfl
  rw [e2]
  refine Ev.comp (kf := .fr 94) (ck' := []) (ds := (ref.map D.int).reverse) (fun _ => lawH ⟨g, cl, f, s', r⟩) _ rfl (fun _ _ => rfl) (fun _ _ => .inr ⟨_, rfl, hset_ne (by decide) f1⟩) (.of (by kernel_rfl) (by kernel_rfl) (by kernel_rfl) (by kernel_rfl) (by kernel_rfl))
    (Itr.rev (LG GRev) (LL hg) (.inr ⟨_, rfl, f1⟩) hh (fun _ => rfl) rfl rfl) (fun C i d' hd => ?_) .frozen (by rw [e1, List.length_map, List.length_reverse, sizeLine_eq]; omega) (fun _ _ => rfl) (fun _ => rfl)
  rw [e1, List.getElem?_map, Option.map_eq_some_iff] at hd
  obtain ⟨n, hn, rfl⟩ := hd
  have hn2 : ref.reverse.getD i 0 = n := by rw [List.getD_eq_getElem?_getD, hn]; rfl
  obtain ⟨n0, n1⟩ := he n (List.mem_reverse.mp (List.mem_of_getElem? hn))
  have kk2 : (cenvOf jnSc (lawEnv L fa cd) C).kindOf "k" = some .local := by kernel_rfl
  have kc2 : (cenvOf jnSc (lawEnv L fa cd) C).kindOf "chr" = some .globalImplicit := by kernel_rfl
  have hsk2 : (cenvOf jnSc (lawEnv L fa cd) C).scope.kind = .function := by kernel_rfl
  rw [hn2]
  refine ⟨_, Tgt.name (St.loc kk2 hsk2 hset_same), .inl ⟨_, .str (lbl n), _, Tsts.nil, chrEv B n0 (by omega) hsk2 kk2 kc2 rfl rfl hset_same gs_same, ?_, rfl⟩⟩
  rw [hset_set]
  exact H.Le.set (.refl _) (by walk_at "gle")
set_option maxHeartbeats 4000000 in
theorem st25 {q : List Str × Int} (B : Base w h₀) (cap : Cap A 3) (hr : s.ref.length ≤ 100) (hre : ∀ k ∈ s.ref, 0 ≤ k ∧ k < 20) (hq1 : q.1.length ≤ 1000) (hq2 : ∀ y ∈ q.1, y.length ≤ 1000)
    (he : Txt.replace (Txt.join (Str.ofString "") q.1) (Str.ofString " ") (Str.ofString "") = Txt.join (Str.ofString "") (s.ref.reverse.map lbl))
    (h : Exs w h₀ A (lawEnv L fa cd) (.fr 0) lck (lawFrom 26) (lawH (lsR ns ds least taken stay p ko s text piece q)) out σ') :
    Exs w h₀ A (lawEnv L fa cd) (.fr 0) lck (lawFrom 25) (lawH (lsR ns ds least taken stay p ko s text piece q)) out σ' := by
  have hsum := sum_len_le hq2
  have hm : q.1.length * 1000 ≤ 1000 * 1000 := Nat.mul_le_mul_right _ hq1
  have hsum2 := sum_len_le (ys := s.ref.reverse.map lbl) (c := 1) (fun y hy => by
    obtain ⟨k, _, rfl⟩ := List.mem_map.mp hy
    exact Nat.le_refl 1)
  rw [List.length_map, List.length_reverse] at hsum2
  have z1 : (q.1.map (·.length)).sum + q.1.length * (Str.ofString "").length ≤ 16777216 := by rw [empty_len, Nat.mul_zero]; omega
  have z2 : (Txt.join (Str.ofString "") q.1).length + ((Txt.join (Str.ofString "") q.1).length + 1) * (Str.ofString "").length ≤ 16777216 := by rw [empty_len, join_len, Nat.mul_zero]; omega
  have z3 : ((s.ref.reverse.map lbl).map (·.length)).sum + (s.ref.reverse.map lbl).length * (Str.ofString "").length ≤ 16777216 := by rw [empty_len, Nat.mul_zero]; omega
  refine Exs.cons (Ex.iff (b := false) (Tst.as (by rw [he]; simp) (Tst.cmp
    (Ev.joinReplace (ys := q.1) (LL (d := .res (.f 3)) (by walk_at "hp")) (.inr ⟨_, rfl, rfl⟩) z1 z2 (by decide) rfl rfl rfl rfl rfl rfl rfl rfl rfl rfl rfl)
    (Ev.meth Ev.strC (Meth.str PySem.F.slot_str_join PySem.F.type_str_join) (Evs.cons (jnEv B cap.handled hr hre (by walk_at "hp") rfl) Evs.nil rfl) (CallD.join (.inl rfl) z3) rfl rfl rfl (fun _ _ e => by cases e; rfl) rfl) Cmp.neS rfl)) Exs.nil) h

/-! ## the rows' ends -/
noncomputable def gE (ns ds : List Int) (p : Nat) (s : MS) (text piece : Array UInt8) (q : List Str × Int) (F : List (Int × Int) × Int) : Str → Option D :=
  gset (gset (gset (gset (gset (gM ns ds.length p s text piece) "rows" (.res (.f 3))) "behind" (.int q.2)) "ends" (.list ((endsS q.1).map .int))) "fence" (.dict F.1)) "alone" (.int F.2)
noncomputable def lsE (ns ds least taken : List Int) (stay : Int) (p : Nat) (k : Option D) (s : MS) (text piece : Array UInt8) (q : List Str × Int) (F : List (Int × Int) × Int) : LS :=
  ⟨gE ns ds p s text piece q F, clM stay p ds k, upd (fM least taken s) 3 (some (.list (q.1.map .str))), sM s, rM s⟩
theorem cps0 {y : Str} (h : 0 < y.length) : y.cps[0]? = some (y.cps.getD 0 0) := by
  have h' : 0 < y.cps.size := h
  simp [Array.getD, h']
theorem st26 {q : List Str × Int} (B : Base w h₀) (cap : Cap A 3) (hq1 : q.1.length ≤ 1000) (hq2 : ∀ y ∈ q.1, y.length ≤ 1000 ∧ 0 < y.length)
    (h : Exs w h₀ A (lawEnv L fa cd) (.fr 0) lck (lawFrom 29) (lawH (lsE ns ds least taken stay p ko s text piece q ([], 0))) out σ') :
    Exs w h₀ A (lawEnv L fa cd) (.fr 0) lck (lawFrom 26) (lawH (lsR ns ds least taken stay p ko s text piece q)) out σ' := by
  have GOrd : Glb h₀ "ord" (.builtin "ord") := .boot B (by kernel_rfl) (by kernel_rfl) (by decide)
  have hz : (q.1.map D.str).length ≤ sizeLine := by rw [List.length_map, sizeLine_eq]; omega
  have e2 : (endsS q.1).map D.int = (List.range (q.1.map D.str).length).flatMap (fun i => [D.int (((q.1.getD i (Str.ofString "")).cps.getD 0 0 : Int) - 97)]) := by
    rw [List.length_map, map_flat (fun y : Str => D.int ((y.cps.getD 0 0 : Int) - 97)) q.1 (Str.ofString "")]
    unfold endsS
    rw [List.map_map]; rfl
  have lst : Lst (lawH (lsR ns ds least taken stay p ko s text piece q)) (.res (.f 3)) (q.1.map .str) := .inr ⟨_, rfl, rfl⟩
  have ends : Ex w h₀ A (lawEnv L fa cd) (.fr 0) lck (lawAt 26) (lawH (lsR ns ds least taken stay p ko s text piece q)) .next
      (lawH ⟨gset (lsR ns ds least taken stay p ko s text piece q).g "ends" (.list ((endsS q.1).map .int)), clM stay p ds ko, upd (fM least taken s) 3 (some (.list (q.1.map .str))), sM s, rM s⟩) := by
    rw [e2]
    refine Ex.assignComp (kf := .fr 94) (ck' := []) (ds := q.1.map .str) (fun i => lawH (lsR ns ds least taken stay p ko s text piece q)) (fun i => [D.int (((q.1.getD i (Str.ofString "")).cps.getD 0 0 : Int) - 97)]) rfl (fun _ _ => rfl) (fun _ _ => .inr ⟨_, rfl, rfl⟩)
      (.of (by kernel_rfl) (by kernel_rfl) (by kernel_rfl) (by kernel_rfl) (by kernel_rfl)) (Itr.list (LL (d := .res (.f 3)) (by walk_at "hp")) lst cap.handled hz) (fun C i d' hd => ?_) .frozen LSt hz (fun _ _ => rfl) (fun _ => rfl) rfl
    rw [List.getElem?_map, Option.map_eq_some_iff] at hd
    obtain ⟨y, hy, rfl⟩ := hd
    have hy2 : q.1.getD i (Str.ofString "") = y := by rw [List.getD_eq_getElem?_getD, hy]; rfl
    obtain ⟨y0, y1⟩ := hq2 y (List.mem_of_getElem? hy)
    have kx : (cenvOf (lawSc 26) (lawEnv L fa cd) C).kindOf "row" = some .local := by kernel_rfl
    have ko' : (cenvOf (lawSc 26) (lawEnv L fa cd) C).kindOf "ord" = some .globalImplicit := by kernel_rfl
    have hsk : (cenvOf (lawSc 26) (lawEnv L fa cd) C).scope.kind = .function := by kernel_rfl
    rw [hy2]
    refine ⟨_, Tgt.name (St.loc kx hsk hset_same), .inl ⟨_, .int ((y.cps.getD 0 0 : Int) - 97), _, Tsts.nil, Ev.bin (Ev.callB (Ev.glob GOrd hsk ko' rfl rfl (by kernel_rfl))
      (Evs.cons (Ev.sub (Ev.loc hsk kx hset_same gs_same (by kernel_rfl)) Ev.intC (SubD.str (j := 0) (fun _ _ => rfl) y0 rfl (cps0 y1))) Evs.nil rfl) (CallD.ord rfl) (fun _ => rfl) rfl rfl) Ev.intC Bin.sub, ?_, rfl⟩⟩
    rw [hset_set]
    exact H.Le.set (.refl _) (by walk_at "gle")
  refine Exs.cons ends ?_
  refine Exs.cons (Ex.assign (Ev.dictNil B.lim .frozen) LSt rfl) ?_
  exact Exs.cons (Ex.assign Ev.intC LSt rfl) h
end
end Mine
end

/-! # L12 -/
section
set_option maxRecDepth 100000
namespace Mine
section
variable {w : World} {h₀ : Heap} {A : Around} {env : Env} {c : Key} {ck : List (Str × Key)} {L fa cd : Addr} {σ σ' σ₁ σ₂ σ₃ : H} {d d₁ d₂ d₃ : D} {pos : Pos}
variable {ns ds least taken : List Int} {stay : Int} {p : Nat} {k : Nat} {s : MS} {text piece : Array UInt8} {out : Out} {g : Str → Option D} {cl : Nat → Option D} {f s' r : Nat → Option Sp} {ko : Option D}

/-! ## the last loop -/
theorem canLay_ints : ∀ l : List Int, PyData.canLayAll0 (l.map .int) = true
  | [] => by simp [PyData.canLayAll0]
  | p :: r => by simp [PyData.canLayAll0, PyData.canLay0, canLay_ints r]
theorem depth_ints : ∀ l : List Int, PyData.depthAll (l.map .int) ≤ 0
  | [] => by simp [PyData.depthAll]
  | p :: r => by
    have := depth_ints r
    simp [PyData.depthAll, PyData.depth] at this ⊢
    omega
theorem shaped_ints (l : List Int) : SeqAt.shaped (.list (l.map .int)) = true := by
  have := depth_ints l
  have h2 := canLay_ints l
  unfold SeqAt.shaped
  simp [PyData.canLay0, PyData.depth, h2]
  omega
theorem Cmp.eqNil {l : List Int} {n : Nat} (h : Lst σ d (l.map .int)) (cap : Cap A n) : Cmp w h₀ A .Eq d (.list []) σ l.isEmpty σ := by
  have := Cmp.eqL (w := w) (h₀ := h₀) (A := A) (Pd.list h Pds.ints) (Pd.list (.inl rfl) .nil : Pd σ (.list []) (.list [])) (shaped_ints l) (by decide) cap
  have e : (PyData.list (l.map .int)).eqv (.list []) = l.isEmpty := by
    cases l <;> simp [PyData.eqv, PyData.eqvAll]
  rwa [e] at this
noncomputable def lastBody : List Stmt := match lawAt 29 with
  | .For _ _ b _ _ => b
  | _ => []
noncomputable def overSt : Stmt := match lastBody with
  | st :: _ => st
  | [] => .Pass default
noncomputable def overSc : Scope := match overSt with
  | .Assign _ (.ListComp _ _ s _) _ => s
  | _ => default
noncomputable def overIfs : List Expr := match overSt with
  | .Assign _ (.ListComp _ [⟨_, _, i, _⟩] _ _) _ => i
  | _ => []
noncomputable def ckO : List (Str × Key) := [("stay", .fr 1), ("days", .fr 3), ("k", .fr 5)]
/-- who is over: the statement's list -/
theorem overL {ends : List Int} (cap : Cap A 3) (hds : ds.length ≤ 20) (hk : k < ds.length) (hez : ends.length ≤ 1000) (hen : ∀ e ∈ ends, 0 ≤ e ∧ e < ds.length) (hg : g "ends" = some (.list (ends.map .int))) :
    Ex w h₀ A (lawEnv L fa cd) (.fr 0) lck overSt (lawH ⟨g, clM stay p ds (some (.int k)), f, s', r⟩) .next (lawH ⟨gset g "over" (.list ((overS ds ends stay k).map .int)), clM stay p ds (some (.int k)), f, s', r⟩) := by
  have hz : (ends.map D.int).length ≤ sizeLine := by rw [List.length_map, sizeLine_eq]; omega
  have hd' : (ds.map D.int).length ≤ sizeLine := by rw [List.length_map, sizeLine_eq]; omega
  let P : Int → Prop := fun e => ds.getD e.toNat 0 - stay < ds.getD k 0 ∧ ds.getD k 0 ≤ ds.getD e.toNat 0
  have e2 : (overS ds ends stay k).map D.int = (List.range (ends.map D.int).length).flatMap (fun j => if (ds.getD (ends.getD j 0).toNat 0 - stay < ds.getD k 0 ∧ ds.getD k 0 ≤ ds.getD (ends.getD j 0).toNat 0) then [D.int (ends.getD j 0)] else []) := by
    rw [List.length_map, flat_pick (fun e : Int => ds.getD e.toNat 0 - stay < ds.getD k 0 ∧ ds.getD k 0 ≤ ds.getD e.toNat 0) ends]
    unfold overS
    congr 2
    funext e
    rw [Bool.decide_and]
  rw [e2]
  refine Ex.assignComp (kf := .fr 94) (ck' := ckO) (ds := ends.map .int) (fun i => lawH ⟨g, clM stay p ds (some (.int k)), f, s', r⟩) (fun j => if (ds.getD (ends.getD j 0).toNat 0 - stay < ds.getD k 0 ∧ ds.getD k 0 ≤ ds.getD (ends.getD j 0).toNat 0) then [D.int (ends.getD j 0)] else []) rfl (fun _ _ => rfl) (fun _ _ => .inl rfl)
    (.of (by kernel_rfl) (by kernel_rfl) (by kernel_rfl) (by kernel_rfl) (by kernel_rfl)) (Itr.list (LL hg) (.inl rfl) cap.handled hz) (fun C j d' hd => ?_) .frozen LSt hz (fun _ _ => rfl) (fun _ => rfl) rfl
  rw [List.getElem?_map, Option.map_eq_some_iff] at hd
  obtain ⟨n, hn, rfl⟩ := hd
  have hn2 : ends.getD j 0 = n := by rw [List.getD_eq_getElem?_getD, hn]; rfl
  obtain ⟨n0, n1⟩ := hen n (List.mem_of_getElem? hn)
  obtain ⟨e, rfl⟩ : ∃ e : Nat, n = e := ⟨n.toNat, by omega⟩
  have ke : (cenvOf overSc (lawEnv L fa cd) C).kindOf "end" = some .local := by kernel_rfl
  have kst : (cenvOf overSc (lawEnv L fa cd) C).kindOf "stay" = some .cell := by kernel_rfl
  have kda : (cenvOf overSc (lawEnv L fa cd) C).kindOf "days" = some .cell := by kernel_rfl
  have kkk : (cenvOf overSc (lawEnv L fa cd) C).kindOf "k" = some .cell := by kernel_rfl
  have hsk : (cenvOf overSc (lawEnv L fa cd) C).scope.kind = .function := by kernel_rfl
  let τ : H := ((lawH ⟨g, clM stay p ds (some (.int k)), f, s', r⟩).set (.fr 94) (.ns g0)).set (.fr 94) (.ns (gset g0 "end" (.int e)))
  have t1 : τ (.fr 1) = some (.cell (some (.int stay))) := hset_ne (by decide) (hset_ne (by decide) rfl)
  have t3 : τ (.fr 3) = some (.cell (some (.list (ds.map .int)))) := hset_ne (by decide) (hset_ne (by decide) rfl)
  have t5 : τ (.fr 5) = some (.cell (some (.int k))) := hset_ne (by decide) (hset_ne (by decide) rfl)
  have hl : H.Le τ ((lawH ⟨g, clM stay p ds (some (.int k)), f, s', r⟩).set (.fr 94) (.ns g0)) := by
    show H.Le (((lawH ⟨g, clM stay p ds (some (.int k)), f, s', r⟩).set (.fr 94) (.ns g0)).set (.fr 94) (.ns (gset g0 "end" (.int e)))) _
    rw [hset_set]
    exact H.Le.set (.refl _) (by walk_at "gle")
  have dayE : ∀ {p1 p2 p3 : Pos}, Ev w h₀ A (cenvOf overSc (lawEnv L fa cd) C) (.fr 94) ckO (.Subscript (.Name "days" p1) (.Name "end" p2) p3) τ (.int (ds.getD e 0)) τ := fun {p1 p2 p3} =>
    Ev.sub (Ev.cell hsk kda (k := .fr 3) (by kernel_rfl) t3 (by kernel_rfl)) (Ev.loc hsk ke hset_same gs_same (by kernel_rfl)) (SubD.list (j := e) (.inl rfl) (fun _ _ => rfl) hd' (.inl ⟨by omega, rfl⟩) (getD_some (by omega)))
  have dayK : ∀ {p1 p2 p3 : Pos}, Ev w h₀ A (cenvOf overSc (lawEnv L fa cd) C) (.fr 94) ckO (.Subscript (.Name "days" p1) (.Name "k" p2) p3) τ (.int (ds.getD k 0)) τ := fun {p1 p2 p3} =>
    Ev.sub (Ev.cell hsk kda (k := .fr 3) (by kernel_rfl) t3 (by kernel_rfl)) (Ev.cell hsk kkk (k := .fr 5) (by kernel_rfl) t5 (by kernel_rfl)) (SubD.list (j := k) (.inl rfl) (fun _ _ => rfl) hd' (.inl ⟨by omega, rfl⟩) (getD_some (by omega)))
  refine ⟨τ, Tgt.name (St.loc ke hsk hset_same), ?_⟩
  have tst : Tsts w h₀ A (cenvOf overSc (lawEnv L fa cd) C) (.fr 94) ckO overIfs τ (decide (ds.getD e 0 - stay < ds.getD k 0) && decide (ds.getD k 0 ≤ ds.getD e 0)) τ :=
    Tsts.one (Tst.chain2 (Ev.bin dayE (Ev.cell hsk kst (k := .fr 1) (by kernel_rfl) t1 (by kernel_rfl)) Bin.sub) dayK Cmp.lt dayE Cmp.le rfl)
  rw [← Bool.decide_and] at tst
  rw [hn2, Int.toNat_natCast]
  by_cases hc : ds.getD e 0 - stay < ds.getD k 0 ∧ ds.getD k 0 ≤ ds.getD e 0
  · rw [decide_eq_true hc] at tst
    rw [if_pos hc]
    exact .inl ⟨τ, .int e, τ, tst, Ev.loc hsk ke hset_same gs_same (by kernel_rfl), hl, rfl⟩
  · rw [decide_eq_false hc] at tst
    rw [if_neg hc]
    exact .inr ⟨τ, tst, hl, rfl⟩
theorem lastTurn {q : List Str × Int} {F : List (Int × Int) × Int} (B : Base w h₀) (cap : Cap A 3) (hds : ds.length ≤ 20) (hk : k < ds.length) (hez : (endsS q.1).length ≤ 1000) (hen : ∀ e ∈ endsS q.1, 0 ≤ e ∧ e < ds.length)
    (hkl : s.kept.length ≤ 100) (h1 : (overS ds (endsS q.1) stay k).length ≤ 1) (h2 : ((overS ds (endsS q.1) stay k).isEmpty && s.ref.any (· == (k : Int))) = false) (h3 : F.1.length ≤ 1000) :
    Exs w h₀ A (lawEnv L fa cd) (.fr 0) lck lastBody (lawH (lsE ns ds least taken stay p (some (.int k)) s text piece q F)) .next
      (lawH (lsE ns ds least taken stay p (some (.int k)) s text piece q (match overS ds (endsS q.1) stay k with
        | [] => (F.1, F.2 + 1)
        | e :: _ => if s.kept.any (· == (k : Int)) then (addC F.1 e 1, F.2) else F))) := by
  have GLen : Glb h₀ "len" (.builtin "len") := .boot B (by kernel_rfl) (by kernel_rfl) (by decide)
  have G74 : Glb h₀ "add_callers" (.ref 74) := .main B (by kernel_rfl)
  refine Exs.cons (overL (ends := endsS q.1) cap hds hk hez hen (by walk_at "hp")) ?_
  generalize overS ds (endsS q.1) stay k = ov at *
  let G : Str → Option D := gset (gE ns ds p s text piece q F) "over" (.list (ov.map .int))
  let f3 : Nat → Option Sp := upd (fM least taken s) 3 (some (.list (q.1.map .str)))
  have hov : (ov.map D.int).length ≤ sizeLine := by rw [List.length_map, sizeLine_eq]; omega
  have hkept : Lst (lawH ⟨G, clM stay p ds (some (.int k)), f3, sM s, rM s⟩) (.res (.f 0)) (s.kept.map .int) := .inr ⟨_, rfl, rfl⟩
  have href : Lst (lawH ⟨G, clM stay p ds (some (.int k)), f3, sM s, rM s⟩) (.res (.f 1)) (s.ref.map .int) := .inr ⟨_, rfl, rfl⟩
  have ovE : ∀ {p1 : Pos}, Ev w h₀ A (lawEnv L fa cd) (.fr 0) lck (.Name "over" p1) (lawH ⟨G, clM stay p ds (some (.int k)), f3, sM s, rM s⟩) (.list (ov.map .int)) (lawH ⟨G, clM stay p ds (some (.int k)), f3, sM s, rM s⟩) := fun {p1} => LL (by walk_at "hp")
  have nilT : ∀ {p1 p2 p3 : Pos}, Tst w h₀ A (lawEnv L fa cd) (.fr 0) lck (.Compare (.Name "over" p1) [.Eq] [.List [] p2] p3) (lawH ⟨G, clM stay p ds (some (.int k)), f3, sM s, rM s⟩) ov.isEmpty (lawH ⟨G, clM stay p ds (some (.int k)), f3, sM s, rM s⟩) := fun {p1 p2 p3} =>
    Tst.cmp ovE (Ev.listD Evs.nil .frozen (by decide)) (Cmp.eqNil (.inl rfl) cap) rfl
  have refT : ∀ {p1 p2 p3 : Pos}, Tst w h₀ A (lawEnv L fa cd) (.fr 0) lck (.Compare (.Name "k" p1) [.In] [.Name "refused" p2] p3) (lawH ⟨G, clM stay p ds (some (.int k)), f3, sM s, rM s⟩) (s.ref.any (· == (k : Int))) (lawH ⟨G, clM stay p ds (some (.int k)), f3, sM s, rM s⟩) := fun {p1 p2 p3} =>
    Tst.cmp (LC 4 rfl) (LL (d := .res (.f 1)) (by walk_at "hp")) (Cmp.inInts href) rfl
  have keptT : ∀ {p1 p2 p3 : Pos}, Tst w h₀ A (lawEnv L fa cd) (.fr 0) lck (.Compare (.Name "k" p1) [.In] [.Name "kept" p2] p3) (lawH ⟨G, clM stay p ds (some (.int k)), f3, sM s, rM s⟩) (s.kept.any (· == (k : Int))) (lawH ⟨G, clM stay p ds (some (.int k)), f3, sM s, rM s⟩) := fun {p1 p2 p3} =>
    Tst.cmp (LC 4 rfl) (LC (d := .res (.f 0)) 3 rfl) (Cmp.inInts hkept) rfl
  have lenT : ∀ {p1 p2 p3 p4 p5 : Pos} {z : Nat}, Tst w h₀ A (lawEnv L fa cd) (.fr 0) lck (.Compare (.Call (.Name "len" p1) [.Name "over" p2] [] p3) [.Gt] [.Constant (.int 1) z p4] p5) (lawH ⟨G, clM stay p ds (some (.int k)), f3, sM s, rM s⟩) false (lawH ⟨G, clM stay p ds (some (.int k)), f3, sM s, rM s⟩) := fun {p1 p2 p3 p4 p5 z} =>
    Tst.as (decide_eq_false (by rw [List.length_map]; omega)) (Tst.cmp (Ev.callB (LG GLen) (Evs.cons ovE Evs.nil rfl) (CallD.lenList (.inl rfl) hov) (fun _ => rfl) rfl rfl) Ev.intC Cmp.gt rfl)
  cases ov with
  | nil =>
    refine Exs.cons (Ex.iff (b := false) (Tst.orF lenT (Tst.orF (Tst.andT (Tst.as rfl nilT) (Tst.andF (Tst.as (by simpa using h2) refT))) Tst.orN)) Exs.nil) ?_
    refine Exs.cons (Ex.iff (b := true) (Tst.as rfl nilT) (Exs.cons (Ex.aug (LLd (d := .int F.2) (by walk_at "hp")) Ev.intC Inp.add LSt) Exs.nil)) ?_
    refine Exs.le Exs.nil ?_
    exact lawLe' (by walk_at "gle") rfl (fun i => OLe.refl _) (fun j => OLe.refl _) (fun j => OLe.refl _)
  | cons e rest =>
    refine Exs.cons (Ex.iff (b := false) (Tst.orF lenT (Tst.orF (Tst.andF (Tst.as rfl nilT)) Tst.orN)) Exs.nil) ?_
    dsimp only
    by_cases hkk : s.kept.any (· == (k : Int)) = true
    · rw [if_pos hkk]
      refine Exs.cons (Ex.iff (b := false) (Tst.as rfl nilT) (Exs.cons (Ex.iff (b := true) (Tst.as hkk keptT) (Exs.cons (Ex.assign (Ev.callF (LG G74) (Evs.cons (LL (d := .dict F.1) (by walk_at "hp")) (Evs.cons (Ev.dictOne B.lim (Ev.sub ovE Ev.intC (SubD.list (j := 0) (d := .int e) (.inl rfl) (fun _ _ => rfl) hov (.inl ⟨by decide, rfl⟩) rfl)) Ev.intC) Evs.nil rfl) rfl) (fn74 B).obj (fn74 B).data
        (spec74 B (cap.le (by decide)) h3 rfl rfl) (fun _ => rfl) rfl) LSt rfl) Exs.nil)) Exs.nil)) ?_
      refine Exs.le Exs.nil ?_
      exact lawLe' (by walk_at "gle") rfl (fun i => OLe.refl _) (fun j => OLe.refl _) (fun j => OLe.refl _)
    · rw [if_neg hkk]
      refine Exs.cons (Ex.iff (b := false) (Tst.as rfl nilT) (Exs.cons (Ex.iff (b := false) (Tst.as (Bool.eq_false_iff.mpr hkk) keptT) Exs.nil) Exs.nil)) ?_
      refine Exs.le Exs.nil ?_
      exact lawLe' (by walk_at "gle") rfl (fun i => OLe.refl _) (fun j => OLe.refl _) (fun j => OLe.refl _)
end
end Mine
end

/-! # L13 -/
section
set_option maxRecDepth 100000
namespace Mine
section
variable {w : World} {h₀ : Heap} {A : Around} {env : Env} {c : Key} {ck : List (Str × Key)} {L fa cd : Addr} {σ σ' σ₁ σ₂ σ₃ : H} {d d₁ d₂ d₃ : D} {pos : Pos}
variable {ns ds least taken : List Int} {stay : Int} {p : Nat} {k : Nat} {s : MS} {text piece : Array UInt8} {out : Out} {g : Str → Option D} {cl : Nat → Option D} {f s' r : Nat → Option Sp} {ko : Option D}
theorem fenS_at {q : List Str × Int} : fenS ds (endsS q.1) s.kept stay (k + 1) = (match overS ds (endsS q.1) stay k with
        | [] => ((fenS ds (endsS q.1) s.kept stay k).1, (fenS ds (endsS q.1) s.kept stay k).2 + 1)
        | e :: _ => if s.kept.any (· == (k : Int)) then (addC (fenS ds (endsS q.1) s.kept stay k).1 e 1, (fenS ds (endsS q.1) s.kept stay k).2) else fenS ds (endsS q.1) s.kept stay k) := rfl
noncomputable def koE (ko : Option D) (i : Nat) : Option D := if i = 0 then ko else some (.int ((i - 1 : Nat) : Int))
theorem st29 {q : List Str × Int} (B : Base w h₀) (cap : Cap A 3) (hds : ds.length ≤ 20) (hez : (endsS q.1).length ≤ 1000) (hen : ∀ e ∈ endsS q.1, 0 ≤ e ∧ e < ds.length) (hkl : s.kept.length ≤ 100) (hok : ∀ k, k < ds.length → fenOk ds (endsS q.1) s.kept s.ref stay k = true)
    (h : Exs w h₀ A (lawEnv L fa cd) (.fr 0) lck (lawFrom 30) (lawH (lsE ns ds least taken stay p (koE ko ds.length) s text piece q (fenS ds (endsS q.1) s.kept stay ds.length))) out σ') :
    Exs w h₀ A (lawEnv L fa cd) (.fr 0) lck (lawFrom 29) (lawH (lsE ns ds least taken stay p ko s text piece q ([], 0))) out σ' := by
  refine Exs.cons ?_ h
  refine Ex.forN (ds := rngL ds.length) (n := ds.length) (fun i => lawH (lsE ns ds least taken stay p (koE ko i) s text piece q (fenS ds (endsS q.1) s.kept stay i))) (rngL_length _)
    (Itr.range (LL (d := .rng 0 ds.length) (by walk_at "hp")) cap.handled (by rw [sizeLine_eq]; omega)) (fun _ _ => trivial) (fun i d' hd => ?_) (fun _ _ => rfl) (fun _ => rfl)
  obtain ⟨hlt, rfl⟩ := rgt hd
  have ok := hok i hlt
  unfold fenOk at ok
  simp only [Bool.and_eq_true, Bool.not_eq_true', decide_eq_true_eq] at ok
  obtain ⟨⟨o1, o2⟩, o3⟩ := ok
  refine ⟨_, Tgt.name setK, ?_⟩
  have e2 : koE ko (i + 1) = some (.int i) := by
    unfold koE
    rw [if_neg (Nat.succ_ne_zero i), Nat.add_sub_cancel]
  rw [e2, fenS_at]
  exact lastTurn B cap hds hlt hez hen hkl o1 o2 o3

/-! ## the fence, and what the law gives back -/
noncomputable def fenRhs : Expr := match lawAt 30 with
  | .If (.Compare _ _ [e] _) _ _ _ => e
  | _ => default
noncomputable def fenSc : Scope := match fenRhs with
  | .DictComp _ _ _ s _ => s
  | _ => default
noncomputable def ckP : List (Str × Key) := [("price", .fr 2)]
theorem fenEv {ends : List Int} (B : Base w h₀) (hh : A.handled = none) (hez : ends.length ≤ 1000) (hg : g "ends" = some (.list (ends.map .int))) (c2 : cl 2 = some (.int p)) :
    Ev w h₀ A (lawEnv L fa cd) (.fr 0) lck fenRhs (lawH ⟨g, cl, f, s', r⟩) (.dict (dputs (fun i => ends.getD i 0) (fun _ => (p : Int)) ends.length)) (lawH ⟨g, cl, f, s', r⟩) := by
  have hz : (ends.map D.int).length ≤ sizeLine := by rw [List.length_map, sizeLine_eq]; omega
  have main : Ev w h₀ A (lawEnv L fa cd) (.fr 0) lck fenRhs (lawH ⟨g, cl, f, s', r⟩) (.dict (dputs (fun i => ends.getD i 0) (fun _ => (p : Int)) (ends.map D.int).length)) (lawH ⟨g, cl, f, s', r⟩) := by
    refine Ev.dictComp (kf := .fr 94) (ck' := ckP) (ds := ends.map .int) (fun _ => lawH ⟨g, cl, f, s', r⟩) (fun i => ends.getD i 0) (fun _ => (p : Int)) rfl (fun _ _ => rfl) (fun _ _ => .inl rfl) (.of (by kernel_rfl) (by kernel_rfl) (by kernel_rfl) (by kernel_rfl) (by kernel_rfl))
      (Itr.list (LL hg) (.inl rfl) hh hz) (fun C j d' hd => ?_) B.lim hz (fun _ _ => rfl) (fun _ => rfl)
    rw [List.getElem?_map, Option.map_eq_some_iff] at hd
    obtain ⟨n, hn, rfl⟩ := hd
    have hn2 : ends.getD j 0 = n := by rw [List.getD_eq_getElem?_getD, hn]; rfl
    have ke : (cenvOf fenSc (lawEnv L fa cd) C).kindOf "end" = some .local := by kernel_rfl
    have kp : (cenvOf fenSc (lawEnv L fa cd) C).kindOf "price" = some .cell := by kernel_rfl
    have hsk : (cenvOf fenSc (lawEnv L fa cd) C).scope.kind = .function := by kernel_rfl
    let τ : H := ((lawH ⟨g, cl, f, s', r⟩).set (.fr 94) (.ns g0)).set (.fr 94) (.ns (gset g0 "end" (.int n)))
    have t2 : τ (.fr 2) = some (.cell (some (.int p))) := hset_ne (by decide) (hset_ne (by decide) (by simp [lawH, c2]))
    rw [hn2]
    refine ⟨τ, τ, τ, Tgt.name (St.loc ke hsk hset_same), Ev.loc hsk ke hset_same gs_same (by kernel_rfl), Ev.cell hsk kp (k := .fr 2) (by kernel_rfl) t2 (by kernel_rfl), ?_⟩
    show H.Le (((lawH ⟨g, cl, f, s', r⟩).set (.fr 94) (.ns g0)).set (.fr 94) (.ns (gset g0 "end" (.int n)))) _
    rw [hset_set]
    exact H.Le.set (.refl _) (by walk_at "gle")
  rwa [List.length_map] at main
theorem Ev.asB {e : Expr} {b b' : Bool} (q : b = b') (h : Ev w h₀ A env c ck e σ (.val (.bool b)) σ₁) : Ev w h₀ A env c ck e σ (.val (.bool b')) σ₁ := q ▸ h
theorem st30 {q : List Str × Int} {F : List (Int × Int) × Int} (B : Base w h₀) (cap : Cap A 3) (hds : ds.length ≤ 20) (hll : least.length = ds.length + 1) (hez : (endsS q.1).length ≤ 1000)
    (h1 : F.1.length = (dputs (fun i => (endsS q.1).getD i 0) (fun _ => (p : Int)) (endsS q.1).length).length) (h2 : (F.1.all fun x => dget (dputs (fun i => (endsS q.1).getD i 0) (fun _ => (p : Int)) (endsS q.1).length) x.1 == some x.2) = true)
    (h3 : psum s.book s.book.length = least.getD ds.length 0) (h4 : psum F.1 F.1.length + F.2 = least.getD ds.length 0) :
    Exs w h₀ A (lawEnv L fa cd) (.fr 0) lck (lawFrom 30) (lawH (lsE ns ds least taken stay p ko s text piece q F)) (.ret (.val (.bool true))) (lawH (lsE ns ds least taken stay p ko s text piece q F)) := by
  have G81 : Glb h₀ "count_calls" (.ref 81) := .main B (by kernel_rfl)
  have hlz : (least.map D.int).length ≤ sizeLine := by rw [List.length_map, sizeLine_eq]; omega
  let S0 : H := lawH (lsE ns ds least taken stay p ko s text piece q F)
  have lastE : ∀ {p1 p2 p3 p4 : Pos} {z : Nat}, Ev w h₀ A (lawEnv L fa cd) (.fr 0) lck (.Subscript (.Name "least" p1) (.UnaryOp .USub (.Constant (.int 1) z p2) p3) p4) S0 (.int (least.getD ds.length 0)) S0 := fun {p1 p2 p3 p4 z} =>
    Ev.sub (LL (d := .res (.f 100)) (by walk_at "hp")) (Ev.una Ev.intC Una.neg) (SubD.list (j := ds.length) (.inr ⟨.f 100, rfl, rfl⟩) (fun _ _ => rfl) hlz (.inr ⟨by decide, by rw [List.length_map, hll]; omega⟩) (getD_some (by omega)))
  have cnt : ∀ {y : Str} {kvs : List (Int × Int)} {p1 p2 p3 : Pos}, (lsE ns ds least taken stay p ko s text piece q F).g y = some (.dict kvs) → (lawEnv L fa cd).kindOf y = some .local → (y == ("__debug__" : Str)) = false → Ev w h₀ A (lawEnv L fa cd) (.fr 0) lck (.Call (.Name "count_calls" p1) [.Name y p2] [] p3) S0 (.int (psum kvs kvs.length)) S0 := fun {y kvs p1 p2 p3} hg hl hd =>
    Ev.callF (LG G81) (Evs.cons (LL hg hl hd) Evs.nil rfl) (fn81 B).obj (fn81 B).data (spec81 B (cap.le (by decide)) rfl) (fun _ => rfl) rfl
  refine Exs.cons (Ex.iff (b := false) (Tst.cmp (LL (d := .dict F.1) (by walk_at "hp")) (fenEv (ends := endsS q.1) B cap.handled hez (by walk_at "hp") rfl) (Cmp.neD (.inl rfl) (.inl rfl) h1 h2 cap) rfl) Exs.nil) ?_
  exact Exs.ret (Ex.ret (Ev.and2 (b := true) (Ev.asB (beq_iff_eq.mpr h3) (Ev.cmp (cnt (y := "book") (kvs := s.book) (by walk_at "hp") (by kernel_rfl) (by kernel_rfl)) lastE Cmp.eq rfl))
    (Ev.asB (beq_iff_eq.mpr h4) (Ev.cmp (Ev.bin (cnt (y := "fence") (kvs := F.1) (by walk_at "hp") (by kernel_rfl) (by kernel_rfl)) (LL (d := .int F.2) (by walk_at "hp")) Bin.add) lastE Cmp.eq rfl))))
end
end Mine
end

/-! # L14 -/
section
set_option maxRecDepth 100000
namespace Mine
section
variable {w : World} {h₀ : Heap} {A : Around} {env : Env} {c : Key} {ck : List (Str × Key)} {L fa cd : Addr} {σ σ' σ₁ σ₂ σ₃ : H} {d d₁ d₂ d₃ : D} {pos : Pos}
variable {ns ds least taken : List Int} {stay : Int} {p : Nat} {k : Nat} {s : MS} {text piece : Array UInt8} {out : Out} {g : Str → Option D} {cl : Nat → Option D} {f s' r : Nat → Option Sp} {ko : Option D}
/-- the law behind its main loop -/
theorem lawEnd (B : Base w h₀) (cap : Cap A 3) (hds : ds.length ≤ 20) (hd0 : 0 < ds.length) (hll : least.length = ds.length + 1) (hp : p ≤ 3) (hp0 : 0 < p) (inv : Inv p ds.length s) (h1 : TokNet text s.tn) (h2 : TokNet piece s.pn) (htx : text.size ≤ 1000) (hpz : piece.size ≤ 100)
    (ok : postOk ds least stay p ds.length s = true) :
    ∃ τ, Exs w h₀ A (lawEnv L fa cd) (.fr 0) lck (lawFrom 19) (lawH (lsM ns ds least taken stay p ko s text piece)) (.ret (.val (.bool true))) (lawH τ) := by
  unfold postOk at ok
  dsimp only at ok
  rw [Int.toNat_natCast] at ok
  simp only [Bool.and_eq_true, decide_eq_true_eq] at ok
  obtain ⟨⟨⟨⟨⟨⟨⟨⟨⟨⟨a1, a2⟩, a3⟩, a4, a5⟩, a6⟩, a7⟩, a8⟩, a9⟩, a10, a11⟩, a12⟩, a13⟩ := ok
  have hk := inv.kept
  have hr := inv.ref
  have hst := inv.st
  have hev : ∀ r, r < p → (everyK s.kept (r : Int) p).length ≤ 100 ∧ ∀ k ∈ everyK s.kept (r : Int) p, 0 ≤ k ∧ k < 20 := fun r hr => by
    have := List.all_eq_true.mp a3 r (List.mem_range.mpr hr)
    simp only [Bool.and_eq_true, decide_eq_true_eq, List.all_eq_true] at this
    exact this
  obtain ⟨b1, b2, b3⟩ := rowsOk_all _ _ a6
  have hre : ∀ k ∈ s.ref, 0 ≤ k ∧ k < 20 := fun k hk => by
    obtain ⟨i, hi⟩ := List.mem_iff_getElem?.mp (List.mem_reverse.mpr hk)
    obtain ⟨_, _, _, _, q1, q2⟩ := b1 i k hi
    omega
  have hez : (endsS (rowsS ds stay s.ref.reverse ([], ds.getD (ds.length - 1) 0 + 1)).1).length ≤ 1000 := by unfold endsS; rw [List.length_map]; exact b2
  have hen : ∀ e ∈ endsS (rowsS ds stay s.ref.reverse ([], ds.getD (ds.length - 1) 0 + 1)).1, 0 ≤ e ∧ e < ds.length := fun e he => by
    have := List.all_eq_true.mp a8 e he
    simpa only [Bool.and_eq_true, decide_eq_true_eq] using this
  have hfen : ∀ k, k < ds.length → fenOk ds (endsS (rowsS ds stay s.ref.reverse ([], ds.getD (ds.length - 1) 0 + 1)).1) s.kept s.ref stay k = true := fun k hk => List.all_eq_true.mp a9 k (List.mem_range.mpr hk)
  refine ⟨_, st19 B cap h1 h2 a1 (by omega) htx hpz (st20 B cap hp hp0 (by omega) inv.lines hev a2 (st21 B cap hp hp0 (by omega) hev a4 a5 (st22 B cap hds hd0 (by omega) a6
    (st25 B cap (by omega) hre b2 (fun y hy => (b3 y hy).1) a7 (st26 B cap b2 b3 (st29 B cap hds hez hen (by omega) hfen (st30 B cap hds hll hez a10 a11 a12 a13)))))))⟩
theorem sz15 {n m p : Nat} {q : Int} (hdl : n = m) (hl : m ≤ 8) (hl0 : 0 < m) (hp : (p : Int) = 1 + q) (f0 : 0 ≤ q) (f1 : q < 3) : n ≤ 20 ∧ 0 < n ∧ p ≤ 3 ∧ 0 < p := by omega
theorem sz16 {n a b : Nat} (h : n ≤ 20) (z1 : a ≤ 11) (z2 : b ≤ n * (11 + n)) : b ≤ 1000 ∧ a ≤ 100 :=
  ⟨Nat.le_trans z2 (Nat.le_trans (Nat.mul_le_mul h (Nat.add_le_add_left h 11)) (by decide)), Nat.le_trans z1 (by decide)⟩
theorem lawBody {xs : List Int} (B : Base w h₀) (cap : Cap A 3) (hfr : A.frames = some [lawEnv L fa cd]) (hx : xs.length ≤ 1000) (hz : (nsOf xs).sum < 1000000000 ∧ 0 ≤ (nsOf xs).sum) (hd : (dayS (nsOf xs) (nsOf xs).length).drop 1 = ds) (hp : (p : Int) = 1 + ((nsOf xs).sum.fdiv 4).fmod 3) (hs : 3 + (nsOf xs).sum.fmod 4 = stay)
    (good : goodD ds stay p = true) :
    ∃ τ, Exs w h₀ A (lawEnv L fa cd) (.fr 0) lck (bodyAt 15) (lawH ⟨gset g0 "script" (.list (xs.map .int)), fun _ => none, fun _ => none, fun _ => none, fun _ => none⟩) (.ret (.val (.bool true))) (lawH τ) := by
  have hl : (nsOf xs).length ≤ 8 := by unfold nsOf; simp; omega
  have hl0 : 0 < (nsOf xs).length := by unfold nsOf; simp
  have hdl : ds.length = (nsOf xs).length := by rw [← hd, List.length_drop, dayS_ne]; omega
  have f0 := Int.fmod_nonneg_of_pos ((nsOf xs).sum.fdiv 4) (show (0 : Int) < 3 by decide)
  have f1 := Int.fmod_lt_of_pos ((nsOf xs).sum.fdiv 4) (show (0 : Int) < 3 by decide)
  unfold goodD at good
  dsimp only at good
  obtain ⟨g1, g2⟩ := runOk_all ds.length 0 good
  rw [Nat.zero_add] at g2
  have l1 := fence_len1 ds stay p ds.length
  have l2 := fence_len2 ds stay p ds.length
  obtain ⟨z1, z2⟩ := txt_size (ns := nsOf xs) (ds := ds) (least := (fence ds stay p ds.length).1) (stay := stay) (p := p) ds.length
  obtain ⟨u1, u2, u3, u4⟩ := sz15 hdl hl hl0 hp f0 f1
  obtain ⟨u5, u6⟩ := sz16 u1 z1 z2
  obtain ⟨t1, t2⟩ := txt_net (ns := nsOf xs) (ds := ds) (least := (fence ds stay p ds.length).1) (stay := stay) (p := p) ds.length u1
  obtain ⟨τ, h⟩ := lawEnd (ns := nsOf xs) (taken := (fence ds stay p ds.length).2) (ko := if ds.length = 0 then none else some (.int ((ds.length - 1 : Nat) : Int))) (L := L) (fa := fa) (cd := cd) B cap u1 u2 l1 u3 u4 (inv_all ds.length) t2 t1 u5 u6 g2
  refine ⟨τ, partA1 B hx cap.handled hz ?_⟩
  rw [hd, hs, ← hp]
  refine partA2 B cap (Nat.le_trans u1 (by decide)) u3 ?_
  exact Exs.cons (mainLoop B cap hfr u1 hdl.symm l1 l2 u3 fun k hk => g1 k (Nat.zero_le _) (by rw [Nat.zero_add]; exact hk)) h
end
end Mine
end

/-! # GL1 -/
section
set_option maxRecDepth 100000
namespace Mine
section
variable {w : World} {P : Params}
theorem wellInts {h : Heap} {x : Cfg} : ∀ {vs : List Value} {ns : List Int}, WellAll P h vs (ofPys (ns.map .int)) → Reps w x vs (ns.map .int)
  | vs, [], q => by
    cases q; exact .nil
  | vs, n :: ns, q => by
    rw [List.map_cons, ofPys, ofPy] at q
    cases q with
    | cons a b => cases a; exact .cons .int (wellInts b)
theorem wellList {h : Heap} {a : Addr} {ns : List Int} (q : Well P h (.ref a) (ofPy (.list (ns.map .int)))) : ∃ vs, h.get? a = some (lobj vs 0) ∧ ∀ x : Cfg, Reps w x vs (ns.map .int) := by
  rw [ofPy] at q
  cases q with
  | list hg hr => exact ⟨_, hg, fun x => wellInts hr⟩
/-- the law, from its call on -/
theorem lawWalk {ns : List Int} {al fa cd : Addr} {env : Env} {body : List Stmt} {h₀ h₁ : Heap} {s : Shared} {m : Str → Option Value} {o1 o2 o3 o4 o5 : Obj} {x1 x2 x3 x4 x5 : Option Value} {stay : Int} {p : Nat} {ds : List Int}
    (B : Base w h₀) (he : env = lawEnv h₀.objs.size fa cd) (hb : body = bodyAt 15) (F : Fr h₀ h₀.objs.size h₁ m) (hm : m "script" = some (.ref al)) (W : Well P h₀ (.ref al) (ofPy (.list (ns.map .int)))) (hx : ns.length ≤ 1000)
    (N : News h₀ h₀.objs.size h₁ [(h₀.objs.size + 1 + 1 + 1 + 1 + 1, o5), (h₀.objs.size + 1 + 1 + 1 + 1, o4), (h₀.objs.size + 1 + 1 + 1, o3), (h₀.objs.size + 1 + 1, o2), (h₀.objs.size + 1, o1)])
    (d1 : o1.data = .cell x1) (d2 : o2.data = .cell x2) (d3 : o3.data = .cell x3) (d4 : o4.data = .cell x4) (d5 : o5.data = .cell x5) (e1 : x1 = none) (e2 : x2 = none) (e3 : x3 = none) (e4 : x4 = none) (e5 : x5 = none)
    (hz : (nsOf ns).sum < 1000000000 ∧ 0 ≤ (nsOf ns).sum) (hd : (dayS (nsOf ns) (nsOf ns).length).drop 1 = ds) (hp : (p : Int) = 1 + ((nsOf ns).sum.fdiv 4).fmod 3) (hs : 3 + (nsOf ns).sum.fmod 4 = stay) (good : goodD ds stay p = true) (hsh : s.heap = h₁) {Q : Flow → Shared → Prop} {E : Value → Shared → Prop}
    (hq : ∀ h' tk, (∀ b o, h₀.get? b = some o → h'.get? b = some o) → Q (.ret (.bool true)) { s with heap := h', toks := tk }) :
    wpAny (model prog w) (callerA.deeper env) (execs body env) Q E s := by
  subst he hb e1 e2 e3 e4 e5
  have cap : Cap (callerA.deeper (lawEnv h₀.objs.size fa cd)) 3 := ⟨rfl, by show 1 + claimMargin + 1 + 3 ≤ 900; decide, by show 4 + 3 + 3 * 3 ≤ 9000; decide⟩
  have hfr : (callerA.deeper (lawEnv h₀.objs.size fa cd)).frames = some [lawEnv h₀.objs.size fa cd] := Around.frames_deeper rfl
  obtain ⟨τ, hlaw⟩ := lawBody (L := h₀.objs.size) (fa := fa) (cd := cd) B cap hfr hx hz hd hp hs good
  obtain ⟨vs, hg, hreps⟩ := wellList (w := w) W
  have keep := F.keep
  have hlt : h₀.objs.size < h₁.objs.size := F.ns.lt
  have ok0 : Ok w h₀ (fun _ => none) { M := fun _ => False, α := fun _ => none, h := h₀ } := ⟨fun _ _ e => e, fun _ h => False.elim h, fun _ _ h => (nomatch h), fun _ _ h => (nomatch h), fun _ _ _ h => (nomatch h), fun _ h => False.elim h⟩
  obtain ⟨ok1, af1, hf1⟩ := ok0.freshAll keep (Nat.le_of_lt hlt)
  let l : List (Key × Addr × Sp) := [(.fr 0, h₀.objs.size, .ns (gset g0 "script" (.list (ns.map .int)))), (.fr 1, h₀.objs.size + 1, .cell none), (.fr 2, h₀.objs.size + 1 + 1, .cell none), (.fr 3, h₀.objs.size + 1 + 1 + 1, .cell none), (.fr 4, h₀.objs.size + 1 + 1 + 1 + 1, .cell none), (.fr 5, h₀.objs.size + 1 + 1 + 1 + 1 + 1, .cell none)]
  have n5 := N (h₀.objs.size + 1 + 1 + 1 + 1 + 1, o5) (by simp)
  have n4 := N (h₀.objs.size + 1 + 1 + 1 + 1, o4) (by simp)
  have n3 := N (h₀.objs.size + 1 + 1 + 1, o3) (by simp)
  have n2 := N (h₀.objs.size + 1 + 1, o2) (by simp)
  have n1 := N (h₀.objs.size + 1, o1) (by simp)
  have hscr : ∀ y : Cfg, y.h = h₁ → Grow (Cfg.fresh { M := fun _ => False, α := fun _ => none, h := h₀ } h₁) y → Rep w y (.ref al) (.list (ns.map .int)) := fun y ey gy => by
    refine .list (gy.still al (Heap.lt_size (keep _ _ hg)) ?_) (by rw [ey]; exact keep _ _ hg) (hreps y)
    rintro (h | h)
    · exact h
    · exact Nat.lt_irrefl _ (Nat.lt_of_lt_of_le (Heap.lt_size hg) h.1)
  obtain ⟨y, q1, q2, oky, gy, hy1, hy2⟩ := ok1.gives (l := l) (by simp [l]) (by simp [l, Nat.add_assoc]) (fun q hq => by
    have fin : ∀ a, h₀.objs.size ≤ a → a < h₁.objs.size → (Cfg.fresh { M := fun _ => False, α := fun _ => none, h := h₀ } h₁).M a ∧ ∀ k, (Cfg.fresh { M := fun _ => False, α := fun _ => none, h := h₀ } h₁).α k ≠ some a := fun a h1 h2 => ⟨.inr ⟨h1, h2⟩, fun k e => (nomatch e)⟩
    simp only [l, List.mem_cons, List.not_mem_nil, or_false] at hq
    rcases hq with rfl | rfl | rfl | rfl | rfl | rfl
    · exact ⟨rfl, fin _ (Nat.le_refl _) hlt⟩
    · exact ⟨rfl, fin (h₀.objs.size + 1) (by omega) (Heap.lt_size n1.1)⟩
    · exact ⟨rfl, fin (h₀.objs.size + 1 + 1) (by omega) (Heap.lt_size n2.1)⟩
    · exact ⟨rfl, fin (h₀.objs.size + 1 + 1 + 1) (by omega) (Heap.lt_size n3.1)⟩
    · exact ⟨rfl, fin (h₀.objs.size + 1 + 1 + 1 + 1) (by omega) (Heap.lt_size n4.1)⟩
    · exact ⟨rfl, fin (h₀.objs.size + 1 + 1 + 1 + 1 + 1) (by omega) (Heap.lt_size n5.1)⟩) (fun q hq y ey gy => by
    have ey' : y.h = h₁ := ey
    simp only [l, List.mem_cons, List.not_mem_nil, or_false] at hq
    rcases hq with rfl | rfl | rfl | rfl | rfl | rfl
    · refine ⟨m, by rw [ey']; exact F.ns, fun z d e => ?_⟩
      unfold gset at e
      split at e
      · rename_i q; cases e; subst q
        exact ⟨_, hm, hscr y ey' gy⟩
      · cases e
    · exact ⟨o1, by rw [ey']; exact n1.1, d1⟩
    · exact ⟨o2, by rw [ey']; exact n2.1, d2⟩
    · exact ⟨o3, by rw [ey']; exact n3.1, d3⟩
    · exact ⟨o4, by rw [ey']; exact n4.1, d4⟩
    · exact ⟨o5, by rw [ey']; exact n5.1, d5⟩)
  have eσ : gives (fun _ => none) l = lawH ⟨gset g0 "script" (.list (ns.map .int)), fun _ => none, fun _ => none, fun _ => none, fun _ => none⟩ := by
    funext q
    simp only [l, gives, H.set]
    cases q with
    | fr i =>
      match i with
      | 0 => rfl
      | 1 => rfl
      | 2 => rfl
      | 3 => rfl
      | 4 => rfl
      | 5 => rfl
      | i + 6 => simp [lawH]
    | _ => rfl
  rw [eσ] at oky
  have en : InEnv (lawEnv h₀.objs.size fa cd) (.fr 0) lck y := ⟨hy1 (.fr 0, h₀.objs.size, .ns (gset g0 "script" (.list (ns.map .int)))) (by simp [l]), fun v k hv => by
    have hm := mem_of_lookup hv
    simp only [lck, List.mem_cons, List.not_mem_nil, or_false, Prod.mk.injEq] at hm
    rcases hm with ⟨rfl, rfl⟩ | ⟨rfl, rfl⟩ | ⟨rfl, rfl⟩ | ⟨rfl, rfl⟩ | ⟨rfl, rfl⟩
    · exact ⟨_, by kernel_rfl, hy1 (.fr 1, h₀.objs.size + 1, .cell none) (by simp [l])⟩
    · exact ⟨_, by kernel_rfl, hy1 (.fr 2, h₀.objs.size + 1 + 1, .cell none) (by simp [l])⟩
    · exact ⟨_, by kernel_rfl, hy1 (.fr 3, h₀.objs.size + 1 + 1 + 1, .cell none) (by simp [l])⟩
    · exact ⟨_, by kernel_rfl, hy1 (.fr 4, h₀.objs.size + 1 + 1 + 1 + 1, .cell none) (by simp [l])⟩
    · exact ⟨_, by kernel_rfl, hy1 (.fr 5, h₀.objs.size + 1 + 1 + 1 + 1 + 1, .cell none) (by simp [l])⟩⟩
  have q1' : y.h = h₁ := q1
  refine wpAny_mono (hlaw y oky en s (hsh.trans q1'.symm)) (fun f s' ⟨z, tk, e, okz, afz, hf⟩ => ?_) fun _ _ e => e.elim
  subst e
  cases f with
  | ret v =>
    cases hf
    exact hq z.h tk okz.base
  | _ => exact hf.elim
end
end Mine
end

/-! # P4 -/
section
set_option maxRecDepth 100000
namespace Mine
/-! ## the finite check -/
noncomputable def chk (t : List Int) : Bool := (List.range 4).all fun j => goodT t ((t.sum % 3).toNat + 3 * j)
noncomputable def piece (k : Nat) : Bool := ((allSteps.drop (11 * k)).take 11).all chk
theorem piece0 : piece 0 = true := by decide +kernel
theorem piece1 : piece 1 = true := by decide +kernel
theorem piece2 : piece 2 = true := by decide +kernel
theorem piece3 : piece 3 = true := by decide +kernel
theorem piece4 : piece 4 = true := by decide +kernel
theorem piece5 : piece 5 = true := by decide +kernel
theorem piece6 : piece 6 = true := by decide +kernel
theorem piece7 : piece 7 = true := by decide +kernel
theorem piece8 : piece 8 = true := by decide +kernel
theorem piece9 : piece 9 = true := by decide +kernel
theorem piece10 : piece 10 = true := by decide +kernel
theorem pieces : ∀ k, k < 11 → piece k = true
  | 0, _ => piece0 | 1, _ => piece1 | 2, _ => piece2 | 3, _ => piece3 | 4, _ => piece4 | 5, _ => piece5 | 6, _ => piece6 | 7, _ => piece7 | 8, _ => piece8 | 9, _ => piece9 | 10, _ => piece10
  | n + 11, h => absurd h (by omega)
theorem allSteps_length : allSteps.length = 121 := by decide +kernel
theorem chk_all {t : List Int} (h : t ∈ allSteps) : chk t = true := by
  obtain ⟨i, hi⟩ := List.mem_iff_getElem?.mp h
  have hlt := (List.getElem?_eq_some_iff.mp hi).1
  rw [allSteps_length] at hlt
  have hp := pieces (i / 11) (by omega)
  unfold piece at hp
  refine List.all_eq_true.mp hp t (List.mem_iff_getElem?.mpr ⟨i % 11, ?_⟩)
  rw [List.getElem?_take_of_lt (Nat.mod_lt _ (by decide)), List.getElem?_drop, Nat.div_add_mod]
  exact hi
theorem mem_tails : ∀ (t : List Int), (∀ x ∈ t, 0 ≤ x ∧ x < 3) → t ∈ tails t.length
  | [], _ => List.mem_singleton.mpr rfl
  | x :: r, h => by
    have ih := mem_tails r fun y hy => h y (List.mem_cons_of_mem _ hy)
    obtain ⟨h0, h1⟩ := h x List.mem_cons_self
    rw [List.length_cons, tails, List.mem_flatMap]
    refine ⟨r, ih, ?_⟩
    have : x = 0 ∨ x = 1 ∨ x = 2 := by omega
    rcases this with rfl | rfl | rfl <;> simp
theorem mem_allSteps {t : List Int} (hl : t.length ≤ 4) (h : ∀ x ∈ t, 0 ≤ x ∧ x < 3) : t ++ [0, 0, 1, 2] ∈ allSteps := by
  unfold allSteps
  rw [List.mem_map]
  refine ⟨t, ?_, rfl⟩
  rw [List.mem_flatMap]
  exact ⟨t.length, List.mem_range.mpr (by omega), mem_tails t h⟩
theorem daysOf_snoc (x : Int) : ∀ (t : List Int) (a : Int), daysOf a (t ++ [x]) = daysOf a t ++ [(a :: daysOf a t).getLastD 0 + 1 + x]
  | [], a => rfl
  | y :: t, a => by
    show (a + 1 + y) :: daysOf (a + 1 + y) (t ++ [x]) = _
    rw [daysOf_snoc x t]
    rfl
theorem dayS_eq (ns : List Int) : ∀ k, k ≤ ns.length → dayS ns k = 0 :: daysOf 0 ((ns.take k).map (·.fmod 3))
  | 0, _ => rfl
  | k + 1, h => by
    have ih := dayS_eq ns k (by omega)
    have hk : ns[k]? = some (ns.getD k 0) := by
      rw [List.getD_eq_getElem?_getD, List.getElem?_eq_getElem (by omega)]; rfl
    show dayS ns k ++ [(dayS ns k).getLastD 0 + 1 + (ns.getD k 0).fmod 3] = _
    rw [List.take_add_one, hk, Option.toList_some, List.map_append, List.map_singleton, daysOf_snoc, ← ih]
    conv => lhs; lhs; rw [ih]
    rfl
theorem sum_mod (ns : List Int) : (ns.map (·.fmod 3)).sum % 3 = ns.sum % 3 := by
  induction ns with
  | nil => rfl
  | cons x r ih =>
    rw [List.map_cons, List.sum_cons, List.sum_cons, Int.fmod_eq_emod_of_nonneg x (by decide)]
    omega
theorem sum_range {t : List Int} {c : Int} (h : ∀ x ∈ t, 0 ≤ x ∧ x < c) : 0 ≤ t.sum ∧ t.sum ≤ t.length * c := by
  induction t with
  | nil => simp
  | cons x r ih =>
    obtain ⟨h0, h1⟩ := h x List.mem_cons_self
    obtain ⟨h2, h3⟩ := ih fun y hy => h y (List.mem_cons_of_mem _ hy)
    rw [List.sum_cons, List.length_cons]
    have e : ((r.length + 1 : Nat) : Int) * c = r.length * c + c := by rw [Int.natCast_add, Int.add_mul]; simp
    rw [e]
    omega
theorem ar1 (S : Int) : ∃ i : Nat, (i : Int) = S % 12 := ⟨(S % 12).toNat, by omega⟩
theorem ar2 {S T : Int} {i : Nat} (h : T % 3 = S % 3) (hi : (i : Int) = S % 12) : (T % 3).toNat + 3 * (i / 3) = i := by omega
theorem ar3 {S : Int} {i : Nat} (hi : (i : Int) = S % 12) : i / 3 < 4 := by omega
theorem ar4 {S : Int} {i : Nat} (hi : (i : Int) = S % 12) : ((1 + i / 4 : Nat) : Int) = 1 + S / 4 % 3 := by omega
theorem ar5 {S : Int} {i : Nat} (hi : (i : Int) = S % 12) : 3 + S % 4 = 3 + ((i % 4 : Nat) : Int) := by omega
theorem ar6 {i : Nat} : (1 + (i / 4 : Nat) : Int) = ((1 + i / 4 : Nat) : Int) := by omega
theorem ar7 {n : Nat} {S : Int} (h : n ≤ 8) (hs : S ≤ n * 1000000) : S < 1000000000 := by omega
theorem plainLaw (xs : List Int) : ∃ p : Nat, (p : Int) = 1 + ((nsOf xs).sum.fdiv 4).fmod 3 ∧ goodD ((dayS (nsOf xs) (nsOf xs).length).drop 1) (3 + (nsOf xs).sum.fmod 4) p = true ∧ (nsOf xs).sum < 1000000000 ∧ 0 ≤ (nsOf xs).sum := by
  have hr : ∀ x ∈ nsOf xs, 0 ≤ x ∧ x < 1000000 := fun x hx => by
    unfold nsOf at hx
    rcases List.mem_append.mp hx with hx | hx
    · obtain ⟨y, _, rfl⟩ := List.mem_map.mp hx
      exact ⟨Int.fmod_nonneg_of_pos y (by decide), Int.fmod_lt_of_pos y (by decide)⟩
    · simp only [List.mem_cons, List.not_mem_nil, or_false] at hx
      omega
  have hl : (nsOf xs).length ≤ 8 := by unfold nsOf; simp; omega
  obtain ⟨s0, s1⟩ := sum_range hr
  have hmem : (nsOf xs).map (·.fmod 3) ∈ allSteps := by
    have e : (nsOf xs).map (·.fmod 3) = ((xs.take 4).map (fun x => x.fmod 1000000)).map (·.fmod 3) ++ [0, 0, 1, 2] := by
      unfold nsOf; rw [List.map_append]; rfl
    rw [e]
    refine mem_allSteps (by simp; omega) fun x hx => ?_
    obtain ⟨y, _, rfl⟩ := List.mem_map.mp hx
    exact ⟨Int.fmod_nonneg_of_pos y (by decide), Int.fmod_lt_of_pos y (by decide)⟩
  have hd : (dayS (nsOf xs) (nsOf xs).length).drop 1 = daysOf 0 ((nsOf xs).map (·.fmod 3)) := by
    rw [dayS_eq _ _ (Nat.le_refl _), List.take_of_length_le (Nat.le_refl _)]; rfl
  have hs := sum_mod (nsOf xs)
  generalize nsOf xs = ns at *
  have hc := chk_all hmem
  unfold chk at hc
  have e4 : ns.sum.fmod 4 = ns.sum % 4 := Int.fmod_eq_emod_of_nonneg _ (by decide)
  have e5 : ns.sum.fdiv 4 = ns.sum / 4 := Int.fdiv_eq_ediv_of_nonneg _ (by decide)
  have e6 : (ns.sum / 4).fmod 3 = ns.sum / 4 % 3 := Int.fmod_eq_emod_of_nonneg _ (by decide)
  obtain ⟨i, hi⟩ := ar1 ns.sum
  have hg := List.all_eq_true.mp hc (i / 3) (List.mem_range.mpr (ar3 hi))
  rw [ar2 hs hi] at hg
  unfold goodT at hg
  refine ⟨1 + i / 4, by rw [e5, e6]; exact ar4 hi, ?_, ar7 hl s1, s0⟩
  rw [hd, e4, ar5 hi, ← ar6]
  exact hg
end Mine
end

/-! # GL -/

set_option maxRecDepth 100000 in
set_option maxHeartbeats 8000000 in
theorem PySem.Challenge.cw_xg0007_01_holds : PySem.Challenge.rw_xg0007_01.Holds := by
  refine Mine.hd ?_
  k_go0
  all_goals try k_fold
  rename_i w s₀ s₁ mg mb G Y fa o pm doc ho hgens KX X V GL T B TE TW w14 w13 M w12 w11 hcd xs hs hlay0 hL1 hr1 hl2 w9 w8 al vs w5 hL ra w1 r0 hI hr hcond1 hcond K0 hD h₁ tk₁ F o5 o4 o3 o2 o1 l4 l3 l2 l1 l0 N0 X0
  obtain ⟨p, hp, hgood, hz⟩ := Mine.plainLaw xs
  have Bs : Mine.Base w s₁.heap := ⟨KX, T.nolimit, ⟨_, _, _, _, topRead_of T⟩⟩
  refine Mine.lawWalk (ns := xs) (fa := fa) (cd := w12) Bs (by kernel_rfl) (by kernel_rfl) F (by kernel_rfl) w1 (by omega) N0 l0 l1 l2 l3 l4 (by kernel_rfl) (by kernel_rfl) (by kernel_rfl) (by kernel_rfl) (by kernel_rfl) hz rfl hp rfl hgood rfl fun h' tk hk => ?_
  exact ⟨.inl ⟨.bool true, .bool true, [], rfl, fun _ => rfl, .bool true, by kernel_rfl, unshared_nil⟩, hk, rfl, hgens⟩

