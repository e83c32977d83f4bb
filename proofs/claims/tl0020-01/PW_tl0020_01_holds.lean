import PyProof.Rows.All
import Wide.All
import OpenK.AllK
import Wide.FinOn
import Lean
import PySem.Challenge.RW_tl0020_01
set_option Elab.async false
set_option linter.all false
set_option compiler.extract_closed false
section
open PySem PySem.W PyProof.Rows
set_option maxRecDepth 100000 in
set_option maxHeartbeats 8000000 in
open_top Mine.hd1 for PySem.Challenge.rw_tl0020_01
end
section
local macro_rules | `(tactic| omega) => `(tactic| lia)
section
open PySem PySem.W PyProof.Rows
set_option autoImplicit false
namespace Mine

noncomputable abbrev AS := Addr → Prop

/-- the dict tells nothing else -/
noncomputable def ClosedF (es : List DictEntry) (ns : List String) : Prop := ∀ x : String, ¬ x ∈ ns → getL (Str.ofString x) es = some none
/-- what a value stands for -/
inductive D where
  | none
  | bool (b : Bool)
  | int (i : Int)
  | str (x : Str)
  | strT (x : Str) (t : Tok)
  | tup (ds : List D)
  | lst (ds : List D)
  | rng (a b : Int)
  | inst (C : Addr) (fs : List (String × D))

/-- the heap only grows -/
noncomputable def G (h h' : Heap) : Prop := ∀ b o, h.get? b = some o → h'.get? b = some o
theorem G.rfl {h : Heap} : G h h := fun _ _ e => e
theorem G.trans {h₁ h₂ h₃ : Heap} (x : G h₁ h₂) (y : G h₂ h₃) : G h₁ h₃ := fun b o e => y b o (x b o e)
/-- all but the addresses of U stand -/
noncomputable def KB (U : AS) (h h' : Heap) : Prop := ∀ b o, ¬ U b → h.get? b = some o → h'.get? b = some o
theorem G.kb {U : AS} {h h' : Heap} (x : G h h') : KB U h h' := fun b o _ e => x b o e

mutual
inductive Den (S : AS) (h : Heap) : Value → D → Prop
  | none : Den S h Value.none D.none
  | bool (b : Bool) : Den S h (Value.bool b) (D.bool b)
  | int (i : Int) (t : Tok) : Den S h (Value.int i t) (D.int i)
  | str (x : Str) (t : Tok) : Den S h (Value.str x t) (D.str x)
  | strT (x : Str) (t : Tok) : Den S h (Value.str x t) (D.strT x t)
  | tup {a : Addr} {vs : List Value} {n : Nat} {ds : List D} : ¬ S a → h.get? a = some { cls := .type "tuple", data := .seq vs.toArray n } → DenL S h vs ds → Den S h (Value.ref a) (D.tup ds)
  | lst {a : Addr} {vs : List Value} {n : Nat} {ds : List D} : ¬ S a → h.get? a = some { cls := .type "list", data := .seq vs.toArray n } → DenL S h vs ds → Den S h (Value.ref a) (D.lst ds)
  | rng {a : Addr} {p q : Int} {t u v : Tok} : ¬ S a → IsRange h a p q 1 t u v → Den S h (Value.ref a) (D.rng p q)
  | inst {a dx C : Addr} {es : List DictEntry} {n : Nat} {fs : List (String × D)} : ¬ S a → ¬ S dx → h.get? a = some (instObj C dx) → h.get? dx = some (dictOf es n) → DenF S h es fs → ClosedF es (fs.map (·.1)) → Den S h (Value.ref a) (D.inst C fs)
inductive DenL (S : AS) (h : Heap) : List Value → List D → Prop
  | nil : DenL S h [] []
  | cons {v : Value} {vs : List Value} {d : D} {ds : List D} : Den S h v d → DenL S h vs ds → DenL S h (v :: vs) (d :: ds)
inductive DenF (S : AS) (h : Heap) : List DictEntry → List (String × D) → Prop
  | nil {es : List DictEntry} : DenF S h es []
  | cons {es : List DictEntry} {x : String} {v : Value} {d : D} {fs : List (String × D)} : getL (Str.ofString x) es = some (some v) → Den S h v d → DenF S h es fs → DenF S h es ((x, d) :: fs)
end

theorem Den.mono {S S' : AS} {h h' : Heap} (k : ∀ b o, ¬ S b → h.get? b = some o → ¬ S' b ∧ h'.get? b = some o) {v : Value} {d : D} (x : Den S h v d) : Den S' h' v d :=
  Den.rec (motive_1 := fun v d _ => Den S' h' v d) (motive_2 := fun vs ds _ => DenL S' h' vs ds) (motive_3 := fun es fs _ => DenF S' h' es fs)
    .none .bool .int .str .strT (fun ns e _ l => .tup (k _ _ ns e).1 (k _ _ ns e).2 l) (fun ns e _ l => .lst (k _ _ ns e).1 (k _ _ ns e).2 l)
    (fun ns e => .rng (k _ _ ns e).1 (k _ _ ns e).2) (fun n1 n2 e1 e2 _ cl f => .inst (k _ _ n1 e1).1 (k _ _ n2 e2).1 (k _ _ n1 e1).2 (k _ _ n2 e2).2 f cl)
    .nil (fun _ _ d l => .cons d l) .nil (fun g _ _ d l => .cons g d l) x
/-- what a value is, told by what it stands for -/
noncomputable def DenI (S : AS) (h : Heap) (v : Value) : D → Prop
  | .none => v = .none
  | .bool b => v = .bool b
  | .int i => ∃ t, v = .int i t
  | .str x => ∃ t, v = .str x t
  | .strT x t => v = .str x t
  | .tup ds => ∃ (a : Addr) (vs : List Value) (n : Nat), v = .ref a ∧ ¬ S a ∧ h.get? a = some { cls := .type "tuple", data := .seq vs.toArray n } ∧ DenL S h vs ds
  | .lst ds => ∃ (a : Addr) (vs : List Value) (n : Nat), v = .ref a ∧ ¬ S a ∧ h.get? a = some { cls := .type "list", data := .seq vs.toArray n } ∧ DenL S h vs ds
  | .rng p q => ∃ (a : Addr) (t u w : Tok), v = .ref a ∧ ¬ S a ∧ IsRange h a p q 1 t u w
  | .inst _ _ => True
theorem Den.inv {S : AS} {h : Heap} {v : Value} {d : D} (x : Den S h v d) : DenI S h v d := by
  cases x with
  | none => rfl
  | bool b => rfl
  | int i t => exact ⟨t, rfl⟩
  | str x t => exact ⟨t, rfl⟩
  | strT x t => rfl
  | tup ns e l => exact ⟨_, _, _, rfl, ns, e, l⟩
  | lst ns e l => exact ⟨_, _, _, rfl, ns, e, l⟩
  | rng ns e => exact ⟨_, _, _, _, rfl, ns, e⟩
  | inst => trivial
noncomputable def DenLI (S : AS) (h : Heap) (vs : List Value) : List D → Prop
  | [] => vs = []
  | d :: ds => ∃ v ws, vs = v :: ws ∧ Den S h v d ∧ DenL S h ws ds
theorem DenL.inv {S : AS} {h : Heap} {vs : List Value} {ds : List D} (x : DenL S h vs ds) : DenLI S h vs ds := by
  cases x with
  | nil => rfl
  | cons d l => exact ⟨_, _, rfl, d, l⟩
theorem DenL.mono {S S' : AS} {h h' : Heap} (k : ∀ b o, ¬ S b → h.get? b = some o → ¬ S' b ∧ h'.get? b = some o) {vs : List Value} {ds : List D} (x : DenL S h vs ds) : DenL S' h' vs ds := by
  induction ds generalizing vs with
  | nil => obtain rfl : vs = [] := x.inv; exact .nil
  | cons d ds ih => obtain ⟨v, ws, rfl, a, l⟩ := x.inv; exact .cons (a.mono k) (ih l)
noncomputable def DenFI (S : AS) (h : Heap) (es : List DictEntry) : List (String × D) → Prop
  | [] => True
  | (x, d) :: fs => ∃ v, getL (Str.ofString x) es = some (some v) ∧ Den S h v d ∧ DenF S h es fs
theorem DenF.inv {S : AS} {h : Heap} {es : List DictEntry} {fs : List (String × D)} (x : DenF S h es fs) : DenFI S h es fs := by
  cases x with
  | nil => trivial
  | cons g d l => exact ⟨_, g, d, l⟩
theorem DenF.mono {S S' : AS} {h h' : Heap} (k : ∀ b o, ¬ S b → h.get? b = some o → ¬ S' b ∧ h'.get? b = some o) {es : List DictEntry} {fs : List (String × D)} (x : DenF S h es fs) : DenF S' h' es fs := by
  induction fs with
  | nil => exact .nil
  | cons p fs ih => obtain ⟨v, g, d, l⟩ := x.inv; exact .cons g (d.mono k) (ih l)
theorem Den.g {S : AS} {h h' : Heap} (k : G h h') {v : Value} {d : D} (x : Den S h v d) : Den S h' v d := x.mono fun b o ns e => ⟨ns, k b o e⟩
theorem DenL.g {S : AS} {h h' : Heap} (k : G h h') {v : List Value} {d : List D} (x : DenL S h v d) : DenL S h' v d := x.mono fun b o ns e => ⟨ns, k b o e⟩
theorem Den.kb {S : AS} {h h' : Heap} (k : KB S h h') {v : Value} {d : D} (x : Den S h v d) : Den S h' v d := x.mono fun b o ns e => ⟨ns, k b o ns e⟩
theorem DenL.kb {S : AS} {h h' : Heap} (k : KB S h h') {v : List Value} {d : List D} (x : DenL S h v d) : DenL S h' v d := x.mono fun b o ns e => ⟨ns, k b o ns e⟩

theorem DenL.length {S : AS} {h : Heap} {vs : List Value} {ds : List D} (x : DenL S h vs ds) : vs.length = ds.length := by
  induction ds generalizing vs with
  | nil => obtain rfl : vs = [] := x.inv; rfl
  | cons d ds ih => obtain ⟨v, ws, rfl, _, l⟩ := x.inv; rw [List.length_cons, List.length_cons, ih l]
theorem DenL.get {S : AS} {h : Heap} {vs : List Value} {ds : List D} (x : DenL S h vs ds) (k : Nat) (d : D) (e : ds[k]? = some d) : ∃ v, vs[k]? = some v ∧ Den S h v d := by
  induction ds generalizing vs k with
  | nil => cases e
  | cons d0 ds ih =>
    obtain ⟨v, ws, rfl, dv, l⟩ := x.inv
    cases k with
    | zero => cases e; exact ⟨v, rfl, dv⟩
    | succ k => exact ih l k e
theorem DenL.append {S : AS} {h : Heap} {vs : List Value} {ds : List D} (x : DenL S h vs ds) {ws : List Value} {es : List D} (y : DenL S h ws es) : DenL S h (vs ++ ws) (ds ++ es) := by
  induction ds generalizing vs with
  | nil => obtain rfl : vs = [] := x.inv; exact y
  | cons d ds ih => obtain ⟨v, us, rfl, dv, l⟩ := x.inv; exact .cons dv (ih l)
theorem DenL.get' {S : AS} {h : Heap} {vs : List Value} {ds : List D} (x : DenL S h vs ds) (k : Nat) (v : Value) (e : vs[k]? = some v) : ∃ d, ds[k]? = some d ∧ Den S h v d := by
  induction ds generalizing vs k with
  | nil => obtain rfl : vs = [] := x.inv; cases e
  | cons d0 ds ih =>
    obtain ⟨v0, ws, rfl, dv, l⟩ := x.inv
    cases k with
    | zero => cases e; exact ⟨d0, rfl, dv⟩
    | succ k => exact ih l k e
theorem DenF.get {S : AS} {h : Heap} {es : List DictEntry} {fs : List (String × D)} (r : DenF S h es fs) {x : String} {d : D} (e : fs.lookup x = some d) : ∃ v, getL (Str.ofString x) es = some (some v) ∧ Den S h v d := by
  induction fs with
  | nil => cases e
  | cons p fs ih =>
    obtain ⟨v, g, k, r⟩ := r.inv
    rw [List.lookup_cons] at e
    by_cases q : (x == p.1) = true
    · rw [q] at e
      cases e
      rw [beq_iff_eq.mp q]
      exact ⟨_, g, k⟩
    · rw [Bool.eq_false_iff.mpr q] at e
      exact ih r e

/-- what stands all through a call: the program's own objects, and what its names mean -/
structure Cx where
  prog : Program
  w : World
  K : Frag
  p : Program
  loose : List Str
  mg : Str → Option Value
  mb : Str → Option Value
  fr : Around → Prop
noncomputable def Cx.Ok (c : Cx) (h : Heap) : Prop := c.K.In h ∧ TopRead c.p c.loose c.mg c.mb h
theorem Cx.Ok.g {c : Cx} {h h' : Heap} (x : c.Ok h) (k : G h h') : c.Ok h' := ⟨x.1.keeps k, x.2.keeps k⟩

inductive Sl where
  | fz (d : D)
  | own (ds : List D)
  | obj (a C : Addr) (fs : List (String × D))
noncomputable abbrev Rho := String → Option Sl
noncomputable def upd (ρ : Rho) (x : String) (v : Sl) : Rho := fun y => if y = x then some v else ρ y
noncomputable abbrev Both (Z U : AS) : AS := fun a => Z a ∨ U a
/-- L: the frame's own dict -/
noncomputable def SlD (L : Addr) (Z U : AS) (h : Heap) : Value → Sl → Prop
  | v, .fz d => Den (Both Z U) h v d
  | v, .own ds => ∃ a vs n, v = .ref a ∧ U a ∧ h.get? a = some { cls := .type "list", data := .seq (List.toArray vs) n } ∧ DenL (Both Z U) h vs ds
  | v, .obj a₀ C fs => ∃ a dx es n, v = .ref a ∧ U a ∧ U dx ∧ dx ≠ L ∧ h.get? a = some (instObj C dx) ∧ h.get? dx = some (dictOf es n) ∧ DenF (Both Z U) h es fs ∧ ClosedF es (fs.map (·.1)) ∧ es.length ≤ fs.length ∧ a = a₀

noncomputable def Has (env : Env) (h : Heap) (m : Str → Option Value) (x : Str) (v : Value) : Prop :=
  (env.kindOf x = some .local ∧ m x = some v) ∨ ((env.kindOf x = some .cell ∨ env.kindOf x = some .free) ∧ ∃ c, env.cells.lookup x = some c ∧ h.IsCell c (some v))

/-- the frame at hand and what its names hold -/
structure FS (env : Env) (Z U : AS) (h : Heap) (ρ : Rho) : Prop where
  kind : env.scope.kind = .function
  glob : env.globals = mainGlobals
  blt : env.builtins = builtinsNs
  loc : U env.locals
  live : ∀ a, Both Z U a → ∃ o, h.get? a = some o
  disj : ∀ a, U a → ¬ Z a
  vars : ∃ m, h.Ns env.locals m ∧ (∀ x sl, ρ x = some sl → ∃ v, Has env h m (Str.ofString x) v ∧ SlD env.locals Z U h v sl) ∧
    (∀ x y dx dy a, ρ x = some (.own dx) → ρ y = some (.own dy) → Has env h m (Str.ofString x) (.ref a) → Has env h m (Str.ofString y) (.ref a) → x = y)
  one : ∀ x y a b C D fs gs, ρ x = some (.obj a C fs) → ρ y = some (.obj b D gs) → x = y
  cell : ∀ x k, env.cells.lookup x = some k → (∃ v, h.IsCell k v) ∧ ∀ y, env.cells.lookup y = some k → y = x

theorem Has.g {env : Env} {h h' : Heap} {m : Str → Option Value} {x : Str} {v : Value} (k : G h h') (H : Has env h m x v) : Has env h' m x v :=
  H.imp id fun ⟨a, c, hc, ic⟩ => ⟨a, c, hc, ic.keeps k⟩
theorem Has.unique {env : Env} {h h' : Heap} {m : Str → Option Value} {x : Str} {v v' : Value} (k : G h h') (H : Has env h m x v) (H' : Has env h' m x v') : v = v' := by
  rcases H with ⟨a, b⟩ | ⟨a, c, d, ⟨o, e, f⟩⟩ <;> rcases H' with ⟨a', b'⟩ | ⟨a', c', d', ⟨o', e', f'⟩⟩
  · rw [b] at b'; exact Option.some.inj b'
  · rw [a] at a'; rcases a' with q | q <;> cases q
  · rw [a'] at a; rcases a with q | q <;> cases q
  · rw [d] at d'; cases d'; rw [k _ _ e] at e'; cases e'; rw [f] at f'; cases f'; rfl
theorem DenF.g {S : AS} {h h' : Heap} (k : G h h') {es : List DictEntry} {fs : List (String × D)} (x : DenF S h es fs) : DenF S h' es fs := x.mono fun b o ns e => ⟨ns, k b o e⟩
theorem DenF.kb {S : AS} {h h' : Heap} (k : KB S h h') {es : List DictEntry} {fs : List (String × D)} (x : DenF S h es fs) : DenF S h' es fs := x.mono fun b o ns e => ⟨ns, k b o ns e⟩
/-- a slot stands when its own objects stand and the rest is kept -/
theorem SlD.move {L : Addr} {Z U Z' U' : AS} {h h' : Heap} (k : ∀ b o, ¬ Both Z U b → h.get? b = some o → ¬ Both Z' U' b ∧ h'.get? b = some o) (u : ∀ b, U b → U' b)
    (hl : ∀ a vs n, U a → h.get? a = some { cls := .type "list", data := .seq (List.toArray vs) n } → h'.get? a = some { cls := .type "list", data := .seq (List.toArray vs) n })
    (hi : ∀ a C dx, U a → h.get? a = some (instObj C dx) → h'.get? a = some (instObj C dx))
    (hd : ∀ a es n, U a → a ≠ L → h.get? a = some (dictOf es n) → h'.get? a = some (dictOf es n)) : ∀ {v : Value} {sl : Sl}, SlD L Z U h v sl → SlD L Z' U' h' v sl := by
  intro v sl x
  cases sl with
  | fz d => exact Den.mono k x
  | own ds => obtain ⟨a, vs, n, e, ua, g, l⟩ := x; exact ⟨a, vs, n, e, u _ ua, hl _ _ _ ua g, DenL.mono k l⟩
  | obj a₀ C fs => obtain ⟨a, dx, es, n, e, ua, ud, nl, g1, g2, l, r⟩ := x; exact ⟨a, dx, es, n, e, u _ ua, u _ ud, nl, hi _ _ _ ua g1, hd _ _ _ ud nl g2, DenF.mono k l, r⟩
theorem SlD.g {L : Addr} {Z U : AS} {h h' : Heap} (k : G h h') {v : Value} {sl : Sl} (x : SlD L Z U h v sl) : SlD L Z U h' v sl :=
  x.move (fun b o nb e => ⟨nb, k b o e⟩) (fun _ u => u) (fun _ _ _ _ e => k _ _ e) (fun _ _ _ _ e => k _ _ e) fun _ _ _ _ _ e => k _ _ e
theorem FS.g {env : Env} {Z U : AS} {h h' : Heap} {ρ : Rho} (F : FS env Z U h ρ) (k : G h h') : FS env Z U h' ρ where
  kind := F.kind
  glob := F.glob
  blt := F.blt
  loc := F.loc
  live := fun a s => let ⟨o, e⟩ := F.live a s; ⟨o, k _ _ e⟩
  disj := F.disj
  vars := by
    obtain ⟨m, hm, hv, hi⟩ := F.vars
    refine ⟨m, hm.keeps k, fun x sl e => ?_, fun x y dx dy a e1 e2 h1 h2 => ?_⟩
    · obtain ⟨v, H, d⟩ := hv x sl e
      exact ⟨v, H.g k, d.g k⟩
    · obtain ⟨v1, H1, _⟩ := hv x _ e1
      obtain ⟨v2, H2, _⟩ := hv y _ e2
      cases H1.unique k h1
      cases H2.unique k h2
      exact hi x y dx dy a e1 e2 H1 H2
  one := F.one
  cell := fun x q e => let ⟨⟨v, i⟩, j⟩ := F.cell x q e; ⟨⟨v, i.keeps k⟩, j⟩
/-- a new address is in no set of the frame's -/
theorem FS.fresh {env : Env} {Z U : AS} {h : Heap} {ρ : Rho} (F : FS env Z U h ρ) {a : Addr} (e : h.get? a = none) : ¬ Both Z U a := fun s => by
  obtain ⟨o, q⟩ := F.live a s
  rw [e] at q; cases q

noncomputable abbrev NE : Value → Shared → Prop := fun _ _ => False

structure AOk (c : Cx) (n : Nat) (A : Around) : Prop where
  handled : A.handled = none
  depth : A.depth + n < recursionLimit
  units : A.units + 8 * n < cLine
  fr : c.fr A

noncomputable def Evals (c : Cx) (n : Nat) (env : Env) (ρ : Rho) (e : Expr) (d : D) : Prop :=
  ∀ (A : Around) (Z U : AS) (s : Shared) (Q : Value → Shared → Prop), AOk c n A → c.Ok s.heap → FS env Z U s.heap ρ →
    (∀ v h' tk, G s.heap h' → Den (Both Z U) h' v d → Q v { s with heap := h', toks := tk }) → wpAny (model c.prog c.w) A (eval e env) Q NE s

end Mine
end
section
open PySem PySem.W PyProof.Rows
set_option autoImplicit false
namespace Mine

theorem get_size (h : Heap) : h.get? h.objs.size = none := by
  cases e : h.get? h.objs.size with
  | none => rfl
  | some o => exact absurd (Heap.lt_size e) (Nat.lt_irrefl _)
theorem G.push (h : Heap) (o : Obj) : G h (h.push o) := fun _ _ e => Heap.get?_push_of_some o e
theorem fresh_of {S : AS} {h : Heap} (l : ∀ a, S a → ∃ o, h.get? a = some o) {a : Addr} (e : h.get? a = none) : ¬ S a := fun s => by
  obtain ⟨o, q⟩ := l a s
  rw [e] at q; cases q
theorem live_g {S : AS} {h h' : Heap} (l : ∀ a, S a → ∃ o, h.get? a = some o) (k : G h h') : ∀ a, S a → ∃ o, h'.get? a = some o := fun a s => let ⟨o, e⟩ := l a s; ⟨o, k _ _ e⟩

noncomputable def Op2 (c : Cx) (n : Nat) (f : Value → Value → Sem Value) (d1 d2 d : D) : Prop :=
  ∀ (A : Around) (S : AS) (s : Shared) (Q : Value → Shared → Prop) (v1 v2 : Value), AOk c n A → c.Ok s.heap → (∀ a, S a → ∃ o, s.heap.get? a = some o) → Den S s.heap v1 d1 → Den S s.heap v2 d2 →
    (∀ v h' tk, G s.heap h' → Den S h' v d → Q v { s with heap := h', toks := tk }) → wpAny (model c.prog c.w) A (f v1 v2) Q NE s
noncomputable def Op1 (c : Cx) (n : Nat) (f : Value → Sem Value) (d1 d : D) : Prop :=
  ∀ (A : Around) (S : AS) (s : Shared) (Q : Value → Shared → Prop) (v1 : Value), AOk c n A → c.Ok s.heap → (∀ a, S a → ∃ o, s.heap.get? a = some o) → Den S s.heap v1 d1 →
    (∀ v h' tk, G s.heap h' → Den S h' v d → Q v { s with heap := h', toks := tk }) → wpAny (model c.prog c.w) A (f v1) Q NE s

section
variable {c : Cx} {n : Nat} {env : Env} {ρ : Rho}

theorem Evals.name {x : String} {pos : Pos} {d : D} (h : ρ x = some (.fz d)) (hd : (Str.ofString x == ("__debug__" : Str)) = false := by decide) (hc : (Str.ofString x == ("__classdict__" : Str)) = false := by decide) : Evals c n env ρ (.Name (Str.ofString x) pos) d := by
  intro A Z U s Q ao ok F hQ
  obtain ⟨m, hm, hv, _⟩ := F.vars
  obtain ⟨v, H, dv⟩ := hv x _ h
  refine wpAny_Name ?_ hd
  rcases H with ⟨a, b⟩ | ⟨a | a, k, hk, ik⟩
  · exact wpAny_loadName_local F.kind a hm b (hQ v s.heap s.toks G.rfl dv)
  · exact wpAny_loadName_cell F.kind a hk ik (hQ v s.heap s.toks G.rfl dv)
  · exact wpAny_loadName_free F.kind a hk ik (hQ v s.heap s.toks G.rfl dv) hc

theorem Evals.int {i : Int} {k : Nat} {pos : Pos} : Evals c n env ρ (.Constant (.int i) k pos) (.int i) :=
  fun _ _ _ _ _ _ _ _ hQ => wpAny_Constant_int (hQ _ _ _ G.rfl (.int _ _))
theorem Evals.strc {x : Str} {k : Nat} {pos : Pos} : Evals c n env ρ (.Constant (.str x) k pos) (.str x) :=
  fun _ _ _ _ _ _ _ _ hQ => wpAny_Constant_str (hQ _ _ _ G.rfl (.str _ _))
theorem Evals.boolc {b : Bool} {k : Nat} {pos : Pos} : Evals c n env ρ (.Constant (.bool b) k pos) (.bool b) :=
  fun _ _ _ s _ _ _ _ hQ => wpAny_Constant_bool (hQ _ s.heap s.toks G.rfl (.bool _))

theorem Evals.two {f : Value → Value → Sem Value} {l r : Expr} {d1 d2 d : D} (h1 : Evals c n env ρ l d1) (h2 : Evals c n env ρ r d2) (o : Op2 c n f d1 d2 d)
    {A : Around} {Z U : AS} {s : Shared} {Q : Value → Shared → Prop} (ao : AOk c n A) (ok : c.Ok s.heap) (F : FS env Z U s.heap ρ) (hQ : ∀ v h' tk, G s.heap h' → Den (Both Z U) h' v d → Q v { s with heap := h', toks := tk }) :
    wpAny (model c.prog c.w) A (eval l env) (fun a s₁ => wpAny (model c.prog c.w) A (eval r env) (fun b s₂ => wpAny (model c.prog c.w) A (f a b) Q NE s₂) NE s₁) NE s :=
  h1 A Z U s _ ao ok F fun v1 _ _ g1 e1 => h2 A Z U _ _ ao (ok.g g1) (F.g g1) fun v2 _ _ g2 e2 =>
    o A (Both Z U) _ _ v1 v2 ao (ok.g (g1.trans g2)) (F.g (g1.trans g2)).live (e1.g g2) e2 fun v h' tk g3 e3 => hQ v h' tk (g1.trans (g2.trans g3)) e3

theorem Evals.bin {op : Operator} {l r : Expr} {pos : Pos} {d1 d2 d : D} (h1 : Evals c n env ρ l d1) (h2 : Evals c n env ρ r d2) (o : Op2 c n (binaryOp op) d1 d2 d) : Evals c n env ρ (.BinOp l op r pos) d :=
  fun _ _ _ _ _ ao ok F hQ => wpAny_BinOp (h1.two h2 o ao ok F hQ)
theorem Evals.cmp {op : CmpOp} {l r : Expr} {pos : Pos} {d1 d2 d : D} (h1 : Evals c n env ρ l d1) (h2 : Evals c n env ρ r d2) (o : Op2 c n (compareOp op) d1 d2 d)
    (hm : behindInMarks op r = false := by with_unfolding_all rfl) : Evals c n env ρ (.Compare l [op] [r] pos) d :=
  fun _ _ _ _ _ ao ok F hQ => wpAny_Compare1 (h1.two h2 o ao ok F hQ) hm
theorem Evals.un {op : UnaryOp} {x : Expr} {pos : Pos} {d1 d : D} (h1 : Evals c n env ρ x d1) (o : Op1 c n (unaryOp op) d1 d) : Evals c n env ρ (.UnaryOp op x pos) d :=
  fun A Z U s _ ao ok F hQ => wpAny_UnaryOp (h1 A Z U s _ ao ok F fun v1 _ _ g1 e1 => o A (Both Z U) _ _ v1 ao (ok.g g1) (F.g g1).live e1 fun v h' tk g3 e3 => hQ v h' tk (g1.trans g3) e3)

-- ints
theorem Op2.add {a b : Int} : Op2 c n (binaryOp .Add) (.int a) (.int b) (.int (a + b)) := fun _ _ _ _ _ _ _ _ _ e1 e2 hQ => by
  obtain ⟨_, rfl⟩ := e1.inv; obtain ⟨_, rfl⟩ := e2.inv; exact add_int (hQ _ _ _ G.rfl (.int _ _))
theorem Op2.sub {a b : Int} : Op2 c n (binaryOp .Sub) (.int a) (.int b) (.int (a - b)) := fun _ _ _ _ _ _ _ _ _ e1 e2 hQ => by
  obtain ⟨_, rfl⟩ := e1.inv; obtain ⟨_, rfl⟩ := e2.inv; exact sub_int (hQ _ _ _ G.rfl (.int _ _))
theorem Op2.mul {a b : Int} (hm : IntMulOk a b := by mul_fits) : Op2 c n (binaryOp .Mult) (.int a) (.int b) (.int (a * b)) := fun _ _ _ _ _ _ _ _ _ e1 e2 hQ => by
  obtain ⟨_, rfl⟩ := e1.inv; obtain ⟨_, rfl⟩ := e2.inv; exact mul_int (hQ _ _ _ G.rfl (.int _ _)) hm
theorem Op2.fdiv {a b : Int} (hb : b ≠ 0) (hp : Builtin.divisionGoesByPylong a b = false) : Op2 c n (binaryOp .FloorDiv) (.int a) (.int b) (.int (a.fdiv b)) := fun _ _ _ _ _ _ _ _ _ e1 e2 hQ => by
  obtain ⟨_, rfl⟩ := e1.inv; obtain ⟨_, rfl⟩ := e2.inv; exact floordiv_int hb (hQ _ _ _ G.rfl (.int _ _)) (.inl hp)
theorem Op2.fmod {a b : Int} (hb : b ≠ 0) : Op2 c n (binaryOp .Mod) (.int a) (.int b) (.int (a.fmod b)) := fun _ _ _ _ _ _ _ _ _ e1 e2 hQ => by
  obtain ⟨_, rfl⟩ := e1.inv; obtain ⟨_, rfl⟩ := e2.inv; exact mod_int hb (hQ _ _ _ G.rfl (.int _ _))
theorem Op2.pow {a b : Int} (hn : 0 ≤ b) (hn2 : b ≤ 1000000) (ha : a.natAbs < 2 ^ 64) : Op2 c n (binaryOp .Pow) (.int a) (.int b) (.int (a ^ b.toNat)) := fun _ _ _ _ _ _ _ _ _ e1 e2 hQ => by
  obtain ⟨_, rfl⟩ := e1.inv; obtain ⟨_, rfl⟩ := e2.inv; exact pow_int_small hn hn2 ha (hQ _ _ _ G.rfl (.int _ _))
theorem Op2.eq {a b : Int} : Op2 c n (compareOp .Eq) (.int a) (.int b) (.bool (a == b)) := fun _ _ s _ _ _ _ _ _ e1 e2 hQ => by
  obtain ⟨_, rfl⟩ := e1.inv; obtain ⟨_, rfl⟩ := e2.inv; exact eq_int (hQ _ s.heap s.toks G.rfl (.bool _))
theorem Op2.ne {a b : Int} : Op2 c n (compareOp .NotEq) (.int a) (.int b) (.bool (a != b)) := fun _ _ s _ _ _ _ _ _ e1 e2 hQ => by
  obtain ⟨_, rfl⟩ := e1.inv; obtain ⟨_, rfl⟩ := e2.inv; exact ne_int (hQ _ s.heap s.toks G.rfl (.bool _))
theorem Op2.lt {a b : Int} : Op2 c n (compareOp .Lt) (.int a) (.int b) (.bool (decide (a < b))) := fun _ _ s _ _ _ _ _ _ e1 e2 hQ => by
  obtain ⟨_, rfl⟩ := e1.inv; obtain ⟨_, rfl⟩ := e2.inv; exact lt_int (hQ _ s.heap s.toks G.rfl (.bool _))
theorem Op2.gt {a b : Int} : Op2 c n (compareOp .Gt) (.int a) (.int b) (.bool (decide (b < a))) := fun _ _ s _ _ _ _ _ _ e1 e2 hQ => by
  obtain ⟨_, rfl⟩ := e1.inv; obtain ⟨_, rfl⟩ := e2.inv; exact gt_int (hQ _ s.heap s.toks G.rfl (.bool _))
theorem Op2.le {a b : Int} : Op2 c n (compareOp .LtE) (.int a) (.int b) (.bool (decide (a ≤ b))) := fun _ _ s _ _ _ _ _ _ e1 e2 hQ => by
  obtain ⟨_, rfl⟩ := e1.inv; obtain ⟨_, rfl⟩ := e2.inv; exact le_int (hQ _ s.heap s.toks G.rfl (.bool _))
theorem Op2.ge {a b : Int} : Op2 c n (compareOp .GtE) (.int a) (.int b) (.bool (decide (b ≤ a))) := fun _ _ s _ _ _ _ _ _ e1 e2 hQ => by
  obtain ⟨_, rfl⟩ := e1.inv; obtain ⟨_, rfl⟩ := e2.inv; exact ge_int (hQ _ s.heap s.toks G.rfl (.bool _))
theorem Op1.neg {a : Int} : Op1 c n (unaryOp .USub) (.int a) (.int (-a)) := fun _ _ _ _ _ _ _ _ e1 hQ => by
  obtain ⟨_, rfl⟩ := e1.inv; exact P.neg_int (hQ _ _ _ G.rfl (.int _ _))

-- texts
theorem Op2.adds {a b : Str} (hz : a.length + b.length ≤ sizeLine) : Op2 c n (binaryOp .Add) (.str a) (.str b) (.str (a ++ b)) := fun _ _ s _ _ _ _ _ _ e1 e2 hQ => by
  obtain ⟨_, rfl⟩ := e1.inv; obtain ⟨_, rfl⟩ := e2.inv; exact SB.add (fun t k => hQ _ s.heap k G.rfl (.str _ _)) hz
theorem Op2.eqs {a b : Str} : Op2 c n (compareOp .Eq) (.str a) (.str b) (.bool (a == b)) := fun _ _ s _ _ _ _ _ _ e1 e2 hQ => by
  obtain ⟨_, rfl⟩ := e1.inv; obtain ⟨_, rfl⟩ := e2.inv; exact eq_str (hQ _ s.heap s.toks G.rfl (.bool _))
theorem Op2.nes {a b : Str} : Op2 c n (compareOp .NotEq) (.str a) (.str b) (.bool (a != b)) := fun _ _ s _ _ _ _ _ _ e1 e2 hQ => by
  obtain ⟨_, rfl⟩ := e1.inv; obtain ⟨_, rfl⟩ := e2.inv; exact ne_str (hQ _ s.heap s.toks G.rfl (.bool _))
theorem Op2.notins {a b : Str} : Op2 c n (compareOp .NotIn) (.str a) (.str b) (.bool (!Txt.contains b a)) := fun _ _ s _ _ _ _ _ _ e1 e2 hQ => by
  obtain ⟨_, rfl⟩ := e1.inv; obtain ⟨_, rfl⟩ := e2.inv; exact SB.notContains (hQ _ s.heap s.toks G.rfl (.bool _))
end
end Mine
end
section
open PySem PySem.W PyProof.Rows
set_option autoImplicit false
namespace Mine

theorem ofString_inj {a b : String} (h : Str.ofString a = Str.ofString b) : a = b := by
  rw [Str.ofString_eq_toList, Str.ofString_eq_toList] at h
  have h1 : a.toList.map Char.toNat = b.toList.map Char.toNat := by
    have := congrArg (fun x : Str => x.cps.toList) h
    simpa using this
  have inj : ∀ (l m : List Char), l.map Char.toNat = m.map Char.toNat → l = m := by
    intro l
    induction l with
    | nil => intro m e; cases m with
      | nil => rfl
      | cons c r => simp at e
    | cons c r ih =>
      intro m e
      cases m with
      | nil => simp at e
      | cons d q =>
        simp only [List.map_cons, List.cons.injEq] at e
        rw [ih q e.2]
        have : c = d := by
          apply Char.ext
          apply UInt32.toNat.inj
          exact e.1
        rw [this]
  have := inj _ _ h1
  exact String.toList_inj.mp this

noncomputable def Tests (c : Cx) (n : Nat) (env : Env) (ρ : Rho) (e : Expr) (b : Bool) : Prop :=
  ∀ (A : Around) (Z U : AS) (s : Shared) (Q : Bool → Shared → Prop), AOk c n A → c.Ok s.heap → FS env Z U s.heap ρ →
    (∀ h' tk, G s.heap h' → Q b { s with heap := h', toks := tk }) → wpAny (model c.prog c.w) A (isTrue e env (eval e env)) Q NE s

section
variable {c : Cx} {n : Nat} {env : Env} {ρ : Rho}
theorem Tests.cmp {op : CmpOp} {l r : Expr} {pos : Pos} {d1 d2 : D} {b : Bool} (h1 : Evals c n env ρ l d1) (h2 : Evals c n env ρ r d2) (o : Op2 c n (compareOp op) d1 d2 (.bool b))
    (hm : behindInMarks op r = false := by with_unfolding_all rfl) : Tests c n env ρ (.Compare l [op] [r] pos) b := by
  intro A Z U s Q ao ok F hQ
  refine wpAny_isTrue_Compare1 (wpAny_mono (h1.two h2 o ao ok F (Q := fun v s' => wpAny (model c.prog c.w) A (truthy v) Q NE s') fun v h' tk g e => ?_) (fun _ _ x => ?_) fun _ _ x => x) hm
  · cases e
    exact wpAny_truthy_bool (hQ h' tk g)
  · exact x
theorem Tests.val {e : Expr} {b : Bool} (h : Evals c n env ρ e (.bool b)) (hp : ∀ w, isTrue e env w = (do let v ← w; standAt e.pos; holding [v] (truthy v)) := by intro _; rfl) : Tests c n env ρ e b := by
  intro A Z U s Q ao ok F hQ
  refine wpAny_isTrue_value (h A Z U s _ ao ok F fun v h' tk g e => ?_) (hp _)
  cases e
  exact wpAny_truthy_bool (hQ h' tk g)
theorem Tests.str {e : Expr} {x : Str} (h : Evals c n env ρ e (.str x)) (hx : x.length < 2 ^ 62) (hp : ∀ w, isTrue e env w = (do let v ← w; standAt e.pos; holding [v] (truthy v)) := by intro _; rfl) : Tests c n env ρ e ((x.length : Int) != 0) := by
  intro A Z U s Q ao ok F hQ
  refine wpAny_isTrue_value (h A Z U s _ ao ok F fun v h' tk g e => ?_) (hp _)
  cases e
  refine P.truthy_str (by omega) ?_
  exact hQ h' _ g
theorem Tests.or2 {x y : Expr} {pos : Pos} {a b : Bool} (h1 : Tests c n env ρ x a) (h2 : a = false → Tests c n env ρ y b) : Tests c n env ρ (.BoolOp .Or [x, y] pos) (a || b) := by
  intro A Z U s Q ao ok F hQ
  refine wpAny_isTrue_BoolOp (wpAny_allTrue_Or_cons (h1 A Z U s _ ao ok F fun h' tk g => ?_))
  cases a with
  | true => exact hQ h' tk g
  | false => exact wpAny_allTrue_Or_cons (h2 rfl A Z U _ _ ao (ok.g g) (F.g g) fun h2' tk2 g2 => by
      cases b with
      | true => exact hQ h2' tk2 (g.trans g2)
      | false => exact wpAny_allTrue_Or_nil (hQ h2' tk2 (g.trans g2)))
theorem Tests.and2 {x y : Expr} {pos : Pos} {a b : Bool} (h1 : Tests c n env ρ x a) (h2 : a = true → Tests c n env ρ y b) : Tests c n env ρ (.BoolOp .And [x, y] pos) (a && b) := by
  intro A Z U s Q ao ok F hQ
  refine wpAny_isTrue_BoolOp (wpAny_allTrue_And_cons (h1 A Z U s _ ao ok F fun h' tk g => ?_))
  cases a with
  | false => exact hQ h' tk g
  | true => exact wpAny_allTrue_And_cons (h2 rfl A Z U _ _ ao (ok.g g) (F.g g) fun h2' tk2 g2 => by
      cases b with
      | false => exact hQ h2' tk2 (g.trans g2)
      | true => exact wpAny_allTrue_And_nil (hQ h2' tk2 (g.trans g2)))
end

end Mine
end
section
open PySem PySem.W PyProof.Rows
set_option autoImplicit false
namespace Mine

/-- a frame that may be written: what stood at the call's start (h₀) stands; the cells are the frame's own -/
structure FW (c : Cx) (h₀ : Heap) (env : Env) (Z U : AS) (h : Heap) (ρ : Rho) : Prop where
  fs : FS env Z U h ρ
  ok : c.Ok h₀
  base : G h₀ h
  off : ∀ a, U a → h₀.get? a = none
  own : env.func ≠ none → ∀ x k, env.cells.lookup x = some k → U k

theorem FW.g {c : Cx} {h₀ h h' : Heap} {env : Env} {Z U : AS} {ρ : Rho} (F : FW c h₀ env Z U h ρ) (k : G h h') : FW c h₀ env Z U h' ρ :=
  ⟨F.fs.g k, F.ok, F.base.trans k, F.off, F.own⟩
theorem FW.okh {c : Cx} {h₀ h : Heap} {env : Env} {Z U : AS} {ρ : Rho} (F : FW c h₀ env Z U h ρ) : c.Ok h := F.ok.g F.base

theorem upd_self (ρ : Rho) (x : String) (v : Sl) : upd ρ x v x = some v := by unfold upd; rw [if_pos rfl]
theorem upd_ne (ρ : Rho) {x y : String} (v : Sl) (h : y ≠ x) : upd ρ x v y = ρ y := by unfold upd; rw [if_neg h]

theorem upd_cases {ρ : Rho} {x y : String} {sl s2 : Sl} (e : upd ρ x sl y = some s2) : (y = x ∧ sl = s2) ∨ (y ≠ x ∧ ρ y = some s2) := by
  by_cases q : y = x
  · rw [q, upd_self] at e; exact .inl ⟨q, Option.some.inj e⟩
  · rw [upd_ne _ _ q] at e; exact .inr ⟨q, e⟩
theorem upd_off {ρ : Rho} {x y : String} {sl s2 : Sl} (e : upd ρ x sl y = some s2) (h : (sl.ctorIdx == s2.ctorIdx) = false) : ρ y = some s2 :=
  (upd_cases e).elim (fun q => by rw [q.2, beq_self_eq_true] at h; cases h) (·.2)
/-- two objects of two kinds stand at two addresses -/
theorem apart {h : Heap} {a : Addr} {o o' : Obj} (e : h.get? a = some o) (e' : h.get? a = some o') (n : (o.data.ctorIdx == o'.data.ctorIdx) = false) : False := by
  rw [e] at e'; cases e'; rw [beq_self_eq_true] at n; cases n
theorem Has.iff {env : Env} {h h' : Heap} {m m' : Str → Option Value} {x : Str} {v : Value} (e : m x = m' x) (k : ∀ c, env.cells.lookup x = some c → h'.get? c = h.get? c) : Has env h m x v ↔ Has env h' m' x v := by
  unfold Has Heap.IsCell
  rw [e]
  exact or_congr .rfl (and_congr .rfl (exists_congr fun c => and_congr_right fun hc => by rw [k c hc]))
theorem FS.cne {env : Env} {Z U : AS} {h : Heap} {ρ : Rho} (F : FS env Z U h ρ) {a : Addr} {o : Obj} (g : h.get? a = some o) (nc : (o.data.ctorIdx == (Data.cell none).ctorIdx) = false) (y : Str) (k : Addr) (e : env.cells.lookup y = some k) : k ≠ a := fun q => by
  obtain ⟨⟨v, o', ho, hd⟩, _⟩ := F.cell y k e
  exact apart g (q ▸ ho) (by rw [hd]; exact nc)
theorem FS.lne {env : Env} {Z U : AS} {h : Heap} {ρ : Rho} (F : FS env Z U h ρ) {a : Addr} {o : Obj} (g : h.get? a = some o) (nd : (o.data.ctorIdx == (Data.dict #[] 0).ctorIdx) = false) : env.locals ≠ a := fun q => by
  obtain ⟨m, ⟨o', es, n, ho, hd, _⟩, _⟩ := F.vars
  exact apart g (q ▸ ho) (by rw [hd]; exact nd)

/-- one address of U is written (the frame's dict or a cell): the names but x hold what they held -/
theorem FS.store {env : Env} {Z U : AS} {h h' : Heap} {ρ : Rho} {x : String} {v : Value} {sl : Sl} {a : Addr} (F : FS env Z U h ρ) (ua : U a) (hs : Heap.SameBut a h h') (ex : ∃ o, h'.get? a = some o)
    (hl : ∀ o, h.get? a = some o → (∃ v, o.data = .cell v) ∨ (a = env.locals ∧ ∃ es n, o.data = .dict es n))
    (nw : ∀ m, h.Ns env.locals m → ∃ m', h'.Ns env.locals m' ∧ Has env h' m' (Str.ofString x) v ∧ ∀ y, y ≠ x → ∀ u, Has env h m (Str.ofString y) u ↔ Has env h' m' (Str.ofString y) u)
    (dv : SlD env.locals Z U h v sl) (hinj : ∀ m, h.Ns env.locals m → ∀ ds y dy, sl = .own ds → y ≠ x → ρ y = some (.own dy) → ¬ Has env h m (Str.ofString y) v)
    (hone : ∀ a C fs, sl = .obj a C fs → ∀ y b D gs, y ≠ x → ρ y ≠ some (.obj b D gs)) (hc : ∀ y k, env.cells.lookup y = some k → ∃ u, h'.IsCell k u) : FS env Z U h' (upd ρ x sl) := by
  have kb : ∀ b o, ¬ Both Z U b → h.get? b = some o → ¬ Both Z U b ∧ h'.get? b = some o := fun b o nb e => ⟨nb, (hs.2 b fun q => nb (q ▸ .inr ua)).trans e⟩
  have off : ∀ {d d' : Data}, d = d' → (d.ctorIdx == d'.ctorIdx) = false → False := fun e n => by rw [e, beq_self_eq_true] at n; cases n
  have mv : ∀ {v : Value} {sl : Sl}, SlD env.locals Z U h v sl → SlD env.locals Z U h' v sl := fun {v sl} S =>
    S.move kb (fun _ u => u)
      (fun b vs n _ e => (hs.2 b fun q => by
        rcases hl _ (q ▸ e) with ⟨_, d⟩ | ⟨_, _, _, d⟩ <;> exact off d rfl).trans e)
      (fun b C dx _ e => (hs.2 b fun q => by
        rcases hl _ (q ▸ e) with ⟨_, d⟩ | ⟨_, _, _, d⟩ <;> exact off d rfl).trans e)
      (fun b es n _ nl e => (hs.2 b fun q => by
        rcases hl _ (q ▸ e) with ⟨_, d⟩ | ⟨d, _⟩
        · exact off d rfl
        · exact nl (q.trans d)).trans e)
  obtain ⟨m, hm, hv, hi⟩ := F.vars
  obtain ⟨m', hm', hx, hy⟩ := nw m hm
  refine ⟨F.kind, F.glob, F.blt, F.loc, fun b sb => ?_, F.disj, ⟨m', hm', fun y sl' e => ?_, fun y z dy dz b e1 e2 h1 h2 => ?_⟩, fun y z a' b' C D fs gs e1 e2 => ?_, fun y k e => ⟨hc y k e, (F.cell y k e).2⟩⟩
  · by_cases q : b = a
    · subst q; exact ex
    · obtain ⟨o, e⟩ := F.live b sb
      exact ⟨o, (hs.2 b q).trans e⟩
  · rcases upd_cases e with ⟨rfl, rfl⟩ | ⟨q, e⟩
    · exact ⟨v, hx, mv dv⟩
    · obtain ⟨u, H, sd⟩ := hv y sl' e
      exact ⟨u, (hy y q u).mp H, mv sd⟩
  · rcases upd_cases e1 with ⟨rfl, r1⟩ | ⟨n1, e3⟩
    · rcases upd_cases e2 with ⟨q, _⟩ | ⟨n2, e4⟩
      · exact q.symm
      · exact absurd (h1.unique G.rfl hx ▸ (hy z n2 _).mpr h2) (hinj m hm _ z _ r1 n2 e4)
    · rcases upd_cases e2 with ⟨rfl, r2⟩ | ⟨n2, e4⟩
      · exact absurd (h2.unique G.rfl hx ▸ (hy y n1 _).mpr h1) (hinj m hm _ y _ r2 n1 e3)
      · exact hi y z dy dz b e3 e4 ((hy y n1 _).mpr h1) ((hy z n2 _).mpr h2)
  · rcases upd_cases e1 with ⟨q, r1⟩ | ⟨n1, e3⟩
    · rcases upd_cases e2 with ⟨r, _⟩ | ⟨n2, e4⟩
      · exact q.trans r.symm
      · exact absurd e4 (hone _ _ _ r1 z _ _ _ n2)
    · rcases upd_cases e2 with ⟨_, r2⟩ | ⟨n2, e4⟩
      · exact absurd e3 (hone _ _ _ r2 y _ _ _ n1)
      · exact F.one y z _ _ _ _ _ _ e3 e4

noncomputable def Stores (env : Env) (x : String) : Prop := env.kindOf (Str.ofString x) = some .local ∨ ∃ k, env.kindOf (Str.ofString x) = some .cell ∧ env.cells.lookup (Str.ofString x) = some k ∧ env.func ≠ none

/-- x alone is stored -/
noncomputable def Stored (env : Env) (h h' : Heap) (x : String) (v : Value) : Prop :=
  ∀ m, h.Ns env.locals m → ∃ m', h'.Ns env.locals m' ∧ Has env h' m' (Str.ofString x) v ∧ ∀ y, y ≠ x → ∀ u, Has env h m (Str.ofString y) u ↔ Has env h' m' (Str.ofString y) u
theorem FW.storeSl' {c : Cx} {A : Around} {h₀ : Heap} {env : Env} {Z U : AS} {s : Shared} {ρ : Rho} {x : String} {v : Value} {sl : Sl} {Q : Unit → Shared → Prop} (F : FW c h₀ env Z U s.heap ρ) (st : Stores env x) (dv : SlD env.locals Z U s.heap v sl)
    (hinj : ∀ m, s.heap.Ns env.locals m → ∀ ds y dy, sl = .own ds → y ≠ x → ρ y = some (.own dy) → ¬ Has env s.heap m (Str.ofString y) v) (hone : ∀ a C fs, sl = .obj a C fs → ∀ y b D gs, y ≠ x → ρ y ≠ some (.obj b D gs))
    (hQ : ∀ h' tk, FW c h₀ env Z U h' (upd ρ x sl) → KB U s.heap h' → (∀ a, s.heap.get? a = none → h'.get? a = none) → Stored env s.heap h' x v →
      (∀ b o, b ≠ env.locals → (∀ v, o.data ≠ .cell v) → s.heap.get? b = some o → h'.get? b = some o) → Q () { s with heap := h', toks := tk }) : wpAny (model c.prog c.w) A (storeName env (Str.ofString x) v) Q NE s := by
  have fin : ∀ {a : Addr} {h' : Heap} {tk : Nat} {o : Obj}, U a → Heap.SameBut a s.heap h' → s.heap.get? a = some o → ((∃ v, o.data = .cell v) ∨ (a = env.locals ∧ ∃ es n, o.data = .dict es n)) → (∃ o, h'.get? a = some o) →
      Stored env s.heap h' x v → (∀ y k, env.cells.lookup y = some k → ∃ u, h'.IsCell k u) → Q () { s with heap := h', toks := tk } := by
    intro a h' tk o ua hs ea hd ex nw hc
    refine hQ h' tk ⟨F.fs.store ua hs ex (fun o e => ?_) nw dv hinj hone hc, F.ok, fun b o e => (hs.2 b fun q => ?_).trans (F.base b o e), F.off, F.own⟩ (fun b o nb e => (hs.2 b fun q => nb (q ▸ ua)).trans e)
      (fun b e => (hs.2 b fun q => ?_).trans e) nw fun b o nb nc e => (hs.2 b fun q => ?_).trans e
    · rw [ea] at e; cases e; exact hd
    · rw [q, F.off _ ua] at e; cases e
    · rw [q, ea] at e; cases e
    · rw [q, ea] at e; cases e
      exact hd.elim (fun ⟨v, d⟩ => nc v d) fun d => nb (q.trans d.1)
  obtain ⟨m, hm, _, _⟩ := F.fs.vars
  have ⟨o, es, ep, eo, ed, _⟩ := hm
  rcases st with kl | ⟨k, kc, hk, hfn⟩
  · refine wpAny_storeName_local kl hm (fun h' hn hs => ?_) (by rw [F.fs.kind]; rfl)
    have hcell := F.fs.cne eo (by rw [ed]; rfl)
    refine fin F.fs.loc hs eo (.inr ⟨rfl, _, _, ed⟩) (let ⟨o, _, _, e, _⟩ := hn; ⟨o, e⟩) (fun m₁ hm₁ => ⟨_, hn, .inl ⟨kl, by simp⟩, fun y ny u => ?_⟩) fun y k e => ?_
    · rw [hm₁.eq_nsMap.trans hm.eq_nsMap.symm]
      have ns : Str.ofString y ≠ Str.ofString x := fun q => ny (ofString_inj q)
      exact Has.iff (by simp [ns]) fun k hk => hs.2 k (hcell _ _ hk)
    · obtain ⟨⟨u, o, ho, hd⟩, _⟩ := F.fs.cell y k e
      exact ⟨u, o, (hs.2 k (hcell _ _ e)).trans ho, hd⟩
  · obtain ⟨⟨v₀, ic⟩, inj⟩ := F.fs.cell _ k hk
    have uk := F.own hfn _ k hk
    refine wpAny_storeName_cell F.fs.kind kc hk ic fun h' hv hs => ?_
    obtain ⟨oc, ec, dc⟩ := ic
    refine fin uk hs ec (.inl ⟨_, dc⟩) (let ⟨o, e, _⟩ := hv; ⟨o, e⟩) (fun m₁ hm₁ => ⟨m₁, hm₁.sameBut hs (F.fs.lne ec (by rw [dc]; rfl)), .inr ⟨.inl kc, k, hk, hv⟩, fun y ny u => Has.iff rfl fun k' hk' => hs.2 k' fun q => ny (ofString_inj (inj _ (q ▸ hk')))⟩) fun y k' e => ?_
    by_cases q : k' = k
    · exact q ▸ ⟨_, hv⟩
    · obtain ⟨⟨u, o, ho, hd⟩, _⟩ := F.fs.cell y k' e
      exact ⟨u, o, (hs.2 k' q).trans ho, hd⟩
theorem FW.storeSl {c : Cx} {A : Around} {h₀ : Heap} {env : Env} {Z U : AS} {s : Shared} {ρ : Rho} {x : String} {v : Value} {sl : Sl} {Q : Unit → Shared → Prop} (F : FW c h₀ env Z U s.heap ρ) (st : Stores env x) (dv : SlD env.locals Z U s.heap v sl)
    (hinj : ∀ m, s.heap.Ns env.locals m → ∀ ds y dy, sl = .own ds → y ≠ x → ρ y = some (.own dy) → ¬ Has env s.heap m (Str.ofString y) v) (hone : ∀ a C fs, sl = .obj a C fs → ∀ y b D gs, y ≠ x → ρ y ≠ some (.obj b D gs))
    (hQ : ∀ h' tk, FW c h₀ env Z U h' (upd ρ x sl) → KB U s.heap h' → (∀ a, s.heap.get? a = none → h'.get? a = none) → Q () { s with heap := h', toks := tk }) : wpAny (model c.prog c.w) A (storeName env (Str.ofString x) v) Q NE s :=
  F.storeSl' st dv hinj hone fun h' tk F' kb kn _ _ => hQ h' tk F' kb kn
theorem FW.store {c : Cx} {A : Around} {h₀ : Heap} {env : Env} {Z U : AS} {s : Shared} {ρ : Rho} {x : String} {v : Value} {d : D} {Q : Unit → Shared → Prop} (F : FW c h₀ env Z U s.heap ρ) (st : Stores env x) (dv : Den (Both Z U) s.heap v d)
    (hQ : ∀ h' tk, FW c h₀ env Z U h' (upd ρ x (.fz d)) → KB U s.heap h' → (∀ a, s.heap.get? a = none → h'.get? a = none) → Q () { s with heap := h', toks := tk }) : wpAny (model c.prog c.w) A (storeName env (Str.ofString x) v) Q NE s :=
  F.storeSl (sl := .fz d) st dv (fun _ _ _ _ _ e => by cases e) (fun _ _ _ e => by cases e) hQ

/-- new addresses may be the frame's own -/
theorem FW.extend {c : Cx} {h₀ h h' : Heap} {env : Env} {Z U N : AS} {ρ : Rho} (F : FW c h₀ env Z U h ρ) (g : G h h') (nw : ∀ a, N a → h.get? a = none ∧ ∃ o, h'.get? a = some o) : FW c h₀ env Z (fun a => U a ∨ N a) h' ρ where
  fs := by
    have no : ∀ b o, h.get? b = some o → ¬ N b := fun b o e nb => by have := (nw b nb).1; rw [e] at this; cases this
    have mv : ∀ {v : Value} {sl : Sl}, SlD env.locals Z U h v sl → SlD env.locals Z (fun a => U a ∨ N a) h' v sl := fun {v sl} S =>
      S.move (fun b o nb e => ⟨fun q => q.elim (fun z => nb (.inl z)) fun z => z.elim (fun z => nb (.inr z)) (no b o e), g b o e⟩) (fun _ u => .inl u) (fun _ _ _ _ e => g _ _ e) (fun _ _ _ _ e => g _ _ e) fun _ _ _ _ _ e => g _ _ e
    refine ⟨F.fs.kind, F.fs.glob, F.fs.blt, .inl F.fs.loc, fun a s => ?_, fun a u z => ?_, ?_, F.fs.one, (F.fs.g g).cell⟩
    · rcases s with z | u | n
      · obtain ⟨o, e⟩ := F.fs.live a (.inl z); exact ⟨o, g _ _ e⟩
      · obtain ⟨o, e⟩ := F.fs.live a (.inr u); exact ⟨o, g _ _ e⟩
      · exact (nw a n).2
    · rcases u with u | n
      · exact F.fs.disj a u z
      · obtain ⟨o, e⟩ := F.fs.live a (.inl z); exact no a o e n
    · obtain ⟨m, hm, hv, hi⟩ := F.fs.vars
      refine ⟨m, hm.keeps g, fun x sl e => ?_, fun x y dx dy a e1 e2 h1 h2 => ?_⟩
      · obtain ⟨v, H, d⟩ := hv x sl e
        exact ⟨v, H.g g, mv d⟩
      · obtain ⟨v1, H1, _⟩ := hv x _ e1
        obtain ⟨v2, H2, _⟩ := hv y _ e2
        cases H1.unique g h1
        cases H2.unique g h2
        exact hi x y dx dy a e1 e2 H1 H2
  ok := F.ok
  base := F.base.trans g
  off := fun a u => by
    rcases u with u | n
    · exact F.off a u
    · cases e : h₀.get? a with
      | none => rfl
      | some o => have := F.base a o e; rw [(nw a n).1] at this; cases this
  own := fun q x k e => .inl (F.own q x k e)

inductive Out where
  | next (ρ : Rho)
  | ret (d : D)
  | brk (ρ : Rho)

noncomputable def Lands (c : Cx) (h₀ : Heap) (env : Env) (Z U : AS) (h : Heap) : Flow → Out → Prop
  | .next, .next ρ => FW c h₀ env Z U h ρ
  | .brk, .brk ρ => FW c h₀ env Z U h ρ
  | .ret v, .ret d => Den (Both Z U) h v d
  | _, _ => False
noncomputable def Post (c : Cx) (h₀ : Heap) (env : Env) (Z U : AS) (s : Shared) (Φ : Out → Prop) (f : Flow) (s' : Shared) : Prop :=
  ∃ h' tk U' out, s' = { s with heap := h', toks := tk } ∧ G h₀ h' ∧ KB U s.heap h' ∧ (∀ a, U' a → U a ∨ s.heap.get? a = none) ∧ (∀ a, U' a → h₀.get? a = none) ∧ Lands c h₀ env Z U' h' f out ∧ Φ out

noncomputable def Runs (c : Cx) (n : Nat) (env : Env) (ρ : Rho) (ss : List Stmt) (Φ : Out → Prop) : Prop :=
  ∀ (A : Around) (h₀ : Heap) (Z U : AS) (s : Shared), AOk c n A → FW c h₀ env Z U s.heap ρ → wpAny (model c.prog c.w) A (execs ss env) (Post c h₀ env Z U s Φ) NE s
/-- one statement -/
noncomputable def Run1 (c : Cx) (n : Nat) (env : Env) (ρ : Rho) (st : Stmt) (Φ : Out → Prop) : Prop :=
  ∀ (A : Around) (h₀ : Heap) (Z U : AS) (s : Shared), AOk c n A → FW c h₀ env Z U s.heap ρ → wpAny (model c.prog c.w) A (exec st env) (Post c h₀ env Z U s Φ) NE s

theorem Post.trans {c : Cx} {h₀ : Heap} {env : Env} {Z U U₁ : AS} {s : Shared} {Φ : Out → Prop} {h₁ : Heap} {tk₁ : Nat} (k : KB U s.heap h₁) (u : ∀ a, U₁ a → U a ∨ s.heap.get? a = none) {f : Flow} {s' : Shared}
    (P : Post c h₀ env Z U₁ { s with heap := h₁, toks := tk₁ } Φ f s') : Post c h₀ env Z U s Φ f s' := by
  obtain ⟨h', tk, U', out, rfl, g, kb, uu, o, l, p⟩ := P
  refine ⟨h', tk, U', out, rfl, g, fun b o nb e => kb b o (fun ub => ?_) (k b o nb e), fun a ua => ?_, o, l, p⟩
  · rcases u b ub with q | q
    · exact nb q
    · rw [q] at e; cases e
  · rcases uu a ua with q | q
    · exact u a q
    · by_cases w : U a
      · exact .inl w
      · right
        cases e : s.heap.get? a with
        | none => rfl
        | some o => rw [show h₁.get? a = some o from k a o w e] at q; cases q
theorem Post.mono {c : Cx} {h₀ : Heap} {env : Env} {Z U : AS} {s : Shared} {Φ Ψ : Out → Prop} (i : ∀ o, Φ o → Ψ o) {f : Flow} {s' : Shared} (P : Post c h₀ env Z U s Φ f s') : Post c h₀ env Z U s Ψ f s' := by
  obtain ⟨h', tk, U', out, r⟩ := P
  exact ⟨h', tk, U', out, r.1, r.2.1, r.2.2.1, r.2.2.2.1, r.2.2.2.2.1, r.2.2.2.2.2.1, i _ r.2.2.2.2.2.2⟩
/-- the heap has only grown, the frame's set is the same -/
theorem Post.grown {c : Cx} {h₀ : Heap} {env : Env} {Z U : AS} {s : Shared} {ρ : Rho} {Φ : Out → Prop} {h₁ : Heap} {tk₁ : Nat} (_F : FW c h₀ env Z U s.heap ρ) (k : G s.heap h₁) {f : Flow} {s' : Shared}
    (P : Post c h₀ env Z U { s with heap := h₁, toks := tk₁ } Φ f s') : Post c h₀ env Z U s Φ f s' := P.trans k.kb fun _ q => .inl q

noncomputable def Then (c : Cx) (n : Nat) (env : Env) (rest : List Stmt) (Ψ : Out → Prop) : Out → Prop
  | .next ρ => Runs c n env ρ rest Ψ
  | o => Ψ o

section
variable {c : Cx} {n : Nat} {env : Env} {ρ : Rho} {Φ Ψ : Out → Prop}
theorem Runs.nil (h : Φ (.next ρ)) : Runs c n env ρ [] Φ := by
  intro A h₀ Z U s ao F
  exact wpAny_execs_nil ⟨s.heap, s.toks, U, .next ρ, rfl, F.base, fun _ _ _ e => e, fun _ q => .inl q, F.off, F, h⟩
theorem Runs.cons {st : Stmt} {rest : List Stmt} (h : Run1 c n env ρ st (Then c n env rest Ψ)) : Runs c n env ρ (st :: rest) Ψ := by
  intro A h₀ Z U s ao F
  refine wpAny_execs_cons (wpAny_mono (h A h₀ Z U s ao F) (fun f s₁ P => ?_) fun _ _ x => x)
  obtain ⟨h₁, tk₁, U₁, out, rfl, g, kb, uu, o, l, p⟩ := P
  cases f with
  | next =>
    cases out with
    | next ρ' => exact wpAny_mono (p A h₀ Z U₁ _ ao l) (fun f s₂ P => P.trans kb uu) fun _ _ x => x
    | ret d => exact l.elim
    | brk ρ' => exact l.elim
  | brk =>
    cases out with
    | next ρ' => exact l.elim
    | ret d => exact l.elim
    | brk ρ' => exact ⟨h₁, tk₁, U₁, .brk ρ', rfl, g, kb, uu, o, l, p⟩
  | cont => cases out <;> exact l.elim
  | ret v =>
    cases out with
    | next ρ' => exact l.elim
    | ret d => exact ⟨h₁, tk₁, U₁, .ret d, rfl, g, kb, uu, o, l, p⟩
    | brk ρ' => exact l.elim

theorem Runs.mono {ss : List Stmt} (h : Runs c n env ρ ss Φ) (i : ∀ o, Φ o → Ψ o) : Runs c n env ρ ss Ψ := fun A h₀ Z U s ao F => wpAny_mono (h A h₀ Z U s ao F) (fun _ _ P => P.mono i) fun _ _ x => x

theorem Run1.ite {test : Expr} {body orelse : List Stmt} {pos : Pos} {b : Bool} (ht : Tests c n env ρ test b) (h1 : b = true → Runs c n env ρ body Φ) (h2 : b = false → Runs c n env ρ orelse Φ) : Run1 c n env ρ (.If test body orelse pos) Φ := by
  intro A h₀ Z U s ao F
  refine wpAny_If (ht A Z U s _ ao F.okh F.fs fun h' tk g => ?_)
  cases b with
  | true => exact wpAny_mono (h1 rfl A h₀ Z U _ ao (F.g g)) (fun _ _ P => P.grown F g) fun _ _ x => x
  | false => exact wpAny_mono (h2 rfl A h₀ Z U _ ao (F.g g)) (fun _ _ P => P.grown F g) fun _ _ x => x
theorem Run1.ret {e : Expr} {pos : Pos} {d : D} (h : Evals c n env ρ e d) (p : Φ (.ret d)) : Run1 c n env ρ (.Return (some e) pos) Φ := by
  intro A h₀ Z U s ao F
  exact wpAny_Return_some (h A Z U s _ ao F.okh F.fs fun v h' tk g e => ⟨h', tk, U, .ret d, rfl, F.base.trans g, g.kb, fun _ q => .inl q, F.off, e, p⟩)
theorem Run1.brk {pos : Pos} (p : Φ (.brk ρ)) : Run1 c n env ρ (.Break pos) Φ := by
  intro A h₀ Z U s ao F
  exact wpAny_Break ⟨s.heap, s.toks, U, .brk ρ, rfl, F.base, fun _ _ _ e => e, fun _ q => .inl q, F.off, F, p⟩
theorem Run1.assert {e : Expr} {msg : Option Expr} {pos : Pos} (h : Tests c n env ρ e true) (p : Φ (.next ρ)) : Run1 c n env ρ (.Assert e msg pos) Φ := by
  intro A h₀ Z U s ao F
  exact wpAny_Assert_holds (h A Z U s _ ao F.okh F.fs fun h' tk g => ⟨rfl, h', tk, U, .next ρ, rfl, F.base.trans g, g.kb, fun _ q => .inl q, F.off, F.g g, p⟩)

/-- a store behind a growth -/
theorem FW.stored {A : Around} {h₀ : Heap} {Z U : AS} {s : Shared} {x : String} {v : Value} {d : D} {h₁ : Heap} {tk₁ : Nat} {Q : Unit → Shared → Prop} (F : FW c h₀ env Z U s.heap ρ) (g : G s.heap h₁) (st : Stores env x) (dv : Den (Both Z U) h₁ v d)
    (hQ : ∀ h' tk, FW c h₀ env Z U h' (upd ρ x (.fz d)) → KB U s.heap h' → Q () { s with heap := h', toks := tk }) : wpAny (model c.prog c.w) A (storeName env (Str.ofString x) v) Q NE { s with heap := h₁, toks := tk₁ } :=
  (F.g g).store (s := { s with heap := h₁, toks := tk₁ }) st dv fun h' tk F' kb _ => hQ h' tk F' fun b o nb e => kb b o nb (g b o e)

theorem Run1.assign {x : String} {e : Expr} {px pos : Pos} {d : D} (st : Stores env x) (h : Evals c n env ρ e d) (p : Φ (.next (upd ρ x (.fz d))))
    (hs : swapsWith e (some (.Name (Str.ofString x) px)) pos.line env = pure false := by rfl) : Run1 c n env ρ (.Assign [.Name (Str.ofString x) px] e pos) Φ := by
  intro A h₀ Z U s ao F
  refine wpAny_Assign_Name (h A Z U s _ ao F.okh F.fs fun v h' tk g dv => F.stored g st dv fun h2 tk2 F2 kb => ?_) hs
  exact ⟨h2, tk2, U, .next _, rfl, F2.base, kb, fun _ q => .inl q, F.off, F2, p⟩
theorem Run1.aug {x : String} {op : Operator} {e : Expr} {px pos : Pos} {d0 d1 d : D} (st : Stores env x) (h0 : ρ x = some (.fz d0)) (h : Evals c n env ρ e d1) (o : Op2 c n (inplaceOp op) d0 d1 d) (p : Φ (.next (upd ρ x (.fz d))))
    (hl : env.kindOf (Str.ofString x) = some .local := by rfl) : Run1 c n env ρ (.AugAssign (.Name (Str.ofString x) px) op e pos) Φ := by
  intro A h₀ Z U s ao F
  obtain ⟨m, hm, hv, _⟩ := F.fs.vars
  obtain ⟨v0, H, dv0⟩ := hv x _ h0
  rcases H with ⟨_, b⟩ | ⟨a | a, _⟩
  · refine wpAny_AugAssign_Name (wpAny_loadName_local F.fs.kind hl hm b (h A Z U s _ ao F.okh F.fs fun v1 h1 tk1 g1 dv1 => ?_))
    refine o A (Both Z U) _ _ v0 v1 ao (F.okh.g g1) (F.fs.g g1).live (Den.g g1 dv0) dv1 fun v h2 tk2 g2 dv => ?_
    refine F.stored (g1.trans g2) st dv fun h3 tk3 F3 kb => ?_
    exact ⟨h3, tk3, U, .next _, rfl, F3.base, kb, fun _ q => .inl q, F.off, F3, p⟩
  · rw [hl] at a; cases a
  · rw [hl] at a; cases a

theorem Run1.while {test : Expr} {body : List Stmt} {pos : Pos} (Inv : Nat → Rho → Prop) {n0 : Nat} (h0 : Inv n0 ρ)
    (turn : ∀ k ρ', Inv k ρ' → ∃ b, Tests c n env ρ' test b ∧
      (b = true → Runs c n env ρ' body (fun o => match o with | .next ρ'' => ∃ k', k' < k ∧ Inv k' ρ'' | .brk ρ'' => Φ (.next ρ'') | .ret d => Φ (.ret d))) ∧ (b = false → Φ (.next ρ'))) :
    Run1 c n env ρ (.While test body [] pos) Φ := by
  intro A h₀ Z U s ao F
  obtain ⟨LI, hLI⟩ : ∃ LI : Nat → Shared → Prop, ∀ k s', LI k s' ↔ (∃ h₁ tk₁ U₁ ρ₁, s' = { s with heap := h₁, toks := tk₁ } ∧ KB U s.heap h₁ ∧ (∀ a, U₁ a → U a ∨ s.heap.get? a = none) ∧ FW c h₀ env Z U₁ h₁ ρ₁ ∧ Inv k ρ₁) := ⟨_, fun _ _ => Iff.rfl⟩
  refine wpAny_While (codeAny_whileLoop LI ?_ n0 ((hLI _ _).mpr ⟨s.heap, s.toks, U, ρ, rfl, fun _ _ _ e => e, fun _ q => .inl q, F, h0⟩))
  intro k s' hs'
  obtain ⟨h₁, tk₁, U₁, ρ₁, rfl, kb, uu, F₁, hI⟩ := (hLI _ _).mp hs'
  clear hs'
  obtain ⟨b, ht, hb, he⟩ := turn k ρ₁ hI
  refine wpAny_mono (ht A Z U₁ { s with heap := h₁, toks := tk₁ } _ ao F₁.okh F₁.fs fun h₂ tk₂ g => ?_) (fun _ _ x => x) fun _ _ x => x.elim
  have kb2 : KB U s.heap h₂ := fun b o nb e => g b o (kb b o nb e)
  cases b with
  | false =>
    refine wpAny_execs_nil ?_
    exact ⟨h₂, tk₂, U₁, .next ρ₁, rfl, (F₁.g g).base, kb2, uu, F₁.off, F₁.g g, he rfl⟩
  | true =>
    refine wpAny_mono (hb rfl A h₀ Z U₁ { s with heap := h₂, toks := tk₂ } ao (F₁.g g)) (fun f s₃ P => ?_) fun _ _ x => x.elim
    have P' := Post.trans (s := s) kb2 uu P
    obtain ⟨h₃, tk₃, U₃, out, rfl, g3, kb3, uu3, o3, l, p⟩ := P'
    cases f with
    | next =>
      cases out with
      | next ρ'' => obtain ⟨k', lt, i⟩ := p; exact ⟨k', lt, (hLI _ _).mpr ⟨h₃, tk₃, U₃, ρ'', rfl, kb3, uu3, l, i⟩⟩
      | ret d => exact l.elim
      | brk ρ'' => exact l.elim
    | cont => cases out <;> exact l.elim
    | brk =>
      cases out with
      | brk ρ'' => exact ⟨h₃, tk₃, U₃, .next ρ'', rfl, g3, kb3, uu3, o3, l, p⟩
      | next ρ'' => exact l.elim
      | ret d => exact l.elim
    | ret v =>
      cases out with
      | ret d => exact ⟨h₃, tk₃, U₃, .ret d, rfl, g3, kb3, uu3, o3, l, p⟩
      | next ρ'' => exact l.elim
      | brk ρ'' => exact l.elim
end
end Mine
end
section
open PySem PySem.W PyProof.Rows PySem.Calls
set_option autoImplicit false
namespace Mine

noncomputable def unstarred : List Expr → Bool
  | [] => true
  | .Starred .. :: _ => false
  | _ :: r => unstarred r
theorem starEach_eq (env : Env) : ∀ es : List Expr, unstarred es = true → starEach es env = es.map fun e => (false, eval e env)
  | [], _ => rfl
  | e :: r, h => by
    cases e <;> first | (cases h; done) | exact congrArg (_ :: ·) (starEach_eq env r h)
theorem backTo_eq (pos : Pos) (env : Env) (es : List Expr) (h : unstarred es = true) : backTo pos (starEach es env) = es.map fun e => (false, eval e env) := by
  rw [starEach_eq env es h]
  unfold backTo
  simp
noncomputable def EvalsL (c : Cx) (n : Nat) (env : Env) (ρ : Rho) (es : List Expr) (ds : List D) : Prop :=
  ∀ (A : Around) (Z U : AS) (s : Shared) (Q : List Value → Shared → Prop), AOk c n A → c.Ok s.heap → FS env Z U s.heap ρ →
    (∀ vs h' tk, G s.heap h' → DenL (Both Z U) h' vs ds → Q vs { s with heap := h', toks := tk }) → wpAny (model c.prog c.w) A (spliced (es.map fun e => (false, eval e env))) Q NE s
noncomputable def Fun (c : Cx) (n : Nat) (f : Value) (ds : List D) (d : D) : Prop :=
  ∀ (A : Around) (S : AS) (s : Shared) (Q : Value → Shared → Prop) (vs : List Value), AOk c n A → c.Ok s.heap → (∀ a, S a → ∃ o, s.heap.get? a = some o) → DenL S s.heap vs ds →
    (∀ v h' tk, G s.heap h' → Den S h' v d → Q v { s with heap := h', toks := tk }) → wpAny (model c.prog c.w) A (call f vs) Q NE s
noncomputable def Callee (c : Cx) (env : Env) (e : Expr) (f : Value) : Prop :=
  ∀ (A : Around) (Z U : AS) (s : Shared) (ρ : Rho) (Q : Value → Shared → Prop), c.Ok s.heap → FS env Z U s.heap ρ → Q f s → wpAny (model c.prog c.w) A (eval e env) Q NE s
/-- what a callee may be -/
noncomputable def KeepOk (c : Cx) : Value → Prop
  | .ref a => keepIn c.K (.ref a) = true
  | .builtin _ => True
  | .type _ => True
  | _ => False

section
variable {c : Cx} {n : Nat} {env : Env} {ρ : Rho}
theorem EvalsL.nil : EvalsL c n env ρ [] [] := fun _ _ _ s _ _ _ _ hQ => spliced_nil (hQ [] s.heap s.toks G.rfl .nil)
theorem EvalsL.cons {e : Expr} {es : List Expr} {d : D} {ds : List D} (h : Evals c n env ρ e d) (t : EvalsL c n env ρ es ds) : EvalsL c n env ρ (e :: es) (d :: ds) := by
  intro A Z U s Q ao ok F hQ
  exact spliced_cons (h A Z U s _ ao ok F fun v h1 tk1 g1 dv => t A Z U _ _ ao (ok.g g1) (F.g g1) fun vs h2 tk2 g2 dl => hQ (v :: vs) h2 tk2 (g1.trans g2) (.cons (dv.g g2) dl))

theorem Callee.glob {x : String} {pos : Pos} {v : Value} (e : nsIn c.K mainGlobals (Str.ofString x) = some (some v)) (hx : env.kindOf (Str.ofString x) = some .globalImplicit := by rfl) (hd : (Str.ofString x == ("__debug__" : Str)) = false := by decide) :
    Callee c env (.Name (Str.ofString x) pos) v := by
  intro A Z U s ρ Q ok F hQ
  exact Name_function_global F.kind hx (loadGlobal_global (by rw [F.glob]; exact ok.2.g) (mg_of ok.1 ok.2.g e) hQ) hd
theorem Callee.blt {x : String} {pos : Pos} {v : Value} (e : nsIn c.K mainGlobals (Str.ofString x) = some none) (hv : bootBuiltins (Str.ofString x) = some v) (hn : Str.ofString x ≠ "__name__" := by decide)
    (hx : env.kindOf (Str.ofString x) = some .globalImplicit := by rfl) (hd : (Str.ofString x == ("__debug__" : Str)) = false := by decide) : Callee c env (.Name (Str.ofString x) pos) v := by
  intro A Z U s ρ Q ok F hQ
  exact Name_function_global F.kind hx (loadGlobal_builtin (by rw [F.glob]; exact ok.2.g) (mg_none_of ok.1 ok.2.g e) (by rw [F.blt]; exact ok.2.b) ((ok.2.builtins _ hn).trans hv) hQ) hd
/-- a text that stands at the top -/
theorem Evals.globStr {x : String} {pos : Pos} {y : Str} {t : Tok} (e : nsIn c.K mainGlobals (Str.ofString x) = some (some (.str y t))) (hx : env.kindOf (Str.ofString x) = some .globalImplicit := by rfl)
    (hd : (Str.ofString x == ("__debug__" : Str)) = false := by decide) : Evals c n env ρ (.Name (Str.ofString x) pos) (.str y) :=
  fun A Z U s Q _ ok F hQ => Callee.glob e hx hd A Z U s ρ Q ok F (hQ _ s.heap s.toks G.rfl (.str _ _))

theorem keeper_ok {M : Model} {f : Value} (k : KeepOk c f) (h : Heap) (ok : c.Ok h) : ∃ r, (r = Keeper.frame ∨ r = Keeper.machine ∨ r = Keeper.boundFrame) ∧ Looks M h (keeperOf f) r := by
  cases f with
  | ref a => exact keeps_K k h ok.1
  | builtin id => exact ⟨.machine, .inr (.inl rfl), Looks.of_pure rfl⟩
  | type T => exact ⟨.machine, .inr (.inl rfl), Looks.of_pure rfl⟩
  | _ => exact k.elim

theorem callWith_ev {pos : Pos} {f : Value} {first : List Value} {es : List Expr} {ds ds0 : List D} {d : D} {A : Around} {Z U : AS} {s : Shared} {Q : Value → Shared → Prop} (k : KeepOk c f) (he : es ≠ [])
    (ao : AOk c n A) (ok : c.Ok s.heap) (F : FS env Z U s.heap ρ) (d0 : DenL (Both Z U) s.heap first ds0) (hl : EvalsL c n env ρ es ds) (hf : Fun c n f (ds0 ++ ds) d)
    (hQ : ∀ v h' tk, G s.heap h' → Den (Both Z U) h' v d → Q v { s with heap := h', toks := tk }) :
    wpAny (model c.prog c.w) A (callWith pos f first (es.map fun e => (false, eval e env)) []) Q NE s := by
  refine callWith_of (P := c.Ok) (by simp) (keeper_ok k) ?_
  cases es with
  | nil => exact absurd rfl he
  | cons e r =>
    refine evalArgs_plain ?_
    refine hl A Z U s _ ao ok F fun vs h1 tk1 g1 dl => ⟨ok.g g1, ?_⟩
    exact hf A (Both Z U) _ _ _ ao (ok.g g1) (F.g g1).live ((d0.g g1).append dl) fun v h2 tk2 g2 dv => hQ v h2 tk2 (g1.trans g2) dv
theorem Evals.call {x : Str} {np pos : Pos} {es : List Expr} {f : Value} {ds : List D} {d : D} (hc : Callee c env (.Name x np) f) (k : KeepOk c f) (hl : EvalsL c n env ρ es ds) (hf : Fun c n f ds d)
    (he : es ≠ [] := by exact List.cons_ne_nil _ _) (hu : unstarred es = true := by rfl) : Evals c n env ρ (.Call (.Name x np) es [] pos) d := by
  intro A Z U s Q ao ok F hQ
  refine Call_Name (backTo_eq pos env es hu) (hc A Z U s ρ _ ok F ?_)
  exact callWith_ev (ds0 := []) k he ao ok F .nil hl hf hQ

/-- a method of a text -/
theorem Evals.meth {o : Expr} {name : Str} {apos pos : Pos} {es : List Expr} {id : String} {x : Str} {ds : List D} {d : D} (ho : Evals c n env ρ o (.str x)) (hl : EvalsL c n env ρ es ds) (hf : Fun c n (.builtin id) (.str x :: ds) d)
    (slot : Slot "str" name id) (ty : typeOf (.builtin id) = pure (.type "method_descriptor")) (he : es ≠ [] := by exact List.cons_ne_nil _ _) (hu : unstarred es = true := by rfl)
    (hbase : attributeBase o name env (eval o env) = eval o env := by rfl)
    (hfew : ((backTo pos (starEach es env)).all (fun x => !x.1) && (backToKw pos (keywordEach [] env)).all (fun x => x.1.isSome) && decide (es.length + ([] : List Keyword).length + (if ([] : List Keyword).isEmpty then 0 else 1) < 30)) = true := by rfl)
    (hline : (apos.endLine == pos.line) = true := by rfl) : Evals c n env ρ (.Call (.Attribute o name apos) es [] pos) d := by
  intro A Z U s Q ao ok F hQ
  refine wpAny_Call_method_lateS hbase hfew hline (ho A Z U s _ ao ok F fun v h1 tk1 g1 dv => ?_)
  obtain ⟨_, rfl⟩ := dv.inv
  refine ⟨"str", id, PySem.F.plainAttrs_str, slot, ty, typeIs_str _ _ _, (fun _ e => nomatch e), ?_⟩
  rw [backTo_eq pos env es hu]
  exact callWith_ev (ds0 := [.str x]) trivial he ao (ok.g g1) (F.g g1) (.cons (.str _ _) .nil) hl hf fun v h2 tk2 g2 dv2 => hQ v h2 tk2 (g1.trans g2) dv2
end
end Mine
end
section
open PySem PySem.W PyProof.Rows PySem.Calls
set_option autoImplicit false
namespace Mine

theorem Den.newList {S : AS} {h : Heap} {vs : List Value} {ds : List D} (l : ∀ a, S a → ∃ o, h.get? a = some o) (d : DenL S h vs ds) : Den S (h.push { cls := .type "list", data := .seq vs.toArray }) (.ref h.objs.size) (.lst ds) :=
  .lst (fresh_of l (get_size h)) (Heap.get?_push_size _ rfl) (d.g (G.push h _))
theorem Den.newTup {S : AS} {h : Heap} {vs : List Value} {ds : List D} (l : ∀ a, S a → ∃ o, h.get? a = some o) (d : DenL S h vs ds) : Den S (h.push { cls := .type "tuple", data := .seq vs.toArray }) (.ref h.objs.size) (.tup ds) :=
  .tup (fresh_of l (get_size h)) (Heap.get?_push_size _ rfl) (d.g (G.push h _))
theorem isList_of {h : Heap} {a : Addr} {vs : List Value} {n : Nat} (e : h.get? a = some { cls := .type "list", data := .seq vs.toArray n }) : h.IsList a vs.toArray := ⟨_, e, rfl, n, rfl⟩
theorem isTup_of {h : Heap} {a : Addr} {vs : List Value} {n : Nat} (e : h.get? a = some { cls := .type "tuple", data := .seq vs.toArray n }) : IsTup h a vs.toArray := ⟨_, e, rfl, n, rfl⟩
theorem denL_strs {S : AS} {h : Heap} : ∀ l : List (Str × Tok), DenL S h (strValues l) ((l.map (·.1)).map D.str)
  | [] => .nil
  | (x, t) :: r => .cons (.str x t) (denL_strs r)

section
variable {c : Cx} {n : Nat} {env : Env} {ρ : Rho}
theorem Evals.list {es : List Expr} {pos : Pos} {ds : List D} (h : EvalsL c n env ρ es ds) (hz : es.length ≤ sizeLine) (hu : unstarred es = true := by rfl) (hl : es.length = ds.length := by rfl) : Evals c n env ρ (.List es pos) (.lst ds) := by
  intro A Z U s Q ao ok F hQ
  refine wpAny_List ?_
  rw [backTo_eq pos env es hu]
  exact h A Z U s _ ao ok F fun vs h1 tk1 g1 dl => ⟨by rw [dl.length, ← hl]; exact hz, hQ _ _ _ (g1.trans (G.push _ _)) (Den.newList (F.g g1).live dl)⟩
theorem Evals.tuple {es : List Expr} {k : Nat} {pos : Pos} {ds : List D} (h : EvalsL c n env ρ es ds) (hz : es.length ≤ sizeLine) (hu : unstarred es = true := by rfl) (hl : es.length = ds.length := by rfl) : Evals c n env ρ (.Tuple es k pos) (.tup ds) := by
  intro A Z U s Q ao ok F hQ
  refine wpAny_Tuple ?_
  rw [backTo_eq pos env es hu]
  exact h A Z U s _ ao ok F fun vs h1 tk1 g1 dl => ⟨by rw [dl.length, ← hl]; exact hz, hQ _ _ _ (g1.trans (G.push _ _)) (Den.newTup (F.g g1).live dl)⟩

theorem Fun.len_str {x : Str} (hx : x.length < 2 ^ 62) : Fun c n (.builtin "len") [.str x] (.int x.length) := fun A S s Q vs ao ok l dl hQ => by
  obtain ⟨_, _, rfl, d, r⟩ := dl.inv; obtain rfl := r.inv; obtain ⟨_, rfl⟩ := d.inv; exact PyProof.Rows.len_str (by omega) (hQ _ _ _ G.rfl (.int _ _))
theorem Fun.len_lst {ds : List D} (hx : ds.length < 2 ^ 62) : Fun c n (.builtin "len") [.lst ds] (.int ds.length) := fun A S s Q vs ao ok l dl hQ => by
      obtain ⟨_, _, rfl, d, r⟩ := dl.inv
      obtain rfl := r.inv
      obtain ⟨_, _, _, rfl, ns, e, dl⟩ := d.inv
      have hz := dl.length
      refine len_list (isList_of e) (by rw [List.size_toArray, hz]; omega) ?_
      rw [List.size_toArray, hz]
      exact hQ _ _ _ G.rfl (.int _ _)
theorem Fun.chr {i : Int} (h0 : 0 ≤ i) (h1 : i ≤ 0x10FFFF) : Fun c n (.builtin "chr") [.int i] (.str ⟨#[i.toNat]⟩) := fun A S s Q vs ao ok l dl hQ => by
  obtain ⟨_, _, rfl, d, r⟩ := dl.inv; obtain rfl := r.inv; obtain ⟨_, rfl⟩ := d.inv; exact P.chr_of_int (by rw [Bool.or_eq_false_iff]; exact ⟨decide_eq_false (by omega), decide_eq_false (by omega)⟩) (hQ _ _ _ G.rfl (.str _ _))
theorem Fun.str_int {i : Int} (ha : i.natAbs.log2 < 1920) : Fun c n (.type "str") [.int i] (.str (toString i)) := fun A S s Q vs ao ok l dl hQ => by
  obtain ⟨_, _, rfl, d, r⟩ := dl.inv; obtain rfl := r.inv; obtain ⟨_, rfl⟩ := d.inv; exact P.str_of_int ha (hQ _ _ _ G.rfl (.str _ _))
-- texts' methods
theorem Fun.count {x y : Str} : Fun c n (.builtin "str.count") [.str x, .str y] (.int (Txt.count x y)) := fun A S s Q vs ao ok l dl hQ => by
  obtain ⟨_, _, rfl, d, r⟩ := dl.inv; obtain ⟨_, _, rfl, d2, r⟩ := r.inv; obtain rfl := r.inv; obtain ⟨_, rfl⟩ := d.inv; obtain ⟨_, rfl⟩ := d2.inv; exact SC.count (hQ _ _ _ G.rfl (.int _ _))
theorem Fun.startswith {x y : Str} : Fun c n (.builtin "str.startswith") [.str x, .str y] (.bool (Txt.startswith x y)) := fun A S s Q vs ao ok l dl hQ => by
  obtain ⟨_, _, rfl, d, r⟩ := dl.inv; obtain ⟨_, _, rfl, d2, r⟩ := r.inv; obtain rfl := r.inv; obtain ⟨_, rfl⟩ := d.inv; obtain ⟨_, rfl⟩ := d2.inv; exact SC.startswith (hQ _ s.heap s.toks G.rfl (.bool _))
theorem Fun.endswith {x y : Str} : Fun c n (.builtin "str.endswith") [.str x, .str y] (.bool (Txt.endswith x y)) := fun A S s Q vs ao ok l dl hQ => by
  obtain ⟨_, _, rfl, d, r⟩ := dl.inv; obtain ⟨_, _, rfl, d2, r⟩ := r.inv; obtain rfl := r.inv; obtain ⟨_, rfl⟩ := d.inv; obtain ⟨_, rfl⟩ := d2.inv; exact SC.endswith (hQ _ s.heap s.toks G.rfl (.bool _))

noncomputable def find4 (x y : Str) (i j : Int) : Int := match Builtin.Str.occurrences x y (fromIndex x.length i) (min (fromIndex x.length j) x.length) 1 with | k :: _ => (k : Int) | [] => -1
theorem gives_find4 (x y : Str) (i j : Int) (t u v w : Tok) : Gives (Builtin.«str.find» ⟨[.str x t, .str y u, .int i v, .int j w], []⟩) (.int (find4 x y i j)) := by
  show Gives (match Builtin.Str.occurrences x y (fromIndex x.length i) (min (fromIndex x.length j) x.length) 1 with | k :: _ => retInt k | [] => (do rule "str.find.not-found"; retInt (-1))) _
  unfold find4
  cases Builtin.Str.occurrences x y (fromIndex x.length i) (min (fromIndex x.length j) x.length) 1 with
  | nil => exact .rule (.of_eq rfl)
  | cons k _ => exact .of_eq rfl
theorem Fun.find4 {x y : Str} {i j : Int} : Fun c n (.builtin "str.find") [.str x, .str y, .int i, .int j] (.int (find4 x y i j)) := fun A S s Q vs ao ok l dl hQ => by
    obtain ⟨_, _, rfl, d, r⟩ := dl.inv
    obtain ⟨_, _, rfl, d2, r⟩ := r.inv
    obtain ⟨_, _, rfl, d3, r⟩ := r.inv
    obtain ⟨_, _, rfl, d4, r⟩ := r.inv
    obtain rfl := r.inv
    obtain ⟨_, rfl⟩ := d.inv
    obtain ⟨_, rfl⟩ := d2.inv
    obtain ⟨_, rfl⟩ := d3.inv
    obtain ⟨_, rfl⟩ := d4.inv
    exact call_gives F.slot_str_find (typeIs_str _ _ _) F.entry_str_find (F.args_str_find_4 _ _ _ _) (gives_find4 _ _ _ _ _ _ _ _) (hQ _ _ _ G.rfl (.int _ _))

theorem Fun.split {x y : Str} (hy : (y.length == 0) = false) (hx : x.length + 2 ≤ sizeLine) : Fun c n (.builtin "str.split") [.str x, .str y] (.lst ((Txt.split x y).map D.str)) := fun A S s Q vs ao ok l dl hQ => by
  cases dl with | cons d r => cases r with | cons d2 r =>
    cases r; cases d with | str _ t => cases d2 with | str _ u =>
    have fin : ∀ (ll : List (Str × Tok)) tk, ll.map (·.1) = Txt.split x y → Q (.ref s.heap.objs.size) { s with heap := s.heap.push { cls := .type "list", data := .seq (strValues ll).toArray }, toks := tk } := fun ll tk e =>
      hQ _ _ tk (G.push _ _) (by rw [← e]; exact Den.newList l (denL_strs ll))
    cases h1 : (decide (x.length < y.length) || decide (Builtin.Str.strKind x < Builtin.Str.strKind y))
    · cases hf : (Builtin.Str.occurrences x y 0 x.length (x.length + 1)).isEmpty
      · have hp : (Builtin.Str.partsBetween x (Builtin.Str.occurrences x y 0 x.length (x.length + 1)) y.length).length ≤ sizeLine := by
          have e1 := StrLaws.occ_length_le x y 0 x.length (x.length + 1)
          rw [length_partsBetween]
          omega
        refine call_meets F.slot_str_split (typeIs_str _ _ _) F.entry_str_split (F.args_str_split_2 _ _) (meets_str_split_sep x y t u h1 hy hf (by omega) hp) ?_
        show Q _ { s with toks := _, heap := s.heap.push { cls := .type "list", data := .seq (strsFrom s.toks (Builtin.Str.partsBetween x (Builtin.Str.occurrences x y 0 x.length (x.length + 1)) y.length)).toArray } }
        rw [strsFrom_eq]
        exact fin (numbered s.toks _) _ ((numbered_texts _ _).trans ((if_neg (ne_true_of_eq_false h1)).trans (if_neg (ne_true_of_eq_false hf))).symm)
      · exact call_meets F.slot_str_split (typeIs_str _ _ _) F.entry_str_split (F.args_str_split_2 _ _) (meets_str_split_not_found x y t u h1 hy hf)
          (fin [(x, t)] s.toks ((if_neg (ne_true_of_eq_false h1)).trans (if_pos hf)).symm)
    · exact call_meets F.slot_str_split (typeIs_str _ _ _) F.entry_str_split (F.args_str_split_2 _ _) (meets_str_split_cannot_occur x y t u h1)
        (fin [(x, t)] s.toks (if_pos h1).symm)
end
end Mine
end
section
open PySem PySem.W PyProof.Rows PySem.Calls
set_option autoImplicit false
namespace Mine

noncomputable def dslice (ds : List D) (lo hi : Option Int) : List D := (ds.drop (lo.elim 0 (clipAt ds.length))).take (hi.elim ds.length (clipAt ds.length) - lo.elim 0 (clipAt ds.length))
theorem DenL.drop {S : AS} {h : Heap} {vs : List Value} {ds : List D} (x : DenL S h vs ds) (k : Nat) : DenL S h (vs.drop k) (ds.drop k) := by
  induction ds generalizing vs k with
  | nil => obtain rfl : vs = [] := x.inv; rw [List.drop_nil, List.drop_nil]; exact .nil
  | cons d ds ih =>
    obtain ⟨v, ws, rfl, dv, l⟩ := x.inv
    cases k with
    | zero => exact x
    | succ k => exact ih l k
theorem DenL.take {S : AS} {h : Heap} {vs : List Value} {ds : List D} (x : DenL S h vs ds) (k : Nat) : DenL S h (vs.take k) (ds.take k) := by
  induction ds generalizing vs k with
  | nil => obtain rfl : vs = [] := x.inv; rw [List.take_nil, List.take_nil]; exact .nil
  | cons d ds ih =>
    obtain ⟨v, ws, rfl, dv, l⟩ := x.inv
    cases k with
    | zero => exact .nil
    | succ k => exact .cons dv (ih l k)
theorem DenL.pick {S : AS} {h : Heap} {vs : List Value} {ds : List D} (l : DenL S h vs ds) (lo hi : Option Int) : ∃ ws, slicePick vs.toArray lo hi none = ws.toArray ∧ DenL S h ws (dslice ds lo hi) := by
  refine ⟨_, slicePick_plain _ _ _, ?_⟩
  unfold dslice
  rw [List.size_toArray, l.length]
  exact (l.drop _).take _

noncomputable def EvPart (c : Cx) (n : Nat) (env : Env) (ρ : Rho) : Option Expr → Option Int → Prop
  | none, none => True
  | some e, some i => Evals c n env ρ e (.int i)
  | _, _ => False

section
variable {c : Cx} {n : Nat} {env : Env} {ρ : Rho}
theorem part_ev {l : Option Expr} {k : Option Int} (h : EvPart c n env ρ l k) {A : Around} {Z U : AS} {s : Shared} {Q : Value → Shared → Prop} (ao : AOk c n A) (ok : c.Ok s.heap) (F : FS env Z U s.heap ρ)
    (hQ : ∀ p h' tk, G s.heap h' → p.map (·.1) = k → Q (partValue p) { s with heap := h', toks := tk }) : wpAny (model c.prog c.w) A (evalPart l env) Q NE s := by
  cases l with
  | none =>
    cases k with
    | none => exact wpAny_pure (hQ none s.heap s.toks G.rfl rfl)
    | some i => exact h.elim
  | some e =>
    cases k with
    | none => exact h.elim
    | some i =>
      rw [evalPart_some]
      exact h A Z U s Q ao ok F fun v h' tk g dv => by cases dv with | int _ t => exact hQ (some (i, t)) h' tk g rfl

theorem slice_ev {value : Expr} {l u : Option Expr} {p pos : Pos} {k1 k2 : Option Int} {d1 d : D} (hv : Evals c n env ρ value d1) (hl : EvPart c n env ρ l k1) (hu : EvPart c n env ρ u k2)
    (o : ∀ (A : Around) (S : AS) (s : Shared) (Q : Value → Shared → Prop) (v : Value) (p1 p2 : Option (Int × Tok)), AOk c n A → (∀ a, S a → ∃ o, s.heap.get? a = some o) → Den S s.heap v d1 → p1.map (·.1) = k1 → p2.map (·.1) = k2 →
      (∀ v' h' tk, G s.heap h' → Den S h' v' d → Q v' { s with heap := h', toks := tk }) →
      wpAny (model c.prog c.w) A (subscriptTail value (.Slice l u none p) v (.ref s.heap.objs.size)) Q NE { s with heap := s.heap.push { cls := .type "slice", data := .fields #[partValue p1, partValue p2, .none] } }) :
    Evals c n env ρ (.Subscript value (.Slice l u none p) pos) d := by
  intro A Z U s Q ao ok F hQ
  refine Subscript_ (hv A Z U s _ ao ok F fun v h1 tk1 g1 dv => ?_)
  refine wpAny_Slice (part_ev hl ao (ok.g g1) (F.g g1) fun p1 h2 tk2 g2 e1 => part_ev hu ao (ok.g (g1.trans g2)) (F.g (g1.trans g2)) fun p2 h3 tk3 g3 e2 => ?_)
  rw [evalPart_none]
  refine wpAny_pure ?_
  exact o A (Both Z U) { s with heap := h3, toks := tk3 } Q v p1 p2 ao (F.g (g1.trans (g2.trans g3))).live (dv.g (g2.trans g3)) e1 e2 fun v' h4 tk4 g4 dv4 => hQ v' h4 tk4 (g1.trans (g2.trans (g3.trans g4))) dv4

theorem Evals.slice_str {value : Expr} {l u : Option Expr} {p pos : Pos} {k1 k2 : Option Int} {x : Str} (hv : Evals c n env ρ value (.str x)) (hl : EvPart c n env ρ l k1) (hu : EvPart c n env ρ u k2) (hz : x.length ≤ sizeLine) :
    Evals c n env ρ (.Subscript value (.Slice l u none p) pos) (.str (Txt.slice x k1 k2)) := by
  refine slice_ev hv hl hu fun A S s Q v p1 p2 ao live dv e1 e2 hQ => ?_
  obtain ⟨t, rfl⟩ := dv.inv
  subst e1 e2
  refine tail_any (typeIs_str _ _ _) F.slot_str_getitem.lookup (wpAny_getItem_str_slice (l := p1) (u := p2) (st := none) ⟨_, Heap.get?_push_size _ rfl, rfl, rfl⟩ rfl ?_) rfl
  refine post_val_or_str (y := x) ⟨Nat.le_trans (Txt.slice_le x _ _) hz, fun t' k => hQ _ _ k (G.push _ _) ?_⟩
  exact .str _ _
theorem Evals.slice_lst {value : Expr} {l u : Option Expr} {p pos : Pos} {k1 k2 : Option Int} {ds : List D} (hv : Evals c n env ρ value (.lst ds)) (hl : EvPart c n env ρ l k1) (hu : EvPart c n env ρ u k2) (hz : ds.length ≤ sizeLine) :
    Evals c n env ρ (.Subscript value (.Slice l u none p) pos) (.lst (dslice ds k1 k2)) := by
  refine slice_ev hv hl hu fun A S s Q v p1 p2 ao live dv e1 e2 hQ => ?_
  obtain ⟨_, _, _, rfl, ns, e, dl⟩ := dv.inv
  subst e1 e2
  have part : ∀ q : Option (Int × Tok), IsPart (partValue q) (q.map (·.1)) := fun q => by cases q with | none => exact .none | some r => exact .int _ _
  obtain ⟨ws, ew, dw⟩ := dl.pick (p1.map (·.1)) (p2.map (·.1))
  have hl' := isList_of (G.push s.heap { cls := .type "slice", data := .fields #[partValue p1, partValue p2, .none] } _ _ e)
  refine tail_any hl'.typeIs slot_list_getitem.lookup (wpAny_getItem_list_slice hl' ⟨_, Heap.get?_push_size _ rfl, rfl, rfl⟩ (part p1) (part p2) .none (by simp) ?_ (by rw [List.size_toArray, dl.length]; exact hz)) rfl
  rw [ew]
  exact hQ _ _ _ ((G.push _ _).trans (G.push _ _)) (Den.newList (live_g live (G.push _ _)) (dw.g (G.push _ _)))
/-- an item -/
theorem Evals.index {value slice : Expr} {pos : Pos} {d1 d2 d : D} (hv : Evals c n env ρ value d1) (hi : Evals c n env ρ slice d2) (o : Op2 c n getItem d1 d2 d)
    (hk : match d1 with | .str _ => True | .lst _ => True | .tup _ => True | _ => False) (hs : ∀ o i, subscripted slice false o i = operate [o, i] (getItem o i) := by intros; rfl) : Evals c n env ρ (.Subscript value slice pos) d := by
  intro A Z U s Q ao ok F hQ
  refine Subscript_ (hv A Z U s _ ao ok F fun v h1 tk1 g1 dv => hi A Z U _ _ ao (ok.g g1) (F.g g1) fun i h2 tk2 g2 di => ?_)
  have go := o A (Both Z U) { s with heap := h2, toks := tk2 } Q v i ao (ok.g (g1.trans g2)) (F.g (g1.trans g2)).live (dv.g g2) di fun v' h3 tk3 g3 dv3 => hQ v' h3 tk3 (g1.trans (g2.trans g3)) dv3
  have dv' := (dv.g g2).inv
  cases d1 with
  | str x => obtain ⟨t, rfl⟩ := dv'; exact tail_any (typeIs_str _ _ _) PySem.F.slot_str_getitem.lookup go (hs _ _)
  | lst ds => obtain ⟨_, _, _, rfl, ns, e, dl⟩ := dv'; exact tail_any (isList_of e).typeIs slot_list_getitem.lookup go (hs _ _)
  | tup ds => obtain ⟨_, _, _, rfl, ns, e, dl⟩ := dv'; exact tail_any (isTup_of e).typeIs slot_tuple_getitem.lookup go (hs _ _)
  | _ => exact hk.elim

theorem Op2.item_lst {ds : List D} {k : Int} {d : D} (h0 : 0 ≤ k) (hk : k < 2 ^ 63) (h : ds[k.toNat]? = some d) : Op2 c n getItem (.lst ds) (.int k) d := fun A S s Q v1 v2 ao ok live e1 e2 hQ => by
  obtain ⟨_, _, _, rfl, ns, e, dl⟩ := e1.inv
  obtain ⟨_, rfl⟩ := e2.inv
  obtain ⟨v, hv, dv⟩ := dl.get _ _ h
  exact wpAny_getItem_list (isList_of e) h0 hk (by simpa using hv) (hQ v s.heap s.toks G.rfl dv)
theorem Op2.item_lst_neg {ds : List D} {k : Int} {d : D} (h0 : k < 0) (hk : -(ds.length : Int) ≤ k) (hk2 : -(2 ^ 63) ≤ k) (h : ds[(k + ds.length).toNat]? = some d) : Op2 c n getItem (.lst ds) (.int k) d := fun A S s Q v1 v2 ao ok live e1 e2 hQ => by
  obtain ⟨_, _, _, rfl, ns, e, dl⟩ := e1.inv
  obtain ⟨_, rfl⟩ := e2.inv
  obtain ⟨v, hv, dv⟩ := dl.get _ _ h
  exact wpAny_getItem_list_neg (isList_of e) h0 (by rw [List.size_toArray, dl.length]; exact hk) hk2 (by rw [List.size_toArray, dl.length]; simpa using hv) (hQ v s.heap s.toks G.rfl dv)
theorem Op2.item_tup {ds : List D} {k : Int} {d : D} (h0 : 0 ≤ k) (hk : k < 2 ^ 63) (h : ds[k.toNat]? = some d) : Op2 c n getItem (.tup ds) (.int k) d := fun A S s Q v1 v2 ao ok live e1 e2 hQ => by
  obtain ⟨_, _, _, rfl, ns, e, dl⟩ := e1.inv
  obtain ⟨_, rfl⟩ := e2.inv
  obtain ⟨v, hv, dv⟩ := dl.get _ _ h
  have hlt : k.toNat < ds.length := (List.getElem?_eq_some_iff.mp h).1
  refine getItem_tuple (isTup_of e) (by omega) hk (j := k.toNat) ?_ (by simpa using hv) (hQ v s.heap s.toks G.rfl dv)
  unfold seqIndex?
  rw [List.size_toArray, dl.length]
  simp only [if_neg (show ¬ k < 0 by omega)]
  rw [if_pos (by simp; omega)]
theorem Op2.item_str {x : Str} {k : Int} (hr : fitsSsize k = true) (h : (Txt.charAt x k).isSome = true) : Op2 c n getItem (.str x) (.int k) (.str (Txt.item x k)) := fun A S s Q v1 v2 ao ok live e1 e2 hQ => by
  obtain ⟨_, rfl⟩ := e1.inv
  obtain ⟨_, rfl⟩ := e2.inv
  exact SB.getItem hr h (hQ _ _ _ G.rfl (.str _ _))
end
end Mine
end
section
open PySem PySem.W PyProof.Rows PySem.Calls
set_option autoImplicit false
namespace Mine

theorem AOk.deeper {c : Cx} {n : Nat} {A : Around} (a : AOk c (n + 1) A) (hf : ∀ A, c.fr A) (env : Env) : AOk c n (A.deeper env) := by
  obtain ⟨h, d, u, _⟩ := a
  refine ⟨h, ?_, ?_, hf _⟩
  · show A.depth + 1 + n < recursionLimit
    omega
  · show A.units + 3 + 8 * n < cLine
    omega
/-- the same, with more known of the frames around -/
noncomputable def Cx.at (c : Cx) (fr : Around → Prop) : Cx := { c with fr := fr }

/-- the parameters' map -/
noncomputable def rho0 (names : List String) (ds : List D) : Rho := fun x => ((names.zip ds).reverse.lookup x).map .fz
noncomputable def bindD : List String → List D → Rho → Rho
  | x :: xs, d :: ds, ρ => bindD xs ds (upd ρ x (.fz d))
  | _, _, ρ => ρ
theorem bindD_eq (x : String) : ∀ (names : List String) (ds : List D) (ρ : Rho), bindD names ds ρ x = (match (names.zip ds).reverse.lookup x with | some d => some (.fz d) | none => ρ x)
  | [], _, ρ => by simp [bindD]
  | _ :: _, [], ρ => by simp [bindD]
  | y :: ys, d :: ds, ρ => by
    rw [bindD, bindD_eq x ys ds]
    simp only [List.zip_cons_cons, List.reverse_cons, List.lookup_append]
    cases h : List.lookup x (ys.zip ds).reverse with
    | some d' => simp
    | none =>
      unfold upd
      by_cases q : x = y
      · subst q; simp
      · have q1 : (x == y) = false := by simpa using q
        simp [q, List.lookup_cons, q1]
theorem rho0_eq (names : List String) (ds : List D) : rho0 names ds = bindD names ds (fun _ => none) := by
  funext x
  rw [bindD_eq]
  unfold rho0
  cases List.lookup x (names.zip ds).reverse <;> rfl

theorem lookup_pairs {S : AS} {h : Heap} : ∀ {P : List (String × D)} {B : List (Str × Value)}, (∃ vs : List Value, B = (P.map fun p => Str.ofString p.1).zip vs ∧ DenL S h vs (P.map (·.2))) → ∀ x d, P.lookup x = some d → ∃ v, B.lookup (Str.ofString x) = some v ∧ Den S h v d
  | [], _, _, x, d, e => by simp at e
  | (y, d') :: P, B, ⟨vs, eB, dl⟩, x, d, e => by
    cases dl with
    | cons dv dl =>
      subst eB
      simp only [List.map_cons, List.zip_cons_cons, List.lookup_cons] at e ⊢
      by_cases q : x = y
      · subst q
        simp only [beq_self_eq_true] at e ⊢
        cases e
        exact ⟨_, rfl, dv⟩
      · have q1 : (x == y) = false := by simpa using q
        have q2 : (Str.ofString x == Str.ofString y) = false := by simpa using fun r => q (ofString_inj r)
        simp only [q1, q2] at e ⊢
        exact lookup_pairs ⟨_, rfl, dl⟩ x d e

theorem mem_lookupS {α : Type} {x : String} {d : α} : ∀ {l : List (String × α)}, l.lookup x = some d → (x, d) ∈ l
  | [], e => by simp at e
  | (y, d') :: r, e => by
    rw [List.lookup_cons] at e
    by_cases q : x = y
    · subst q
      simp only [beq_self_eq_true] at e
      cases e
      exact .head _
    · have q1 : (x == y) = false := by simpa using q
      simp only [q1] at e
      exact .tail _ (mem_lookupS e)

theorem DenL.reverse {S : AS} {h : Heap} {vs : List Value} {ds : List D} (x : DenL S h vs ds) : DenL S h vs.reverse ds.reverse := by
  induction ds generalizing vs with
  | nil => obtain rfl : vs = [] := x.inv; exact .nil
  | cons d ds ih =>
    obtain ⟨v, ws, rfl, dv, l⟩ := x.inv
    rw [List.reverse_cons, List.reverse_cons]
    exact (ih l).append (.cons dv .nil)

theorem zip_rev {names : List String} {vs : List Value} {ds : List D} {S : AS} {h : Heap} (hl : names.length = ds.length) (dl : DenL S h vs ds) :
    ∃ ws : List Value, ((names.map Str.ofString).zip vs).reverse = (((names.zip ds).reverse).map fun p => Str.ofString p.1).zip ws ∧ DenL S h ws (((names.zip ds).reverse).map (·.2)) := by
  refine ⟨vs.reverse, ?_, ?_⟩
  · have e1 : ((names.zip ds).reverse).map (fun p => Str.ofString p.1) = (names.map Str.ofString).reverse := by
      rw [List.map_reverse]
      congr 1
      have : (names.zip ds).map (fun p => Str.ofString p.1) = ((names.zip ds).map Prod.fst).map Str.ofString := by simp
      rw [this, List.map_fst_zip (by omega)]
    rw [e1]
    have hv : (names.map Str.ofString).length = vs.length := by rw [List.length_map, hl, dl.length]
    exact List.reverse_zipWith hv
  · have e2 : ((names.zip ds).reverse).map (·.2) = ds.reverse := by
      rw [List.map_reverse, List.map_snd_zip (by omega)]
    rw [e2]
    exact dl.reverse

section
variable {c : Cx} {n : Nat}
theorem Fun.def {f : Addr} {names : List String} {ds : List D} {d : D} {name qual : Str} {params : Arguments} {body : List Stmt} {scope : Scope} {dV kV doc pm cdv ct oc : Value} {an od : Option Addr} {osl : Array (Option Value)}
    (ho : c.K.lookup f = some ⟨oc, od, .func (fnX name qual params body scope [] dV kV doc pm an cdv ct), osl⟩) (hcd : codeIn c.K cdv qual = true)
    (hbind : ∀ vs : List Value, vs.length = names.length → bindArgs (fnX name qual params body scope [] dV kV doc pm an cdv ct) ⟨vs, []⟩ = pure ((names.map Str.ofString).zip vs))
    (hloc : ∀ x ∈ names, scope.names.lookup (Str.ofString x) = some .local) (hl : names.length = ds.length)
    (run : ∀ L, Runs c n (envX qual scope L f cdv []) (bindD names ds fun _ => none) body (fun o => o = .ret d ∨ (d = .none ∧ ∃ ρ, o = .next ρ)))
    (hcell : ∀ x ∈ scope.names, x.2 ≠ .cell) (hfr : ∀ A, c.fr A := by intro _; trivial) (hco : scope.isCoroutine = false := by rfl) (hgen : scope.isGenerator = false := by rfl) (hk : scope.kind = .function := by rfl) : Fun c (n + 1) (.ref f) ds d := by
  have run : ∀ L, Runs c n (envX qual scope L f cdv []) (rho0 names ds) body (fun o => o = .ret d ∨ (d = .none ∧ ∃ ρ, o = .next ρ)) := fun L => by rw [rho0_eq]; exact run L
  intro A S s Q vs ao ok live dl hQ
  have hvl : vs.length = names.length := by rw [dl.length, hl]
  refine wpAny_call (codeAny_call_def (fd := fnX name qual params body scope [] dV kV doc pm an cdv ct) (body := body) (binds := (names.map Str.ofString).zip vs) (by have := ao.depth; omega) (ok.1 _ _ ho) rfl ok.2.nolimit (codeRec_of ok.1 hcd) rfl
    (BindsTo.of_eq (hbind vs hvl)) hcell (fun x hx => ?_) (fun h₁ hns hk₁ => ?_) hco hgen hk)
  · have := (List.of_mem_zip hx).1
    obtain ⟨y, hy, e⟩ := List.mem_map.mp this
    rw [← e]
    exact hloc y hy
  · have hL : s.heap.get? s.heap.objs.size = none := get_size _
    have nS : ¬ S s.heap.objs.size := fresh_of live hL
    have FS0 : FS (envX qual scope s.heap.objs.size f cdv []) S (fun a => a = s.heap.objs.size) h₁ (rho0 names ds) := by
      have none_of : ∀ (x : String) (sl : Sl), rho0 names ds x = some sl → ∃ d', sl = .fz d' ∧ (names.zip ds).reverse.lookup x = some d' := fun x sl e => by
        unfold rho0 at e
        cases q : (names.zip ds).reverse.lookup x with
        | none => rw [q] at e; cases e
        | some d' => rw [q] at e; cases e; exact ⟨_, rfl, rfl⟩
      refine ⟨hk, rfl, rfl, rfl, fun a sa => ?_, fun a ua sa => ?_, ⟨_, hns, fun x sl e => ?_, fun x y dx dy a e1 => ?_⟩, fun x y a b C D fs gs e1 => ?_, fun x k e => by simp at e⟩
      · rcases sa with sa | rfl
        · obtain ⟨o, e⟩ := live a sa; exact ⟨o, hk₁ _ _ e⟩
        · obtain ⟨o, _, _, e, _⟩ := hns; exact ⟨o, e⟩
      · subst ua; exact nS sa
      · obtain ⟨d', rfl, q⟩ := none_of x sl e
        have dl' : DenL (Both S fun a => a = s.heap.objs.size) h₁ vs ds := dl.mono fun b o nb eb => by
          refine ⟨fun z => ?_, hk₁ _ _ eb⟩
          rcases z with z | z
          · exact nb z
          · subst z; rw [hL] at eb; cases eb
        obtain ⟨v, hv, dv⟩ := lookup_pairs (zip_rev hl dl') x d' q
        refine ⟨v, .inl ⟨?_, hv⟩, dv⟩
        have hm : x ∈ names := by
          have h1 := List.mem_reverse.mp (mem_lookupS q)
          exact (List.of_mem_zip h1).1
        exact hloc x hm
      · obtain ⟨_, e, _⟩ := none_of x _ e1; cases e
      · obtain ⟨_, e, _⟩ := none_of x _ e1; cases e
    have FW0 : FW c s.heap (envX qual scope s.heap.objs.size f cdv []) S (fun a => a = s.heap.objs.size) h₁ (rho0 names ds) :=
      ⟨FS0, ok, hk₁, fun a e => by subst e; exact hL, fun _ x k e => by simp at e⟩
    refine wpAny_mono (run s.heap.objs.size (A.deeper _) s.heap S _ { s with heap := h₁, toks := s.toks + ((names.map Str.ofString).zip vs).length } (ao.deeper hfr _) FW0) (fun fl s' P => ?_) fun _ _ x => x.elim
    obtain ⟨h', tk', U', out, rfl, g, _, _, _, l, p⟩ := P
    rcases p with rfl | ⟨rfl, ρ', rfl⟩
    · cases fl with
      | ret v => exact hQ v h' tk' g (l.mono fun b o nb e => ⟨fun sb => nb (.inl sb), e⟩)
      | _ => exact l.elim
    · cases fl with
      | next => exact hQ .none h' tk' g .none
      | _ => exact l.elim
end
end Mine
end
section
open PySem PySem.W PyProof.Rows PySem.Calls
set_option autoImplicit false
namespace Mine

theorem FW.zmove {c : Cx} {h₀ h h' : Heap} {env : Env} {Z Z' U : AS} {ρ : Rho} (X : AS) (F : FW c h₀ env Z U h ρ) (hX : ∀ b, X b → Z b) (hcx : ∀ x k, env.cells.lookup x = some k → ¬ X k) (sub : ∀ b, Z' b → Z b)
    (k : ∀ b o, ¬ X b → h.get? b = some o → h'.get? b = some o) (hz : ∀ b, Z' b → ∃ o, h'.get? b = some o) (base : G h₀ h') : FW c h₀ env Z' U h' ρ where
  fs := by
    have ku : ∀ b o, U b → h.get? b = some o → h'.get? b = some o := fun b o u e => k b o (fun x => F.fs.disj b u (hX b x)) e
    have mv : ∀ {v : Value} {sl : Sl}, SlD env.locals Z U h v sl → SlD env.locals Z' U h' v sl := fun {v sl} S =>
      S.move (fun b o nb e => ⟨fun q => nb (q.imp (sub b) id), k b o (fun z => nb (.inl (hX b z))) e⟩) (fun _ u => u) (fun _ _ _ u e => ku _ _ u e) (fun _ _ _ u e => ku _ _ u e) fun _ _ _ u _ e => ku _ _ u e
    refine ⟨F.fs.kind, F.fs.glob, F.fs.blt, F.fs.loc, fun a s => ?_, fun a u z => F.fs.disj a u (sub a z), ?_, F.fs.one, fun x q e => let ⟨⟨v, o, ho, hd⟩, j⟩ := F.fs.cell x q e; ⟨⟨v, o, k _ _ (hcx x q e) ho, hd⟩, j⟩⟩
    · rcases s with z | u
      · exact hz a z
      · obtain ⟨o, e⟩ := F.fs.live a (.inr u); exact ⟨o, ku _ _ u e⟩
    · obtain ⟨m, hm, hv, hi⟩ := F.fs.vars
      have hl : ∀ o, h.get? env.locals = some o → h'.get? env.locals = some o := fun o e => ku _ _ F.fs.loc e
      have hc : ∀ {x v}, Has env h m x v → Has env h' m x v := fun {x v} H => H.imp id fun ⟨a, q, hq, ⟨o, ho, hd⟩⟩ => ⟨a, q, hq, o, k _ _ (hcx _ _ hq) ho, hd⟩
      refine ⟨m, hm.at' hl, fun x sl e => ?_, fun x y dx dy a e1 e2 h1 h2 => ?_⟩
      · obtain ⟨v, H, d⟩ := hv x sl e
        exact ⟨v, hc H, mv d⟩
      · obtain ⟨v1, H1, _⟩ := hv x _ e1
        obtain ⟨v2, H2, _⟩ := hv y _ e2
        cases (hc H1).unique G.rfl h1
        cases (hc H2).unique G.rfl h2
        exact hi x y dx dy a e1 e2 H1 H2
  ok := F.ok
  base := base
  off := F.off
  own := F.own

theorem FS.sub {env : Env} {Z U : AS} {h : Heap} {ρ ρ' : Rho} (F : FS env Z U h ρ) (s : ∀ x sl, ρ' x = some sl → ρ x = some sl) : FS env Z U h ρ' :=
  ⟨F.kind, F.glob, F.blt, F.loc, F.live, F.disj, let ⟨m, hm, hv, hi⟩ := F.vars; ⟨m, hm, fun x sl e => hv x sl (s x sl e), fun x y dx dy a e1 e2 => hi x y dx dy a (s _ _ e1) (s _ _ e2)⟩, fun x y a b C D fs gs e1 e2 => F.one x y a b C D fs gs (s _ _ e1) (s _ _ e2), F.cell⟩
theorem FW.sub {c : Cx} {h₀ h : Heap} {env : Env} {Z U : AS} {ρ ρ' : Rho} (F : FW c h₀ env Z U h ρ) (s : ∀ x sl, ρ' x = some sl → ρ x = some sl) : FW c h₀ env Z U h ρ' := ⟨F.fs.sub s, F.ok, F.base, F.off, F.own⟩

noncomputable def plainIters : List String := ["list_iterator", "tuple_iterator", "range_iterator", "str_iterator", "str_ascii_iterator"]
theorem owned_none {prog : Program} {w : World} {A : Around} {E : Value → Shared → Prop} {s : Shared} {I : Addr} {o : Obj} {T : String} {target : Expr} {v : Value} {Q : Unit → Shared → Prop}
    (e : s.heap.get? I = some o) (ec : o.cls = .type T) (hT : T ∈ plainIters) (h : Q () s) : wpAny (model prog w) A (letOwnedTupleGo target (.ref I) v) Q E s := by
  have hT' : ["enumerate", "zip", "dict_itemiterator", "dict_reverseitemiterator", "odict_iterator", "itertools.zip_longest", "itertools.pairwise"].contains T = false := by
    unfold plainIters at hT
    simp only [List.mem_cons, List.not_mem_nil, or_false] at hT
    rcases hT with rfl | rfl | rfl | rfl | rfl <;> decide
  have core : ∀ a : Addr, wpAny (model prog w) A (do
      let o ← load I
      match o.cls, o.data with
      | .type n, .fields vs =>
        if ["enumerate", "zip", "dict_itemiterator", "dict_reverseitemiterator", "odict_iterator", "itertools.zip_longest", "itertools.pairwise"].contains n && vs[0]? == some (rawInt a) then
          rule "for.unpacks-the-owned-tuple"
          updateField I 0 .none
      | _, _ => pure ()) Q E s := by
    intro a
    refine wpAny_bind (wpAny_load e ?_)
    rw [ec]
    cases o.data with
    | fields vs =>
      dsimp only
      rw [if_neg (by rw [hT', Bool.false_and]; decide)]
      exact wpAny_pure h
    | _ => exact wpAny_pure h
  cases target with
  | Tuple _ _ _ =>
    cases v with
    | ref a => exact core a
    | _ => exact wpAny_pure h
  | List _ _ =>
    cases v with
    | ref a => exact core a
    | _ => exact wpAny_pure h
  | _ => exact wpAny_pure h

noncomputable def Iters (c : Cx) (d : D) (ds : List D) : Prop :=
  ∀ (A : Around) (S : AS) (s : Shared) (Q : Value → Shared → Prop) (v : Value), A.handled = none → (∀ a, S a → ∃ o, s.heap.get? a = some o) → Den S s.heap v d →
    (∀ I h' tk fp P St, Walks c.prog c.w A I fp [I] ds.length P St → G s.heap h' → s.heap.get? I = none → (∀ b ∈ fp, b = I ∨ (¬ S b ∧ ∃ o, s.heap.get? b = some o)) → St 0 h' →
      (∀ i h, St i h → ∃ o T, h.get? I = some o ∧ o.cls = .type T ∧ T ∈ plainIters) → (∀ i v, P i v → ∃ d, ds[i]? = some d ∧ Den S s.heap v d) → Q (.ref I) { s with heap := h', toks := tk }) →
    wpAny (model c.prog c.w) A (pyIter v) Q NE s

theorem Iters.lst {c : Cx} {ds : List D} : Iters c (.lst ds) ds := fun A S s Q v hh live dv hQ => by
  obtain ⟨a, vs, n, rfl, ns, e, dl⟩ := dv.inv
  have hl := isList_of e
  have ha : a ≠ s.heap.objs.size := Nat.ne_of_lt (Heap.lt_size e)
  have W := Walks.list (prog := c.prog) (w := c.w) hh s.heap.objs.size a ha vs.toArray
  rw [show vs.toArray.size = ds.length by rw [List.size_toArray, dl.length]] at W
  refine wpAny_pyIter_list hl (hQ s.heap.objs.size _ s.toks _ _ _ W (G.push _ _) (get_size _) (fun b hb => ?_) ⟨⟨_, Heap.get?_push_size _ rfl, rfl, rfl⟩, hl.push _⟩ (fun i h st => ?_) fun i v hv => ?_)
  · simp at hb
    rcases hb with rfl | rfl
    · exact .inl rfl
    · exact .inr ⟨ns, _, e⟩
  · obtain ⟨⟨o, ho, hc, _⟩, _⟩ := st
    exact ⟨o, _, ho, hc, by unfold plainIters; simp⟩
  · exact dl.get' i v (by simpa using hv)
noncomputable def chars (x : Str) : List D := x.cps.toList.map fun k => D.str ⟨#[k]⟩
theorem Iters.str {c : Cx} {x : Str} : Iters c (.str x) (chars x) := fun A S s Q v hh live dv hQ => by
  obtain ⟨t, rfl⟩ := dv.inv
  have hlen : (chars x).length = x.cps.size := by unfold chars; simp
  have hget : ∀ i v, SignAt x i v → ∃ d, (chars x)[i]? = some d ∧ Den S s.heap v d := by
    rintro i v ⟨k, u, hk, rfl⟩
    refine ⟨.str ⟨#[k]⟩, ?_, .str _ _⟩
    unfold chars
    rw [List.getElem?_map, Array.getElem?_toList, hk]; rfl
  cases ha : x.cps.all (· < 128)
  · have W := Walks.strWide (prog := c.prog) (w := c.w) hh s.heap.objs.size x t
    rw [← hlen] at W
    refine wpAny_pyIter_wide ha (hQ s.heap.objs.size _ s.toks _ _ _ W (G.push _ _) (get_size _) (fun b hb => .inl (by simpa using hb)) ⟨_, Heap.get?_push_size _ rfl, rfl, rfl⟩ (fun i h st => ?_) hget)
    obtain ⟨o, ho, hc, _⟩ := st
    exact ⟨o, _, ho, hc, by unfold plainIters; simp⟩
  · have W := Walks.strAscii (prog := c.prog) (w := c.w) hh s.heap.objs.size x t
    rw [← hlen] at W
    refine wpAny_pyIter_ascii ha (hQ s.heap.objs.size _ s.toks _ _ _ W (G.push _ _) (get_size _) (fun b hb => .inl (by simpa using hb)) ⟨_, Heap.get?_push_size _ rfl, rfl, rfl⟩ (fun i h st => ?_) hget)
    obtain ⟨o, ho, hc, _⟩ := st
    exact ⟨o, _, ho, hc, by unfold plainIters; simp⟩
/-- a..b-1 -/
noncomputable def intsD (a b : Int) : List D := (List.range (b - a).toNat).map fun k : Nat => D.int (a + (k : Int))
theorem Iters.rng {c : Cx} {a b : Int} (ha : -1000000000 ≤ a) (ha2 : a ≤ 1000000000) (hb : -1000000000 ≤ b) (hb2 : b ≤ 1000000000) : Iters c (.rng a b) (intsD a b) := fun A S s Q v hh live dv hQ => by
  obtain ⟨r, t, u, v, rfl, ns, e⟩ := dv.inv
  have hn : Builtin.Range.rangeSize a b 1 = ((b - a).toNat : Int) := by
    unfold Builtin.Range.rangeSize
    simp
    split <;> omega
  have hsm : Builtin.Range.small a b 1 = true := by
    unfold Builtin.Range.small
    rw [hn]
    simp only [Builtin.Range.rangeFitsLong]
    simp
    omega
  have hlen : (intsD a b).length = (b - a).toNat := by unfold intsD; simp
  have W := (Walks.range (prog := c.prog) (w := c.w) hh s.heap.objs.size a 1 (b - a).toNat).bound
  rw [← hlen] at W
  refine wpAny_pyIter_range e hsm (hQ s.heap.objs.size _ s.toks _ _ _ W (G.push _ _) (get_size _) (fun b hb => .inl (by simpa using hb)) ?_ (fun i h st => ?_) ?_)
  · show IsRangeIter _ _ _ _ _
    rw [hn]
    simpa [hlen] using Heap.get?_push_size _ rfl
  · exact ⟨_, _, st, rfl, by unfold plainIters; simp⟩
  · rintro i v ⟨hi, t, rfl⟩
    refine ⟨.int (a + i), ?_, by rw [Int.mul_one]; exact .int _ _⟩
    unfold intsD
    rw [List.getElem?_map, List.getElem?_range (by omega)]
    rfl
end Mine
end
section
open PySem PySem.W PyProof.Rows PySem.Calls
set_option autoImplicit false
namespace Mine

/-- a target takes a value -/
noncomputable def Asg (c : Cx) (n : Nat) (env : Env) (target : Expr) (ρ : Rho) (d : D) (K : Rho → Prop) : Prop :=
  ∃ ρ', K ρ' ∧ ∀ (A : Around) (h₀ : Heap) (Z U : AS) (s : Shared) (Q : Unit → Shared → Prop) (v : Value), AOk c n A → FW c h₀ env Z U s.heap ρ → Den (Both Z U) s.heap v d →
    (∀ h' tk, FW c h₀ env Z U h' ρ' → KB U s.heap h' → Q () { s with heap := h', toks := tk }) → wpAny (model c.prog c.w) A (assign target env v) Q NE s
/-- items onto targets, one by one -/
noncomputable def AsgL (c : Cx) (n : Nat) (env : Env) (ts : List (Value → Sem Unit)) (ρ : Rho) (ds : List D) (K : Rho → Prop) : Prop :=
  ∃ ρ', K ρ' ∧ ∀ (A : Around) (h₀ : Heap) (Z U : AS) (s : Shared) (Q : Unit → Shared → Prop) (vs : List Value), AOk c n A → FW c h₀ env Z U s.heap ρ → DenL (Both Z U) s.heap vs ds →
    (∀ h' tk, FW c h₀ env Z U h' ρ' → KB U s.heap h' → Q () { s with heap := h', toks := tk }) → wpAny (model c.prog c.w) A (assignInOrder ts vs) Q NE s

theorem KB.both {Z U : AS} {h h' : Heap} (k : KB U h h') : KB (Both Z U) h h' := fun b o nb e => k b o (fun u => nb (.inr u)) e

section
variable {c : Cx} {n : Nat} {env : Env} {ρ : Rho} {Φ Ψ : Out → Prop}
theorem Asg.name {x : String} {px : Pos} {d : D} {K : Rho → Prop} (st : Stores env x) (k : K (upd ρ x (.fz d))) : Asg c n env (.Name (Str.ofString x) px) ρ d K :=
  ⟨_, k, fun _ _ _ _ _ _ _ _ F dv hQ => wpAny_assign_Name (F.store st dv fun h' tk F' kb _ => hQ h' tk F' kb)⟩
theorem AsgL.nil {K : Rho → Prop} (k : K ρ) : AsgL c n env [] ρ [] K := ⟨_, k, fun _ _ _ _ s _ _ _ F dl hQ => by
  cases dl; exact wpAny_pure (hQ s.heap s.toks F fun _ _ _ e => e)⟩
theorem AsgL.cons {t : Expr} {ts : List (Value → Sem Unit)} {d : D} {ds : List D} {K : Rho → Prop} (h : Asg c n env t ρ d fun ρ' => AsgL c n env ts ρ' ds K) : AsgL c n env (assign t env :: ts) ρ (d :: ds) K := by
  obtain ⟨ρ1, ⟨ρ2, k, h2⟩, h1⟩ := h
  refine ⟨ρ2, k, fun A h₀ Z U s Q vs ao F dl hQ => ?_⟩
  cases dl with | cons dv dl =>
  show wpAny _ A (do holding _ (assign t env _); assignInOrder ts _) _ _ _
  refine wpAny_bind (wpAny_holding (h1 A h₀ Z U s _ _ ao F dv fun h' tk F' kb => ?_))
  exact h2 A h₀ Z U _ _ _ ao F' (dl.kb (KB.both kb)) fun h2 tk2 F2 kb2 => hQ h2 tk2 F2 fun b o nb e => kb2 b o nb (kb b o nb e)
theorem Asg.tuple {elts : List Expr} {k : Nat} {pos : Pos} {ds : List D} {K : Rho → Prop} (h : AsgL c n env ((assignEach elts env).map (·.2)) ρ ds K) (hn : (assignEach elts env).length = ds.length := by rfl)
    (hstar : (assignEach elts env).findIdx? (·.1) = none := by rfl) : Asg c n env (.Tuple elts k pos) ρ (.tup ds) K := by
  obtain ⟨ρ', k, h⟩ := h
  refine ⟨ρ', k, fun A h₀ Z U s Q v ao F dv hQ => ?_⟩
  obtain ⟨_, _, _, rfl, ns, e, dl⟩ := dv.inv
  rename_i a vs m
  refine assign_Tuple_tuple ao.handled (isTup_of e) (by rw [hn, List.size_toArray, dl.length]) hstar fun h' he => ?_
  have g : G s.heap h' := fun b o e => he b o (Nat.ne_of_lt (Heap.lt_size e)) e
  exact h A h₀ Z U { s with heap := h' } _ _ ao (F.g g) (dl.g g) fun h2 tk2 F2 kb2 => hQ h2 tk2 F2 fun b o nb e => kb2 b o nb (g b o e)

theorem FW.zadd {c : Cx} {h₀ h h' : Heap} {env : Env} {Z U : AS} {ρ : Rho} {I : Addr} (F : FW c h₀ env Z U h ρ) (g : G h h') (hI : h.get? I = none) (gI : ∃ o, h'.get? I = some o) : FW c h₀ env (fun a => Z a ∨ a = I) U h' ρ := by
  have nI : ¬ Both Z U I := F.fs.fresh hI
  have F2 := F.g g
  refine ⟨⟨F2.fs.kind, F2.fs.glob, F2.fs.blt, F2.fs.loc, fun a s => ?_, fun a u z => ?_, ?_, F2.fs.one, F2.fs.cell⟩, F2.ok, F2.base, F2.off, F2.own⟩
  · rcases s with (z | rfl) | u
    · exact F2.fs.live a (.inl z)
    · exact gI
    · exact F2.fs.live a (.inr u)
  · rcases z with z | rfl
    · exact F2.fs.disj a u z
    · exact nI (.inr u)
  · obtain ⟨m, hm, hv, hj⟩ := F.fs.vars
    refine ⟨m, hm.keeps g, fun x sl e => ?_, fun x y dx dy a e1 e2 h1 h2 => ?_⟩
    · obtain ⟨v, H, d⟩ := hv x sl e
      refine ⟨v, H.g g, d.move (fun b o nb e => ⟨fun q => ?_, g b o e⟩) (fun _ u => u) (fun _ _ _ _ e => g _ _ e) (fun _ _ _ _ e => g _ _ e) fun _ _ _ _ _ e => g _ _ e⟩
      rcases q with (q | rfl) | q
      · exact nb (.inl q)
      · rw [hI] at e; cases e
      · exact nb (.inr q)
    · obtain ⟨v1, H1, _⟩ := hv x _ e1
      obtain ⟨v2, H2, _⟩ := hv y _ e2
      have q1 := (H1.g g).unique G.rfl h1
      have q2 := (H2.g g).unique G.rfl h2
      exact hj x y dx dy a e1 e2 (q1 ▸ H1) (q2 ▸ H2)
theorem Run1.for {target iter : Expr} {body : List Stmt} {pos : Pos} {d : D} {ds : List D} (hit : Evals c n env ρ iter d) (hi : Iters c d ds) (Inv : Nat → Rho → Prop) (h0 : Inv 0 ρ)
    (turn : ∀ k d ρ', ds[k]? = some d → Inv k ρ' → Asg c n env target ρ' d fun ρ'' => Runs c n env ρ'' body fun o => match o with | .next ρ₂ => Inv (k + 1) ρ₂ | .brk ρ₂ => Φ (.next ρ₂) | .ret d => Φ (.ret d))
    (done : ∀ ρ', Inv ds.length ρ' → Φ (.next ρ')) (hs : ∀ x, foldedSetIterable iter env x = pure x := by intro _; rfl) : Run1 c n env ρ (.For target iter body [] pos) Φ := by
  intro A h₀ Z U s ao F
  refine wpAny_For (hit A Z U s _ ao F.okh F.fs fun v h1 tk1 g1 dv => ?_) hs
  have F1 := F.g g1
  refine hi A (Both Z U) { s with heap := h1, toks := tk1 } _ v ao.handled F1.fs.live dv fun I h2 tk2 fp P St W g2 hI hfp st0 hSt hP => ?_
  dsimp only at g2 hI hfp st0 hP ⊢
  have gI : ∃ o, h2.get? I = some o := let ⟨o, _, e, _⟩ := hSt 0 h2 st0; ⟨o, e⟩
  have nI : ¬ Both Z U I := F1.fs.fresh hI
  have F2 : FW c h₀ env (fun a => Z a ∨ a = I) U h2 ρ := F1.zadd g2 hI gI
  have hI0 : s.heap.get? I = none := by
    cases e : s.heap.get? I with
    | none => rfl
    | some o => have := g1 _ _ e; rw [hI] at this; cases this
  have ncI : ∀ x k, env.cells.lookup x = some k → ¬ (k = I) := fun x k e q => by
    obtain ⟨⟨_, o, ho, _⟩, _⟩ := F1.fs.cell x k e
    rw [q, hI] at ho; cases ho
  have back : ∀ {h' : Heap} {U' : AS} {ρ' : Rho} {h'' : Heap}, FW c h₀ env (fun a => Z a ∨ a = I) U' h' ρ' → (∀ b o, b ∉ [I] → h'.get? b = some o → h''.get? b = some o) → FW c h₀ env Z U' h'' ρ' := by
    intro h' U' ρ' h'' F k
    refine F.zmove (fun a => a = I) (fun _ e => .inr e) ncI (fun _ z => .inl z) (fun b o nz e => k b o (by simp only [List.mem_singleton]; exact nz) e) (fun b z => ?_) fun b o e => k b o ?_ (F.base b o e)
    · obtain ⟨o, e⟩ := F.fs.live b (.inl (.inl z))
      refine ⟨o, k b o ?_ e⟩
      simp only [List.mem_singleton]
      rintro rfl
      exact nI (.inl z)
    · simp only [List.mem_singleton]
      rintro rfl
      have := F1.base b o e
      rw [hI] at this; cases this
  obtain ⟨LI, hLI⟩ : ∃ LI : Nat → Shared → Prop, ∀ k s', LI k s' ↔ (∃ h₃ tk₃ U₃ ρ₃ i, s' = { s with heap := h₃, toks := tk₃ } ∧ k = ds.length - i ∧ i ≤ ds.length ∧ St i h₃ ∧ (∀ b o, ¬ U b → b ≠ I → h2.get? b = some o → h₃.get? b = some o) ∧ (∀ a, U₃ a → U a ∨ h2.get? a = none) ∧
    FW c h₀ env (fun a => Z a ∨ a = I) U₃ h₃ ρ₃ ∧ Inv i ρ₃) := ⟨_, fun _ _ => Iff.rfl⟩
  refine codeAny_forLoop_any LI ?_ (ds.length - 0) ((hLI _ _).mpr ⟨h2, tk2, U, ρ, 0, rfl, rfl, Nat.zero_le _, st0, fun b o _ _ e => e, fun _ u => .inl u, F2, h0⟩)
  intro k s' hs'
  obtain ⟨h₃, tk₃, U₃, ρ₃, i, rfl, rfl, hle, st, kb, uu, F3, inv⟩ := (hLI _ _).mp hs'
  clear hs'
  have kb0 : ∀ b o, ¬ U b → s.heap.get? b = some o → h₃.get? b = some o ∧ b ≠ I := fun b o nb e => by
    have nbI : b ≠ I := by rintro rfl; rw [hI0] at e; cases e
    exact ⟨kb b o nb nbI (g2 b o (g1 b o e)), nbI⟩
  have uu0 : ∀ a, U₃ a → U a ∨ s.heap.get? a = none := fun a u => (uu a u).imp id fun e => by
    cases q : s.heap.get? a with
    | none => rfl
    | some o => rw [g2 _ _ (g1 _ _ q)] at e; cases e
  by_cases hlt : i < ds.length
  · refine wpAny_mono (W.item i { s with heap := h₃, toks := tk₃ } _ NE hlt st fun v h4 tk4 hPv st4 k4 => ?_) (fun _ _ x => x) fun _ _ x => x.elim
    dsimp only at k4 ⊢
    obtain ⟨d', hd', dv'⟩ := hP i v hPv
    have F4 : FW c h₀ env (fun a => Z a ∨ a = I) U₃ h4 ρ₃ := F3.zmove (fun a => a = I) (fun _ e => .inr e) ncI (fun _ z => z) (fun b o nz e => k4 b o (by simp only [List.mem_singleton]; exact nz) e) (fun b z => by
        rcases z with z | rfl
        · obtain ⟨o, e⟩ := F3.fs.live b (.inl (.inl z))
          refine ⟨o, k4 b o ?_ e⟩
          simp only [List.mem_singleton]
          rintro rfl
          exact nI (.inl z)
        · obtain ⟨o, _, e, _⟩ := hSt _ _ st4; exact ⟨o, e⟩) (back F3 k4).base
    obtain ⟨ρ4, h4', as⟩ := turn i d' ρ₃ hd' inv
    obtain ⟨oI, TI, eI, cI, pI⟩ := hSt _ _ st4
    refine owned_none (s := { s with heap := h4, toks := tk4 }) eI cI pI ?_
    have dv4 : Den (Both (fun a => Z a ∨ a = I) U₃) h4 v d' := dv'.mono fun b o nb e => by
      have nbI : b ≠ I := by rintro rfl; rw [hI] at e; cases e
      refine ⟨fun q => ?_, k4 b o (by simpa using nbI) (kb b o (fun u => nb (.inr u)) nbI (g2 b o e))⟩
      rcases q with (q | q) | q
      · exact nb (.inl q)
      · exact nbI q
      · rcases uu b q with u | u
        · exact nb (.inr u)
        · rw [g2 _ _ e] at u; cases u
    refine wpAny_mono (as A h₀ _ U₃ { s with heap := h4, toks := tk4 } _ v ao F4 dv4 fun h5 tk5 F5 kb5 => ?_) (fun _ _ x => x) fun _ _ x => x.elim
    dsimp only at kb5 ⊢
    have nUI : ¬ U₃ I := fun u => F3.fs.disj I u (.inr rfl)
    have kbb : ∀ b o, ¬ U b → b ≠ I → h2.get? b = some o → h5.get? b = some o := fun b o nb ni e => by
      refine kb5 b o (fun u => ?_) (k4 b o (by simpa using ni) (kb b o nb ni e))
      rcases uu b u with u | u
      · exact nb u
      · rw [e] at u; cases u
    have nU3 : ∀ b, b ∈ fp → ¬ U₃ b := fun b hb u => by
      rcases hfp b hb with rfl | ⟨ns, o, e⟩
      · exact nUI u
      · rcases uu b u with u | u
        · exact ns (.inr u)
        · rw [g2 _ _ e] at u; cases u
    have st5 : St (i + 1) h5 := W.frame _ _ _ st4 fun b hb o e => kb5 b o (nU3 b hb) e
    refine wpAny_mono (h4' A h₀ _ U₃ { s with heap := h5, toks := tk5 } ao F5) (fun f s6 P => ?_) fun _ _ x => x.elim
    obtain ⟨h6, tk6, U6, out, rfl, g6, kb6, uu6, o6, l, p⟩ := P
    dsimp only at kb6 uu6 l p ⊢
    have kb6' : ∀ b o, ¬ U b → b ≠ I → h2.get? b = some o → h6.get? b = some o := fun b o nb ni e => by
      refine kb6 b o (fun u => ?_) (kbb b o nb ni e)
      rcases uu b u with u | u
      · exact nb u
      · rw [e] at u; cases u
    have gI5 : ∃ o, h5.get? I = some o := F5.fs.live I (.inl (.inr rfl))
    have uu6' : ∀ a, U6 a → U a ∨ h2.get? a = none := fun a u => by
      rcases uu6 a u with u | e
      · exact uu a u
      · by_cases w : U a
        · exact .inl w
        · right
          cases q : h2.get? a with
          | none => rfl
          | some o =>
            by_cases ni : a = I
            · subst ni
              obtain ⟨o', e'⟩ := gI5
              rw [e] at e'; cases e'
            · rw [kbb a o w ni q] at e; cases e
    have kbs : KB U s.heap h6 := fun b o nb e => by
      have nbI : b ≠ I := by rintro rfl; rw [hI0] at e; cases e
      exact kb6' b o nb nbI (g2 b o (g1 b o e))
    have uus : ∀ a, U6 a → U a ∨ s.heap.get? a = none := fun a u => (uu6' a u).imp id fun e => by
      cases q : s.heap.get? a with
      | none => rfl
      | some o => rw [g2 _ _ (g1 _ _ q)] at e; cases e
    have nUI6 : ¬ U6 I := fun u => by
      rcases uu6 I u with u | e
      · exact nUI u
      · obtain ⟨o', e'⟩ := gI5
        rw [e] at e'; cases e'
    have out1 : ∀ ρ₂, FW c h₀ env (fun a => Z a ∨ a = I) U6 h6 ρ₂ → FW c h₀ env Z U6 h6 ρ₂ := fun ρ₂ F => back F fun _ _ _ e => e
    cases f with
    | next =>
      cases out with
      | next ρ₂ =>
        refine ⟨ds.length - (i + 1), by omega, (hLI _ _).mpr ⟨h6, tk6, U6, ρ₂, i + 1, rfl, rfl, hlt, W.frame _ _ _ st5 fun b hb o e => ?_, kb6', uu6', l, p⟩⟩
        exact kb6 b o (nU3 b hb) e
      | ret d => exact l.elim
      | brk ρ₂ => exact l.elim
    | cont => cases out <;> exact l.elim
    | brk =>
      cases out with
      | brk ρ₂ => exact ⟨h6, tk6, U6, .next ρ₂, rfl, g6, kbs, uus, o6, out1 _ l, p⟩
      | next ρ₂ => exact l.elim
      | ret d => exact l.elim
    | ret v =>
      cases out with
      | ret d => exact ⟨h6, tk6, U6, .ret d, rfl, g6, kbs, uus, o6, l.mono fun b o nb e => ⟨fun q => nb (q.imp .inl id), e⟩, p⟩
      | next ρ₂ => exact l.elim
      | brk ρ₂ => exact l.elim
  · have hi' : i = ds.length := by omega
    subst hi'
    refine wpAny_mono (W.done { s with heap := h₃, toks := tk₃ } _ NE st fun h4 tk4 k4 => ?_) (fun _ _ x => x) fun _ _ x => x.elim
    dsimp only at k4 ⊢
    refine wpAny_execs_nil ?_
    have F4 := back F3 k4
    exact ⟨h4, tk4, U₃, .next ρ₃, rfl, F4.base, fun b o nb e => k4 b o (by simpa using (kb0 b o nb e).2) (kb0 b o nb e).1, uu0, F4.off, F4, done _ inv⟩
end
end Mine
end
section
open PySem PySem.W PyProof.Rows PySem.Calls
set_option autoImplicit false
namespace Mine

theorem compLoop_any {prog : Program} {w : World} {A : Around} {R : Result → Shared → Prop} {s : Shared} {elt target iter : Expr} {ifs : List Expr} {scope : Scope} {pos : Pos} {it acc : Value} {env : Env} (I : Nat → Shared → Prop)
    (turn : ∀ n s, I n s → wpAny (model prog w) A (pyNext it) (fun r s₁ => match r with
      | none => R (.ok .next) s₁
      | some v => wpAny (model prog w) A (letOwnedTupleGo target it v) (fun _ s₁' => wpAny (model prog w) A (assign target env v) (fun _ s₂ =>
          wpAny (model prog w) A (forIn ifs true fun c r => if r = true then do let ok ← isTrue c env (eval c env); pure (ForInStep.yield ok) else pure (ForInStep.yield r)) (fun ok s₃ =>
            if ok = true then wpAny (model prog w) A (eval elt env) (fun x s₄ =>
              wpAny (model prog w) A (call (.builtin "list.append") [acc, x]) (fun _ s₅ => ∃ m, m < n ∧ I m s₅) NE s₄) NE s₃
            else ∃ m, m < n ∧ I m s₃) NE s₂) NE s₁') NE s₁) NE s)
    (n : Nat) (h : I n s) : codeAny (model prog w) A (.compLoop (.ListComp elt [⟨target, iter, ifs, 0⟩] scope pos) 0 it acc env) R s := by
  refine codeAny_loop rfl I (fun n s hI => ?_) n h
  show wpAny _ A ((compTurn (.ListComp elt [⟨target, iter, ifs, 0⟩] scope pos) 0 it acc env).onRaise (fun x => do noteFrame x env; theTreesLotGoes x)) _ _ s
  refine wpAny_noted ?_
  rw [compTurn_list]
  refine wpAny_bind (wpAny_standAt (wpAny_bind (wpAny_mono (turn n s hI) (fun r s₁ h₁ => ?_) fun _ _ h' => h'.elim)))
  cases r with
  | none => exact wpAny_pure h₁
  | some v =>
    refine wpAny_bind (wpAny_mono h₁ (fun _ s₁' h₁' => ?_) fun _ _ h' => h'.elim)
    refine wpAny_bind (wpAny_mono h₁' (fun _ s₂ h₂ => wpAny_bind (wpAny_mono h₂ (fun ok s₃ h₃ => ?_) fun _ _ h' => h'.elim)) fun _ _ h' => h'.elim)
    cases ok with
    | false => exact wpAny_pure ⟨rfl, h₃⟩
    | true =>
      exact wpAny_bind (wpAny_bind (wpAny_mono h₃ (fun x s₄ h₄ => wpAny_bind (wpAny_mono h₄ (fun _ s₅ h₅ => wpAny_pure (wpAny_pure ⟨rfl, h₅⟩)) fun _ _ h' => h'.elim)) fun _ _ h' => h'.elim))

noncomputable def TestsIf (c : Cx) (n : Nat) (env : Env) (ρ : Rho) : List Expr → Bool → Prop
  | [], b => b = true
  | [t], b => Tests c n env ρ t b
  | _, _ => False
theorem tests_run {c : Cx} {n : Nat} {env : Env} {ρ : Rho} {ifs : List Expr} {b : Bool} (h : TestsIf c n env ρ ifs b) {A : Around} {Z U : AS} {s : Shared} {Q : Bool → Shared → Prop} (ao : AOk c n A) (ok : c.Ok s.heap) (F : FS env Z U s.heap ρ)
    (hQ : ∀ h' tk, G s.heap h' → Q b { s with heap := h', toks := tk }) :
    wpAny (model c.prog c.w) A (forIn ifs true fun c r => if r = true then do let ok ← isTrue c env (eval c env); pure (ForInStep.yield ok) else pure (ForInStep.yield r)) Q NE s := by
  match ifs, h with
  | [], h => cases h; exact wpAny_tests_nil (hQ s.heap s.toks G.rfl)
  | [t], h => exact wpAny_tests_one (h A Z U s _ ao ok F hQ)

noncomputable def SubCl (env : Env) : List (Str × Addr) → Prop
  | [] => True
  | (x, k) :: r => env.cells.lookup x = some k ∧ SubCl env r
theorem SubCl.get {env : Env} {x : Str} {k : Addr} : ∀ {cl : List (Str × Addr)}, SubCl env cl → cl.lookup x = some k → env.cells.lookup x = some k
  | [], _, e => by simp at e
  | (y, q) :: r, ⟨h, t⟩, e => by
    rw [List.lookup_cons] at e
    by_cases w : (x == y) = true
    · rw [w] at e; cases e; rw [beq_iff_eq.mp w]; exact h
    · simp only [w] at e; exact SubCl.get t e

/-- the names that a comprehension reads of the frame around it -/
noncomputable def Inner (env : Env) (scope : Scope) (cl : List (Str × Addr)) (ρ ρ₀ : Rho) : Prop :=
  ∀ x sl, ρ₀ x = some sl → ρ x = some sl ∧ (∃ d, sl = .fz d) ∧ (env.kindOf (Str.ofString x) = some .cell ∨ env.kindOf (Str.ofString x) = some .free) ∧
    ((relabel scope env).names.lookup (Str.ofString x) = some .cell ∨ (relabel scope env).names.lookup (Str.ofString x) = some .free) ∧ ∃ k, cl.lookup (Str.ofString x) = some k ∧ env.cells.lookup (Str.ofString x) = some k

theorem Inner.none {env : Env} {scope : Scope} {cl : List (Str × Addr)} {ρ : Rho} : Inner env scope cl ρ (fun _ => Option.none) := fun _ _ e => by cases e
theorem Inner.upd {env : Env} {scope : Scope} {cl : List (Str × Addr)} {ρ ρ₀ : Rho} {x : String} {d : D} {k : Addr} (h : Inner env scope cl ρ ρ₀) (e : ρ x = some (.fz d)) (e1 : env.kindOf (Str.ofString x) = some .cell) (e2 : (relabel scope env).names.lookup (Str.ofString x) = some .cell)
    (e3 : cl.lookup (Str.ofString x) = some k) (e4 : env.cells.lookup (Str.ofString x) = some k) : Inner env scope cl ρ (Mine.upd ρ₀ x (.fz d)) := fun y sl ey => by
  by_cases q : y = x
  · subst q
    rw [upd_self] at ey; cases ey
    exact ⟨e, ⟨_, rfl⟩, .inl e1, .inl e2, k, e3, e4⟩
  · rw [upd_ne _ _ q] at ey; exact h y sl ey
theorem sub_upd {ρ₀ ρ' : Rho} {x : String} {v : Sl} (h : ∀ y sl, ρ₀ y = some sl → ρ' y = some sl) (e : ρ₀ x = Option.none) : ∀ y sl, ρ₀ y = some sl → Mine.upd ρ' x v y = some sl := fun y sl ey => by
  have : y ≠ x := fun q => by subst q; rw [e] at ey; cases ey
  rw [upd_ne _ _ this]; exact h y sl ey
noncomputable abbrev Zc (Z U : AS) (I Dr : Addr) : AS := fun a => Both Z U a ∨ a = I ∨ a = Dr
noncomputable abbrev Uc (C : Addr) : AS := fun a => a = C
section
variable {c : Cx} {n : Nat} {env : Env} {ρ : Rho}

theorem comp_core {target elt iter : Expr} {ifs : List Expr} {scope : Scope} {cl : List (Str × Addr)} {pos spos : Pos} {d : D} {ds : List D} {ρ₀ : Rho} (f : D → Option D) {use : Option (Value → Sem Unit)}
    (hit : Evals c n env ρ iter d) (hi : Iters c d ds) (hin : Inner env scope cl ρ ρ₀)
    (hclos : closureFor scope env = pure cl) (hcell : ∀ y ∈ scope.names, y.2 ≠ .cell) (hkind : scope.kind = .function) (hnames : ∀ y ∈ scope.names, y.2 = .local → scope.names.lookup y.1 = some .local)
    (hcl : SubCl env cl)
    (turn : ∀ (C : Addr) (k : Nat) (d : D), ds[k]? = some d → Asg c n (compEnvC scope cl C env) target ρ₀ d fun ρ' => (∀ x sl, ρ₀ x = some sl → ρ' x = some sl) ∧
      ∃ b, TestsIf c n (compEnvC scope cl C env) ρ' ifs b ∧ (b = false → f d = none) ∧ (b = true → ∃ e, Evals c n (compEnvC scope cl C env) ρ' elt e ∧ f d = some e))
    (hlen : ds.length ≤ sizeLine) (hs : ∀ x, foldedSetIterable iter env x = pure x)
    {A : Around} {Z U : AS} {s : Shared} {Q : Value → Shared → Prop} (ao : AOk c n A) (okh : c.Ok s.heap) (F : FS env Z U s.heap ρ)
    (hQ : ∀ Dr C h' tk m' ys, s.heap.get? Dr = none → s.heap.get? C = none → Dr ≠ C → G s.heap h' → h'.Ns C m' → h'.PlainList Dr ys → DenL (fun a => Both Z U a ∨ a = Dr ∨ a = C) h' ys.toList (ds.filterMap f) →
      compPost (model c.prog c.w) A NE use Q (.ref Dr) C (.ok .next) { s with heap := h', toks := tk }) :
    wpAny (model c.prog c.w) A (comprehension (.ListComp elt [⟨target, iter, ifs, 0⟩] scope pos) scope env spos (newList []) false (eval iter env) use) Q NE s := by
  have hcl : ∀ x k, cl.lookup x = some k → (∃ y, env.cells.lookup y = some k) ∧ ∀ y, cl.lookup y = some k → y = x := fun x k e =>
    ⟨⟨x, hcl.get e⟩, fun y ey => (F.cell x k (hcl.get e)).2 y (hcl.get ey)⟩
  refine wpAny_comprehension_free (use := use) rfl hs hclos hkind hnames ?_
  refine hit A Z U s _ ao okh F fun v h1 tk1 g1 dv => ?_
  have F1 := F.g g1
  refine hi A (Both Z U) { s with heap := h1, toks := tk1 } _ v ao.handled F1.live dv fun I h2 tk2 fp P St W g2 hI hfp st0 hSt hP => ?_
  dsimp only at g2 hI hfp st0 hP ⊢
  have F2 := F1.g g2
  have gI : ∃ o, h2.get? I = some o := let ⟨o, _, e, _⟩ := hSt 0 h2 st0; ⟨o, e⟩
  have nI : ¬ Both Z U I := F1.fresh hI
  refine wpAny_newObj_type (wpAny_newFunctionEnv hcell (by intro y hy; simp at hy) (fun h₁ hns₁ hsb₁ => ?_) hkind)
  dsimp only at hns₁ hsb₁ ⊢
  generalize hH3 : h2.push { cls := .type "list", dict := none, data := .seq ([] : List Value).toArray } = h3 at hns₁ hsb₁ ⊢
  have hDn : h2.get? h2.objs.size = none := get_size _
  have hCn3 : h3.get? h3.objs.size = none := get_size _
  generalize hDr : h2.objs.size = Dr at hDn ⊢
  generalize hC : h3.objs.size = C at hns₁ hsb₁ hCn3 ⊢
  have g3 : G h2 h3 := by rw [← hH3]; exact G.push _ _
  have gD3 : h3.get? Dr = some { cls := .type "list", data := .seq #[] } := by rw [← hH3, ← hDr]; exact Heap.get?_push_size _ rfl
  have hDC : Dr ≠ C := by rintro rfl; rw [gD3] at hCn3; cases hCn3
  have g4 : G h3 h₁ := fun b o e => (hsb₁.2 b (by rintro rfl; rw [hCn3] at e; cases e)).trans (Heap.get?_push_of_some _ e)
  have gs : G s.heap h₁ := g1.trans (g2.trans (g3.trans g4))
  have fresh_s : ∀ {h : Heap} {a : Addr}, G s.heap h → h.get? a = none → s.heap.get? a = none := fun {h a} g e => by
    cases q : s.heap.get? a with
    | none => rfl
    | some o => rw [g _ _ q] at e; cases e
  have hDs : s.heap.get? Dr = none := fresh_s (g1.trans g2) hDn
  have hCs : s.heap.get? C = none := fresh_s (g1.trans (g2.trans g3)) hCn3
  have hIs : s.heap.get? I = none := fresh_s g1 hI
  have hIC : I ≠ C := by rintro rfl; obtain ⟨o, e⟩ := gI; rw [g3 _ _ e] at hCn3; cases hCn3
  have hID : I ≠ Dr := by rintro rfl; obtain ⟨o, e⟩ := gI; rw [e] at hDn; cases hDn
  have F4 := F2.g (g3.trans g4)
  have cenvF : FW c s.heap (compEnvC scope cl C env) (Zc Z U I Dr) (Uc C) h₁ ρ₀ := by
    refine ⟨⟨hkind, F.glob, F.blt, rfl, fun a sa => ?_, fun a u z => ?_, ⟨_, hns₁, fun x sl e => ?_, fun x y dx dy a e1 => ?_⟩, fun x y a b C D fs gs e1 => ?_, fun x k e => ?_⟩, okh, gs, fun a u => ?_, fun q => absurd rfl q⟩
    · rcases sa with (sa | rfl | rfl) | rfl
      · obtain ⟨o, e⟩ := F.live a sa; exact ⟨o, gs _ _ e⟩
      · obtain ⟨o, e⟩ := gI; exact ⟨o, g4 _ _ (g3 _ _ e)⟩
      · exact ⟨_, g4 _ _ gD3⟩
      · obtain ⟨o, _, _, e, _⟩ := hns₁; exact ⟨o, e⟩
    · subst u
      rcases z with z | z | z
      · exact F.fresh hCs z
      · exact hIC z.symm
      · exact hDC z.symm
    · obtain ⟨e', ⟨d', rfl⟩, ek, ik, k, lk, ck⟩ := hin x sl e
      obtain ⟨m, hm, hv, _⟩   := F.vars
      obtain ⟨v', H, dv'⟩ := hv x _ e'
      have hcellv : ∃ q, env.cells.lookup (Str.ofString x) = some q ∧ s.heap.IsCell q (some v') := by
        rcases H with ⟨a, _⟩ | ⟨_, H⟩
        · rcases ek with ek | ek <;> (rw [a] at ek; cases ek)
        · exact H
      obtain ⟨q, hq, ic⟩ := hcellv
      rw [ck] at hq; cases hq
      refine ⟨v', .inr ⟨ik, k, lk, ic.keeps gs⟩, ?_⟩
      refine Den.mono (fun b o nb e => ⟨fun z => ?_, gs b o e⟩) dv'
      rcases z with (z | rfl | rfl) | rfl
      · exact nb z
      · rw [hIs] at e; cases e
      · rw [hDs] at e; cases e
      · rw [hCs] at e; cases e
    · obtain ⟨_, ⟨d', e⟩, _⟩ := hin x _ e1; cases e
    · obtain ⟨_, ⟨d', e⟩, _⟩ := hin x _ e1; cases e
    · have e : cl.lookup x = some k := e
      obtain ⟨⟨y, hy⟩, inj⟩ := hcl x k e
      obtain ⟨⟨v, i⟩, _⟩ := F.cell y k hy
      exact ⟨⟨v, i.keeps gs⟩, inj⟩
    · have : a = C := u
      rw [this]; exact hCs
  have ncl : ∀ x k, (compEnvC scope cl C env).cells.lookup x = some k → ∃ o, s.heap.get? k = some o := fun x k e => by
    obtain ⟨⟨y, hy⟩, _⟩ := hcl x k e
    obtain ⟨⟨v, o, ho, _⟩, _⟩ := F.cell y k hy
    exact ⟨o, ho⟩
  have st1 : St 0 h₁ := W.frame _ _ _ st0 fun b hb o e => g4 _ _ (g3 _ _ e)
  have acc1 : h₁.PlainList Dr #[] := ⟨_, g4 _ _ gD3⟩
  have loop : ∀ s₃ : Shared, s₃ = { s with heap := h₁, toks := tk2 + ([] : List (Str × Value)).length } →
      codeAny (model c.prog c.w) A (.compLoop (.ListComp elt [⟨target, iter, ifs, 0⟩] scope pos) 0 (.ref I) (.ref Dr) (compEnvC scope cl C env)) (compPost (model c.prog c.w) A NE use Q (.ref Dr) C) s₃ := by
    rintro s₃ rfl
    obtain ⟨LI, hLI⟩ : ∃ LI : Nat → Shared → Prop, ∀ k s', LI k s' ↔ (∃ h' tk' ys i, s' = { s with heap := h', toks := tk' } ∧ k = ds.length + 1 - i ∧ i ≤ ds.length ∧ St i h' ∧ h'.PlainList Dr ys ∧ DenL (Both (Zc Z U I Dr) (Uc C)) h' ys.toList ((ds.take i).filterMap f) ∧ (∀ b o, b ≠ I → b ≠ Dr → b ≠ C → h₁.get? b = some o → h'.get? b = some o) ∧
      FW c s.heap (compEnvC scope cl C env) (Zc Z U I Dr) (Uc C) h' ρ₀) := ⟨_, fun _ _ => Iff.rfl⟩
    refine compLoop_any LI ?_ (ds.length + 1) ((hLI _ _).mpr ⟨h₁, _, #[], 0, rfl, rfl, Nat.zero_le _, st1, acc1, .nil, fun b o _ _ _ e => e, cenvF⟩)
    intro k s' hs'
    obtain ⟨h', tk', ys, i, rfl, rfl, hle, st, hys, dys, kb, F'⟩ := (hLI _ _).mp hs'
    clear hs'
    by_cases hlt : i < ds.length
    · refine W.item i _ _ NE hlt st fun v h5 tk5 hPv st5 k5 => ?_
      dsimp only at k5 ⊢
      have k5' : ∀ b o, b ≠ I → h'.get? b = some o → h5.get? b = some o := fun b o nb e => k5 b o (by simpa using nb) e
      obtain ⟨d', hd', dv'⟩ := hP i v hPv
      obtain ⟨oI, TI, eI, cI, pI⟩ := hSt _ _ st5
      refine owned_none (s := { s with heap := h5, toks := tk5 }) eI cI pI ?_
      have liveZ : ∀ b, (Zc Z U I Dr) b → ∃ o, h5.get? b = some o := fun b z => by
        by_cases q : b = I
        · subst q; exact ⟨_, eI⟩
        · obtain ⟨o, e⟩ := F'.fs.live b (.inl z); exact ⟨o, k5' b o q e⟩
      have F5 : FW c s.heap (compEnvC scope cl C env) (Zc Z U I Dr) (Uc C) h5 ρ₀ := F'.zmove (fun a => a = I) (fun _ e => .inr (.inl e)) (fun x k e q => by obtain ⟨o, ho⟩ := ncl x k e; rw [q, hIs] at ho; cases ho) (fun _ z => z) (fun b o nb e => k5' b o nb e) liveZ
        fun b o e => k5' b o (by rintro rfl; rw [hIs] at e; cases e) (F'.base b o e)
      have dv5 : Den (Both (Zc Z U I Dr) (Uc C)) h5 v d' := dv'.mono fun b o nb e => by
        have e1 := g4 _ _ (g3 _ _ (g2 _ _ e))
        have n1 : b ≠ I := by rintro rfl; rw [hI] at e; cases e
        have n2 : b ≠ Dr := by rintro rfl; rw [g2 _ _ e] at hDn; cases hDn
        have n3 : b ≠ C := by rintro rfl; rw [g3 _ _ (g2 _ _ e)] at hCn3; cases hCn3
        refine ⟨fun z => ?_, k5' b o n1 (kb b o n1 n2 n3 e1)⟩
        rcases z with (z | z | z) | z
        · exact nb z
        · exact n1 z
        · exact n2 z
        · exact n3 z
      obtain ⟨ρ', ⟨hsub, b, ht, hb0, hb1⟩, as⟩ := turn C i d' hd'
      refine as A s.heap (Zc Z U I Dr) (Uc C) { s with heap := h5, toks := tk5 } _ v ao F5 dv5 fun h6 tk6 F6 kb6 => ?_
      dsimp only at kb6 ⊢
      refine tests_run ht ao F6.okh F6.fs fun h7 tk7 g7 => ?_
      dsimp only at g7 ⊢
      have F7 := F6.g g7
      have k7 : ∀ b o, b ≠ I → b ≠ C → h'.get? b = some o → h7.get? b = some o := fun b o n1 n3 e => g7 b o (kb6 b o n3 (k5' b o n1 e))
      have fpn : ∀ b ∈ fp, b ≠ Dr ∧ b ≠ C := fun b hb => by
        rcases hfp b hb with rfl | ⟨_, o, e⟩
        · exact ⟨hID, hIC⟩
        · exact ⟨(by rintro rfl; rw [g2 _ _ e] at hDn; cases hDn), (by rintro rfl; rw [g3 _ _ (g2 _ _ e)] at hCn3; cases hCn3)⟩
      have st7 : St (i + 1) h7 := W.frame _ _ _ st5 fun b hb o e => g7 b o (kb6 b o (fpn b hb).2 e)
      have hys7 : h7.PlainList Dr ys := hys.at fun o e => k7 _ o hID.symm hDC e
      have dys7 : DenL (Both (Zc Z U I Dr) (Uc C)) h7 ys.toList ((ds.take i).filterMap f) := dys.mono fun b o nb e => ⟨nb, k7 b o (fun q => nb (.inl (.inr (.inl q)))) (fun q => nb (.inr q)) e⟩
      have tks : (ds.take (i + 1)).filterMap f = (ds.take i).filterMap f ++ (f d').toList := by
        rw [List.take_add_one, hd', List.filterMap_append]
        cases q : f d' <;> simp [q]
      cases b with
      | false =>
        simp only [Bool.false_eq_true, if_false]
        refine ⟨ds.length + 1 - (i + 1), by omega, (hLI _ _).mpr ⟨h7, tk7, ys, i + 1, rfl, rfl, hlt, st7, hys7, ?_, fun b o n1 n2 n3 e => k7 b o n1 n3 (kb b o n1 n2 n3 e), F7.sub hsub⟩⟩
        rw [tks, hb0 rfl]
        simpa using dys7
      | true =>
        simp only [if_true]
        obtain ⟨e', he', hf'⟩ := hb1 rfl
        refine he' A (Zc Z U I Dr) (Uc C) { s with heap := h7, toks := tk7 } _ ao F7.okh F7.fs fun x h8 tk8 g8 dx => ?_
        dsimp only at g8 ⊢
        have hyz : ys.size ≤ sizeLine := by
          have e1 := dys.length
          have e2 : ((ds.take i).filterMap f).length ≤ (ds.take i).length := List.length_filterMap_le _ _
          have e3 : (ds.take i).length ≤ ds.length := by rw [List.length_take]; omega
          have e4 : ys.toList.length = ys.size := by simp
          omega
        have F8 := F7.g g8
        refine wpAny_list_append_plain (hsz := hyz) (hys7.at fun o e => g8 _ o e) fun h9 hl9 hs9 => ?_
        have k9 : ∀ b o, b ≠ Dr → h8.get? b = some o → h9.get? b = some o := fun b o nb e => (hs9.2 b nb).trans e
        have F9 : FW c s.heap (compEnvC scope cl C env) (Zc Z U I Dr) (Uc C) h9 ρ' := F8.zmove (fun a => a = Dr) (fun _ e => .inr (.inr e)) (fun x k e q => by obtain ⟨o, ho⟩ := ncl x k e; rw [q, hDs] at ho; cases ho) (fun _ z => z) (fun b o nb e => k9 b o nb e)
          (fun b z => by
            by_cases q : b = Dr
            · subst q; obtain ⟨n, e⟩ := hl9; exact ⟨_, e⟩
            · obtain ⟨o, e⟩ := F8.fs.live b (.inl z); exact ⟨o, k9 b o q e⟩)
          fun b o e => k9 b o (by rintro rfl; rw [hDs] at e; cases e) (F8.base b o e)
        refine ⟨ds.length + 1 - (i + 1), by omega, (hLI _ _).mpr ⟨h9, tk8, ys.push x, i + 1, rfl, rfl, hlt, ?_, hl9, ?_, fun b o n1 n2 n3 e => k9 b o n2 (g8 b o (k7 b o n1 n3 (kb b o n1 n2 n3 e))), F9.sub hsub⟩⟩
        · exact W.frame _ _ _ st7 fun b hb o e => k9 b o (fpn b hb).1 (g8 b o e)
        · rw [tks, hf', Array.toList_push]
          refine DenL.append (dys7.mono fun b o nb e => ⟨nb, k9 b o (fun q => nb (.inl (.inr (.inr q)))) (g8 b o e)⟩) (.cons (dx.mono fun b o nb e => ⟨nb, k9 b o (fun q => nb (.inl (.inr (.inr q)))) e⟩) .nil)
    · have hi' : i = ds.length := by omega
      subst hi'
      refine W.done _ _ NE st fun h5 tk5 k5 => ?_
      have k5' : ∀ b o, b ≠ I → h'.get? b = some o → h5.get? b = some o := fun b o nb e => k5 b o (by simpa using nb) e
      have gs5 : G s.heap h5 := fun b o e => k5' b o (by rintro rfl; rw [hIs] at e; cases e) (F'.base b o e)
      obtain ⟨m', hm', _⟩ := F'.fs.vars
      refine hQ Dr C h5 tk5 m' ys hDs hCs hDC gs5 (hm'.at' fun o e => k5' _ o hIC.symm e) (hys.at fun o e => k5' _ o hID.symm e) ?_
      rw [List.take_length] at dys
      refine dys.mono fun b o nb e => ⟨fun z => nb ?_, k5' b o (fun q => nb (.inl (.inr (.inl q)))) e⟩
      rcases z with z | z | z
      · exact .inl (.inl z)
      · exact .inl (.inr (.inr z))
      · exact .inr z
  exact codeAny_compStart_list (loop _ rfl) (W.self 0 _ _ _ st1 (loop _ rfl))
end
end Mine
end
section
open PySem PySem.W PyProof.Rows PySem.Calls
set_option autoImplicit false
namespace Mine

/-- a value that is no object -/
noncomputable def atomic : D → Bool
  | .none | .bool _ | .int _ | .str _ => true
  | _ => false
theorem Den.atom {S S' : AS} {h h' : Heap} {v : Value} {d : D} (e : atomic d = true) (x : Den S h v d) : Den S' h' v d := by
  have i := x.inv
  clear x
  cases d with
  | none => obtain rfl : v = .none := i; exact .none
  | bool b => obtain rfl : v = .bool b := i; exact .bool b
  | int k => obtain ⟨t, rfl⟩ := i; exact .int _ t
  | str y => obtain ⟨t, rfl⟩ := i; exact .str _ t
  | strT y t => cases e
  | tup ds => cases e
  | lst ds => cases e
  | rng p q => cases e
  | inst C fs => cases e

theorem DenL.set {S : AS} {h : Heap} {v : Value} {d : D} (dv : Den S h v d) {vs : List Value} {ds : List D} (x : DenL S h vs ds) (k : Nat) : DenL S h (vs.set k v) (ds.set k d) := by
  induction ds generalizing vs k with
  | nil => obtain rfl : vs = [] := x.inv; exact .nil
  | cons d0 ds ih =>
    obtain ⟨v0, ws, rfl, dv0, l⟩ := x.inv
    cases k with
    | zero => exact .cons dv l
    | succ k => exact .cons dv0 (ih l k)

/-- an own list is read as if nobody wrote it -/
theorem FS.lend {env : Env} {Z U : AS} {h : Heap} {ρ : Rho} {x : String} {ds : List D} (F : FS env Z U h ρ) (e : ρ x = some (.own ds)) :
    ∃ a, U a ∧ (∃ vs n, h.get? a = some { cls := .type "list", data := .seq (List.toArray vs) n }) ∧ FS env Z (fun b => U b ∧ b ≠ a) h (upd ρ x (.fz (.lst ds))) := by
  obtain ⟨m, hm, hv, hi⟩ := F.vars
  obtain ⟨v, H, a, vs, n, rfl, ua, g, dl⟩ := hv x _ e
  refine ⟨a, ua, ⟨vs, n, g⟩, F.kind, F.glob, F.blt, ⟨F.loc, F.lne g rfl⟩, fun b s => F.live b (s.imp id (·.1)), fun b u => F.disj b u.1, ⟨m, hm, fun y sl e2 => ?_, fun y z dy dz b e1 e2 h1 h2 => ?_⟩, fun y z a1 b1 C D fs gs e1 e2 => ?_, F.cell⟩
  · have wk : ∀ b o, ¬ Both Z U b → h.get? b = some o → ¬ Both Z (fun b => U b ∧ b ≠ a) b ∧ h.get? b = some o := fun b o nb e => ⟨fun q => nb (q.imp id (·.1)), e⟩
    rcases upd_cases e2 with ⟨rfl, rfl⟩ | ⟨q, e2⟩
    · exact ⟨_, H, .lst (fun q => q.elim (F.disj a ua) (fun q => q.2 rfl)) g (dl.mono wk)⟩
    · obtain ⟨v', H', sd⟩ := hv y sl e2
      refine ⟨v', H', ?_⟩
      cases sl with
      | fz d => exact Den.mono wk sd
      | own ds' =>
        obtain ⟨a', vs', n', rfl, ua', g', dl'⟩ := sd
        exact ⟨a', vs', n', rfl, ⟨ua', fun r => q (hi y x _ _ _ e2 e (r ▸ H') H)⟩, g', dl'.mono wk⟩
      | obj a2 C fs =>
        obtain ⟨a', dx, es, n', rfl, ua', ud, nl, g1, g2, df, r⟩ := sd
        refine ⟨a', dx, es, n', rfl, ⟨ua', fun r => ?_⟩, ⟨ud, fun r => ?_⟩, nl, g1, g2, df.mono wk, r⟩
        · exact apart g (r ▸ g1) rfl
        · exact apart g (r ▸ g2) rfl
  · exact hi y z _ _ _ (upd_off e1 rfl) (upd_off e2 rfl) h1 h2
  · exact F.one y z _ _ _ _ _ _ (upd_off e1 rfl) (upd_off e2 rfl)
/-- an own object likewise -/
theorem FS.lendO {env : Env} {Z U : AS} {h : Heap} {ρ : Rho} {x : String} {a₀ C : Addr} {fs : List (String × D)} (F : FS env Z U h ρ) (e : ρ x = some (.obj a₀ C fs)) :
    ∃ a dx, U a ∧ U dx ∧ (∃ es n, h.get? a = some (instObj C dx) ∧ h.get? dx = some (dictOf es n)) ∧ FS env Z (fun b => U b ∧ b ≠ a ∧ b ≠ dx) h (upd ρ x (.fz (.inst C fs))) := by
  obtain ⟨m, hm, hv, hi⟩ := F.vars
  obtain ⟨v, H, a, dx, es, n, rfl, ua, ud, nl, g1, g2, df, r⟩ := hv x _ e
  refine ⟨a, dx, ua, ud, ⟨es, n, g1, g2⟩, F.kind, F.glob, F.blt, ⟨F.loc, F.lne g1 rfl, nl.symm⟩, fun b s => F.live b (s.imp id (·.1)), fun b u => F.disj b u.1, ⟨m, hm, fun y sl e2 => ?_, fun y z dy dz b e1 e2 h1 h2 => ?_⟩, fun y z a1 b1 C D fs gs e1 e2 => ?_, F.cell⟩
  · have wk : ∀ b o, ¬ Both Z U b → h.get? b = some o → ¬ Both Z (fun b => U b ∧ b ≠ a ∧ b ≠ dx) b ∧ h.get? b = some o := fun b o nb e => ⟨fun q => nb (q.imp id (·.1)), e⟩
    rcases upd_cases e2 with ⟨rfl, rfl⟩ | ⟨q, e2⟩
    · exact ⟨_, H, .inst (fun q => q.elim (F.disj a ua) (fun q => q.2.1 rfl)) (fun q => q.elim (F.disj dx ud) (fun q => q.2.2 rfl)) g1 g2 (df.mono wk) r.1⟩
    · obtain ⟨v', H', sd⟩ := hv y sl e2
      refine ⟨v', H', ?_⟩
      cases sl with
      | fz d => exact Den.mono wk sd
      | own ds' =>
        obtain ⟨a', vs', n', rfl, ua', g', dl'⟩ := sd
        refine ⟨a', vs', n', rfl, ⟨ua', fun r => ?_, fun r => ?_⟩, g', dl'.mono wk⟩
        · exact apart g1 (r ▸ g') rfl
        · exact apart g2 (r ▸ g') rfl
      | obj a2 C' fs' => exact absurd (F.one y x _ _ _ _ _ _ e2 e) q
  · exact hi y z _ _ _ (upd_off e1 rfl) (upd_off e2 rfl) h1 h2
  · exact F.one y z _ _ _ _ _ _ (upd_off e1 rfl) (upd_off e2 rfl)

section
variable {c : Cx} {n : Nat} {env : Env} {ρ : Rho} {Φ Ψ : Out → Prop}
theorem Evals.lend {x : String} {ds : List D} {e : Expr} {d : D} (hx : ρ x = some (.own ds)) (h : Evals c n env (upd ρ x (.fz (.lst ds))) e d) (ha : atomic d = true := by rfl) : Evals c n env ρ e d := by
  intro A Z U s Q ao ok F hQ
  obtain ⟨a, _, _, F'⟩ := F.lend hx
  exact h A Z _ s Q ao ok F' fun v h' tk g dv => hQ v h' tk g (dv.atom ha)
theorem Evals.lendO {x : String} {a₀ C : Addr} {fs : List (String × D)} {e : Expr} {d : D} (hx : ρ x = some (.obj a₀ C fs)) (h : Evals c n env (upd ρ x (.fz (.inst C fs))) e d) (ha : atomic d = true := by rfl) : Evals c n env ρ e d := by
  intro A Z U s Q ao ok F hQ
  obtain ⟨a, dx, _, _, _, F'⟩ := F.lendO hx
  exact h A Z _ s Q ao ok F' fun v h' tk g dv => hQ v h' tk g (dv.atom ha)
theorem Tests.lend {x : String} {ds : List D} {e : Expr} {b : Bool} (hx : ρ x = some (.own ds)) (h : Tests c n env (upd ρ x (.fz (.lst ds))) e b) : Tests c n env ρ e b := by
  intro A Z U s Q ao ok F hQ
  obtain ⟨a, _, _, F'⟩ := F.lend hx
  exact h A Z _ s Q ao ok F' hQ
/-- an own list that is written no more -/
theorem Runs.freeze {x : String} {ds : List D} {ss : List Stmt} (hx : ρ x = some (.own ds)) (h : Runs c n env (upd ρ x (.fz (.lst ds))) ss Φ) : Runs c n env ρ ss Φ := by
  intro A h₀ Z U s ao F
  obtain ⟨a, ua, ⟨vs, k, ga⟩, F'⟩ := F.fs.lend hx
  refine wpAny_mono (h A h₀ Z (fun b => U b ∧ b ≠ a) s ao ⟨F', F.ok, F.base, fun b u => F.off b u.1, fun q y k' e => ⟨F.own q y k' e, fun r => ?_⟩⟩) (fun f s' P => ?_) fun _ _ x => x
  · obtain ⟨⟨v, o, ho, hd⟩, _⟩ := F.fs.cell y k' e
    rw [r, ga] at ho; cases ho; cases hd
  · obtain ⟨h', tk, U', out, rfl, g, kb, uu, o, l, p⟩ := P
    exact ⟨h', tk, U', out, rfl, g, fun b o nb e => kb b o (fun q => nb q.1) e, fun b u => (uu b u).imp (·.1) id, o, l, p⟩
/-- a new list -/
noncomputable def EvalsNew (c : Cx) (n : Nat) (env : Env) (ρ : Rho) (e : Expr) (ds : List D) : Prop :=
  ∀ (A : Around) (Z U : AS) (s : Shared) (Q : Value → Shared → Prop), AOk c n A → c.Ok s.heap → FS env Z U s.heap ρ →
    (∀ a vs k h' tk, G s.heap h' → s.heap.get? a = none → h'.get? a = some { cls := .type "list", data := .seq (List.toArray vs) k } → DenL (fun b => Both Z U b ∨ b = a) h' vs ds → Q (.ref a) { s with heap := h', toks := tk }) → wpAny (model c.prog c.w) A (eval e env) Q NE s
theorem denL_away {S : AS} {h h' : Heap} {a : Addr} {vs : List Value} {ds : List D} (d : DenL S h vs ds) (g : G h h') (e : h.get? a = none) : DenL (fun b => S b ∨ b = a) h' vs ds :=
  d.mono fun b o nb eb => ⟨fun q => q.elim nb fun q => (by rw [q, e] at eb; cases eb), g b o eb⟩
theorem EvalsNew.list {es : List Expr} {pos : Pos} {ds : List D} (h : EvalsL c n env ρ es ds) (hz : es.length ≤ sizeLine) (hu : unstarred es = true := by rfl) (hl : es.length = ds.length := by rfl) : EvalsNew c n env ρ (.List es pos) ds := by
  intro A Z U s Q ao ok F hQ
  refine wpAny_List ?_
  rw [backTo_eq pos env es hu]
  refine h A Z U s _ ao ok F fun vs h1 tk1 g1 dl => ⟨by rw [dl.length, ← hl]; exact hz, ?_⟩
  refine hQ _ vs 0 _ _ (g1.trans (G.push _ _)) ?_ (Heap.get?_push_size _ rfl) (denL_away dl (G.push _ _) (get_size _))
  cases q : s.heap.get? h1.objs.size with
  | none => rfl
  | some o => have := g1 _ _ q; rw [get_size] at this; cases this

/-- x = a new list -/
theorem FW.storeNew {A : Around} {h₀ : Heap} {Z U : AS} {s : Shared} {x : String} {ds : List D} {a : Addr} {vs : List Value} {k : Nat} {h₁ : Heap} {tk₁ : Nat} {Q : Unit → Shared → Prop} (F : FW c h₀ env Z U s.heap ρ) (g : G s.heap h₁) (st : Stores env x)
    (ha : s.heap.get? a = none) (e : h₁.get? a = some { cls := .type "list", data := .seq (List.toArray vs) k }) (dl : DenL (fun b => Both Z U b ∨ b = a) h₁ vs ds)
    (hQ : ∀ h' tk, FW c h₀ env Z (fun b => U b ∨ b = a) h' (upd ρ x (.own ds)) → KB U s.heap h' → Q () { s with heap := h', toks := tk }) : wpAny (model c.prog c.w) A (storeName env (Str.ofString x) (.ref a)) Q NE { s with heap := h₁, toks := tk₁ } := by
  have F1 : FW c h₀ env Z (fun b => U b ∨ b = a) h₁ ρ := F.extend (N := fun b => b = a) g fun b q => by subst q; exact ⟨ha, _, e⟩
  refine F1.storeSl (s := { s with heap := h₁, toks := tk₁ }) (sl := .own ds) st ⟨a, vs, k, rfl, .inr rfl, e, dl.mono fun b o nb eb => ⟨fun q => nb (by
    rcases q with q | q | q
    · exact .inl (.inl q)
    · exact .inl (.inr q)
    · exact .inr q), eb⟩⟩ (fun m hm ds' y dy e1 ny ey H => ?_) (fun _ _ _ e1 => by cases e1) fun h' tk F' kb _ => hQ h' tk F' fun b o nb eb => kb b o (fun q => ?_) (g b o eb)
  · obtain ⟨m', hm', hv, _⟩ := F.fs.vars
    obtain ⟨v', H', a', vs', n', rfl, ua', g', dl'⟩ := hv y _ ey
    have := (H'.g g).unique G.rfl (show Has env h₁ m' _ (.ref a) from (hm.eq_nsMap.trans (hm'.keeps g).eq_nsMap.symm) ▸ H)
    cases this
    rw [ha] at g'; cases g'
  · rcases q with q | q
    · exact nb q
    · rw [q, ha] at eb; cases eb
theorem Run1.assignNew {x : String} {e : Expr} {px pos : Pos} {ds : List D} (st : Stores env x) (h : EvalsNew c n env ρ e ds) (p : Φ (.next (upd ρ x (.own ds))))
    (hs : swapsWith e (some (.Name (Str.ofString x) px)) pos.line env = pure false := by rfl) : Run1 c n env ρ (.Assign [.Name (Str.ofString x) px] e pos) Φ := by
  intro A h₀ Z U s ao F
  refine wpAny_Assign_Name (h A Z U s _ ao F.okh F.fs fun a vs k h' tk g ha ea dl => F.storeNew g st ha ea dl fun h2 tk2 F2 kb => ?_) hs
  exact ⟨h2, tk2, _, .next _, rfl, F2.base, kb, fun b u => u.imp id fun q => (by rw [q]; exact ha), F2.off, F2, p⟩

/-- one own object changes, that of x -/
theorem FW.put {h₀ h h' : Heap} {Z U : AS} {x : String} {sl sl' : Sl} {a : Addr} {o : Obj} (F : FW c h₀ env Z U h ρ) (e : ρ x = some sl) (ua : U a) (La : env.locals ≠ a) (g : h.get? a = some o) (nc : (o.data.ctorIdx == (Data.cell none).ctorIdx) = false)
    (hs : Heap.SameBut a h h') (ex : ∃ o, h'.get? a = some o) (same : (sl'.ctorIdx == sl.ctorIdx) = true)
    (hx : ∀ m v, h.Ns env.locals m → Has env h m (Str.ofString x) v → SlD env.locals Z U h' v sl')
    (hy : ∀ m y s2 v, y ≠ x → ρ y = some s2 → h.Ns env.locals m → Has env h m (Str.ofString y) v → SlD env.locals Z U h v s2 → SlD env.locals Z U h' v s2) : FW c h₀ env Z U h' (upd ρ x sl') ∧ KB U h h' := by
  have so : ∀ ds, sl' = .own ds → ∃ ds', sl = .own ds' := fun ds q => by subst q; cases sl with | own d => exact ⟨d, rfl⟩ | _ => cases same
  have sb : ∀ a C fs, sl' = .obj a C fs → ∃ a C fs, sl = .obj a C fs := fun a C fs q => by subst q; cases sl with | obj a C d => exact ⟨a, C, d, rfl⟩ | _ => cases same
  have ca := F.fs.cne g nc
  have kk : ∀ b o, b ≠ a → h.get? b = some o → h'.get? b = some o := fun b o nb e => (hs.2 b nb).trans e
  have hc : ∀ {m x v}, Has env h m x v ↔ Has env h' m x v := fun {m x v} => Has.iff rfl fun k hk => hs.2 k (ca _ _ hk)
  obtain ⟨m, hm, hv, hi⟩ := F.fs.vars
  refine ⟨⟨⟨F.fs.kind, F.fs.glob, F.fs.blt, F.fs.loc, fun b s => ?_, F.fs.disj, ⟨m, hm.sameBut hs La, fun y s2 e2 => ?_, fun y z dy dz b e1 e2 h1 h2 => ?_⟩, fun y z a1 b1 C D fs gs e1 e2 => ?_, fun y k ey => ?_⟩, F.ok, fun b o eb => kk b o (fun q => ?_) (F.base b o eb), F.off, F.own⟩, fun b o nb eb => kk b o (fun q => nb (q ▸ ua)) eb⟩
  · by_cases q : b = a
    · exact q ▸ ex
    · obtain ⟨o, eo⟩ := F.fs.live b s; exact ⟨o, kk b o q eo⟩
  · rcases upd_cases e2 with ⟨rfl, rfl⟩ | ⟨q, e3⟩
    · obtain ⟨v, H, d⟩ := hv y _ e
      exact ⟨v, hc.mp H, hx m v hm H⟩
    · obtain ⟨v, H, d⟩ := hv y _ e3
      exact ⟨v, hc.mp H, hy m y s2 v q e3 hm H d⟩
  · have un : ∀ y dy, upd ρ x sl' y = some (.own dy) → ∃ dy', ρ y = some (.own dy') := fun y dy ey => by
      rcases upd_cases ey with ⟨q, r⟩ | ⟨_, q⟩
      · obtain ⟨d, r⟩ := so dy r; exact ⟨d, q ▸ r ▸ e⟩
      · exact ⟨_, q⟩
    obtain ⟨_, e3⟩ := un y dy e1
    obtain ⟨_, e4⟩ := un z dz e2
    exact hi y z _ _ _ e3 e4 (hc.mpr h1) (hc.mpr h2)
  · have un : ∀ y a C fs, upd ρ x sl' y = some (.obj a C fs) → ∃ a C fs, ρ y = some (.obj a C fs) := fun y a C fs ey => by
      rcases upd_cases ey with ⟨q, r⟩ | ⟨_, q⟩
      · obtain ⟨a, C, d, r⟩ := sb _ _ _ r; exact ⟨a, C, d, q ▸ r ▸ e⟩
      · exact ⟨_, _, _, q⟩
    obtain ⟨_, _, _, e3⟩ := un y _ _ _ e1
    obtain ⟨_, _, _, e4⟩ := un z _ _ _ e2
    exact F.fs.one y z _ _ _ _ _ _ e3 e4
  · obtain ⟨⟨v, o, ho, hd⟩, j⟩ := F.fs.cell y k ey
    exact ⟨⟨v, o, kk _ _ (ca y k ey) ho, hd⟩, j⟩
  · rw [q, F.off _ ua] at eb; cases eb
/-- the list of an own name changes -/
theorem FW.ownPut {h₀ h h' : Heap} {Z U : AS} {x : String} {ds ds' : List D} {a : Addr} {vs' : List Value} {k' : Nat} (F : FW c h₀ env Z U h ρ) (e : ρ x = some (.own ds)) (ha : ∃ m, h.Ns env.locals m ∧ Has env h m (Str.ofString x) (.ref a))
    (hs : Heap.SameBut a h h') (e' : h'.get? a = some { cls := .type "list", data := .seq (List.toArray vs') k' }) (dl' : DenL (Both Z U) h vs' ds') : FW c h₀ env Z U h' (upd ρ x (.own ds')) ∧ KB U h h' := by
  obtain ⟨m, hm, hv, hi⟩ := F.fs.vars
  obtain ⟨m1, hm1, Ha⟩ := ha
  have one : ∀ m', h.Ns env.locals m' → m' = m := fun m' x => x.eq_nsMap.trans hm.eq_nsMap.symm
  cases one m1 hm1
  obtain ⟨v, H, a1, vs, n1, rfl, ua, g, dl⟩ := hv x _ e
  cases Ha.unique G.rfl H
  have kk : ∀ b o, b ≠ a → h.get? b = some o → h'.get? b = some o := fun b o nb e => (hs.2 b nb).trans e
  have kb : ∀ b o, ¬ Both Z U b → h.get? b = some o → ¬ Both Z U b ∧ h'.get? b = some o := fun b o nb e => ⟨nb, kk b o (fun q => nb (q ▸ .inr ua)) e⟩
  refine F.put e ua (F.fs.lne g rfl) g rfl hs ⟨_, e'⟩ rfl (fun m' v' hm' H' => ?_) fun m' y s2 v' q e2 hm' H' sd => ?_
  · cases one m' hm'
    cases H'.unique G.rfl H
    exact ⟨a, vs', k', rfl, ua, e', dl'.mono kb⟩
  · cases one m' hm'
    cases s2 with
    | fz d => exact Den.mono kb sd
    | own ds' =>
      obtain ⟨a', vs', n', rfl, ua', g', dl'⟩ := sd
      exact ⟨a', vs', n', rfl, ua', kk _ _ (fun r => q (hi y x _ _ _ e2 e H' (r ▸ H))) g', dl'.mono kb⟩
    | obj a2 C fs =>
      obtain ⟨a', dx, es, n', rfl, ua', ud, nl, g1, g2, df, r⟩ := sd
      refine ⟨a', dx, es, n', rfl, ua', ud, nl, kk _ _ (fun r => ?_) g1, kk _ _ (fun r => ?_) g2, df.mono kb, r⟩
      · exact apart g (r ▸ g1) rfl
      · exact apart g (r ▸ g2) rfl

/-- an own name is read -/
theorem FW.ownRead {A : Around} {h₀ : Heap} {Z U : AS} {s : Shared} {x : String} {px : Pos} {ds : List D} {Q : Value → Shared → Prop} (F : FW c h₀ env Z U s.heap ρ) (e : ρ x = some (.own ds))
    (hQ : ∀ a vs k, U a → (∃ m, s.heap.Ns env.locals m ∧ Has env s.heap m (Str.ofString x) (.ref a)) → s.heap.get? a = some { cls := .type "list", data := .seq (List.toArray vs) k } → DenL (Both Z U) s.heap vs ds → Q (.ref a) s)
    (hd : (Str.ofString x == ("__debug__" : Str)) = false := by decide) (hc : (Str.ofString x == ("__classdict__" : Str)) = false := by decide) : wpAny (model c.prog c.w) A (eval (.Name (Str.ofString x) px) env) Q NE s := by
  obtain ⟨m, hm, hv, _⟩ := F.fs.vars
  obtain ⟨v, H, a, vs, k, rfl, ua, g, dl⟩ := hv x _ e
  have go := hQ a vs k ua ⟨m, hm, H⟩ g dl
  refine wpAny_Name ?_ hd
  rcases H with ⟨p, b⟩ | ⟨p | p, q, hk, ik⟩
  · exact wpAny_loadName_local F.fs.kind p hm b go
  · exact wpAny_loadName_cell F.fs.kind p hk ik go
  · exact wpAny_loadName_free F.fs.kind p hk ik go hc
theorem has_g {h h' : Heap} {L : Addr} {x : Str} {v : Value} (g : G h h') (H : ∃ m, h.Ns L m ∧ Has env h m x v) : ∃ m, h'.Ns L m ∧ Has env h' m x v := let ⟨m, a, b⟩ := H; ⟨m, a.keeps g, b.g g⟩

/-- x.append(e) -/
theorem Run1.append {x : String} {e : Expr} {px apos cpos pos : Pos} {ds : List D} {d : D} (hx : ρ x = some (.own ds)) (h : Evals c n env ρ e d) (hz : ds.length ≤ 1000000) (p : Φ (.next (upd ρ x (.own (ds ++ [d])))))
    (hu : unstarred [e] = true := by rfl) (hb : attributeBase (.Name (Str.ofString x) px) (Str.ofString "append") env (eval (.Name (Str.ofString x) px) env) = eval (.Name (Str.ofString x) px) env := by rfl)
    (hline : (apos.endLine == cpos.line) = true := by rfl)
    (hfew : ((backTo cpos (starEach [e] env)).all (fun x => !x.1) && (backToKw cpos (keywordEach [] env)).all (fun x => x.1.isSome) && decide ([e].length + ([] : List Keyword).length + (if ([] : List Keyword).isEmpty then 0 else 1) < 30)) = true := by rfl)
    (hi : interactive env = false := by rfl) (hd : (Str.ofString x == ("__debug__" : Str)) = false := by decide) (hc : (Str.ofString x == ("__classdict__" : Str)) = false := by decide) :
    Run1 c n env ρ (.Expr (.Call (.Attribute (.Name (Str.ofString x) px) (Str.ofString "append") apos) [e] [] cpos) pos) Φ := by
  intro A h₀ Z U s ao F
  refine wpAny_Expr_any ?_ hi rfl
  refine wpAny_Call_method_lateS hb hfew hline (F.ownRead hx (fun a vs k ua Ha ea dl => ?_) hd hc)
  refine ⟨"list", "list.append", PySem.F.plainAttrs_list, PySem.slot_list_append, PySem.F.type_list_append, ⟨_, ea, rfl⟩, fun b eb => by cases eb; exact ⟨_, ea, rfl⟩, ?_⟩
  rw [backTo_eq cpos env [e] hu]
  refine callWith_of (P := fun _ => True) (by simp) (fun h _ => ⟨.machine, .inr (.inl rfl), Looks.of_pure rfl⟩) (evalArgs_plain (spliced_cons (h A Z U s _ ao F.okh F.fs fun v h1 tk1 g1 dv => spliced_nil ⟨trivial, ?_⟩)))
  refine wpAny_list_append_plain (hsz := by rw [List.size_toArray, dl.length, sizeLine_eq]; omega) ⟨k, g1 _ _ ea⟩ fun h2 hl2 hs2 => ?_
  obtain ⟨k2, e2⟩ := hl2
  rw [List.push_toArray] at e2
  obtain ⟨F2, kb⟩ := (F.g g1).ownPut (k' := k2) (vs' := vs ++ [v]) (ds' := ds ++ [d]) hx (has_g g1 Ha) hs2 e2 ((dl.g g1).append (.cons dv .nil))
  exact ⟨h2, tk1, U, .next _, rfl, F2.base, fun b o nb e => kb b o nb (g1 b o e), fun _ q => .inl q, F2.off, F2, p⟩

/-- x[i] = e -/
theorem Run1.setItem {x : String} {i e : Expr} {px spos pos : Pos} {ds : List D} {d : D} {k : Nat} (hx : ρ x = some (.own ds)) (h : Evals c n env ρ e d) (h2 : Evals c n env ρ i (.int k)) (hk : k < ds.length) (hk2 : k < 1000000) (p : Φ (.next (upd ρ x (.own (ds.set k d)))))
    (hs : swapsWith e (some (.Subscript (.Name (Str.ofString x) px) i spos)) pos.line env = pure false := by rfl)
    (hd : (Str.ofString x == ("__debug__" : Str)) = false := by decide) (hc : (Str.ofString x == ("__classdict__" : Str)) = false := by decide) :
    Run1 c n env ρ (.Assign [.Subscript (.Name (Str.ofString x) px) i spos] e pos) Φ := by
  intro A h₀ Z U s ao F
  refine wpAny_Assign_Subscript (h A Z U s _ ao F.okh F.fs fun v h1 tk1 g1 dv => ?_) hs
  refine (F.g g1).ownRead (s := { s with heap := h1, toks := tk1 }) hx (fun a vs m ua Ha ea dl => ?_) hd hc
  refine h2 A Z U _ _ ao (F.g g1).okh (F.g g1).fs fun iv h3 tk3 g3 di => ?_
  cases di
  refine ki_setAt (g3 _ _ ea) (by omega) (by omega) (by rw [List.size_toArray, dl.length]; omega) ?_
  have e2 : (h3.update a (Obj.mapSeq (·.setIfInBounds ((k : Int)).toNat v))).get? a = some { cls := .type "list", data := .seq (vs.set k v).toArray m } := by
    rw [Heap.get?_update_self _ (g3 _ _ ea) rfl]
    simp [Obj.mapSeq]
  obtain ⟨F2, kb⟩ := (F.g (g1.trans g3)).ownPut (ds' := ds.set k d) hx (has_g g3 Ha) (Heap.SameBut.update ..) e2 (DenL.set (dv.g g3) (dl.g g3) k)
  exact ⟨_, tk3, U, .next _, rfl, F2.base, fun b o nb e => kb b o nb (g3 b o (g1 b o e)), fun _ q => .inl q, F2.off, F2, p⟩
end
end Mine
end
section
open PySem PySem.W PyProof.Rows PySem.Calls
set_option autoImplicit false
namespace Mine

/-- an expression gives some list (own or not) of these things -/
noncomputable def EvSeq (c : Cx) (n : Nat) (env : Env) (ρ : Rho) (e : Expr) (ds : List D) : Prop :=
  ∀ (A : Around) (Z U : AS) (s : Shared) (Q : Value → Shared → Prop), AOk c n A → c.Ok s.heap → FS env Z U s.heap ρ →
    (∀ a vs k h' tk, G s.heap h' → h'.get? a = some { cls := .type "list", data := .seq (List.toArray vs) k } → DenL (Both Z U) h' vs ds → Q (.ref a) { s with heap := h', toks := tk }) → wpAny (model c.prog c.w) A (eval e env) Q NE s

section
variable {c : Cx} {n : Nat} {env : Env} {ρ : Rho} {Φ Ψ : Out → Prop}
theorem EvSeq.own {x : String} {px : Pos} {ds : List D} (e : ρ x = some (.own ds)) (hd : (Str.ofString x == ("__debug__" : Str)) = false := by decide) (hc : (Str.ofString x == ("__classdict__" : Str)) = false := by decide) :
    EvSeq c n env ρ (.Name (Str.ofString x) px) ds := by
  intro A Z U s Q ao ok F hQ
  obtain ⟨m, hm, hv, _⟩ := F.vars
  obtain ⟨v, H, a, vs, k, rfl, ua, g, dl⟩ := hv x _ e
  have go := hQ a vs k s.heap s.toks G.rfl g dl
  refine wpAny_Name ?_ hd
  rcases H with ⟨p, b⟩ | ⟨p | p, q, hk, ik⟩
  · exact wpAny_loadName_local F.kind p hm b go
  · exact wpAny_loadName_cell F.kind p hk ik go
  · exact wpAny_loadName_free F.kind p hk ik go hc
theorem EvSeq.fz {e : Expr} {ds : List D} (h : Evals c n env ρ e (.lst ds)) : EvSeq c n env ρ e ds := by
  intro A Z U s Q ao ok F hQ
  refine h A Z U s _ ao ok F fun v h' tk g dv => ?_
  cases dv with | lst ns e dl => exact hQ _ _ _ h' tk g e dl
theorem EvSeq.new {e : Expr} {ds : List D} (h : EvalsNew c n env ρ e ds) : EvSeq c n env ρ e ds := by
  intro A Z U s Q ao ok F hQ
  exact h A Z U s _ ao ok F fun a vs k h' tk g _ ea dl => hQ a vs k h' tk g ea (dl.mono fun b o nb eb => ⟨fun q => nb (.inl q), eb⟩)
theorem Evals.ofNew {e : Expr} {ds : List D} (h : EvalsNew c n env ρ e ds) : Evals c n env ρ e (.lst ds) := by
  intro A Z U s Q ao ok F hQ
  exact h A Z U s _ ao ok F fun a vs k h' tk g na ea dl => hQ _ h' tk g (.lst (F.fresh na) ea (dl.mono fun b o nb eb => ⟨fun q => nb (.inl q), eb⟩))
theorem fresh_g {h h' : Heap} (g : G h h') : h.get? h'.objs.size = none := by
  cases q : h.get? h'.objs.size with
  | none => rfl
  | some o => have := g _ _ q; rw [get_size] at this; cases this
theorem EvalsNew.add {l r : Expr} {pos : Pos} {d1 d2 : List D} (h1 : EvSeq c n env ρ l d1) (h2 : EvSeq c n env ρ r d2) (hz : d1.length + d2.length ≤ 16777216) : EvalsNew c n env ρ (.BinOp l .Add r pos) (d1 ++ d2) := by
  intro A Z U s Q ao ok F hQ
  refine wpAny_BinOp (h1 A Z U s _ ao ok F fun a vs k h1 tk1 g1 e1 dl1 => h2 A Z U _ _ ao (ok.g g1) (F.g g1) fun b ws m h2 tk2 g2 e2 dl2 => ?_)
  refine P.add_list (g2 _ _ e1) e2 ?_ (by rw [List.size_toArray, List.size_toArray, dl1.length, dl2.length, sizeLine_eq]; exact hz)
  have g := g1.trans g2
  refine hQ _ (vs ++ ws) 0 _ _ (g.trans (G.push _ _)) (fresh_g g) ?_ (denL_away ((dl1.g g2).append dl2) (G.push _ _) (get_size _))
  rw [List.append_toArray]
  exact Heap.get?_push_size _ rfl
theorem foldl_rep (vs : List Value) : ∀ (k : Nat) (acc : Array Value), List.foldl (fun x1 x2 => x1 ++ x2) acc (List.replicate k vs.toArray) = acc ++ (List.replicate k vs).flatten.toArray
  | 0, acc => by simp
  | k + 1, acc => by
    rw [List.replicate_succ, List.foldl_cons, foldl_rep vs k, List.replicate_succ, List.flatten_cons, ← List.append_toArray, Array.append_assoc]
theorem DenL.rep {S : AS} {h : Heap} {vs : List Value} {ds : List D} (d : DenL S h vs ds) : ∀ k, DenL S h (List.replicate k vs).flatten (List.replicate k ds).flatten
  | 0 => .nil
  | k + 1 => by rw [List.replicate_succ, List.replicate_succ, List.flatten_cons, List.flatten_cons]; exact d.append (DenL.rep d k)
theorem EvalsNew.mul {l r : Expr} {pos : Pos} {ds : List D} {i : Int} (h1 : EvSeq c n env ρ l ds) (h2 : Evals c n env ρ r (.int i)) (hi : -1000000 ≤ i) (hi2 : i ≤ 1000000) (hl : ds.length ≤ 4) : EvalsNew c n env ρ (.BinOp l .Mult r pos) (List.replicate i.toNat ds).flatten := by
  intro A Z U s Q ao ok F hQ
  refine wpAny_BinOp (h1 A Z U s _ ao ok F fun a vs k h1 tk1 g1 e1 dl1 => h2 A Z U _ _ ao (ok.g g1) (F.g g1) fun b h2 tk2 g2 d2 => ?_)
  cases d2 with | int _ u =>
  have hl1 := g2 _ _ e1
  have hsz : vs.toArray.size = ds.length := by rw [List.size_toArray, dl1.length]
  have hm : vs.toArray.size * i.toNat ≤ 2 ^ 24 := by
    rw [hsz]
    calc ds.length * i.toNat ≤ 4 * 1000000 := Nat.mul_le_mul hl (by omega)
      _ ≤ 2 ^ 24 := by decide
  refine wpAny_binaryOp_repeat_ref (T := "list") (U := "int") (by decide) ⟨_, hl1, rfl⟩ (fun s' => typeIs_int s' i u) noFill_list_mul PySem.F.fills_int_mul PySem.F.slot_int_rmul repeat_list PySem.F.slot_int_index.lookup
    (call_meets PySem.F.slot_int_rmul (typeIs_int _ i u) PySem.F.entry_int_rmul (PySem.F.args_int_rmul_2 _ _) (int___rmul___int_list i u a vs.toArray k)
      ⟨hl1, rfl, ⟨_, hl1, rfl⟩, call_meets PySem.F.slot_list_mul ⟨_, hl1, rfl⟩ PySem.F.entry_list_mul (PySem.F.args_list_mul_2 _ _)
        (AutoListH.list___mul___list_int_3 a vs.toArray k i u (by simp [Builtin.List.listFitsIndex]; omega) (by omega) (by simp [Builtin.List.listTooLong, sizeLine] at hm ⊢; omega))
        ⟨hl1, ?_⟩⟩)
  have g := g1.trans g2
  refine hQ _ (List.replicate i.toNat vs).flatten 0 _ _ (g.trans (G.push _ _)) (fresh_g g) ?_ (denL_away ((dl1.g g2).rep _) (G.push _ _) (get_size _))
  refine (Heap.get?_push_size _ rfl).trans ?_
  congr 3
  rw [foldl_rep]
  cases vs with
  | nil => simp
  | cons v r => simp

theorem Fun.tuple_lst {ds : List D} (hx : ds.length ≤ 16777216) : Fun c n (.type "tuple") [.lst ds] (.tup ds) := fun A S s Q vs ao ok l dl hQ => by
      obtain ⟨_, _, rfl, d, r⟩ := dl.inv
      obtain rfl := r.inv
      obtain ⟨_, _, _, rfl, ns, e, dl⟩ := d.inv
      refine call_tuple_list (isList_of e) (fun h' k => ?_) (by rw [List.size_toArray, dl.length, sizeLine_eq]; exact hx)
      have k : G s.heap h' := k
      exact hQ _ _ _ (k.trans (G.push _ _)) (Den.newTup (live_g l k) (dl.g k))
theorem Fun.range2 {a b : Int} : Fun c n (.type "range") [.int a, .int b] (.rng a b) := fun A S s Q vs ao ok l dl hQ => by
    obtain ⟨_, _, rfl, d, r⟩ := dl.inv
    obtain ⟨_, _, rfl, d2, r⟩ := r.inv
    obtain rfl := r.inv
    obtain ⟨_, rfl⟩ := d.inv
    obtain ⟨_, rfl⟩ := d2.inv
    exact call_range_2 (hQ _ _ _ (G.push _ _) (.rng (fresh_of l (get_size _)) (IsRange.new _ _ _ _ _ _ _)))
theorem Fun.range1 {b : Int} : Fun c n (.type "range") [.int b] (.rng 0 b) := fun A S s Q vs ao ok l dl hQ => by
    obtain ⟨_, _, rfl, d, r⟩ := dl.inv
    obtain rfl := r.inv
    obtain ⟨_, rfl⟩ := d.inv
    exact call_range_1 (hQ _ _ _ (G.push _ _) (.rng (fresh_of l (get_size _)) (IsRange.new _ _ _ _ _ _ _)))
theorem preSum_eq (l : List Int) : ∀ k, k ≤ l.length → preSum (fun j => l.getD j 0) k = (l.take k).sum
  | 0, _ => by simp [preSum]
  | k + 1, h => by
    rw [preSum, preSum_eq l k (by omega), List.take_succ_eq_append_getElem (by omega), List.sum_append]
    simp [List.getD_eq_getElem?_getD, List.getElem?_eq_getElem (show k < l.length by omega)]
theorem Fun.sum {l : List Int} : Fun c n (.builtin "sum") [.lst (l.map D.int)] (.int l.sum) := fun A S s Q vs ao ok lv dl hQ => by
  cases dl with | cons d r =>
    cases r
    have hi := Iters.lst (c := c) (ds := l.map D.int)
    refine call_sum_walkG (wpAny_mono (hi A.in1 S s _ _ ao.handled lv d fun I h' tk fp P St W g hI hfp st hSt hP => ?_) (fun _ _ x => x) fun _ _ x => x.elim)
    refine ⟨I, fp, [I], _, P, St, fun j => l.getD j 0, rfl, W, st, fun b hb => ?_, fun i v hv => ?_, fun h'' tk' t' k => ?_⟩
    · rcases hfp b hb with rfl | ⟨_, o, e⟩
      · obtain ⟨o, _, e, _⟩ := hSt _ _ st; exact Heap.lt_size e
      · exact Heap.lt_size (g _ _ e)
    · obtain ⟨d, hd, dv⟩ := hP i v hv
      rw [List.getElem?_map] at hd
      cases q : l[i]? with
      | none => rw [q] at hd; cases hd
      | some x =>
        rw [q] at hd; cases hd
        cases dv with | int _ t =>
        refine ⟨t, ?_⟩
        simp [List.getD_eq_getElem?_getD, q]
    · rw [preSum_eq l _ (by simp)]
      rw [show (l.map D.int).length = l.length by simp, List.take_length]
      refine hQ _ h'' tk' (fun b o e => k b o ?_ (g b o e)) (.int _ _)
      simp only [List.mem_singleton]
      rintro rfl
      rw [hI] at e; cases e
end
end Mine
end
section
open PySem PySem.W PyProof.Rows PySem.Calls
set_option autoImplicit false
namespace Mine
/-- a text of signs -/
noncomputable def S (l : List Nat) : Str := ⟨l.toArray⟩
theorem S_cps (l : List Nat) : (S l).cps = l.toArray := rfl
theorem S_toList (l : List Nat) : (S l).cps.toList = l := by simp [S]
theorem S_len (l : List Nat) : (S l).length = l.length := by simp [S, Str.length]
theorem S_app (a b : List Nat) : S a ++ S b = S (a ++ b) := Str.ext' (by rw [Str.cps_append, S_cps, S_cps, S_cps, List.append_toArray])
theorem S_eq (a b : List Nat) : (S a == S b) = decide (a = b) := by
  by_cases h : a = b
  · subst h; simp
  · rw [decide_eq_false h]
    have : S a ≠ S b := fun e => h (by have := congrArg (fun x : Str => x.cps.toList) e; simpa [S] using this)
    simpa using this
theorem S_ne (a b : List Nat) : (S a != S b) = decide (a ≠ b) := by
  show (!(S a == S b)) = _
  rw [S_eq]
  by_cases h : a = b <;> simp [h]
noncomputable def cl (n : Nat) (i : Int) : Nat := clipAt n i
noncomputable def sl (l : List Nat) (lo hi : Option Int) : List Nat := (l.drop (lo.elim 0 (clipAt l.length))).take (hi.elim l.length (clipAt l.length) - lo.elim 0 (clipAt l.length))
theorem S_slice (l : List Nat) (lo hi : Option Int) : Txt.slice (S l) lo hi = S (sl l lo hi) := by
  have hb : ∀ i, clipAt l.length i ≤ l.length := fun i => by
    have h := clipAt_cast l.length i
    omega
  have key : Builtin.Str.strSliceIndices lo hi 1 (S l).length = sliceRange ((lo.elim 0 (clipAt l.length) : Nat) : Int) ((hi.elim l.length (clipAt l.length) : Nat) : Int) 1 := by
    unfold Builtin.Str.strSliceIndices
    rw [S_len]
    cases lo <;> cases hi <;> simp [clipAt_cast]
  have h2 : (sliceRange ((lo.elim 0 (clipAt l.length) : Nat) : Int) ((hi.elim l.length (clipAt l.length) : Nat) : Int) 1).filterMap ((S l).cps[·]?) = sl l lo hi := by
    rw [sliceRange_one]
    have := pick_run (S l).cps (lo.elim 0 (clipAt l.length)) (hi.elim l.length (clipAt l.length) - lo.elim 0 (clipAt l.length))
    rw [S_toList] at this
    exact this
  unfold Txt.slice
  rw [key, h2]
  split
  · rename_i h
    have hlen : (sliceRange ((lo.elim 0 (clipAt l.length) : Nat) : Int) ((hi.elim l.length (clipAt l.length) : Nat) : Int) 1).length = l.length := by
      have := (Bool.and_eq_true_iff.mp h).2
      rw [S_len] at this
      simpa using this
    rw [sliceRange_one, List.length_map, List.length_range] at hlen
    have ha : lo.elim 0 (clipAt l.length) = 0 ∨ l.length = 0 := by
      have h1 : hi.elim l.length (clipAt l.length) ≤ l.length := by cases hi with | none => exact Nat.le_refl _ | some i => exact hb i
      omega
    unfold sl
    rcases ha with ha | ha
    · rw [ha, List.drop_zero, List.take_of_length_le]
      rw [ha] at hlen; omega
    · have : l = [] := List.length_eq_zero_iff.mp ha
      subst this; simp
  · rfl
theorem S_charAt {l : List Nat} {k : Int} {x : Nat} (h0 : 0 ≤ k) (h : l[k.toNat]? = some x) : Txt.charAt (S l) k = some x := by
  unfold Txt.charAt seqIndex?
  have hlt : k.toNat < l.length := (List.getElem?_eq_some_iff.mp h).1
  simp only [if_neg (show ¬ k < 0 by omega), S_len]
  rw [if_pos (by simp; omega)]
  simpa [S] using h
theorem S_item {l : List Nat} {k : Int} {x : Nat} (h0 : 0 ≤ k) (h : l[k.toNat]? = some x) : Txt.item (S l) k = S [x] := by
  unfold Txt.item
  rw [S_charAt h0 h]
  rfl
theorem S_starts (a b : List Nat) : Txt.startswith (S a) (S b) = b.isPrefixOf a := by
  unfold Txt.startswith
  rw [StrLaws.subAt_eq, S_len, S_len, S_toList, S_toList, List.drop_zero]
  by_cases h : b <+: a
  · rw [List.isPrefixOf_iff_prefix.mpr h]
    obtain ⟨t, rfl⟩ := h
    simp
  · have h1 : b.isPrefixOf a = false := by
      cases q : b.isPrefixOf a with
      | false => rfl
      | true => exact absurd (List.isPrefixOf_iff_prefix.mp q) h
    rw [h1, Bool.and_eq_false_iff]
    right
    simp only [beq_eq_false_iff_ne]
    intro e
    exact h ⟨a.drop b.length, by have q := List.take_append_drop b.length a; rw [e] at q; exact q⟩
theorem S_ends (a b : List Nat) : Txt.endswith (S a) (S b) = b.isSuffixOf a := by
  unfold Txt.endswith
  rw [StrLaws.subAt_eq, S_len, S_len, S_toList, S_toList]
  by_cases h : b <:+ a
  · rw [List.isSuffixOf_iff_suffix.mpr h]
    obtain ⟨t, rfl⟩ := h
    simp
  · have h1 : b.isSuffixOf a = false := by
      cases q : b.isSuffixOf a with
      | false => rfl
      | true => exact absurd (List.isSuffixOf_iff_suffix.mp q) h
    rw [h1, Bool.and_eq_false_iff]
    by_cases hl : b.length ≤ a.length
    · right
      simp only [beq_eq_false_iff_ne]
      intro e
      refine h ⟨a.take (a.length - b.length), ?_⟩
      rw [List.take_of_length_le (by rw [List.length_drop]; omega)] at e
      have q := List.take_append_drop (a.length - b.length) a
      rw [e] at q; exact q
    · left
      simp; omega
end Mine
end
section
open PySem PySem.W PyProof.Rows PySem.Calls
set_option autoImplicit false
namespace Mine
section
variable {c : Cx} {n : Nat} {env : Env} {ρ : Rho}
theorem Evals.strS {x : Str} {l : List Nat} {k : Nat} {pos : Pos} (h : x = S l) : Evals c n env ρ (.Constant (.str x) k pos) (.str (S l)) := h ▸ Evals.strc
theorem Op2.addS {a b : List Nat} (hz : a.length + b.length ≤ 16777216) : Op2 c n (binaryOp .Add) (.str (S a)) (.str (S b)) (.str (S (a ++ b))) := by
  rw [← S_app]; exact Op2.adds (by rw [S_len, S_len, sizeLine_eq]; exact hz)
theorem Op2.eqS {a b : List Nat} : Op2 c n (compareOp .Eq) (.str (S a)) (.str (S b)) (.bool (decide (a = b))) := by
  rw [← S_eq]; exact Op2.eqs
theorem Op2.neS {a b : List Nat} : Op2 c n (compareOp .NotEq) (.str (S a)) (.str (S b)) (.bool (decide (a ≠ b))) := by
  rw [← S_ne]; exact Op2.nes
theorem EvPart.nn : EvPart c n env ρ none none := trivial
theorem EvPart.s {e : Expr} {i : Int} (h : Evals c n env ρ e (.int i)) : EvPart c n env ρ (some e) (some i) := h
theorem Evals.sliceS {value : Expr} {l u : Option Expr} {p pos : Pos} {k1 k2 : Option Int} {x : List Nat} (hv : Evals c n env ρ value (.str (S x))) (hl : EvPart c n env ρ l k1) (hu : EvPart c n env ρ u k2) (hz : x.length ≤ 16777216) :
    Evals c n env ρ (.Subscript value (.Slice l u none p) pos) (.str (S (sl x k1 k2))) := by
  rw [← S_slice]; exact Evals.slice_str hv hl hu (by rw [S_len, sizeLine_eq]; exact hz)
theorem Evals.itemS {value slice : Expr} {pos : Pos} {l : List Nat} {k : Int} {x : Nat} (hv : Evals c n env ρ value (.str (S l))) (hi : Evals c n env ρ slice (.int k)) (h0 : 0 ≤ k) (hk : k < 2 ^ 62) (h : l[k.toNat]? = some x)
    (hs : ∀ o i, subscripted slice false o i = operate [o, i] (getItem o i) := by intros; rfl) : Evals c n env ρ (.Subscript value slice pos) (.str (S [x])) := by
  rw [← S_item h0 h]
  refine hv.index hi (Op2.item_str ?_ ?_) trivial hs
  · unfold fitsSsize
    rw [Bool.not_eq_true', Bool.or_eq_false_iff]
    exact ⟨decide_eq_false (by omega), decide_eq_false (by omega)⟩
  · rw [S_charAt h0 h]; rfl
theorem Fun.lenS {l : List Nat} (hx : l.length ≤ 16777216) : Fun c n (.builtin "len") [.str (S l)] (.int l.length) := by
  have := Fun.len_str (c := c) (n := n) (x := S l) (by rw [S_len]; omega)
  rw [S_len] at this
  exact this
theorem rep_foldl (vs : Array Nat) : ∀ (k : Nat) (acc : Array Nat), List.foldl (fun x1 x2 => x1 ++ x2) acc (List.replicate k vs) = acc ++ (List.replicate k vs.toList).flatten.toArray
  | 0, acc => by simp
  | k + 1, acc => by
    rw [List.replicate_succ, List.foldl_cons, rep_foldl vs k, List.replicate_succ, List.flatten_cons, ← List.append_toArray, Array.append_assoc]
theorem Op2.mulS {l : List Nat} {i : Int} (hi : -1000000 ≤ i) (hi2 : i ≤ 1000000) (hl : l.length ≤ 4) : Op2 c n (binaryOp .Mult) (.str (S l)) (.int i) (.str (S (List.replicate i.toNat l).flatten)) := fun _ _ s Q _ _ _ _ _ e1 e2 hQ => by
  cases e1 with | str _ t => cases e2 with | int _ u =>
  have hm : l.length * i.toNat ≤ 2 ^ 24 := by
    calc l.length * i.toNat ≤ 4 * 1000000 := Nat.mul_le_mul hl (by omega)
      _ ≤ 2 ^ 24 := by decide
  have fin : ∀ t k, Q (.str (S (List.replicate i.toNat l).flatten) t) { s with toks := k } := fun t k => hQ _ s.heap k G.rfl (.str _ _)
  refine P.mul_str (by rw [Bool.or_eq_false_iff]; exact ⟨decide_eq_false (by omega), decide_eq_false (by omega)⟩) (fun h1 _ => ?_) (fun _ _ => ?_) ?_
  · rw [S_len]
    have : (4 : Int) ≤ (2 ^ 63 - 1) / i := by
      rw [Int.le_ediv_iff_mul_le (by omega)]; omega
    omega
  · rw [S_len]; unfold Builtin.Str.tooLong sizeLine; exact decide_eq_false (by omega)
  · by_cases h1 : i < 1
    · rw [if_pos h1]
      have e : S (List.replicate i.toNat l).flatten = Str.empty := by
        rw [show i.toNat = 0 by omega]; rfl
      rw [e] at fin
      exact ⟨by decide, fin _ _⟩
    · rw [if_neg h1]
      by_cases h2 : (i == 1 || (S l).length == 0) = true
      · rw [if_pos h2]
        have e : S (List.replicate i.toNat l).flatten = S l := by
          rcases Bool.or_eq_true_iff.mp h2 with q | q
          · have : i = 1 := by simpa using q
            subst this; simp
          · have : l = [] := by rw [S_len] at q; simpa using q
            subst this; simp
        rw [e] at fin
        exact fin _ _
      · rw [if_neg h2]
        have e : (⟨(List.replicate i.toNat (S l).cps).foldl (· ++ ·) #[]⟩ : Str) = S (List.replicate i.toNat l).flatten := by
          rw [rep_foldl]
          simp [S]
        rw [e]
        refine ⟨?_, fin _ _⟩
        rw [S_len, List.length_flatten]
        simp
        rw [sizeLine_eq]
        have : l.length * i.toNat = i.toNat * l.length := Nat.mul_comm _ _
        omega
end
end Mine
end
section
open PySem PySem.W PyProof.Rows PySem.Calls
set_option autoImplicit false
namespace Mine

theorem DenL.eraseIdx {S : AS} {h : Heap} {vs : List Value} {ds : List D} (x : DenL S h vs ds) (k : Nat) : DenL S h (vs.eraseIdx k) (ds.eraseIdx k) := by
  induction ds generalizing vs k with
  | nil => obtain rfl : vs = [] := x.inv; exact .nil
  | cons d ds ih =>
    obtain ⟨v, ws, rfl, dv, l⟩ := x.inv
    cases k with
    | zero => exact l
    | succ k => exact .cons dv (ih l k)

section
variable {c : Cx} {n : Nat} {env : Env} {ρ : Rho} {Φ Ψ : Out → Prop}
/-- del x[i] -/
theorem Run1.del {x : String} {i : Expr} {px spos pos : Pos} {ds : List D} {k : Int} {j : Nat} (hx : ρ x = some (.own ds)) (h2 : Evals c n env ρ i (.int k)) (hj : seqIndex? k ds.length = some j) (hk : -1000000 ≤ k) (hk2 : k ≤ 1000000) (hl : ds.length ≤ 1000000) (p : Φ (.next (upd ρ x (.own (ds.eraseIdx j)))))
    (hd : (Str.ofString x == ("__debug__" : Str)) = false := by decide) (hc : (Str.ofString x == ("__classdict__" : Str)) = false := by decide) :
    Run1 c n env ρ (.Delete [.Subscript (.Name (Str.ofString x) px) i spos] pos) Φ := by
  intro A h₀ Z U s ao F
  refine wpAny_Delete (wpAny_deleteEach_cons (wpAny_delete_Subscript (F.ownRead hx (fun a vs m ua Ha ea dl => ?_) hd hc)))
  refine h2 A Z U _ _ ao F.okh F.fs fun iv h3 tk3 g3 di => ?_
  cases di
  have hs : vs.toArray.size = ds.length := by rw [List.size_toArray, dl.length]
  refine delItem_at (k := j) (g3 _ _ ea) (by simp [Builtin.List.listFitsIndex]; omega) (by rw [hs]; exact hj) (fun h4 hs4 e4 => wpAny_deleteEach_nil ?_) (by rw [hs, sizeLine_eq]; omega)
  obtain ⟨F2, kb⟩ := (F.g g3).ownPut (ds' := ds.eraseIdx j) hx (has_g g3 Ha) hs4 e4 ((dl.g g3).eraseIdx j)
  exact ⟨_, tk3, U, .next _, rfl, F2.base, fun b o nb e => kb b o nb (g3 b o e), fun _ q => .inl q, F2.off, F2, p⟩

/-- a, b = e: the plain road -/
theorem Run1.assignT {elts : List Expr} {k : Nat} {tpos pos : Pos} {e : Expr} {d : D} (h : Evals c n env ρ e d) (t : Asg c n env (.Tuple elts k tpos) ρ d fun ρ' => Φ (.next ρ'))
    (hs : swapsWithSole [.Tuple elts k tpos] e pos.line env = pure false := by rfl) (hw : swappedStores [.Tuple elts k tpos] e env = pure none := by rfl) : Run1 c n env ρ (.Assign [.Tuple elts k tpos] e pos) Φ := by
  intro A h₀ Z U s ao F
  obtain ⟨ρ', p, t⟩ := t
  refine Assign_Tuple (h A Z U s _ ao F.okh F.fs fun v h' tk g dv => t A h₀ Z U _ _ v ao (F.g g) dv fun h2 tk2 F2 kb => ?_) hs hw
  exact ⟨h2, tk2, U, .next _, rfl, F2.base, fun b o nb e => kb b o nb (g b o e), fun _ q => .inl q, F.off, F2, p⟩

/-- names take things, one by one -/
noncomputable def AsgN (c : Cx) (env : Env) (names : List Str) (ρ : Rho) (ds : List D) (K : Rho → Prop) : Prop :=
  ∃ ρ', K ρ' ∧ ∀ (A : Around) (h₀ : Heap) (Z U : AS) (s : Shared) (Q : Unit → Shared → Prop) (vs : List Value), FW c h₀ env Z U s.heap ρ → DenL (Both Z U) s.heap vs ds →
    (∀ h' tk, FW c h₀ env Z U h' ρ' → KB U s.heap h' → Q () { s with heap := h', toks := tk }) → wpAny (model c.prog c.w) A (assignInOrder (names.map fun x => bindName env x) vs) Q NE s
theorem AsgN.nil {K : Rho → Prop} (k : K ρ) : AsgN c env [] ρ [] K := ⟨_, k, fun _ _ _ _ s _ _ F dl hQ => by
  cases dl; exact wpAny_pure (hQ s.heap s.toks F fun _ _ _ e => e)⟩
theorem AsgN.cons {x : String} {xs : List Str} {d : D} {ds : List D} {K : Rho → Prop} (st : Stores env x) (h : AsgN c env xs (upd ρ x (.fz d)) ds K) : AsgN c env (Str.ofString x :: xs) ρ (d :: ds) K := by
  obtain ⟨ρ2, k, h2⟩ := h
  refine ⟨ρ2, k, fun A h₀ Z U s Q vs F dl hQ => ?_⟩
  cases dl with | cons dv dl =>
  show wpAny _ A (do holding _ (bindName env _ _); assignInOrder _ _) _ _ _
  refine wpAny_bind (wpAny_holding (wpAny_bindName (F.store st dv fun h' tk F' kb _ => ?_)))
  exact h2 A h₀ Z U _ _ _ F' (dl.kb (KB.both kb)) fun h2 tk2 F2 kb2 => hQ h2 tk2 F2 fun b o nb e => kb2 b o nb (kb b o nb e)
/-- a, b = e, f: the swapped road -/
theorem Run1.assignS {elts es : List Expr} {k k2 : Nat} {tpos epos pos : Pos} {names : List Str} {ds : List D} (h : EvalsL c n env ρ es ds) (t : AsgN c env names.reverse ρ ds.reverse fun ρ' => Φ (.next ρ'))
    (hw : swappedStores [.Tuple elts k tpos] (.Tuple es k2 epos) env = pure (some names) := by rfl) (hn : names.length = ds.length := by rfl) (hz : es.length ≤ sizeLine) (hu : unstarred es = true := by rfl) (hl : es.length = ds.length := by rfl)
    (hs : swapsWithSole [.Tuple elts k tpos] (.Tuple es k2 epos) pos.line env = pure false := by rfl) : Run1 c n env ρ (.Assign [.Tuple elts k tpos] (.Tuple es k2 epos) pos) Φ := by
  intro A h₀ Z U s ao F
  obtain ⟨ρ', p, t⟩ := t
  refine Assign_Tuple_swapped (names := names) ((Evals.tuple h hz hu hl) A Z U s _ ao F.okh F.fs fun v h' tk g dv => ?_) hs hw
  obtain ⟨_, _, _, rfl, ns, e, dl⟩ := dv.inv
  rename_i a vs m
  have ht : IsTup h' a vs.toArray := isTup_of e
  have hm : names.length = vs.toArray.size := by rw [hn, List.size_toArray, dl.length]
  rw [hm]
  refine unpackItems_tuple ao.handled ht fun h2 he => ?_
  have g2 : G h' h2 := fun b o e => he b o (Nat.ne_of_lt (Heap.lt_size e)) e
  refine t A h₀ Z U { s with heap := h2, toks := tk } _ _ (F.g (g.trans g2)) ((dl.g g2).reverse) fun h3 tk3 F3 kb => ?_
  exact ⟨h3, tk3, U, .next _, rfl, F3.base, fun b o nb e => kb b o nb (g2 b o (g b o e)), fun _ q => .inl q, F.off, F3, p⟩

/-- a = b = c = e -/
theorem Run1.assign3 {t1 t2 t3 e : Expr} {pos : Pos} {d : D} (h : Evals c n env ρ e d) (t : Asg c n env t1 ρ d fun ρ1 => Asg c n env t2 ρ1 d fun ρ2 => Asg c n env t3 ρ2 d fun ρ3 => Φ (.next ρ3)) (ha : atomic d = true := by rfl)
    (he : (assignEach [t1, t2, t3] env).map (·.2) = [PySem.assign t1 env, PySem.assign t2 env, PySem.assign t3 env] := by rfl) (hw : swappedStores [t1, t2, t3] e env = pure none := by rfl) : Run1 c n env ρ (.Assign [t1, t2, t3] e pos) Φ := by
  intro A h₀ Z U s ao F
  obtain ⟨ρ1, ⟨ρ2, ⟨ρ3, p, a3⟩, a2⟩, a1⟩ := t
  refine wpAny_Assign_three (h A Z U s _ ao F.okh F.fs fun v h' tk g dv => a1 A h₀ Z U _ _ v ao (F.g g) dv fun h1 tk1 F1 kb1 => a2 A h₀ Z U _ _ v ao F1 (dv.atom ha) fun h2 tk2 F2 kb2 => a3 A h₀ Z U _ _ v ao F2 (dv.atom ha) fun h3 tk3 F3 kb3 => ?_) he hw
  exact ⟨h3, tk3, U, .next _, rfl, F3.base, fun b o nb e => kb3 b o nb (kb2 b o nb (kb1 b o nb (g b o e))), fun _ q => .inl q, F.off, F3, p⟩

noncomputable def compOk (scope : Scope) : Bool := scope.names.all fun y => decide (y.2 ≠ .cell) && (decide (y.2 ≠ .local) || decide (scope.names.lookup y.1 = some .local))
theorem compOk_of {scope : Scope} (h : compOk scope = true) : (∀ y ∈ scope.names, y.2 ≠ .cell) ∧ ∀ y ∈ scope.names, y.2 = .local → scope.names.lookup y.1 = some .local := by
  have k := List.all_eq_true.mp h
  refine ⟨fun y hy => of_decide_eq_true (Bool.and_eq_true_iff.mp (k y hy)).1, fun y hy e => ?_⟩
  rcases Bool.or_eq_true_iff.mp (Bool.and_eq_true_iff.mp (k y hy)).2 with q | q
  · exact absurd e (of_decide_eq_true q)
  · exact of_decide_eq_true q
/-- [e for t in i if q] -/
theorem Evals.comp {target elt iter : Expr} {ifs : List Expr} {scope : Scope} {cl : List (Str × Addr)} {pos : Pos} {d : D} {ds : List D} {ρ₀ : Rho} (f : D → Option D)
    (hit : Evals c n env ρ iter d) (hi : Iters c d ds) (hin : Inner env scope cl ρ ρ₀)
    (turn : ∀ (C : Addr) (k : Nat) (d : D), ds[k]? = some d → Asg c n (compEnvC scope cl C env) target ρ₀ d fun ρ' => (∀ x sl, ρ₀ x = some sl → ρ' x = some sl) ∧
      ∃ b, TestsIf c n (compEnvC scope cl C env) ρ' ifs b ∧ (b = false → f d = none) ∧ (b = true → ∃ e, Evals c n (compEnvC scope cl C env) ρ' elt e ∧ f d = some e))
    (hlen : ds.length ≤ sizeLine) (hclos : closureFor scope env = pure cl := by rfl) (hok : compOk scope = true := by decide +kernel) (hkind : scope.kind = .function := by rfl)
    (hcl : SubCl env cl)
    (hs : ∀ x, foldedSetIterable iter env x = pure x := by intro _; rfl) : Evals c n env ρ (.ListComp elt [⟨target, iter, ifs, 0⟩] scope pos) (.lst (ds.filterMap f)) := by
  obtain ⟨hcell, hnames⟩ := compOk_of hok
  intro A Z U s Q ao ok F hQ
  rw [eval_ListComp]
  refine comp_core f hit hi hin hclos hcell hkind hnames hcl turn hlen hs ao ok F fun Dr C h' tk m' ys hD hC hDC g hn hp dl => ⟨m', hn, fun h'' hs'' => ?_⟩
  obtain ⟨k, e⟩ := hp
  have kk : ∀ b o, b ≠ C → h'.get? b = some o → h''.get? b = some o := fun b o nb e => (hs''.2 b nb).trans e
  refine hQ _ h'' tk (fun b o e => kk b o (by rintro rfl; rw [hC] at e; cases e) (g b o e)) ?_
  refine .lst (vs := ys.toList) (n := k) (F.fresh hD) (by simpa using kk _ _ hDC e) (dl.mono fun b o nb eb => ⟨fun q => nb (.inl q), kk b o (fun q => nb (.inr (.inr q))) eb⟩)
/-- x = [e for t in i if q] -/
theorem Run1.assignComp {x : String} {px spos : Pos} {target elt iter : Expr} {ifs : List Expr} {scope : Scope} {cl : List (Str × Addr)} {pos : Pos} {d : D} {ds : List D} {ρ₀ : Rho} (f : D → Option D)
    (st : Stores env x) (hit : Evals c n env ρ iter d) (hi : Iters c d ds) (hin : Inner env scope cl ρ ρ₀)
    (turn : ∀ (C : Addr) (k : Nat) (d : D), ds[k]? = some d → Asg c n (compEnvC scope cl C env) target ρ₀ d fun ρ' => (∀ x sl, ρ₀ x = some sl → ρ' x = some sl) ∧
      ∃ b, TestsIf c n (compEnvC scope cl C env) ρ' ifs b ∧ (b = false → f d = none) ∧ (b = true → ∃ e, Evals c n (compEnvC scope cl C env) ρ' elt e ∧ f d = some e))
    (p : Φ (.next (upd ρ x (.fz (.lst (ds.filterMap f))))))
    (hlen : ds.length ≤ sizeLine) (hsw : swapsWith (.ListComp elt [⟨target, iter, ifs, 0⟩] scope pos) (some (.Name (Str.ofString x) px)) spos.line env = pure true := by rfl)
    (hclos : closureFor scope env = pure cl := by rfl) (hok : compOk scope = true := by decide +kernel) (hkind : scope.kind = .function := by rfl)
    (hcl : SubCl env cl)
    (hs : ∀ x, foldedSetIterable iter env x = pure x := by intro _; rfl) : Run1 c n env ρ (.Assign [.Name (Str.ofString x) px] (.ListComp elt [⟨target, iter, ifs, 0⟩] scope pos) spos) Φ := by
  obtain ⟨hcell, hnames⟩ := compOk_of hok
  intro A h₀ Z U s ao F
  rw [exec_Assign_Name_used _ _ _ _ hsw]
  refine wpAny_bind (wpAny_standAt (wpAny_bind ?_))
  show wpAny _ A (do let _ ← comprehension (.ListComp elt [⟨target, iter, ifs, 0⟩] scope pos) scope env _ (newList []) false (eval iter env) (some (PySem.assign (.Name (Str.ofString x) px) env))) _ _ s
  refine wpAny_bind (wpAny_mono (Q := fun _ s' => Post c h₀ env Z U s Φ .next s') ?_ (fun _ s' hq => wpAny_pure (wpAny_pure hq)) fun _ _ e => e)
  have core := fun sp hh => comp_core (spos := sp) (pos := pos) (A := A) (Z := Z) (U := U) (s := s) f (use := some (PySem.assign (.Name (Str.ofString x) px) env)) (Q := fun _ s' => Post c h₀ env Z U s Φ .next s') hit hi hin hclos hcell hkind hnames hcl turn hlen hs ao F.okh F.fs hh
  refine core _ fun Dr C h' tk m' ys hD hC hDC g hn hp dl => ?_
  obtain ⟨k, e⟩ := hp
  have LC : env.locals ≠ C := by
    obtain ⟨m, hm, _⟩ := F.fs.vars
    rintro q
    obtain ⟨o, _, _, ho, _⟩ := hm
    rw [q, hC] at ho; cases ho
  have nU : ∀ b, Both Z U b → b ≠ C := fun b u q => F.fs.fresh hC (q ▸ u)
  have F1 : FW c h₀ env (fun b => Z b ∨ b = C) U h' ρ := F.zadd g hC (by obtain ⟨o, _, _, e, _⟩ := hn; exact ⟨o, e⟩)
  have dv : Den (Both (fun b => Z b ∨ b = C) U) h' (.ref Dr) (.lst (ds.filterMap f)) := by
    refine .lst (vs := ys.toList) (n := k) (fun q => ?_) (by simpa using e) (dl.mono fun b o nb eb => ⟨fun q => ?_, eb⟩)
    · rcases q with (q | q) | q
      · exact F.fs.fresh hD (.inl q)
      · exact hDC q
      · exact F.fs.fresh hD (.inr q)
    · rcases q with (q | q) | q
      · exact nb (.inl (.inl q))
      · exact nb (.inr (.inr q))
      · exact nb (.inl (.inr q))
  show wpAny _ A (PySem.assign (.Name (Str.ofString x) px) env (.ref Dr)) _ _ _
  refine wpAny_assign_Name (F1.store (s := { s with heap := h', toks := tk }) st dv fun h2 tk2 F2 kb _ => ?_)
  have hn2 : h2.Ns C m' := hn.at' fun o e => kb _ o (fun u => nU C (.inr u) rfl) e
  refine ⟨m', hn2, fun h3 hs3 => ?_⟩
  have kk : ∀ b o, b ≠ C → h2.get? b = some o → h3.get? b = some o := fun b o nb e => (hs3.2 b nb).trans e
  have F3 : FW c h₀ env Z U h3 (upd ρ x (.fz (.lst (ds.filterMap f)))) := F2.zmove (fun b => b = C) (fun _ e => .inr e) (fun y q ey r => by
    obtain ⟨⟨v, o, ho, _⟩, _⟩ := F.fs.cell y q ey
    rw [r, hC] at ho; cases ho) (fun _ z => .inl z) kk (fun b z => by
      obtain ⟨o, e⟩ := F2.fs.live b (.inl (.inl z))
      exact ⟨o, kk b o (nU b (.inl z)) e⟩) fun b o e => kk b o (by
        rintro rfl
        have := F.base b o e
        rw [hC] at this; cases this) (F2.base b o e)
  refine ⟨h3, tk2, U, .next _, rfl, F3.base, fun b o nb e => kk b o (by rintro rfl; rw [hC] at e; cases e) (kb b o nb (g b o e)), fun _ q => .inl q, F3.off, F3, p⟩
end
end Mine
end
section
open PySem PySem.W PyProof.Rows PySem.Calls
set_option autoImplicit false
namespace Mine
section
variable {c : Cx} {n : Nat} {env : Env} {ρ : Rho} {Φ Ψ : Out → Prop} {rest : List Stmt}
theorem Tests.conv {e : Expr} {b b' : Bool} (h : Tests c n env ρ e b) (q : b = b') : Tests c n env ρ e b' := q ▸ h
theorem Evals.conv {e : Expr} {d d' : D} (h : Evals c n env ρ e d) (q : d = d') : Evals c n env ρ e d' := q ▸ h
theorem Runs.assign {x : String} {e : Expr} {px pos : Pos} {d : D} (st : Stores env x) (h : Evals c n env ρ e d) (p : Runs c n env (upd ρ x (.fz d)) rest Φ)
    (hs : swapsWith e (some (.Name (Str.ofString x) px)) pos.line env = pure false := by rfl) : Runs c n env ρ (.Assign [.Name (Str.ofString x) px] e pos :: rest) Φ := Runs.cons (Run1.assign st h p hs)
theorem Runs.aug {x : String} {op : Operator} {e : Expr} {px pos : Pos} {d0 d1 d : D} (st : Stores env x) (h0 : ρ x = some (.fz d0)) (h : Evals c n env ρ e d1) (o : Op2 c n (inplaceOp op) d0 d1 d) (p : Runs c n env (upd ρ x (.fz d)) rest Φ)
    (hl : env.kindOf (Str.ofString x) = some .local := by rfl) : Runs c n env ρ (.AugAssign (.Name (Str.ofString x) px) op e pos :: rest) Φ := Runs.cons (Run1.aug st h0 h o p hl)
theorem Runs.ifF {test : Expr} {body orelse : List Stmt} {pos : Pos} (ht : Tests c n env ρ test false) (k : Runs c n env ρ orelse (Then c n env rest Φ)) : Runs c n env ρ (.If test body orelse pos :: rest) Φ :=
  Runs.cons (Run1.ite ht (fun e => by cases e) fun _ => k)
theorem Runs.ifN {test : Expr} {body : List Stmt} {pos : Pos} (ht : Tests c n env ρ test false) (k : Runs c n env ρ rest Φ) : Runs c n env ρ (.If test body [] pos :: rest) Φ :=
  Runs.ifF ht (Runs.nil k)
theorem Runs.ifT {test : Expr} {body orelse : List Stmt} {pos : Pos} (ht : Tests c n env ρ test true) (k : Runs c n env ρ body (Then c n env rest Φ)) : Runs c n env ρ (.If test body orelse pos :: rest) Φ :=
  Runs.cons (Run1.ite ht (fun _ => k) fun e => by cases e)
theorem Runs.ret {e : Expr} {pos : Pos} {d : D} (h : Evals c n env ρ e d) (p : Φ (.ret d)) : Runs c n env ρ (.Return (some e) pos :: rest) Φ := Runs.cons (Run1.ret h p)
theorem Runs.brk {pos : Pos} (p : Φ (.brk ρ)) : Runs c n env ρ (.Break pos :: rest) Φ := Runs.cons (Run1.brk p)
theorem Runs.assert {e : Expr} {msg : Option Expr} {pos : Pos} (h : Tests c n env ρ e true) (p : Runs c n env ρ rest Φ) : Runs c n env ρ (.Assert e msg pos :: rest) Φ := Runs.cons (Run1.assert h p)
theorem Runs.while {test : Expr} {body : List Stmt} {pos : Pos} (Inv : Nat → Rho → Prop) {n0 : Nat} (h0 : Inv n0 ρ)
    (turn : ∀ k ρ', Inv k ρ' → ∃ b, Tests c n env ρ' test b ∧
      (b = true → Runs c n env ρ' body (fun o => match o with | .next ρ'' => ∃ k', k' < k ∧ Inv k' ρ'' | .brk ρ'' => Runs c n env ρ'' rest Φ | .ret d => Φ (.ret d))) ∧ (b = false → Runs c n env ρ' rest Φ)) :
    Runs c n env ρ (.While test body [] pos :: rest) Φ := Runs.cons (Run1.while Inv h0 turn)
theorem Runs.for {target iter : Expr} {body : List Stmt} {pos : Pos} {d : D} {ds : List D} (hit : Evals c n env ρ iter d) (hi : Iters c d ds) (Inv : Nat → Rho → Prop) (h0 : Inv 0 ρ)
    (turn : ∀ k d ρ', ds[k]? = some d → Inv k ρ' → Asg c n env target ρ' d fun ρ'' => Runs c n env ρ'' body fun o => match o with | .next ρ₂ => Inv (k + 1) ρ₂ | .brk ρ₂ => Runs c n env ρ₂ rest Φ | .ret d => Φ (.ret d))
    (done : ∀ ρ', Inv ds.length ρ' → Runs c n env ρ' rest Φ) (hs : ∀ x, foldedSetIterable iter env x = pure x := by intro _; rfl) : Runs c n env ρ (.For target iter body [] pos :: rest) Φ := Runs.cons (Run1.for hit hi Inv h0 turn done hs)
theorem Runs.assignNew {x : String} {e : Expr} {px pos : Pos} {ds : List D} (st : Stores env x) (h : EvalsNew c n env ρ e ds) (p : Runs c n env (upd ρ x (.own ds)) rest Φ)
    (hs : swapsWith e (some (.Name (Str.ofString x) px)) pos.line env = pure false := by rfl) : Runs c n env ρ (.Assign [.Name (Str.ofString x) px] e pos :: rest) Φ := Runs.cons (Run1.assignNew st h p hs)
theorem Runs.del {x : String} {i : Expr} {px spos pos : Pos} {ds : List D} {k : Int} {j : Nat} (hx : ρ x = some (.own ds)) (h2 : Evals c n env ρ i (.int k)) (hj : seqIndex? k ds.length = some j) (hk : -1000000 ≤ k) (hk2 : k ≤ 1000000) (hl : ds.length ≤ 1000000) (p : Runs c n env (upd ρ x (.own (ds.eraseIdx j))) rest Φ)
    (hd : (Str.ofString x == ("__debug__" : Str)) = false := by decide) (hc : (Str.ofString x == ("__classdict__" : Str)) = false := by decide) :
    Runs c n env ρ (.Delete [.Subscript (.Name (Str.ofString x) px) i spos] pos :: rest) Φ := Runs.cons (Run1.del hx h2 hj hk hk2 hl p hd hc)
theorem Runs.assignT {elts : List Expr} {k : Nat} {tpos pos : Pos} {e : Expr} {d : D} (h : Evals c n env ρ e d) (t : Asg c n env (.Tuple elts k tpos) ρ d fun ρ' => Runs c n env ρ' rest Φ)
    (hs : swapsWithSole [.Tuple elts k tpos] e pos.line env = pure false := by rfl) (hw : swappedStores [.Tuple elts k tpos] e env = pure none := by rfl) : Runs c n env ρ (.Assign [.Tuple elts k tpos] e pos :: rest) Φ := Runs.cons (Run1.assignT h t hs hw)
theorem Runs.assignS {elts es : List Expr} {k k2 : Nat} {tpos epos pos : Pos} {names : List Str} {ds : List D} (h : EvalsL c n env ρ es ds) (t : AsgN c env names.reverse ρ ds.reverse fun ρ' => Runs c n env ρ' rest Φ)
    (hw : swappedStores [.Tuple elts k tpos] (.Tuple es k2 epos) env = pure (some names) := by rfl) (hn : names.length = ds.length := by rfl) (hz : es.length ≤ sizeLine) (hu : unstarred es = true := by rfl) (hl : es.length = ds.length := by rfl)
    (hs : swapsWithSole [.Tuple elts k tpos] (.Tuple es k2 epos) pos.line env = pure false := by rfl) : Runs c n env ρ (.Assign [.Tuple elts k tpos] (.Tuple es k2 epos) pos :: rest) Φ := Runs.cons (Run1.assignS h t hw hn hz hu hl hs)
theorem Runs.append {x : String} {e : Expr} {px apos cpos pos : Pos} {ds : List D} {d : D} (hx : ρ x = some (.own ds)) (h : Evals c n env ρ e d) (hz : ds.length ≤ 1000000) (p : Runs c n env (upd ρ x (.own (ds ++ [d]))) rest Φ)
    (hu : unstarred [e] = true := by rfl) (hb : attributeBase (.Name (Str.ofString x) px) (Str.ofString "append") env (eval (.Name (Str.ofString x) px) env) = eval (.Name (Str.ofString x) px) env := by rfl)
    (hline : (apos.endLine == cpos.line) = true := by rfl)
    (hfew : ((backTo cpos (starEach [e] env)).all (fun x => !x.1) && (backToKw cpos (keywordEach [] env)).all (fun x => x.1.isSome) && decide ([e].length + ([] : List Keyword).length + (if ([] : List Keyword).isEmpty then 0 else 1) < 30)) = true := by rfl)
    (hi : interactive env = false := by rfl) (hd : (Str.ofString x == ("__debug__" : Str)) = false := by decide) (hc : (Str.ofString x == ("__classdict__" : Str)) = false := by decide) :
    Runs c n env ρ (.Expr (.Call (.Attribute (.Name (Str.ofString x) px) (Str.ofString "append") apos) [e] [] cpos) pos :: rest) Φ := Runs.cons (Run1.append hx h hz p hu hb hline hfew hi hd hc)
theorem Runs.setItem {x : String} {i e : Expr} {px spos pos : Pos} {ds : List D} {d : D} {k : Nat} (hx : ρ x = some (.own ds)) (h : Evals c n env ρ e d) (h2 : Evals c n env ρ i (.int k)) (hk : k < ds.length) (hk2 : k < 1000000) (p : Runs c n env (upd ρ x (.own (ds.set k d))) rest Φ)
    (hs : swapsWith e (some (.Subscript (.Name (Str.ofString x) px) i spos)) pos.line env = pure false := by rfl)
    (hd : (Str.ofString x == ("__debug__" : Str)) = false := by decide) (hc : (Str.ofString x == ("__classdict__" : Str)) = false := by decide) :
    Runs c n env ρ (.Assign [.Subscript (.Name (Str.ofString x) px) i spos] e pos :: rest) Φ := Runs.cons (Run1.setItem hx h h2 hk hk2 p hs hd hc)
theorem Runs.assign3 {t1 t2 t3 e : Expr} {pos : Pos} {d : D} (h : Evals c n env ρ e d) (t : Asg c n env t1 ρ d fun ρ1 => Asg c n env t2 ρ1 d fun ρ2 => Asg c n env t3 ρ2 d fun ρ3 => Runs c n env ρ3 rest Φ) (ha : atomic d = true := by rfl)
    (he : (assignEach [t1, t2, t3] env).map (·.2) = [PySem.assign t1 env, PySem.assign t2 env, PySem.assign t3 env] := by rfl) (hw : swappedStores [t1, t2, t3] e env = pure none := by rfl) : Runs c n env ρ (.Assign [t1, t2, t3] e pos :: rest) Φ := Runs.cons (Run1.assign3 h t ha he hw)
end
/-- any way out of a call -/
noncomputable abbrev Ends (d : D) : Out → Prop := fun o => o = .ret d ∨ (d = .none ∧ ∃ ρ, o = .next ρ)
end Mine
end
section
open PySem PySem.W PyProof.Rows PySem.Calls
open Builtin Builtin.Str StrLaws
set_option autoImplicit false
namespace Mine
noncomputable abbrev dots : List Nat := [46, 46, 46]
theorem at_iff (g w : List Nat) (hi k : Nat) : At (S g) (S w) hi k ↔ k + w.length ≤ hi ∧ w.isPrefixOf (g.drop k) = true := by
  unfold At
  rw [subAt_eq, S_len, S_toList, S_toList]
  constructor
  · rintro ⟨a, b⟩
    refine ⟨a, List.isPrefixOf_iff_prefix.mpr ?_⟩
    rw [beq_iff_eq] at b
    exact ⟨(g.drop k).drop w.length, by
      have := List.take_append_drop w.length (g.drop k)
      rw [b] at this
      exact this⟩
  · rintro ⟨a, b⟩
    refine ⟨a, ?_⟩
    obtain ⟨t, e⟩ := List.isPrefixOf_iff_prefix.mp b
    rw [← e]
    simp

/-- the first place from i on where w stands in g, ending by j -/
noncomputable def findAt (g w : List Nat) (i j : Nat) : Option Nat := (List.range' i (j + 1 - i)).find? (fun k => decide (k + w.length ≤ j) && w.isPrefixOf (g.drop k))

theorem occ_findAt (g w : List Nat) (i j : Nat) : occurrences (S g) (S w) i j 1 = (match findAt g w i j with | some k => k :: (occurrences (S g) (S w) i j 1).tail | none => []) := by
  rw [occ_eq]
  have p : ∀ k, (decide (k + w.length ≤ j) && w.isPrefixOf (g.drop k)) = true ↔ At (S g) (S w) j k := fun k => by rw [at_iff]; simp
  rcases occ_first (S g) (S w) j 1 (Nat.le_refl 1) (List.range' i (j + 1 - i)) i (fun k hk => by have := List.mem_range'_1.mp hk; omega) with ⟨h0, hn⟩ | ⟨pre, a, post, e, h0, ha, hn⟩
  · have : findAt g w i j = none := by
      unfold findAt
      rw [List.find?_eq_none]
      intro k hk
      rw [p]
      exact hn k hk
    rw [this, h0]
  · have : findAt g w i j = some a := by
      unfold findAt
      rw [e, List.find?_append]
      have h1 : pre.find? (fun k => decide (k + w.length ≤ j) && w.isPrefixOf (g.drop k)) = none := by
        rw [List.find?_eq_none]
        intro k hk
        rw [p]
        exact hn k hk
      rw [h1, List.find?_cons, (p a).mpr ha]
      rfl
    rw [this]
    dsimp only
    generalize (forIn (List.range' i (j + 1 - i)) ((#[] : Array Nat), i) (occBody (S g) (S w) j 1)).run.fst = arr at h0
    have h1 : arr.toList[0]? = some a := by simpa using h0
    cases hL : arr.toList with
    | nil => rw [hL] at h1; cases h1
    | cons b t => rw [hL] at h1; simp at h1; rw [h1]; rfl
theorem find4_S {g w : List Nat} {i j : Int} (hi : 0 ≤ i) (hj : 0 ≤ j) (hj2 : j ≤ g.length) : find4 (S g) (S w) i j = (match findAt g w i.toNat j.toNat with | some k => (k : Int) | none => -1) := by
  unfold find4
  have e1 : fromIndex (S g).length i = i.toNat := by
    unfold fromIndex
    rw [if_neg (by omega)]
    omega
  have e2 : min (fromIndex (S g).length j) (S g).length = j.toNat := by
    unfold fromIndex
    rw [if_neg (by omega), S_len]
    omega
  rw [e1, e2, occ_findAt]
  cases findAt g w i.toNat j.toNat <;> rfl

/-- pieces with dots between -/
noncomputable def joinD : List (List Nat) → List Nat
  | [] => []
  | [p] => p
  | p :: q :: r => p ++ dots ++ joinD (q :: r)

theorem at_piece {pre p t : List Nat} {hi k : Nat} (hp : 46 ∉ p) (h1 : pre.length ≤ k) (h2 : k < pre.length + p.length) : ¬ At (S (pre ++ (p ++ t))) (S dots) hi k := by
  rw [at_iff]
  rintro ⟨_, b⟩
  obtain ⟨u, e⟩ := List.isPrefixOf_iff_prefix.mp b
  have e1 : (pre ++ (p ++ t))[k]? = some 46 := by
    have := congrArg (fun l => l[0]?) e
    simp only [List.getElem?_drop] at this
    simpa using this.symm
  rw [List.getElem?_append_right h1, List.getElem?_append_left (by omega)] at e1
  exact hp (List.mem_of_getElem? e1)

theorem parts_join : ∀ (ps : List (List Nat)) (pre : List Nat) (cuts : List Nat) (f : Nat), ps ≠ [] → (∀ p ∈ ps, 46 ∉ p) → ChainG (S (pre ++ joinD ps)) (S dots) (S (pre ++ joinD ps)).length pre.length cuts f →
    (∀ k, f ≤ k → ¬ At (S (pre ++ joinD ps)) (S dots) (S (pre ++ joinD ps)).length k) → partsFrom (S (pre ++ joinD ps)) 3 pre.length cuts = ps.map S
  | [], _, _, _, h, _, _, _ => absurd rfl h
  | [p], pre, cuts, f, _, hp, hc, ht => by
    have hp := hp p (.head _)
    cases cuts with
    | nil =>
      show [strSub (S (pre ++ p)) pre.length (S (pre ++ p)).length] = [S p]
      congr 1
      apply Str.ext'
      apply Array.toList_inj.mp
      rw [strSub_toList, S_toList, S_toList, S_len]
      simp
    | cons a r =>
      exfalso
      obtain ⟨h1, h2, _, _⟩ := hc
      have h2' := h2.1
      rw [S_len, S_len] at h2'
      simp [joinD] at h2'
      refine at_piece (t := []) hp h1 (by omega) ?_ (hi := (S (pre ++ p)).length) (k := a)
      simpa [joinD] using h2
  | p :: q :: r, pre, cuts, f, _, hp, hc, ht => by
    have hp0 := hp p (.head _)
    have ej : pre ++ joinD (p :: q :: r) = pre ++ (p ++ (dots ++ joinD (q :: r))) := by simp [joinD]
    have here : At (S (pre ++ joinD (p :: q :: r))) (S dots) (S (pre ++ joinD (p :: q :: r))).length (pre.length + p.length) := by
      rw [at_iff, S_len, ej]
      refine ⟨by simp; omega, ?_⟩
      rw [List.drop_append, List.drop_eq_nil_of_le (by omega)]
      simp
    have none : ∀ k, pre.length ≤ k → k < pre.length + p.length → ¬ At (S (pre ++ joinD (p :: q :: r))) (S dots) (S (pre ++ joinD (p :: q :: r))).length k := fun k h1 h2 => by
      have := at_piece (t := dots ++ joinD (q :: r)) (hi := (S (pre ++ joinD (p :: q :: r))).length) hp0 h1 h2
      rwa [← ej] at this
    cases cuts with
    | nil =>
      have hf : f = pre.length := hc
      exact absurd here (ht _ (by omega))
    | cons a t =>
      obtain ⟨h1, h2, h3, h4⟩ := hc
      have ha : a = pre.length + p.length := by
        rcases Nat.lt_trichotomy a (pre.length + p.length) with h | h | h
        · exact absurd h2 (none a h1 h)
        · exact h
        · exact absurd here (h3 _ (by omega) h)
      subst ha
      have e2 : pre ++ joinD (p :: q :: r) = (pre ++ p ++ dots) ++ joinD (q :: r) := by rw [ej]; simp
      have hl : (pre ++ p ++ dots).length = pre.length + p.length + 3 := by simp [dots]; omega
      have ih := parts_join (q :: r) (pre ++ p ++ dots) t f (by simp) (fun x hx => hp x (.tail _ hx))
      rw [← e2, hl] at ih
      have := ih h4 ht
      show strSub _ pre.length (pre.length + p.length) :: partsFrom _ 3 (pre.length + p.length + 3) t = S p :: (q :: r).map S
      rw [this]
      congr 1
      apply Str.ext'
      apply Array.toList_inj.mp
      rw [strSub_toList, S_toList, S_toList, ej]
      simp

theorem has_dots {ps : List (List Nat)} (h : 2 ≤ ps.length) : ∃ p q r, ps = p :: q :: r ∧ At (S (joinD ps)) (S dots) (S (joinD ps)).length p.length := by
  match ps, h with
  | p :: q :: r, _ =>
    refine ⟨p, q, r, rfl, ?_⟩
    rw [at_iff, S_len]
    have ej : joinD (p :: q :: r) = p ++ (dots ++ joinD (q :: r)) := by simp [joinD]
    rw [ej]
    refine ⟨by simp, ?_⟩
    simp
theorem contains_join {ps : List (List Nat)} (h : 2 ≤ ps.length) : Txt.contains (S (joinD ps)) (S dots) = true := by
  obtain ⟨p, q, r, _, e⟩ := has_dots h
  exact (found_iff _ _).mpr ⟨_, e⟩
theorem contains_free {p : List Nat} (h : 46 ∉ p) : Txt.contains (S p) (S dots) = false := by
  cases e : Txt.contains (S p) (S dots) with
  | false => rfl
  | true =>
    obtain ⟨i, h1⟩ := (found_iff _ _).mp e
    have h2 := h1.1
    rw [S_len, S_len] at h2
    simp at h2
    exact absurd (show At (S p) (S dots) (S p).length i from h1) (by simpa using at_piece (pre := []) (t := []) (hi := (S p).length) (k := i) h (by simp) (by simp; omega))
theorem split_join {ps : List (List Nat)} (h : 2 ≤ ps.length) (hp : ∀ p ∈ ps, 46 ∉ p) : Txt.split (S (joinD ps)) (S dots) = ps.map S := by
  obtain ⟨p, q, r, hps, hat⟩ := has_dots h
  have h3 : 3 ≤ (S (joinD ps)).length := by
    have := hat.1
    rw [S_len] at this
    have e : (dots).length = 3 := rfl
    omega
  unfold Txt.split
  rw [if_neg]
  · obtain ⟨f, hc, ht⟩ := occ_tight (S (joinD ps)) (S dots) (by rw [S_len]; decide)
    rw [if_neg]
    · rw [partsBetween_eq]
      have := parts_join ps [] _ f (by rw [hps]; simp) hp hc ht
      exact this
    · intro he
      have : occurrences (S (joinD ps)) (S dots) 0 (S (joinD ps)).length ((S (joinD ps)).length + 1) = [] := by simpa using he
      rw [this] at hc
      have hf : f = 0 := hc
      exact ht p.length (by omega) hat
  · have k1 : strKind (S dots) = 1 := by decide +kernel
    have k2 : 1 ≤ Str.strKind (S (joinD ps)) := by unfold Str.strKind; split <;> (try split) <;> decide
    rw [k1]
    simp only [Bool.or_eq_true, decide_eq_true_eq, not_or]
    rw [show (S dots).length = 3 from rfl]
    omega

section
variable {c : Cx} {n : Nat} {env : Env} {ρ : Rho}
theorem Fun.startsS {a b : List Nat} : Fun c n (.builtin "str.startswith") [.str (S a), .str (S b)] (.bool (b.isPrefixOf a)) := by rw [← S_starts]; exact Fun.startswith
theorem Fun.endsS {a b : List Nat} : Fun c n (.builtin "str.endswith") [.str (S a), .str (S b)] (.bool (b.isSuffixOf a)) := by rw [← S_ends]; exact Fun.endswith
theorem Fun.findS {g w : List Nat} {i j : Int} (hi : 0 ≤ i) (hj : 0 ≤ j) (hj2 : j ≤ g.length) : Fun c n (.builtin "str.find") [.str (S g), .str (S w), .int i, .int j] (.int (match findAt g w i.toNat j.toNat with | some k => (k : Int) | none => -1)) := by
  rw [← find4_S hi hj hj2]; exact Fun.find4
theorem Fun.lenL {ds : List D} {m : Nat} (h : ds.length = m) (hx : m ≤ 16777216) : Fun c n (.builtin "len") [.lst ds] (.int m) := by
  subst h; exact Fun.len_lst (by omega)
theorem cnt_count (k : Nat) : ∀ l : List Nat, cnt k l = (l.count k : Nat)
  | [] => rfl
  | x :: r => by
    rw [cnt_cons, cnt_count k r, List.count_cons]
    by_cases h : x = k <;> simp [h] <;> omega
theorem Fun.countS {l : List Nat} {k : Nat} : Fun c n (.builtin "str.count") [.str (S l), .str (S [k])] (.int (l.count k : Nat)) := by
  have h := Fun.count (c := c) (n := n) (x := S l) (y := S [k])
  have e : Txt.count (S l) (S [k]) = (l.count k : Nat) := by
    rw [← cnt_count]
    have := count_is (S l) k
    rw [S_toList] at this
    exact this
  rwa [e] at h
theorem Evals.ifexp {t a b : Expr} {pos : Pos} {q : Bool} {d : D} (ht : Tests c n env ρ t q) (h1 : q = true → Evals c n env ρ a d) (h2 : q = false → Evals c n env ρ b d) : Evals c n env ρ (.IfExp t a b pos) d := by
  intro A Z U s Q ao ok F hQ
  refine wpAny_IfExp (ht A Z U s _ ao ok F fun h' tk g => ?_)
  cases q with
  | true => exact h1 rfl A Z U _ _ ao (ok.g g) (F.g g) fun v h2 tk2 g2 dv => hQ v h2 tk2 (g.trans g2) dv
  | false => exact h2 rfl A Z U _ _ ao (ok.g g) (F.g g) fun v h2 tk2 g2 dv => hQ v h2 tk2 (g.trans g2) dv
end
end Mine
end
section
open PySem PySem.W PyProof.Rows PySem.Calls
set_option autoImplicit false
namespace Mine
section
variable {c : Cx} {n : Nat} {env : Env} {ρ : Rho} {Φ Ψ : Out → Prop} {rest : List Stmt}
theorem Op2.iadd {a b : Int} : Op2 c n (inplaceOp .Add) (.int a) (.int b) (.int (a + b)) := fun _ _ _ _ _ _ _ _ _ e1 e2 hQ => by
  obtain ⟨_, rfl⟩ := e1.inv; obtain ⟨_, rfl⟩ := e2.inv; exact AutoIntOps.iadd_0 (hQ _ _ _ G.rfl (.int _ _))
theorem Op2.isub {a b : Int} : Op2 c n (inplaceOp .Sub) (.int a) (.int b) (.int (a - b)) := fun _ _ _ _ _ _ _ _ _ e1 e2 hQ => by
  obtain ⟨_, rfl⟩ := e1.inv; obtain ⟨_, rfl⟩ := e2.inv; exact AutoIntOps.isub_0 (hQ _ _ _ G.rfl (.int _ _))
theorem Run1.mono {st : Stmt} (h : Run1 c n env ρ st Φ) (i : ∀ o, Φ o → Ψ o) : Run1 c n env ρ st Ψ := fun A h₀ Z U s ao F => wpAny_mono (h A h₀ Z U s ao F) (fun _ _ P => P.mono i) fun _ _ x => x
theorem Runs.cut {st : Stmt} (Mid : Out → Prop) (h : Run1 c n env ρ st Mid) (k : ∀ o, Mid o → Then c n env rest Φ o) : Runs c n env ρ (st :: rest) Φ := Runs.cons (h.mono k)

/-- a call that gives a new list -/
noncomputable def FunNew (c : Cx) (n : Nat) (f : Value) (ds rs : List D) : Prop :=
  ∀ (A : Around) (S : AS) (s : Shared) (Q : Value → Shared → Prop) (vs : List Value), AOk c n A → c.Ok s.heap → (∀ a, S a → ∃ o, s.heap.get? a = some o) → DenL S s.heap vs ds →
    (∀ a ws k h' tk, G s.heap h' → s.heap.get? a = none → h'.get? a = some { cls := .type "list", data := .seq (List.toArray ws) k } → DenL (fun b => S b ∨ b = a) h' ws rs → Q (.ref a) { s with heap := h', toks := tk }) → wpAny (model c.prog c.w) A (call f vs) Q NE s
theorem FunNew.split {x y : Str} (hy : (y.length == 0) = false) (hx : x.length + 2 ≤ sizeLine) : FunNew c n (.builtin "str.split") [.str x, .str y] ((Txt.split x y).map D.str) := fun A S s Q vs ao ok l dl hQ => by
  cases dl with | cons d r => cases r with | cons d2 r =>
    cases r; cases d with | str _ t => cases d2 with | str _ u =>
    have fin : ∀ (ll : List (Str × Tok)) tk, ll.map (·.1) = Txt.split x y → Q (.ref s.heap.objs.size) { s with heap := s.heap.push { cls := .type "list", data := .seq (strValues ll).toArray }, toks := tk } := fun ll tk e =>
      hQ _ (strValues ll) 0 _ tk (G.push _ _) (get_size _) (Heap.get?_push_size _ rfl) (by rw [← e]; exact denL_strs ll)
    cases h1 : (decide (x.length < y.length) || decide (Builtin.Str.strKind x < Builtin.Str.strKind y))
    · cases hf : (Builtin.Str.occurrences x y 0 x.length (x.length + 1)).isEmpty
      · have hp : (Builtin.Str.partsBetween x (Builtin.Str.occurrences x y 0 x.length (x.length + 1)) y.length).length ≤ sizeLine := by
          have e1 := StrLaws.occ_length_le x y 0 x.length (x.length + 1)
          rw [length_partsBetween]
          omega
        refine call_meets PySem.F.slot_str_split (typeIs_str _ _ _) PySem.F.entry_str_split (PySem.F.args_str_split_2 _ _) (meets_str_split_sep x y t u h1 hy hf (by omega) hp) ?_
        show Q _ { s with toks := _, heap := s.heap.push { cls := .type "list", data := .seq (strsFrom s.toks (Builtin.Str.partsBetween x (Builtin.Str.occurrences x y 0 x.length (x.length + 1)) y.length)).toArray } }
        rw [strsFrom_eq]
        exact fin (numbered s.toks _) _ ((numbered_texts _ _).trans ((if_neg (ne_true_of_eq_false h1)).trans (if_neg (ne_true_of_eq_false hf))).symm)
      · exact call_meets PySem.F.slot_str_split (typeIs_str _ _ _) PySem.F.entry_str_split (PySem.F.args_str_split_2 _ _) (meets_str_split_not_found x y t u h1 hy hf)
          (fin [(x, t)] s.toks ((if_neg (ne_true_of_eq_false h1)).trans (if_pos hf)).symm)
    · exact call_meets PySem.F.slot_str_split (typeIs_str _ _ _) PySem.F.entry_str_split (PySem.F.args_str_split_2 _ _) (meets_str_split_cannot_occur x y t u h1)
        (fin [(x, t)] s.toks (if_pos h1).symm)
theorem EvalsNew.meth {o : Expr} {name : Str} {apos pos : Pos} {es : List Expr} {id : String} {x : Str} {ds rs : List D} (ho : Evals c n env ρ o (.str x)) (hl : EvalsL c n env ρ es ds) (hf : FunNew c n (.builtin id) (.str x :: ds) rs)
    (slot : Slot "str" name id) (ty : typeOf (.builtin id) = pure (.type "method_descriptor")) (he : es ≠ [] := by exact List.cons_ne_nil _ _) (hu : unstarred es = true := by rfl)
    (hbase : attributeBase o name env (eval o env) = eval o env := by rfl)
    (hfew : ((backTo pos (starEach es env)).all (fun x => !x.1) && (backToKw pos (keywordEach [] env)).all (fun x => x.1.isSome) && decide (es.length + ([] : List Keyword).length + (if ([] : List Keyword).isEmpty then 0 else 1) < 30)) = true := by rfl)
    (hline : (apos.endLine == pos.line) = true := by rfl) : EvalsNew c n env ρ (.Call (.Attribute o name apos) es [] pos) rs := by
  intro A Z U s Q ao ok F hQ
  refine wpAny_Call_method_lateS hbase hfew hline (ho A Z U s _ ao ok F fun v h1 tk1 g1 dv => ?_)
  obtain ⟨_, rfl⟩ := dv.inv
  refine ⟨"str", id, PySem.F.plainAttrs_str, slot, ty, typeIs_str _ _ _, (fun _ e => nomatch e), ?_⟩
  rw [backTo_eq pos env es hu]
  refine callWith_of (P := fun _ => True) (by simp) (fun h _ => ⟨.machine, .inr (.inl rfl), Looks.of_pure rfl⟩) ?_
  cases es with
  | nil => exact absurd rfl he
  | cons e r =>
    refine evalArgs_plain ?_
    refine hl A Z U _ _ ao (ok.g g1) (F.g g1) fun vs h2 tk2 g2 dl => ⟨trivial, ?_⟩
    refine hf A (Both Z U) _ _ _ ao (ok.g (g1.trans g2)) (F.g (g1.trans g2)).live (.cons (.str _ _) dl) fun a ws k h3 tk3 g3 na ea de => hQ a ws k h3 tk3 (g1.trans (g2.trans g3)) ?_ ea de
    cases q : s.heap.get? a with
    | none => rfl
    | some o => have := g2 _ _ (g1 _ _ q); rw [na] at this; cases this
end
end Mine
end
section
open PySem PySem.W PyProof.Rows PySem.Calls
set_option autoImplicit false
namespace Mine

theorem isStr_ofString (x y : Str) (t : Tok) : (Value.str x t).isStr y = (x == y) := rfl
theorem getL_self (x : Str) (hsh : Int) (t : Tok) (v : Value) : ∀ es : List DictEntry, getL x (putL x hsh (.str x t) v es) = some (some v)
  | [] => by simp [putL, getL, isStr_ofString]
  | e :: r => by
    unfold putL
    by_cases h : e.key.isStr x = true
    · rw [if_pos h]
      simp [getL, h]
    · rw [if_neg h]
      have ih := getL_self x hsh t v r
      have h' : e.key.isStr x = false := by simpa using h
      have hf : (putL x hsh (.str x t) v r).find? (·.key.isStr x) ≠ none := by
        intro q
        unfold getL at ih
        rw [q] at ih
        dsimp only at ih
        split at ih <;> cases ih
      unfold getL at ih ⊢
      rw [List.find?_cons, h']
      dsimp only
      cases q : (putL x hsh (.str x t) v r).find? (·.key.isStr x) with
      | none => exact absurd q hf
      | some e' => rw [q] at ih; exact ih
theorem putL_ref (x : Str) (hsh : Int) (t : Tok) (v : Value) : ∀ es : List DictEntry, (putL x hsh (.str x t) v es).any (·.refKey) = es.any (·.refKey)
  | [] => rfl
  | e :: r => by
    unfold putL
    by_cases h : e.key.isStr x = true
    · rw [if_pos h]; rfl
    · rw [if_neg h]
      simp only [List.any_cons, putL_ref x hsh t v r]
theorem putL_find_ne {x y : Str} (hsh : Int) (t : Tok) (v : Value) (h : y ≠ x) : ∀ es : List DictEntry, ((putL x hsh (.str x t) v es).find? (·.key.isStr y)).map (·.val) = (es.find? (·.key.isStr y)).map (·.val)
  | [] => by
    have : (x == y) = false := by simpa using fun q => h q.symm
    simp [putL, isStr_ofString, this]
  | e :: r => by
    unfold putL
    by_cases hx : e.key.isStr x = true
    · rw [if_pos hx]
      have hy : e.key.isStr y = false := by
        cases hy : e.key.isStr y with
        | false => rfl
        | true => exact absurd (Value.isStr_inj _ _ _ hy hx) h
      simp [hy]
    · rw [if_neg hx, List.find?_cons, List.find?_cons]
      cases e.key.isStr y with
      | true => rfl
      | false => exact putL_find_ne hsh t v h r
theorem getL_ne {x y : Str} (hsh : Int) (t : Tok) (v : Value) (h : y ≠ x) (es : List DictEntry) : getL y (putL x hsh (.str x t) v es) = getL y es := by
  have h1 := putL_find_ne hsh t v h es
  have h2 := putL_ref x hsh t v es
  unfold getL
  rw [h2]
  cases q : (putL x hsh (.str x t) v es).find? (·.key.isStr y) with
  | none =>
    rw [q] at h1
    cases q2 : es.find? (·.key.isStr y) with
    | none => rfl
    | some e => rw [q2] at h1; cases h1
  | some e =>
    rw [q] at h1
    cases q2 : es.find? (·.key.isStr y) with
    | none => rw [q2] at h1; cases h1
    | some e' => rw [q2] at h1; simpa using h1
theorem putL_len (x : Str) (hsh : Int) (k v : Value) : ∀ es : List DictEntry, (putL x hsh k v es).length ≤ es.length + 1
  | [] => Nat.le_refl _
  | e :: r => by
    unfold putL
    by_cases h : e.key.isStr x = true
    · rw [if_pos h]; simp
    · rw [if_neg h]; have := putL_len x hsh k v r; simp; omega

theorem inst_at {S : AS} {h : Heap} {v : Value} {C : Addr} {fs : List (String × D)} (d : Den S h v (.inst C fs)) : ∃ a dx es n, v = .ref a ∧ InstAt h a (instObj C dx) C (some (dictOf es n)) ∧ DenF S h es fs ∧ ClosedF es (fs.map (·.1)) := by
  cases d with | inst n1 n2 e1 e2 f cl => exact ⟨_, _, _, _, rfl, ⟨e1, rfl, rfl, e2⟩, f, cl⟩
theorem handed {S : AS} {h : Heap} {v : Value} {d : D} (x : Den S h v d) : handedIn v = true := by cases x <;> rfl

/-- self.x = v, self's dict alone is written -/
theorem osa_own {prog : Program} {w : World} {A : Around} {R : Result → Shared → Prop} {s : Shared} {K : Frag} {x C dx : Addr} {es : List DictEntry} {n : Nat} {name : Str} {tk : Tok} {v : Value} (X : K.In s.heap) (I : InstAt s.heap x (instObj C dx) C (some (dictOf es n)))
    (hp : plainOver K C = true) (ht : takerIn K C name = some none) (hh : hasDictIn K C = true) (hl : (getL name es).isSome = true) (hz : es.length + 1 ≤ 1000)
    (h : ∀ h' hsh t m, Heap.SameBut dx s.heap h' → h'.get? dx = some (dictOf (putL name hsh (.str name t) v es) m) → R (.ok (.ret .none)) { s with heap := h', toks := s.toks + 1 }) :
    codeAny (model prog w) A (.call (.builtin "object.__setattr__") ⟨[.ref x, .str name tk, v], []⟩) R s := by
  refine osa_open X I hp ht fun b => ?_
  obtain ⟨cd, hc, hd'⟩ := any_some hh
  obtain ⟨hx, hcl, hn, Dd⟩ := I
  refine wpAny_bind (wpAny_pure (wpAny_bind (wpAny_bind (wpAny_loadPart hx (wpAny_bind ((looks_clsIn X hc).here ?_))))))
  rw [hd']
  refine wpAny_pure (a := some dx) (wpAny_bind (wpAny_pure (wpAny_bind ?_)))
  unfold nsSet
  refine wpAny_bind (wpAny_bind (wpAny_askSetting (wpAny_pure (wpAny_bind (wpAny_mkText (wpAny_bind (wpAny_loadPart Dd ?_)))))))
  dsimp only
  have c : (!es.toArray.any (·.key.isStr name) && es.toArray.any (·.refKey)) = false := by
    rw [← Array.any_toList, ← Array.any_toList]
    unfold getL at hl
    dsimp only
    split at hl
    · rename_i en he
      rw [List.any_eq_true.mpr ⟨en, List.mem_of_find?_eq_some he, List.find?_some he⟩]; rfl
    · split at hl
      · cases hl
      · rename_i z; rw [Bool.not_eq_true] at z; rw [z, Bool.and_false]
  rw [aRefKeyMayBeTheName_at, c]
  have D' : (s.heap.update dx (Obj.putName name (PyData.keyHash w.params name) (.str name s.toks) v)).get? dx = some (dictOf (putL name (PyData.keyHash w.params name) (.str name s.toks) v es) (putN name es n)) := by
    rw [Heap.get?_update_self _ Dd (by rw [putName_dict]; rfl), putName_dict]
  refine wpAny_updatePart Dd ?_
  refine wpAny_bind (wpAny_lookBehind D' (by
    have := putL_len name (PyData.keyHash w.params name) (.str name s.toks) v es
    exact pastItsLine_dict (by rw [List.size_toArray, sizeLine_eq]; omega)) ?_)
  exact wpAny_pure (h _ _ _ _ (Heap.SameBut.update ..) D')
theorem setAttr_own {prog : Program} {w : World} {A : Around} {E : Value → Shared → Prop} {s : Shared} {K : Frag} {x C dx : Addr} {es : List DictEntry} {n : Nat} {name : Str} {v : Value} {Q : Unit → Shared → Prop} (X : K.In s.heap) (I : InstAt s.heap x (instObj C dx) C (some (dictOf es n)))
    (hs : findIn K (.ref C) "__setattr__" = some (some (.builtin "object.__setattr__"))) (hp : plainOver K C = true) (ht : takerIn K C name = some none) (hh : hasDictIn K C = true) (hl : (getL name es).isSome = true) (hz : es.length + 1 ≤ 1000)
    (h : ∀ h' hsh t m, Heap.SameBut dx s.heap h' → h'.get? dx = some (dictOf (putL name hsh (.str name t) v es) m) → Q () { s with heap := h', toks := s.toks + 2 }) : wpAny (model prog w) A (setAttr (.ref x) name v) Q E s :=
  set_plain X I hs (osa_own (s := { s with toks := s.toks + 1 }) X I hp ht hh hl hz fun h' hsh t m hs e => h h' hsh t m hs e)

section
variable {c : Cx} {n : Nat} {env : Env} {ρ : Rho} {Φ Ψ : Out → Prop} {rest : List Stmt}
/-- what the class must say for its things to be read plainly -/
structure PlainC (c : Cx) (C : Addr) : Prop where
  get : plainGet c.K C "" = true
  dict : hasDictIn c.K C = true
/-- x.name -/
theorem Evals.attr {x : String} {px pos : Pos} {C : Addr} {fs : List (String × D)} {name : String} {d : D} {attr : Option Value} (hx : Evals c n env ρ (.Name (Str.ofString x) px) (.inst C fs)) (hf : fs.lookup name = some d) (P : PlainC c C)
    (ha : findIn c.K (.ref C) (Str.ofString name) = some attr) (hn : noGet c.K attr = true) : Evals c n env ρ (.Attribute (.Name (Str.ofString x) px) (Str.ofString name) pos) d := by
  intro A Z U s Q ao ok F hQ
  rw [arm_eval_Attribute]
  have e1 : attributeBase (.Name (Str.ofString x) px) (Str.ofString name) env (eval (.Name (Str.ofString x) px) env) = eval (.Name (Str.ofString x) px) env := rfl
  rw [e1]
  refine wpAny_bind (hx A Z U s _ ao ok F fun v h' tk g dv => wpAny_bind (wpAny_standAt (wpAny_bind (wpAny_holding ?_))))
  obtain ⟨a, dx, es, m, rfl, I, df, cl⟩ := inst_at dv
  obtain ⟨v, hv, dv'⟩ := df.get hf
  refine get_value (s := { s with heap := h', toks := tk }) (ok.g g).1 I (plainGet_of P.get).1 (findObj_own P.dict ha hn hv) (handed dv') ?_
  have e2 : letTemporaryGo (.Name (Str.ofString x) px) (.ref a) v = pure () := rfl
  rw [e2]
  exact wpAny_bind (wpAny_pure (wpAny_pure (hQ v h' _ g dv')))
/-- C.name, C a class -/
theorem Evals.cattr {x : Str} {np pos : Pos} {C : Addr} {mc v : Value} {name : Str} {d : D} (hc : Callee c env (.Name x np) (.ref C)) (hr : readsIn c.K C mc = true) (e : findCls c.K (.ref C) mc name = some (.val v)) (hv : ∀ S h, Den S h v d) (hh : handedIn v = true) :
    Evals c n env ρ (.Attribute (.Name x np) name pos) d := by
  intro A Z U s Q ao ok F hQ
  rw [arm_eval_Attribute]
  have e1 : attributeBase (.Name x np) name env (eval (.Name x np) env) = eval (.Name x np) env := rfl
  rw [e1]
  refine wpAny_bind (hc A Z U s ρ _ ok F (wpAny_bind (wpAny_standAt (wpAny_bind (wpAny_holding ?_)))))
  refine cls_value ok.1 hr e hh ?_
  have e2 : letTemporaryGo (.Name x np) (.ref C) v = pure () := rfl
  rw [e2]
  exact wpAny_bind (wpAny_pure (wpAny_pure (hQ v s.heap _ G.rfl (hv _ _))))
/-- x.name(e ..), name a function of x's class -/
theorem meth_core {o : Expr} {apos pos : Pos} {es : List Expr} {C f : Addr} {fs : List (String × D)} {name : String} (ho : Evals c n env ρ o (.inst C fs)) (P : PlainC c C)
    (hf : findIn c.K (.ref C) (Str.ofString name) = some (some (.ref f))) (ht : isFn c.K (.ref f) = true) (hno : ¬ name ∈ fs.map (·.1)) (hu : unstarred es = true)
    {pl : Sem Bool} (he : eval (.Call (.Attribute o (Str.ofString name) apos) es [] pos) env = (do
      let ov ← eval o env
      standAt apos.atName
      let (f, first) ← holding [ov] (getMethod ov (Str.ofString name) pl)
      callWith pos f first (backTo pos (starEach es env)) (backToKw pos (keywordEach [] env))))
    {A : Around} {Z U : AS} {s : Shared} {Q : Value → Shared → Prop} (ao : AOk c n A) (ok : c.Ok s.heap) (F : FS env Z U s.heap ρ)
    (h : ∀ v h' tk, G s.heap h' → Den (Both Z U) h' v (.inst C fs) → wpAny (model c.prog c.w) A (callWith pos (.ref f) [v] (es.map fun e => (false, eval e env)) []) Q NE { s with heap := h', toks := tk }) :
    wpAny (model c.prog c.w) A (eval (.Call (.Attribute o (Str.ofString name) apos) es [] pos) env) Q NE s := by
  refine methodCall_KW (pl := pl) (ho A Z U s _ ao ok F fun v h' tk g dv => ?_) he
  have go := h v h' tk g dv
  obtain ⟨a, dx, ens, m, rfl, I, df, cl⟩ := inst_at dv
  refine method_fn (s := { s with heap := h', toks := tk }) (ok.g g).1 I (plainGet_of P.get).1 (plainGet_of P.get).2 hf (beq_iff_eq.mp ht) (by show (lookIn (Str.ofString name) (dictOf ens m)).map _ = _; rw [lookIn_dict, cl _ hno]; rfl) ?_
  rw [backTo_eq pos env es hu]
  exact go
theorem Evals.methI {o : Expr} {apos pos : Pos} {es : List Expr} {C f : Addr} {fs : List (String × D)} {name : String} {ds : List D} {d : D} (ho : Evals c n env ρ o (.inst C fs)) (hl : EvalsL c n env ρ es ds) (hfun : Fun c n (.ref f) (.inst C fs :: ds) d) (P : PlainC c C)
    (hf : findIn c.K (.ref C) (Str.ofString name) = some (some (.ref f))) (ht : isFn c.K (.ref f) = true) (hk : KeepOk c (.ref f)) (hno : ¬ name ∈ fs.map (·.1)) (hne : es ≠ [] := by exact List.cons_ne_nil _ _) (hu : unstarred es = true := by rfl)
    {pl : Sem Bool} (he : eval (.Call (.Attribute o (Str.ofString name) apos) es [] pos) env = (do
      let ov ← eval o env
      standAt apos.atName
      let (f, first) ← holding [ov] (getMethod ov (Str.ofString name) pl)
      callWith pos f first (backTo pos (starEach es env)) (backToKw pos (keywordEach [] env))) := by rfl) : Evals c n env ρ (.Call (.Attribute o (Str.ofString name) apos) es [] pos) d := by
  intro A Z U s Q ao ok F hQ
  refine meth_core ho P hf ht hno hu he ao ok F fun v h' tk g dv => ?_
  exact callWith_ev (ds0 := [.inst C fs]) hk hne ao (ok.g g) (F.g g) (.cons dv .nil) hl hfun fun v h2 tk2 g2 dv2 => hQ v h2 tk2 (g.trans g2) dv2
theorem DenF.put_ne {S : AS} {h : Heap} {x : String} {v : Value} {hsh : Int} {t : Tok} {es : List DictEntry} {fs : List (String × D)} (r : DenF S h es fs) (hx : ¬ x ∈ fs.map (·.1)) : DenF S h (putL (Str.ofString x) hsh (.str (Str.ofString x) t) v es) fs := by
  induction fs with
  | nil => exact .nil
  | cons p fs ih =>
    obtain ⟨w, g, d, l⟩ := r.inv
    exact .cons ((getL_ne _ _ _ (fun q => hx (by rw [← ofString_inj q]; exact .head _)) _).trans g) d (ih l fun q => hx (.tail _ q))
theorem DenF.put {S : AS} {h : Heap} {x : String} {v : Value} {d : D} {hsh : Int} {t : Tok} {es : List DictEntry} {fs : List (String × D)} (f : DenF S h es fs) (dv : Den S h v d) (hx : ¬ x ∈ fs.map (·.1)) : DenF S h (putL (Str.ofString x) hsh (.str (Str.ofString x) t) v es) ((x, d) :: fs) :=
  .cons (getL_self _ _ _ _ _) dv (f.put_ne hx)

/-- the dict of an own object grows -/
theorem FW.objPut {h₀ h h' : Heap} {Z U : AS} {x name : String} {C a dx : Addr} {fs : List (String × D)} {d : D} {es : List DictEntry} {k m : Nat} {v : Value} {hsh : Int} {t : Tok} (F : FW c h₀ env Z U h ρ) (e : ρ x = some (.obj a C fs)) (ha : ∃ m, h.Ns env.locals m ∧ Has env h m (Str.ofString x) (.ref a))
    (ua : U a) (ud : U dx) (nl : dx ≠ env.locals) (g1 : h.get? a = some (instObj C dx)) (g2 : h.get? dx = some (dictOf es k)) (df : DenF (Both Z U) h es fs) (cl : ClosedF es (fs.map (·.1))) (le : es.length ≤ fs.length) (hno : ¬ name ∈ fs.map (·.1)) (dv : Den (Both Z U) h v d)
    (hs : Heap.SameBut dx h h') (e' : h'.get? dx = some (dictOf (putL (Str.ofString name) hsh (.str (Str.ofString name) t) v es) m)) : FW c h₀ env Z U h' (upd ρ x (.obj a C ((name, d) :: fs))) ∧ KB U h h' := by
  obtain ⟨m1, hm1, Ha⟩ := ha
  have kk : ∀ b o, b ≠ dx → h.get? b = some o → h'.get? b = some o := fun b o nb e => (hs.2 b nb).trans e
  have kb : ∀ b o, ¬ Both Z U b → h.get? b = some o → ¬ Both Z U b ∧ h'.get? b = some o := fun b o nb e => ⟨nb, kk b o (fun q => nb (q ▸ .inr ud)) e⟩
  have nad : a ≠ dx := fun q => apart g2 (q ▸ g1) rfl
  refine F.put e ud nl.symm g2 rfl hs ⟨_, e'⟩ rfl (fun m' v' hm' H' => ?_) fun m' y s2 v' q e2 hm' H' sd => ?_
  · cases hm'.eq_nsMap.trans hm1.eq_nsMap.symm
    cases H'.unique G.rfl Ha
    refine ⟨a, dx, _, _, rfl, ua, ud, nl, kk _ _ nad g1, e', (df.put dv hno).mono kb, fun z hz => ?_, ?_, rfl⟩
    · rw [getL_ne _ _ _ (fun r => hz (by rw [ofString_inj r]; exact .head _))]
      exact cl z fun w => hz (.tail _ w)
    · exact Nat.le_trans (putL_len _ _ _ _ _) (Nat.succ_le_succ le)
  · cases s2 with
    | fz d => exact Den.mono kb sd
    | own ds' =>
      obtain ⟨a', vs', n', rfl, ua', g', dl'⟩ := sd
      exact ⟨a', vs', n', rfl, ua', kk _ _ (fun r => apart g2 (r ▸ g') rfl) g', dl'.mono kb⟩
    | obj a2 C' fs' => exact absurd (F.fs.one y x _ _ _ _ _ _ e2 e) q
/-- self.name = e -/
theorem Run1.setAttr {x : String} {px apos pos : Pos} {name : String} {e : Expr} {a₀ C : Addr} {fs : List (String × D)} {d : D} (hx : ρ x = some (.obj a₀ C fs)) (h : Evals c n env ρ e d) (P : PlainC c C)
    (hset : findIn c.K (.ref C) "__setattr__" = some (some (.builtin "object.__setattr__"))) (hp : plainOver c.K C = true) (ht : takerIn c.K C (Str.ofString name) = some none) (hno : ¬ name ∈ fs.map (·.1)) (hz : fs.length ≤ 900) (p : Φ (.next (upd ρ x (.obj a₀ C ((name, d) :: fs)))))
    (hs : swapsWith e (some (.Attribute (.Name (Str.ofString x) px) (Str.ofString name) apos)) pos.line env = pure false := by rfl)
    (hd : (Str.ofString x == ("__debug__" : Str)) = false := by decide) (hc : (Str.ofString x == ("__classdict__" : Str)) = false := by decide) : Run1 c n env ρ (.Assign [.Attribute (.Name (Str.ofString x) px) (Str.ofString name) apos] e pos) Φ := by
  intro A h₀ Z U s ao F
  refine plainObj_wpAny_Assign_Attribute (h A Z U s _ ao F.okh F.fs fun v h1 tk1 g1 dv => ?_) hs
  have F1 := F.g g1
  obtain ⟨m, hm, hv, _⟩ := F1.fs.vars
  obtain ⟨v', H, a, dx, es, k, rfl, ua, ud, nl, e1, e2, df, cl, le, rfl⟩ := hv x _ hx
  have go : wpAny (model c.prog c.w) A (PySem.setAttr (.ref a) (Str.ofString name) v) (fun _ => Post c h₀ env Z U s Φ .next) NE { s with heap := h1, toks := tk1 } := by
    refine setAttr_own (s := { s with heap := h1, toks := tk1 }) F1.okh.1 ⟨e1, rfl, rfl, e2⟩ hset hp ht P.dict (by rw [cl _ hno]; rfl) (by omega) fun h2 hsh t m2 hs2 e3 => ?_
    obtain ⟨F2, kb⟩ := F1.objPut hx ⟨m, hm, H⟩ ua ud nl e1 e2 df cl le hno dv hs2 e3
    exact ⟨h2, _, U, .next _, rfl, F2.base, fun b o nb e => kb b o nb (g1 b o e), fun _ q => .inl q, F2.off, F2, p⟩
  refine wpAny_Name ?_ hd
  rcases H with ⟨p, b⟩ | ⟨p | p, q, hk, ik⟩
  · exact wpAny_loadName_local F1.fs.kind p hm b go
  · exact wpAny_loadName_cell F1.fs.kind p hk ik go
  · exact wpAny_loadName_free F1.fs.kind p hk ik go hc
theorem Runs.setAttr {x : String} {px apos pos : Pos} {name : String} {e : Expr} {a₀ C : Addr} {fs : List (String × D)} {d : D} (hx : ρ x = some (.obj a₀ C fs)) (h : Evals c n env ρ e d) (P : PlainC c C)
    (hset : findIn c.K (.ref C) "__setattr__" = some (some (.builtin "object.__setattr__"))) (hp : plainOver c.K C = true) (ht : takerIn c.K C (Str.ofString name) = some none) (hno : ¬ name ∈ fs.map (·.1)) (hz : fs.length ≤ 900) (p : Runs c n env (upd ρ x (.obj a₀ C ((name, d) :: fs))) rest Φ)
    (hs : swapsWith e (some (.Attribute (.Name (Str.ofString x) px) (Str.ofString name) apos)) pos.line env = pure false := by rfl)
    (hd : (Str.ofString x == ("__debug__" : Str)) = false := by decide) (hc : (Str.ofString x == ("__classdict__" : Str)) = false := by decide) : Runs c n env ρ (.Assign [.Attribute (.Name (Str.ofString x) px) (Str.ofString name) apos] e pos :: rest) Φ :=
  Runs.cons (Run1.setAttr hx h P hset hp ht hno hz p hs hd hc)
end
end Mine
end
section
open PySem PySem.W PyProof.Rows PySem.Calls
set_option autoImplicit false
namespace Mine
theorem creation_weight (C : Addr) (rest : List Value) : (Code.builtin "type.__call__" ⟨.ref C :: rest, []⟩).weight = 1 := by
  have h1 : (Code.builtin "type.__call__" ⟨.ref C :: rest, []⟩).isGuard = false := by
    show guardIds.contains "type.__call__" = false
    decide +kernel
  have h2 : (Code.builtin "type.__call__" ⟨.ref C :: rest, []⟩).isCaller = false := rfl
  have h3 : (Code.builtin "type.__call__" ⟨.ref C :: rest, []⟩).isCreation = true := rfl
  unfold Code.weight
  rw [h1, h2, h3]
  rfl
theorem AOk.under {c : Cx} {n : Nat} {A : Around} (a : AOk c (n + 1) A) (hf : ∀ A, c.fr A) (C : Addr) (rest : List Value) : AOk c n (A.under (.builtin "type.__call__" ⟨.ref C :: rest, []⟩)) := by
  obtain ⟨h, d, u, _⟩ := a
  refine ⟨h, ?_, ?_, hf _⟩
  · show A.depth + Code.weight _ + n < recursionLimit
    rw [creation_weight]
    omega
  · have : (A.under (.builtin "type.__call__" ⟨.ref C :: rest, []⟩)).units = A.units + 1 := by
      first | rfl | simp [Around.under, Code.cUnits, Code.frames, Code.isFrame]
    rw [this]
    omega

section
variable {c : Cx} {n : Nat}
theorem Fun.cls {C fI : Addr} {names : List String} {self : String} {ds : List D} {fs : List (String × D)} {name qual : Str} {params : Arguments} {body : List Stmt} {scope : Scope} {dV kV doc pm cdv ct oc : Value} {an od : Option Addr} {osl : Array (Option Value)}
    (hm : makesIn c.K C = true) (hi : findIn c.K (.ref C) "__init__" = some (some (.ref fI))) (hf : typeIn c.K (.ref fI) = some (.type "function"))
    (ho : c.K.lookup fI = some ⟨oc, od, .func (fnX name qual params body scope [] dV kV doc pm an cdv ct), osl⟩) (hcd : codeIn c.K cdv qual = true)
    (hbind : ∀ (x : Value) (vs : List Value), vs.length = names.length → bindArgs (fnX name qual params body scope [] dV kV doc pm an cdv ct) ⟨x :: vs, []⟩ = pure ((Str.ofString self :: names.map Str.ofString).zip (x :: vs)))
    (hloc : ∀ x ∈ self :: names, scope.names.lookup (Str.ofString x) = some .local) (hnd : ¬ self ∈ names) (hl : names.length = ds.length)
    (run : ∀ L X, Runs c n (envX qual scope L fI cdv []) (bindD names ds (upd (fun _ => none) self (.obj X C []))) body (fun o => ∃ ρ, o = .next ρ ∧ ρ self = some (.obj X C fs)))
    (hcell : ∀ x ∈ scope.names, x.2 ≠ .cell) (hfr : ∀ A, c.fr A := by intro _; trivial) (hco : scope.isCoroutine = false := by rfl) (hgen : scope.isGenerator = false := by rfl) (hk : scope.kind = .function := by rfl) : Fun c (n + 2) (.ref C) ds (.inst C fs) := by
  intro A S s Q vs ao ok live dl hQ
  have hvl : vs.length = names.length := by rw [dl.length, hl]
  obtain ⟨hh, gg, dd, tt, os⟩ := s
  dsimp only at ok live dl hQ ⊢
  refine wpAny_call (make_core (makes_of ok.1 hm) (looks_findIn ok.1 hi) (fun x => bind_fn ok.1 x hf) (.inl rfl) ?_)
  have ed : hh.get? hh.objs.size = none := get_size _
  have g2 : G hh ((hh.push emptyDict).push (instObj C hh.objs.size)) := (G.push _ _).trans (G.push _ _)
  have ea : hh.get? (hh.objs.size + 1) = none := by
    cases e : hh.get? (hh.objs.size + 1) with
    | none => rfl
    | some o => exact absurd (Heap.lt_size e) (Nat.not_lt.mpr (Nat.le_succ _))
  have e1 : ((hh.push emptyDict).push (instObj C hh.objs.size)).get? (hh.objs.size + 1) = some (instObj C hh.objs.size) := by
    have := Heap.get?_push_size (hh.push emptyDict) (o := instObj C hh.objs.size) rfl
    rwa [Heap.size_push] at this
  have e2 : ((hh.push emptyDict).push (instObj C hh.objs.size)).get? hh.objs.size = some (dictOf [] 0) := Heap.get?_push_of_some _ (Heap.get?_push_size _ rfl)
  generalize hH : (hh.push emptyDict).push (instObj C hh.objs.size) = h2 at g2 e1 e2 ⊢
  generalize hX : hh.objs.size + 1 = X at ea e1 ⊢
  generalize hDX : hh.objs.size = dx at ed e1 e2 ⊢
  have ok2 : c.Ok h2 := ok.g g2
  have aou := ao.under hfr C vs
  refine codeAny_call_def (fd := fnX name qual params body scope [] dV kV doc pm an cdv ct) (body := body) (binds := (Str.ofString self :: names.map Str.ofString).zip (.ref X :: vs)) (by have := aou.depth; omega) (ok2.1 _ _ ho) rfl ok2.2.nolimit (codeRec_of ok2.1 hcd) rfl
    (BindsTo.of_eq (hbind _ vs hvl)) hcell (fun x hx => ?_) (fun h₁ hns hk₁ => ?_) hco hgen hk
  · have := (List.of_mem_zip hx).1
    rcases List.mem_cons.mp this with e | this
    · rw [e]; exact hloc self (.head _)
    · obtain ⟨y, hy, e⟩ := List.mem_map.mp this
      rw [← e]
      exact hloc y (.tail _ hy)
  · dsimp only at hns hk₁ ⊢
    generalize hLL : h2.objs.size = L at hns ⊢
    have hL : h2.get? L = none := by rw [← hLL]; exact get_size _
    have hL0 : hh.get? L = none := by
      cases e : hh.get? L with
      | none => rfl
      | some o => have := g2 _ _ e; rw [hL] at this; cases this
    have nS : ∀ b, hh.get? b = none → ¬ S b := fun b e sb => by obtain ⟨o, q⟩ := live b sb; rw [e] at q; cases q
    have nXL : X ≠ L := by rintro rfl; rw [e1] at hL; cases hL
    have nDL : dx ≠ L := by rintro rfl; rw [e2] at hL; cases hL
    have ρe : ∀ x sl, bindD names ds (upd (fun _ => none) self (.obj X C [])) x = some sl → (x = self ∧ sl = .obj X C [] ∧ (names.zip ds).reverse.lookup x = none) ∨ ∃ d', sl = .fz d' ∧ (names.zip ds).reverse.lookup x = some d' := fun x sl e => by
      rw [bindD_eq] at e
      cases q : (names.zip ds).reverse.lookup x with
      | none =>
        rw [q] at e
        dsimp only at e
        by_cases w : x = self
        · subst w; rw [upd_self] at e; cases e; exact .inl ⟨rfl, rfl, rfl⟩
        · rw [upd_ne _ _ w] at e; cases e
      | some d' => rw [q] at e; cases e; exact .inr ⟨_, rfl, rfl⟩
    have gs1 : ∀ b o, hh.get? b = some o → h₁.get? b = some o := fun b o e => hk₁ _ _ (g2 _ _ e)
    have FS0 : FS (envX qual scope L fI cdv []) S (fun a => a = L ∨ a = X ∨ a = dx) h₁ (bindD names ds (upd (fun _ => none) self (.obj X C []))) := by
      refine ⟨hk, rfl, rfl, .inl rfl, fun a sa => ?_, fun a ua sa => ?_, ⟨_, hns, fun x sl e => ?_, fun x y dx dy a e1 => ?_⟩, fun x y a b C D fs gs e1 e2 => ?_, fun x k e => by simp at e⟩
      · rcases sa with sa | rfl | rfl | rfl
        · obtain ⟨o, e⟩ := live a sa; exact ⟨o, gs1 _ _ e⟩
        · obtain ⟨o, _, _, e, _⟩ := hns; exact ⟨o, e⟩
        · exact ⟨_, hk₁ _ _ e1⟩
        · exact ⟨_, hk₁ _ _ e2⟩
      · rcases ua with rfl | rfl | rfl
        · exact nS _ hL0 sa
        · exact nS _ ea sa
        · exact nS _ ed sa
      · rcases ρe x sl e with ⟨rfl, rfl, q⟩ | ⟨d', rfl, q⟩
        · refine ⟨.ref X, .inl ⟨hloc _ (.head _), ?_⟩, X, dx, [], 0, rfl, .inr (.inl rfl), .inr (.inr rfl), nDL, hk₁ _ _ e1, hk₁ _ _ e2, .nil, fun _ _ => rfl, Nat.le_refl _, rfl⟩
          show (((Str.ofString x :: names.map Str.ofString).zip (Value.ref X :: vs)).reverse).lookup (Str.ofString x) = some (.ref X)
          rw [List.zip_cons_cons, List.reverse_cons, List.lookup_append]
          have : (((names.map Str.ofString).zip vs).reverse).lookup (Str.ofString x) = none := by
            rw [List.lookup_eq_none_iff]
            intro p hp
            have h1 := (List.of_mem_zip (List.mem_reverse.mp hp)).1
            obtain ⟨y, hy, e⟩ := List.mem_map.mp h1
            rw [← e]
            simp only [bne_iff_ne, ne_eq, beq_eq_false_iff_ne]
            intro r
            rw [ofString_inj r] at hnd
            exact hnd hy
          rw [this]
          simp
        · have dl' : DenL (Both S fun a => a = L ∨ a = X ∨ a = dx) h₁ vs ds := dl.mono fun b o nb eb => by
            refine ⟨fun z => ?_, gs1 _ _ eb⟩
            rcases z with z | rfl | rfl | rfl
            · exact nb z
            · rw [hL0] at eb; cases eb
            · rw [ea] at eb; cases eb
            · rw [ed] at eb; cases eb
          obtain ⟨v, hv, dv⟩ := lookup_pairs (zip_rev hl dl') x d' q
          have hm : x ∈ names := by
            have h1 := List.mem_reverse.mp (mem_lookupS q)
            exact (List.of_mem_zip h1).1
          refine ⟨v, .inl ⟨hloc x (.tail _ hm), ?_⟩, dv⟩
          show (((Str.ofString self :: names.map Str.ofString).zip (Value.ref X :: vs)).reverse).lookup (Str.ofString x) = some v
          rw [List.zip_cons_cons, List.reverse_cons, List.lookup_append, hv]
          rfl
      · rcases ρe x _ e1 with ⟨_, e, _⟩ | ⟨_, e, _⟩ <;> cases e
      · rcases ρe x _ e1 with ⟨r1, _, _⟩ | ⟨_, e, _⟩
        · rcases ρe y _ e2 with ⟨r2, _, _⟩ | ⟨_, e, _⟩
          · exact r1.trans r2.symm
          · cases e
        · cases e
    have FW0 : FW c hh (envX qual scope L fI cdv []) S (fun a => a = L ∨ a = X ∨ a = dx) h₁ (bindD names ds (upd (fun _ => none) self (.obj X C []))) :=
      ⟨FS0, ok, gs1, fun a e => (by rcases e with rfl | rfl | rfl; exact hL0; exact ea; exact ed), fun _ x k e => by simp at e⟩
    refine wpAny_mono (run L X ((A.under _).deeper _) hh S _ ⟨h₁, gg, dd, _, os⟩ (aou.deeper hfr _) FW0) (fun fl s' P => ?_) fun _ _ x => x.elim
    obtain ⟨h', tk', U', out, rfl, g, kb, uu, o', l, ρ', rfl, hs'⟩ := P
    cases fl with
    | next =>
      obtain ⟨m, hm, hv, _⟩ := l.fs.vars
      obtain ⟨v, H, a', dx', es, k, rfl, ua, ud, nl, q1, q2, df, cl, le, rfl⟩ := hv _ _ hs'
      refine ⟨rfl, hQ _ h' tk' g (.inst (fun sb => nS _ ea sb) (fun sb => l.fs.disj _ ud sb) q1 q2 (df.mono fun b o nb e => ⟨fun sb => nb (.inl sb), e⟩) cl)⟩
    | _ => exact l.elim
end
end Mine
end
section
open PySem PySem.W PyProof.Rows PySem.Calls
set_option autoImplicit false
namespace Mine
section
variable {c : Cx} {n : Nat} {env : Env} {ρ : Rho} {Φ Ψ : Out → Prop} {rest : List Stmt}
theorem Op2.mulB {a b : Int} (h1 : -1000000000 ≤ a) (h2 : a ≤ 1000000000) : Op2 c n (binaryOp .Mult) (.int a) (.int b) (.int (a * b)) := Op2.mul (IntMulOk.of_left (intBits_le_64 (by omega) (by omega)))
theorem Op2.fdivB {a b : Int} (hb : 0 < b) (h2 : b ≤ 1000000000) : Op2 c n (binaryOp .FloorDiv) (.int a) (.int b) (.int (a / b)) := by
  have : a / b = a.fdiv b := (Int.fdiv_eq_ediv_of_nonneg a (by omega)).symm
  rw [this]
  exact Op2.fdiv (by omega) (PyProof.noPylong_small (by omega))
theorem Op2.fmodB {a b : Int} (hb : 0 < b) : Op2 c n (binaryOp .Mod) (.int a) (.int b) (.int (a % b)) := by
  have : a % b = a.fmod b := (Int.fmod_eq_emod_of_nonneg a (by omega)).symm
  rw [this]
  exact Op2.fmod (by omega)
theorem Fun.lenT {ds : List D} {m : Nat} (h : ds.length = m) (hx : m ≤ 16777216) : Fun c n (.builtin "len") [.tup ds] (.int m) := fun A S s Q vs ao ok l dl hQ => by
  subst h
  obtain ⟨_, _, rfl, d, r⟩ := dl.inv
  obtain rfl := r.inv
  obtain ⟨_, _, _, rfl, ns, e, dl⟩ := d.inv
  have hz := dl.length
  refine len_tuple (isTup_of e) (by rw [List.size_toArray, hz]; omega) ?_
  rw [List.size_toArray, hz]
  exact hQ _ _ _ G.rfl (.int _ _)
end
end Mine
end
section
open PySem PySem.W PyProof.Rows PySem.Calls
set_option autoImplicit false
namespace Mine
section
variable {c : Cx} {n : Nat} {env : Env} {ρ : Rho} {Φ Ψ : Out → Prop} {rest : List Stmt}
theorem ns_eq {h : Heap} {L : Addr} {m m' : Str → Option Value} (a : h.Ns L m) (b : h.Ns L m') : m = m' := by
  obtain ⟨o1, es1, ep1, q1, d1, _, f1⟩ := a
  obtain ⟨o2, es2, ep2, q2, d2, _, f2⟩ := b
  funext z
  rw [q1] at q2; cases q2; rw [d1] at d2; cases d2
  rw [← f1, ← f2]
set_option maxHeartbeats 400000 in
/-- a, b, c = e, [..], [] -/
theorem Run1.own3 {x1 x2 x3 : String} {p1 p2 p3 tpos epos pos : Pos} {k k2 : Nat} {e1 e2 e3 : Expr} {d1 : D} {ds2 : List D} (s1 : Stores env x1) (s2 : Stores env x2) (s3 : Stores env x3) (n23 : x2 ≠ x3)
    (h1 : Evals c n env ρ e1 d1) (h2 : EvalsNew c n env ρ e2 ds2) (h3 : EvalsNew c n env ρ e3 []) (ha : atomic d1 = true) (p : Φ (.next (upd (upd (upd ρ x3 (.own [])) x2 (.own ds2)) x1 (.fz d1))))
    (hw : swappedStores [.Tuple [.Name (Str.ofString x1) p1, .Name (Str.ofString x2) p2, .Name (Str.ofString x3) p3] k tpos] (.Tuple [e1, e2, e3] k2 epos) env = pure (some [Str.ofString x1, Str.ofString x2, Str.ofString x3]) := by rfl)
    (hu : unstarred [e1, e2, e3] = true := by rfl)
    (hs : swapsWithSole [.Tuple [.Name (Str.ofString x1) p1, .Name (Str.ofString x2) p2, .Name (Str.ofString x3) p3] k tpos] (.Tuple [e1, e2, e3] k2 epos) pos.line env = pure false := by rfl) :
    Run1 c n env ρ (.Assign [.Tuple [.Name (Str.ofString x1) p1, .Name (Str.ofString x2) p2, .Name (Str.ofString x3) p3] k tpos] (.Tuple [e1, e2, e3] k2 epos) pos) Φ := by
  intro A h₀ Z U s ao F
  refine Assign_Tuple_swapped (names := [Str.ofString x1, Str.ofString x2, Str.ofString x3]) ?_ hs hw
  refine wpAny_Tuple ?_
  rw [backTo_eq epos env _ hu]
  refine spliced_cons (h1 A Z U s _ ao F.okh F.fs fun v1 H1 tk1 g1 dv1 => spliced_cons (h2 A Z U _ _ ao (F.g g1).okh (F.g g1).fs fun a2 vs2 m2 H2 tk2 g2 na2 ea2 dl2 => spliced_cons (h3 A Z U _ _ ao (F.g (g1.trans g2)).okh (F.g (g1.trans g2)).fs fun a3 vs3 m3 H3 tk3 g3 na3 ea3 dl3 => spliced_nil ⟨(by show 3 ≤ sizeLine; decide), ?_⟩)))
  dsimp only at g2 na2 g3 na3 ⊢
  have ht : IsTup (H3.push { cls := .type "tuple", data := .seq [v1, Value.ref a2, Value.ref a3].toArray }) H3.objs.size [v1, Value.ref a2, Value.ref a3].toArray := ⟨_, Heap.get?_push_size _ rfl, rfl, 0, rfl⟩
  rw [show ([Str.ofString x1, Str.ofString x2, Str.ofString x3] : List Str).length = [v1, Value.ref a2, Value.ref a3].toArray.size from rfl]
  refine unpackItems_tuple (s := { s with heap := H3.push { cls := .type "tuple", data := .seq [v1, Value.ref a2, Value.ref a3].toArray }, toks := tk3 }) ao.handled ht fun H5 he => ?_
  have g5 : G H3 H5 := fun b o e => he b o (Nat.ne_of_lt (Heap.lt_size (Heap.get?_push_of_some _ e))) (Heap.get?_push_of_some _ e)
  have gs : G s.heap H5 := g1.trans (g2.trans (g3.trans g5))
  have none_s : ∀ {H : Heap} {a : Addr}, G s.heap H → H.get? a = none → s.heap.get? a = none := fun {H a} g e => by
    cases q : s.heap.get? a with
    | none => rfl
    | some o => have := g _ _ q; rw [e] at this; cases this
  have n2 := none_s g1 na2
  have n3 := none_s (g1.trans g2) na3
  have e2' : H5.get? a2 = some { cls := .type "list", data := .seq (List.toArray vs2) m2 } := g5 _ _ (g3 _ _ ea2)
  have e3' : H5.get? a3 = some { cls := .type "list", data := .seq (List.toArray vs3) m3 } := g5 _ _ ea3
  have n32 : a3 ≠ a2 := by rintro rfl; rw [ea2] at na3; cases na3
  have FX : FW c h₀ env Z (fun b => U b ∨ (b = a2 ∨ b = a3)) H5 ρ := F.extend (N := fun b => b = a2 ∨ b = a3) gs fun b q => by
    rcases q with rfl | rfl
    · exact ⟨n2, _, e2'⟩
    · exact ⟨n3, _, e3'⟩
  have notown : ∀ a, s.heap.get? a = none → ∀ m, H5.Ns env.locals m → ∀ y dy, ρ y = some (.own dy) → ¬ Has env H5 m (Str.ofString y) (.ref a) := fun a na m hm y dy ey H => by
    obtain ⟨m', hm', hv, _⟩ := F.fs.vars
    obtain ⟨v', H', a', vs', n', rfl, ua', g', dl'⟩ := hv y _ ey
    have em := ns_eq hm (hm'.keeps gs)
    subst em
    cases (H'.g gs).unique G.rfl H
    rw [na] at g'; cases g'
  have lift3 : ∀ {vs ds}, DenL (fun b => Both Z U b ∨ b = a2) H2 vs ds → DenL (Both Z fun b => U b ∨ (b = a2 ∨ b = a3)) H5 vs ds := fun {vs ds} d => d.mono fun b o nb e => ⟨fun q => (by
    rcases q with q | q | q | q
    · exact nb (.inl (.inl q))
    · exact nb (.inl (.inr q))
    · exact nb (.inr q)
    · rw [q, na3] at e; cases e), g5 _ _ (g3 _ _ e)⟩
  have L2 : env.locals ≠ a2 := fun q => by obtain ⟨m, ⟨o, _, _, e, _⟩, _⟩ := F.fs.vars; rw [q, n2] at e; cases e
  show wpAny _ A (do holding _ (bindName env (Str.ofString x3) (.ref a3)); assignInOrder _ _) _ _ _
  refine wpAny_bind (wpAny_holding (wpAny_bindName ?_))
  refine FX.storeSl' (s := { s with heap := H5, toks := tk3 }) (sl := .own []) s3 ⟨a3, vs3, m3, rfl, .inr (.inr rfl), e3', ?_⟩ (fun m hm ds y dy _ _ ey => notown a3 n3 m hm y dy ey) (fun _ _ _ e => by cases e) fun H6 tk6 F6 kb6 kn6 nw6 ll6 => ?_
  · cases dl3; exact .nil
  show wpAny _ A (do holding _ (bindName env (Str.ofString x2) (.ref a2)); assignInOrder _ _) _ _ _
  refine wpAny_bind (wpAny_holding (wpAny_bindName ?_))
  have dl6 := (lift3 dl2).kb (KB.both kb6)
  refine F6.storeSl (s := { s with heap := H6, toks := tk6 }) (sl := .own ds2) s2 ⟨a2, vs2, m2, rfl, .inr (.inl rfl), ll6 _ _ L2.symm (fun _ q => nomatch q) e2', dl6⟩ (fun m hm ds y dy _ ny ey H => ?_) (fun _ _ _ e => by cases e) fun H7 tk7 F7 kb7 kn7 => ?_
  · obtain ⟨m5, hm5, _⟩ := FX.fs.vars
    obtain ⟨m6, hm6, hx3, hoth⟩ := nw6 m5 hm5
    have em := ns_eq hm hm6
    subst em
    by_cases q : y = x3
    · subst q
      have := hx3.unique G.rfl H
      cases this
      exact n32 rfl
    · rw [upd_ne _ _ q] at ey
      exact notown a2 n2 m5 hm5 y dy ey ((hoth y q _).mpr H)
  show wpAny _ A (do holding _ (bindName env (Str.ofString x1) v1); assignInOrder _ _) _ _ _
  refine wpAny_bind (wpAny_holding (wpAny_bindName ?_))
  refine F7.store (s := { s with heap := H7, toks := tk7 }) s1 (dv1.atom ha) fun H8 tk8 F8 kb8 _ => ?_
  refine wpAny_pure ?_
  refine ⟨H8, tk8, _, .next _, rfl, F8.base, fun b o nb e => ?_, fun b u => u.imp id fun q => ?_, F8.off, F8, p⟩
  · have nU : ¬ (U b ∨ (b = a2 ∨ b = a3)) := by
      rintro (q | rfl | rfl)
      · exact nb q
      · rw [n2] at e; cases e
      · rw [n3] at e; cases e
    exact kb8 b o nU (kb7 b o nU (kb6 b o nU (gs b o e)))
  · rcases q with rfl | rfl
    · exact n2
    · exact n3
end
end Mine
end
section
open PySem PySem.W PyProof.Rows PySem.Calls
set_option autoImplicit false
namespace Mine
theorem bs_bind (self : Value) : bindSpecial (.builtin "BaseException.__str__") self = pure (.builtin "BaseException.__str__", [self]) :=
  (Slot.of (T := "BaseException") (name := "__str__") (owner := "BaseException") (n := "__str__") (by rw [typeLookup_type, builtinLookup_eq_fast]; kernel_rfl) (by decide +kernel) (by decide +kernel) (by decide +kernel)
    (by first | exact .inl (by decide +kernel) | exact .inr (by decide +kernel)) (by rw [isSubtype_type]; kernel_rfl)).bind self
theorem bs_plain : plainId "BaseException.__str__" = true := by decide +kernel
theorem bs_kind : builtinKind "BaseException.__str__" = some .slot := by decide +kernel
theorem bs_split : splitId "BaseException.__str__" = some ("BaseException", "__str__") := by decide +kernel
section
variable {prog : Program} {w : World} {A : Around} {E : Value → Shared → Prop} {s : Shared} {K : Frag} {e t0 C : Addr} {m : Str} {tk : Tok}
/-- an exception of one text, of a class of the program's own -/
structure OwnExc (s : Shared) (e t0 C : Addr) (m : Str) (tk : Tok) : Prop where
  obj : ∃ o vs, s.heap.get? e = some o ∧ o.cls = .ref C ∧ o.data = .fields vs ∧ vs[0]? = some (.ref t0)
  tup : s.heap.TupAt t0 [.str m tk]
theorem OwnExc.type {M : Model} (x : OwnExc s e t0 C m tk) : Looks M s.heap (typeOf (.ref e)) (.ref C) := by
  obtain ⟨⟨o, vs, ho, hc, _⟩, _⟩ := x
  exact (Looks.ld (part := none) ho).andThen (Looks.of_pure (by rw [hc]))
open Builtin Builtin.Str Builtin.BaseException Builtin.Exceptions in
theorem bs_args {M : Model} {Q : Value × List Value → Shared → Prop} (x : OwnExc s e t0 C m tk) (hq : Q (.ref t0, [.str m tk]) s) : wpAny M A (bexcArgs (.ref e)) Q E s := by
  obtain ⟨⟨o, vs, ho, _, hd, h0⟩, ⟨ot, k, hto, _, htd⟩⟩ := x
  unfold bexcArgs
  refine wpAny_bind (wpAny_field ho hd h0 (wpAny_bind (wpAny_seqItems hto htd ?_)))
  exact wpAny_pure (by simpa using hq)
open Builtin Builtin.Str Builtin.BaseException Builtin.Exceptions in
theorem bs_entry {Q : Fin → Shared → Prop} (x : OwnExc s e t0 C m tk) (hq : Q (.done (.ret (.str m tk))) s) : wpAny (model prog w) A (Builtin.«BaseException.__str__» ⟨[.ref e], []⟩) Q E s := by
  unfold Builtin.«BaseException.__str__»
  repeat (first | with_reducible refine bs_args x ?_ | wp_step)
  exact hq
theorem bs_call {Q : Value → Shared → Prop} (X : K.In s.heap) (x : OwnExc s e t0 C m tk) (hsub : subIn K (.ref C) (.type "BaseException") = some true) (h : Q (.str m tk) s) : wpAny (model prog w) A (call (.builtin "BaseException.__str__") [.ref e]) Q E s := by
  have hi : Looks (model prog w) s.heap (isInstance (.ref e) (.type "BaseException")) true := x.type.andThen (looks_subIn X hsub)
  refine wpAny_call ?_
  refine codeAny_call_builtin bs_plain PySem.F.entry_bexc_str ?_
  refine @check_slot (model prog w) _ _ s "BaseException.__str__" "BaseException" "__str__" (.ref e) [] [] _ bs_kind bs_split hi (PySem.F.args_bexc_str (.ref e)) ?_
  refine bs_entry x ?_
  exact h
theorem strOf_own {Q : Value → Shared → Prop} (hu : A.units < cLine) (X : K.In s.heap) (x : OwnExc s e t0 C m tk) (hs : findIn K (.ref C) "__str__" = some (some (.builtin "BaseException.__str__"))) (hsub : subIn K (.ref C) (.type "BaseException") = some true) (h : Q (.str m tk) s) :
    wpAny (model prog w) A (Builtin.Str.strOf (.ref e)) Q E s := by
  unfold Builtin.Str.strOf
  rw [show Builtin.Str.isExactStr (.ref e) = false from rfl]
  refine wpAny_bind (wpAny_cRoomFor hu ?_)
  refine wpAny_bind (m := callSpecial? (.ref e) (Str.ofString "__str__")) (wpAny_bind (wpAny_bind (x.type.here ((looks_findIn X hs).here (wpAny_holding (wpAny_bind ((Looks.of_pure (bs_bind _)).here (wpAny_bind (bs_call X x hsub ?_)))))))))
  exact wpAny_pure (wpAny_pure h)
theorem str_own {Q : Value → Shared → Prop} (hu : A.in1.in1.units < cLine) (X : K.In s.heap) (x : OwnExc s e t0 C m tk) (hs : findIn K (.ref C) "__str__" = some (some (.builtin "BaseException.__str__"))) (hsub : subIn K (.ref C) (.type "BaseException") = some true) (h : Q (.str m tk) s) :
    wpAny (model prog w) A (call (.type "str") [.ref e]) Q E s := by
  refine callType_codes (T := "str") (Bi := Builtin.«object.__init__») (Q₁ := fun r s₁ => r = .str m tk ∧ Q r s₁) PySem.F.called_str (PySem.F.typeCall_str_1 _) PySem.F.entry_object_init ?_ ?_
  · refine codeAny_of_tree ?_
    show wpAny _ A.in1.in1 (do checkBuiltinCall "str.__new__" ⟨[.type "str", .ref e], []⟩; again (.builtin "str.__new__" ⟨[.type "str", .ref e], []⟩)) _ _ s
    refine wpAny_bind (wpAny_of_eq (PySem.F.newCall_str_1 _) (wpAny_pure ⟨plainId_quiet (by decide +kernel) _, codeAny_builtin PySem.F.entry_str_new ?_⟩))
    rw [Around.under_plainId (by decide +kernel) _]
    rw [str_new_tree]
    refine wpAny_bind (wpAny_pure ?_)
    refine wpAny_bind (wpAny_of_eq isSubtype_str_str ?_)
    exact wpAny_bind (strOf_own hu X x hs hsub (wpAny_pure ⟨rfl, h⟩))
  · rintro obj s₁ ⟨rfl, hq⟩
    exact ⟨typeIs_str _ _ _, PySem.F.args_object_init_2 _ _, object_init_meets PySem.F.called_str.init.lookup PySem.F.called_str.made (by decide) prog w A.in1 _ s₁ ⟨typeIs_str _ _ _, rfl, hq⟩⟩
theorem str_got {g : Heap} {L : Addr} {mm : Str → Option Value} {news : List (Addr × Obj)} {Q : Value → Shared → Prop} (F : Fr g L s.heap mm) (N : News g L s.heap news) (Gt : Got news e t0 (.ref C) [.str m tk]) (X : K.In g) (hu : A.in1.in1.units < cLine)
    (hs : findIn K (.ref C) "__str__" = some (some (.builtin "BaseException.__str__"))) (hsub : subIn K (.ref C) (.type "BaseException") = some true) (h : Q (.str m tk) s) : wpAny (model prog w) A (call (.type "str") [.ref e]) Q E s := by
  obtain ⟨oe, ot, ws, nt, h1, h2, h3, h4, h5, h6, h7⟩ := Gt
  exact str_own hu (X.keeps F.keep) ⟨⟨oe, ws, (N _ h1).1, h3, h4, h5⟩, ⟨ot, nt, (N _ h2).1, h6, h7⟩⟩ hs hsub h
end
end Mine
end
section
open PySem PySem.W PyProof.Rows PySem.Calls
set_option autoImplicit false
namespace Mine
mutual
noncomputable def py : D → PyData
  | .bool b => .bool b
  | .int i => .int i
  | .str x => .str x
  | .tup ds => .tuple (pys ds)
  | .lst ds => .list (pys ds)
  | _ => .none
noncomputable def pys : List D → List PyData
  | [] => []
  | d :: ds => py d :: pys ds
end
mutual
noncomputable def okD : D → Bool
  | .bool _ | .int _ => true
  | .str x => PyData.strOk x
  | .tup ds | .lst ds => okDs ds
  | _ => false
noncomputable def okDs : List D → Bool
  | [] => true
  | d :: ds => okD d && okDs ds
end
theorem okDs_iff : ∀ ds : List D, okDs ds = true ↔ ∀ d ∈ ds, okD d = true
  | [] => by simp [okDs]
  | d :: ds => by simp [okDs, okDs_iff ds]
mutual
theorem reads_of {S : AS} {h : Heap} {v : Value} : ∀ {d : D}, Den S h v d → okD d = true → ∃ as, Reads h v (py d) as
  | .bool b, x, _ => by obtain rfl : v = .bool b := x.inv; exact ⟨_, .bool b⟩
  | .int i, x, _ => by obtain ⟨t, rfl⟩ : ∃ t, v = .int i t := x.inv; exact ⟨_, .int i t⟩
  | .str y, x, _ => by obtain ⟨t, rfl⟩ : ∃ t, v = .str y t := x.inv; exact ⟨_, .str y t⟩
  | .tup ds, x, k => by
    obtain ⟨a, vs, n, rfl, ns, e, l⟩ := x.inv
    obtain ⟨as, q⟩ := readsAll_of l k
    exact ⟨_, .tuple e rfl rfl q⟩
  | .lst ds, x, k => by
    obtain ⟨a, vs, n, rfl, ns, e, l⟩ := x.inv
    obtain ⟨as, q⟩ := readsAll_of l k
    exact ⟨_, .list e rfl rfl q⟩
  | .none, _, k => by cases k
  | .strT _ _, _, k => by cases k
  | .rng _ _, _, k => by cases k
  | .inst _ _, _, k => by cases k
theorem readsAll_of {S : AS} {h : Heap} : ∀ {ds : List D} {vs : List Value}, DenL S h vs ds → okDs ds = true → ∃ as, ReadsAll h vs (pys ds) as
  | [], vs, x, _ => by obtain rfl : vs = [] := x.inv; exact ⟨_, .nil⟩
  | dd :: dds, vs, x, k => by
    obtain ⟨v, ws, rfl, d, l⟩ := x.inv
    have k : okD dd = true ∧ okDs dds = true := Bool.and_eq_true_iff.mp k
    obtain ⟨as, q⟩ := reads_of d k.1
    obtain ⟨bs, r⟩ := readsAll_of l k.2
    exact ⟨_, .cons q r⟩
end
mutual
theorem lay_of : ∀ d : D, okD d = true → (py d).canLay0 = true
  | .bool _, _ => by simp [py, PyData.canLay0]
  | .int _, _ => by simp [py, PyData.canLay0]
  | .str x, k => by simpa [py, PyData.canLay0, okD] using k
  | .tup ds, k => by simpa [py, PyData.canLay0] using layAll_of ds (by simpa [okD] using k)
  | .lst ds, k => by simpa [py, PyData.canLay0] using layAll_of ds (by simpa [okD] using k)
  | .none, k => by simp [okD] at k
  | .rng _ _, k => by simp [okD] at k
  | .inst _ _, k => by simp [okD] at k
theorem layAll_of : ∀ ds : List D, okDs ds = true → PyData.canLayAll0 (pys ds) = true
  | [], _ => by simp [pys, PyData.canLayAll0]
  | d :: ds, k => by
    have k : okD d = true ∧ okDs ds = true := by simpa [okDs] using k
    simp [pys, PyData.canLayAll0, lay_of d k.1, layAll_of ds k.2]
end
mutual
theorem eqv_refl : ∀ d : D, okD d = true → PyData.eqv (py d) (py d) = true
  | .bool _, _ => by simp [py, PyData.eqv]
  | .int _, _ => by simp [py, PyData.eqv]
  | .str x, _ => by simp [py, PyData.eqv]
  | .tup ds, k => by simpa [py, PyData.eqv] using eqvAll_refl ds (by simpa [okD] using k)
  | .lst ds, k => by simpa [py, PyData.eqv] using eqvAll_refl ds (by simpa [okD] using k)
  | .none, k => by simp [okD] at k
  | .rng _ _, k => by simp [okD] at k
  | .inst _ _, k => by simp [okD] at k
theorem eqvAll_refl : ∀ ds : List D, okDs ds = true → PyData.eqvAll (pys ds) (pys ds) = true
  | [], _ => by simp [pys, PyData.eqvAll]
  | d :: ds, k => by
    have k : okD d = true ∧ okDs ds = true := by simpa [okDs] using k
    simp [pys, PyData.eqvAll, eqv_refl d k.1, eqvAll_refl ds k.2]
end
section
variable {c : Cx} {n : Nat} {env : Env} {ρ : Rho} {Φ Ψ : Out → Prop} {rest : List Stmt}
/-- things that are alike are not unlike -/
theorem Op2.nel {d : D} (k : okD d = true) (hd : (py d).depth ≤ 7) : Op2 c (n + 1) (compareOp .NotEq) d d (.bool false) := fun A S s Q v1 v2 ao ok l e1 e2 hQ => by
  obtain ⟨as, r1⟩ := reads_of e1 k
  obtain ⟨bs, r2⟩ := reads_of e2 k
  refine SeqAt.compareNe_reads r1 r2 (lay_of d k) (lay_of d k) (by have := ao.units; rw [Nat.min_self]; omega) ?_
  rw [eqv_refl d k]
  exact hQ _ s.heap s.toks G.rfl (.bool _)
theorem Op2.isnot {a b : Bool} : Op2 c n (compareOp .IsNot) (.bool a) (.bool b) (.bool (a != b)) := fun A S s Q v1 v2 ao ok l e1 e2 hQ => by
  obtain rfl := e1.inv
  obtain rfl := e2.inv
  refine wpAny_isNot_plain (by cases a <;> cases b <;> rfl) ?_
  have : (!(Value.bool a == Value.bool b)) = (a != b) := by cases a <;> cases b <;> rfl
  rw [this]
  exact hQ _ s.heap s.toks G.rfl (.bool _)
theorem Run1.try {body : List Stmt} {h₀ : ExceptHandler} {hs : List ExceptHandler} {pos : Pos} (h : Runs c n env ρ body fun o => match o with | .ret d => Φ (.ret d) | _ => False) : Run1 c n env ρ (.Try body (h₀ :: hs) [] [] pos) Φ := by
  intro A h₁ Z U s ao F
  refine wpAny_Try_except (wpAny_mono (h A h₁ Z U s ao F) (fun f s' P => ?_) fun _ _ x => x.elim)
  obtain ⟨h', tk, U', out, rfl, g, kb, uu, o, l, p⟩ := P
  cases f with
  | ret v =>
    cases out with
    | ret d => exact ⟨h', tk, U', .ret d, rfl, g, kb, uu, o, l, p⟩
    | _ => exact l.elim
  | next =>
    cases out with
    | next ρ' => exact p.elim
    | _ => exact l.elim
  | brk =>
    cases out with
    | brk ρ' => exact p.elim
    | _ => exact l.elim
  | cont => cases out <;> exact l.elim
end
end Mine
end
section
open PySem PySem.W PyProof.Rows PySem.Calls
set_option autoImplicit false
namespace Mine
section
variable {prog : Program} {w : World} {A : Around} {E : Value → Shared → Prop} {s : Shared}
theorem slice_two {sl : Addr} {u : Tok} {Q : Int × Int × Nat → Shared → Prop} (hs : s.heap.IsSliceOf sl .none (.int 2 u) .none) (h : Q (0, 1, 2) s) : wpAny (model prog w) A (Builtin.Slice.sliceApplied (.ref sl) (pure (3 : Int))) Q E s := by
  obtain ⟨os, hos, hcs, hds⟩ := id hs
  unfold Builtin.Slice.sliceApplied Builtin.Slice.sliceFields
  refine wpAny_bind (wpAny_bind (wpAny_field hos hds (x := .none) rfl (wpAny_bind (wpAny_field hos hds (x := .int 2 u) rfl (wpAny_bind (wpAny_field hos hds (x := .none) rfl (wpAny_pure ?_)))))))
  refine wpAny_bind (slicePart_none ?_)
  show wpAny _ _ (if ((1 : Int) == 0) = true then _ else _) _ _ s
  rw [if_neg (by decide)]
  refine wpAny_bind (slicePart_none (wpAny_bind (slicePart_int (wpAny_bind (wpAny_pure ?_)))))
  show wpAny _ _ (match Builtin.Slice.sliceAdjust none (some (2 : Int)) 1 (3 : Int) with | (lo, hi) => pure (lo, (1 : Int), Builtin.Slice.slicePlaces lo hi 1)) _ _ s
  rw [show Builtin.Slice.sliceAdjust none (some (2 : Int)) 1 (3 : Int) = (0, 2) from by decide]
  show wpAny _ _ (pure ((0 : Int), (1 : Int), Builtin.Slice.slicePlaces 0 2 1)) _ _ s
  rw [show Builtin.Slice.slicePlaces 0 2 1 = 2 from by decide]
  exact wpAny_pure h
theorem getItem_two {t sl : Addr} {x y z : Value} {u : Tok} {Q : Value → Shared → Prop} (ht : IsTup s.heap t #[x, y, z]) (hs : s.heap.IsSliceOf sl .none (.int 2 u) .none)
    (h : Q (.ref s.heap.objs.size) { s with heap := s.heap.push { cls := .type "tuple", data := .seq #[x, y] } }) : wpAny (model prog w) A (getItem (.ref t) (.ref sl)) Q E s := by
  have hdrop : sizeOk (.seq #[x, y]) := by show 2 ≤ sizeLine; decide
  obtain ⟨os, hos, hcs, hds⟩ := id hs
  have hTs : s.TypeIs (.ref sl) "slice" := ⟨os, hos, hcs⟩
  unfold getItem
  try with_reducible refine wpAny_holding ?_
  first | refine wpAny_bind (wpAny_pure ?_) | skip
  refine wpAny_bind (wpAny_sequenceKey ht.typeIs (by decide) ?_)
  refine wpAny_bind (wpAny_callSpecial?_slot (name := Str.ofString "__getitem__") ht.typeIs slot_tuple_getitem
    (wpAny_call_entry slot_tuple_getitem ht.typeIs entry_tuple_getitem ?_ (args_tuple_getitem _ _)))
  show wpAny _ _ (Builtin.Tuple.tupleItemsOf (.ref t) >>= _) _ _ s
  refine wpAny_bind (tupleItemsOf_ ht ?_)
  refine wpAny_bind (wpAny_typeOf hTs ?_)
  rw [if_pos (by decide)]
  refine wpAny_bind (slice_two hs ?_)
  show wpAny _ _ (if ((0 : Int) == 0 && (1 : Int) == 1 && (2 : Nat) == 3) = true then _ else _) _ _ s
  rw [if_neg (by decide)]
  have e : ((List.range 2).filterMap fun (k : Nat) => (#[x, y, z] : Array Value)[((0 : Int) + (k : Int) * 1).toNat]?).toArray = #[x, y] := rfl
  rw [e]
  first
    | exact wpAny_bind (m := Builtin.Tuple.tupleExact _) (wpAny_newObj_type (wpAny_pure ⟨_, rfl, wpAny_pure h⟩) hdrop)
    | exact wpAny_bind (m := Builtin.Tuple.tupleExact _) (wpAny_newObj_type (wpAny_bind (wpAny_pure (wpAny_pure ⟨_, rfl, wpAny_pure h⟩))) hdrop)
    | exact wpAny_bind (wpAny_bind (m := Builtin.Tuple.tupleExact _) (wpAny_newObj_type (wpAny_pure (wpAny_pure ⟨_, rfl, wpAny_pure h⟩)) hdrop))
    | exact wpAny_bind (wpAny_bind (m := Builtin.Tuple.tupleExact _) (wpAny_newObj_type (wpAny_pure ⟨_, rfl, wpAny_pure h⟩) hdrop))
end
section
variable {c : Cx} {n : Nat} {env : Env} {ρ : Rho} {Φ Ψ : Out → Prop} {rest : List Stmt}
/-- x[:2] of three -/
theorem Evals.two_of {value e : Expr} {p pos : Pos} {d1 d2 d3 : D} (hv : Evals c n env ρ value (.tup [d1, d2, d3])) (he : Evals c n env ρ e (.int 2)) : Evals c n env ρ (.Subscript value (.Slice none (some e) none p) pos) (.tup [d1, d2]) := by
  refine slice_ev hv EvPart.nn (EvPart.s he) fun A S s Q v p1 p2 ao live dv e1 e2 hQ => ?_
  obtain ⟨_, _, _, rfl, ns, e, dl⟩ := dv.inv
  obtain ⟨_, _, rfl, v1, dl⟩ := dl.inv
  obtain ⟨_, _, rfl, v2, dl⟩ := dl.inv
  obtain ⟨_, _, rfl, v3, dl⟩ := dl.inv
  obtain rfl := dl.inv
  have e1' : p1 = none := by cases p1 with | none => rfl | some q => cases e1
  subst e1'
  obtain ⟨u, rfl⟩ : ∃ u, p2 = some (2, u) := by
    cases p2 with
    | none => cases e2
    | some q => obtain ⟨i, u⟩ := q; cases e2; exact ⟨u, rfl⟩
  have ht := isTup_of (G.push s.heap { cls := .type "slice", data := .fields #[partValue none, partValue (some (2, u)), .none] } _ _ e)
  refine tail_any ht.typeIs slot_tuple_getitem.lookup (getItem_two (u := u) ht ⟨_, Heap.get?_push_size _ rfl, rfl, rfl⟩ ?_) rfl
  exact hQ _ _ _ ((G.push _ _).trans (G.push _ _)) (Den.newTup (vs := [_, _]) (live_g live (G.push _ _)) ((DenL.cons v1 (.cons v2 .nil)).g (G.push _ _)))
end
/-- a run from one place alone: A, h₀ and Z are fixed -/
noncomputable def RunsAt (A : Around) (h₀ : Heap) (Z : AS) (c : Cx) (env : Env) (ρ : Rho) (ss : List Stmt) (Φ : Out → Prop) : Prop :=
  ∀ (U : AS) (s : Shared), FW c h₀ env Z U s.heap ρ → wpAny (model c.prog c.w) A (execs ss env) (Post c h₀ env Z U s Φ) NE s
noncomputable def Run1At (A : Around) (h₀ : Heap) (Z : AS) (c : Cx) (env : Env) (ρ : Rho) (st : Stmt) (Φ : Out → Prop) : Prop :=
  ∀ (U : AS) (s : Shared), FW c h₀ env Z U s.heap ρ → wpAny (model c.prog c.w) A (exec st env) (Post c h₀ env Z U s Φ) NE s
noncomputable def ThenAt (A : Around) (h₀ : Heap) (Z : AS) (c : Cx) (env : Env) (rest : List Stmt) (Ψ : Out → Prop) : Out → Prop
  | .next ρ => RunsAt A h₀ Z c env ρ rest Ψ
  | o => Ψ o
section
variable {A : Around} {h₀ : Heap} {Z : AS} {c : Cx} {n : Nat} {env : Env} {ρ : Rho} {Φ Ψ : Out → Prop} {rest : List Stmt}
theorem RunsAt.of {ss : List Stmt} (ao : AOk c n A) (h : Runs c n env ρ ss Φ) : RunsAt A h₀ Z c env ρ ss Φ := fun U s F => h A h₀ Z U s ao F
theorem Run1At.of {st : Stmt} (ao : AOk c n A) (h : Run1 c n env ρ st Φ) : Run1At A h₀ Z c env ρ st Φ := fun U s F => h A h₀ Z U s ao F
theorem RunsAt.cons {st : Stmt} (h : Run1At A h₀ Z c env ρ st (ThenAt A h₀ Z c env rest Ψ)) : RunsAt A h₀ Z c env ρ (st :: rest) Ψ := by
  intro U s F
  refine wpAny_execs_cons (wpAny_mono (h U s F) (fun f s₁ P => ?_) fun _ _ x => x)
  obtain ⟨h₁, tk₁, U₁, out, rfl, g, kb, uu, o, l, p⟩ := P
  cases f with
  | next =>
    cases out with
    | next ρ' => exact wpAny_mono (p U₁ _ l) (fun f s₂ P => P.trans kb uu) fun _ _ x => x
    | ret d => exact l.elim
    | brk ρ' => exact l.elim
  | brk =>
    cases out with
    | next ρ' => exact l.elim
    | ret d => exact l.elim
    | brk ρ' => exact ⟨h₁, tk₁, U₁, .brk ρ', rfl, g, kb, uu, o, l, p⟩
  | cont => cases out <;> exact l.elim
  | ret v =>
    cases out with
    | next ρ' => exact l.elim
    | ret d => exact ⟨h₁, tk₁, U₁, .ret d, rfl, g, kb, uu, o, l, p⟩
    | brk ρ' => exact l.elim
theorem RunsAt.step {st : Stmt} (ao : AOk c n A) (h : Run1 c n env ρ st (ThenAt A h₀ Z c env rest Ψ)) : RunsAt A h₀ Z c env ρ (st :: rest) Ψ := RunsAt.cons (Run1At.of ao h)
/-- the heap but for the frame's dict is as it was, and the dict tells the same -/
theorem FW.turn {U : AS} {h h' : Heap} (F : FW c h₀ env Z U h ρ) (k : ∀ b o, b ≠ env.locals → h.get? b = some o → h'.get? b = some o) (hn : ∀ m, h.Ns env.locals m → h'.Ns env.locals m) : FW c h₀ env Z U h' ρ where
  fs := by
    obtain ⟨m, hm, hv, hi⟩ := F.fs.vars
    have nl : ∀ b, ¬ Both Z U b → b ≠ env.locals := fun b nb q => nb (q ▸ .inr F.fs.loc)
    have mv : ∀ {v : Value} {sl : Sl}, SlD env.locals Z U h v sl → SlD env.locals Z U h' v sl := fun {v sl} S =>
      S.move (fun b o nb e => ⟨nb, k b o (nl b nb) e⟩) (fun _ u => u)
        (fun a vs n _ e => k a _ (fun q => by
          obtain ⟨o, _, _, e', hd, _⟩ := hm
          rw [q, e'] at e; cases e; cases hd) e)
        (fun a C dx _ e => k a _ (fun q => by
          obtain ⟨o, _, _, e', hd, _⟩ := hm
          rw [q, e'] at e; cases e; cases hd) e)
        (fun a es n _ nl e => k a _ nl e)
    have cn : ∀ y q, env.cells.lookup y = some q → q ≠ env.locals := fun y q ey w => by
      obtain ⟨⟨v, o, ho, hd⟩, _⟩ := F.fs.cell y q ey
      obtain ⟨o', _, _, e', hd', _⟩ := hm
      rw [w, e'] at ho; cases ho; rw [hd'] at hd; cases hd
    have hc : ∀ {x v}, Has env h m x v → Has env h' m x v := fun {x v} H => H.imp id fun ⟨a, q, hq, ⟨o, ho, hd⟩⟩ => ⟨a, q, hq, o, k _ _ (cn _ _ hq) ho, hd⟩
    refine ⟨F.fs.kind, F.fs.glob, F.fs.blt, F.fs.loc, fun a s => ?_, F.fs.disj, ⟨m, hn m hm, fun x sl e => ?_, fun x y dx dy a e1 e2 h1 h2 => ?_⟩, F.fs.one, fun y q ey => ?_⟩
    · by_cases w : a = env.locals
      · rw [w]; obtain ⟨o, _, _, e, _⟩ := hn m hm; exact ⟨o, e⟩
      · obtain ⟨o, e⟩ := F.fs.live a s; exact ⟨o, k a o w e⟩
    · obtain ⟨v, H, d⟩ := hv x sl e
      exact ⟨v, hc H, mv d⟩
    · obtain ⟨v1, H1, _⟩ := hv x _ e1
      obtain ⟨v2, H2, _⟩ := hv y _ e2
      cases (hc H1).unique G.rfl h1
      cases (hc H2).unique G.rfl h2
      exact hi x y dx dy a e1 e2 H1 H2
    · obtain ⟨⟨v, o, ho, hd⟩, j⟩ := F.fs.cell y q ey
      exact ⟨⟨v, o, k _ _ (cn y q ey) ho, hd⟩, j⟩
  ok := F.ok
  base := fun b o e => k b o (fun q => by rw [q, F.off _ F.fs.loc] at e; cases e) (F.base b o e)
  off := F.off
  own := F.own
end
end Mine
end
section
open PySem PySem.W PyProof.Rows PySem.Calls
set_option autoImplicit false
namespace Mine
section
variable {A : Around} {h₀ : Heap} {Z : AS} {c : Cx} {n : Nat} {env : Env} {ρ : Rho} {Φ Ψ : Out → Prop} {rest : List Stmt}
theorem RunsAt.assign {x : String} {e : Expr} {px pos : Pos} {d : D} (ao : AOk c n A) (st : Stores env x) (h : Evals c n env ρ e d) (p : RunsAt A h₀ Z c env (upd ρ x (.fz d)) rest Ψ)
    (hs : swapsWith e (some (.Name (Str.ofString x) px)) pos.line env = pure false := by rfl) : RunsAt A h₀ Z c env ρ (.Assign [.Name (Str.ofString x) px] e pos :: rest) Ψ := RunsAt.step ao (Run1.assign st h p hs)
theorem RunsAt.assignS {elts es : List Expr} {k k2 : Nat} {tpos epos pos : Pos} {names : List Str} {ds : List D} (ao : AOk c n A) (h : EvalsL c n env ρ es ds) (t : AsgN c env names.reverse ρ ds.reverse fun ρ' => RunsAt A h₀ Z c env ρ' rest Φ)
    (hw : swappedStores [.Tuple elts k tpos] (.Tuple es k2 epos) env = pure (some names) := by rfl) (hn : names.length = ds.length := by rfl) (hz : es.length ≤ sizeLine) (hu : unstarred es = true := by rfl) (hl : es.length = ds.length := by rfl)
    (hs : swapsWithSole [.Tuple elts k tpos] (.Tuple es k2 epos) pos.line env = pure false := by rfl) : RunsAt A h₀ Z c env ρ (.Assign [.Tuple elts k tpos] (.Tuple es k2 epos) pos :: rest) Φ := RunsAt.step ao (Run1.assignS h t hw hn hz hu hl hs)
end
end Mine
end
section
open PySem PySem.W PyProof.Rows
set_option autoImplicit false
namespace Mine
theorem well_ints {P : Params} {S : AS} {h : Heap} {ns : List Int} {vs : List Value} (x : WellAll P h vs (ofPys (ns.map PyData.int))) : DenL S h vs (ns.map D.int) := by
  induction ns generalizing vs with
  | nil => cases x; exact .nil
  | cons n ns ih =>
    cases x with
    | cons d l =>
      have d : Well P h _ (.int n) := d
      cases d
      exact .cons (.int _ _) (ih l)
theorem well_list {P : Params} {S : AS} {h : Heap} {a : Addr} {ns : List Int} (x : Well P h (.ref a) (ofPy (PyData.list (ns.map PyData.int)))) (na : ¬ S a) : Den S h (.ref a) (.lst (ns.map D.int)) := by
  have x : Well P h (.ref a) (.list (ofPys (ns.map PyData.int))) := x
  cases x with
  | list e l => exact .lst na e (well_ints l)
theorem cells_apart (h : Heap) (names : List (Str × NameKind)) : (cellsFrom (h.objs.size + 1) names []).Pairwise fun x y => x.2 ≠ y.2 := by
  have ok := cellsFrom_ok names (h.push { cls := .type "frame", data := .dict #[] }) (h.objs.size + 1) [] ⟨fun _ _ hm => (nomatch hm), List.Pairwise.nil⟩ (by rw [Heap.size_push]; exact Nat.le_refl _)
  rw [Heap.size_push] at ok
  exact ok.apart
theorem cells_hc {cm : Str → Option Value} {cs : List (Str × Addr)} {cells : List (Addr × Obj)} (X : CellsAre cm cs cells) : ∀ y k, cs.lookup y = some k → ∃ o v, (k, o) ∈ cells ∧ o.data = .cell v := by
  induction X with
  | nil => intro y k e; cases e
  | @cons n' c' o cs cells hd _ ih =>
    intro y k e
    rw [List.lookup_cons] at e
    cases hb : y == n' with
    | true => rw [hb] at e; cases e; exact ⟨o, _, .head _, hd⟩
    | false => rw [hb] at e; obtain ⟨o', v, h1, h2⟩ := ih y k e; exact ⟨o', v, .tail _ h1, h2⟩
/-- the law's own frame, as it stands when its body begins -/
theorem FW.enter {c : Cx} {h₀ h₁ : Heap} {name : Str} {scope : Scope} {fa : Addr} {cd : Value} {m : Str → Option Value} {news : List (Addr × Obj)} {x : String} {a : Addr} {ns : List Int}
    (hk : scope.kind = .function) (ok : c.Ok h₀) (F : Fr h₀ h₀.objs.size h₁ m) (N : News h₀ h₀.objs.size h₁ news)
    (hc : ∀ y k, (cellsFrom (h₀.objs.size + 1) scope.names []).lookup y = some k → ∃ o v, (k, o) ∈ news ∧ o.data = .cell v)
    (hx : scope.names.lookup (Str.ofString x) = some .local) (hm : m (Str.ofString x) = some (.ref a)) (hw : Well c.w.params h₀ (.ref a) (ofPy (PyData.list (ns.map PyData.int)))) :
    FW c h₀ (envOfC name scope h₀.objs.size fa cd) (fun _ => False) (fun b => b = h₀.objs.size ∨ ∃ y, (cellsFrom (h₀.objs.size + 1) scope.names []).lookup y = some b) h₁ (upd (fun _ => none) x (.fz (.lst (ns.map D.int)))) := by
  have fresh : ∀ b, (b = h₀.objs.size ∨ ∃ y, (cellsFrom (h₀.objs.size + 1) scope.names []).lookup y = some b) → h₀.get? b = none := by
    rintro b (rfl | ⟨y, hy⟩)
    · exact get_size _
    · obtain ⟨o, v, hmem, _⟩ := hc y b hy
      exact (N _ hmem).2.2
  have none_of : ∀ (y : String) (sl : Sl), upd (fun _ => none) x (.fz (.lst (ns.map D.int))) y = some sl → y = x ∧ sl = .fz (.lst (ns.map D.int)) := by
    intro y sl e
    unfold upd at e
    by_cases q : y = x
    · rw [if_pos q] at e; cases e; exact ⟨q, rfl⟩
    · rw [if_neg q] at e; cases e
  have na : ¬ Both (fun _ => False) (fun b => b = h₀.objs.size ∨ ∃ y, (cellsFrom (h₀.objs.size + 1) scope.names []).lookup y = some b) a := by
    rintro (z | z)
    · exact z
    · have e := fresh a z
      cases hw with
      | list e' _ => rw [e] at e'; cases e'
  refine ⟨⟨hk, rfl, rfl, .inl rfl, ?_, fun _ _ z => z, ⟨m, F.ns, ?_, ?_⟩, ?_, ?_⟩, ok, F.keep, fresh, fun _ y k e => .inr ⟨y, e⟩⟩
  · rintro b (z | rfl | ⟨y, hy⟩)
    · exact z.elim
    · obtain ⟨o, _, _, e, _⟩ := F.ns; exact ⟨o, e⟩
    · obtain ⟨o, v, hmem, _⟩ := hc y b hy
      exact ⟨o, N.get hmem⟩
  · intro y sl e
    obtain ⟨rfl, rfl⟩ := none_of y sl e
    exact ⟨.ref a, .inl ⟨hx, hm⟩, (well_list hw na).g F.keep⟩
  · intro y z dx dy b e1
    obtain ⟨_, e⟩ := none_of y _ e1; cases e
  · intro y z b d C D fs gs e1
    obtain ⟨_, e⟩ := none_of y _ e1; cases e
  · intro y k e
    refine ⟨?_, fun z ez => name_of_addr (cells_apart h₀ scope.names) (mem_of_lookup ez) (mem_of_lookup e)⟩
    obtain ⟨o, v, hmem, hd⟩ := hc y k e
    exact ⟨v, o, N.get hmem, hd⟩
end Mine
end
section
open PySem PySem.W PyProof.Rows
set_option autoImplicit false
namespace Mine
theorem k_257 : Str.ofString "257" = S [50, 53, 55] := by decide +kernel
theorem k_sq : Str.ofString " \"" = S [32, 34] := by decide +kernel
theorem k_q : Str.ofString "\"" = S [34] := by decide +kernel
theorem k_e : Str.ofString "" = S [] := by decide +kernel
theorem k_dots : Str.ofString "..." = S [46, 46, 46] := by decide +kernel
theorem k_sp : Str.ofString " " = S [32] := by decide +kernel
theorem k_tab : Str.ofString "\t" = S [9] := by decide +kernel
theorem k_257q : Str.ofString "257 \"" = S [50, 53, 55, 32, 34] := by decide +kernel
theorem k_made : Str.ofString "\" made" = S [34, 32, 109, 97, 100, 101] := by decide +kernel
theorem k_nl : Str.ofString "\"\n\"b\" \"" = S [34, 10, 34, 98, 34, 32, 34] := by decide +kernel
theorem k_257d : Str.ofString "257-\"" = S [50, 53, 55, 45, 34] := by decide +kernel
theorem k_257s : Str.ofString "257 " = S [50, 53, 55, 32] := by decide +kernel
theorem szs {n : Nat} (h : Nat.ble n 16777216 = true) : n ≤ sizeLine := by rw [sizeLine_eq]; exact Nat.le_of_ble_eq_true h
theorem vs1 {vs : List Value} (h : vs.length = 1) : ∃ a, vs = [a] := by
  cases vs with
  | nil => cases h
  | cons a r => cases r with
    | nil => exact ⟨a, rfl⟩
    | cons _ _ => cases h
theorem vs2 {vs : List Value} (h : vs.length = 2) : ∃ a b, vs = [a, b] := by
  cases vs with
  | nil => cases h
  | cons a r => obtain ⟨b, rfl⟩ := vs1 (vs := r) (Nat.succ.inj h); exact ⟨a, b, rfl⟩
theorem vs4 {vs : List Value} (h : vs.length = 4) : ∃ a b c d, vs = [a, b, c, d] := by
  cases vs with
  | nil => cases h
  | cons a r => cases r with
    | nil => cases h
    | cons b r => obtain ⟨c, d, rfl⟩ := vs2 (vs := r) (Nat.succ.inj (Nat.succ.inj h)); exact ⟨a, b, c, d, rfl⟩
end Mine
end
section
open PySem PySem.W PyProof.Rows PySem.Calls
set_option autoImplicit false
namespace Mine
set_option maxRecDepth 100000
section
variable {w : World} {mg mb : Str → Option Value}
noncomputable abbrev c1 (w : World) (mg mb : Str → Option Value) : Cx := ⟨PySem.Challenge.pw_tl0020_01, w, Mine.hd1.heap_39 w.params, Mine.hd1.view_39, looseW Mine.hd1.view_39 [Str.ofString "Whitespace"], mg, mb, fun _ => True⟩
theorem g_len : nsIn (Mine.hd1.heap_39 w.params) mainGlobals (Str.ofString "len") = some none := by rfl
theorem g_marker : ∃ t, nsIn (Mine.hd1.heap_39 w.params) mainGlobals (Str.ofString "ELLIPSIS_MARKER") = some (some (.str (S dots) t)) := by rw [← k_dots]; exact ⟨_, rfl⟩
theorem g_parse : nsIn (Mine.hd1.heap_39 w.params) mainGlobals (Str.ofString "parse257") = some (some (.ref 60)) := by rfl
theorem g_tuple : nsIn (Mine.hd1.heap_39 w.params) mainGlobals (Str.ofString "tuple") = some none := by rfl
theorem g_ws : nsIn (Mine.hd1.heap_39 w.params) mainGlobals (Str.ofString "Whitespace") = some (some (.ref 122)) := by rfl
theorem q_make : makesIn (Mine.hd1.heap_39 w.params) 122 = true := by rfl
theorem q_init : findIn (Mine.hd1.heap_39 w.params) (.ref 122) "__init__" = some (some (.ref 77)) := by rfl
theorem q_fn : typeIn (Mine.hd1.heap_39 w.params) (.ref 77) = some (.type "function") := by rfl
theorem q_plain : PlainC (c1 w mg mb) 122 := ⟨by rfl, by rfl⟩
theorem q_set : findIn (Mine.hd1.heap_39 w.params) (.ref 122) "__setattr__" = some (some (.builtin "object.__setattr__")) := by rfl
theorem q_over : plainOver (Mine.hd1.heap_39 w.params) 122 = true := by rfl
theorem q_t1 : takerIn (Mine.hd1.heap_39 w.params) 122 (Str.ofString "raw") = some none := by rfl
theorem q_t2 : takerIn (Mine.hd1.heap_39 w.params) 122 (Str.ofString "n") = some none := by rfl
theorem q_t3 : takerIn (Mine.hd1.heap_39 w.params) 122 (Str.ofString "nt") = some none := by rfl
theorem q_t4 : takerIn (Mine.hd1.heap_39 w.params) 122 (Str.ofString "norm") = some none := by rfl
theorem q_t5 : takerIn (Mine.hd1.heap_39 w.params) 122 (Str.ofString "is_simple") = some none := by rfl
theorem q_f1 : findIn (Mine.hd1.heap_39 w.params) (.ref 122) (Str.ofString "raw") = some none := by rfl
theorem q_read : readsIn (Mine.hd1.heap_39 w.params) 122 (.type "type") = true := by rfl
theorem q_S : ∃ t, findCls (Mine.hd1.heap_39 w.params) (.ref 122) (.type "type") (Str.ofString "S") = some (.val (.str (S [32]) t)) := by rw [← k_sp]; exact ⟨_, rfl⟩
theorem q_T : ∃ t, findCls (Mine.hd1.heap_39 w.params) (.ref 122) (.type "type") (Str.ofString "T") = some (.val (.str (S [9]) t)) := by rw [← k_tab]; exact ⟨_, rfl⟩
theorem g_range : nsIn (Mine.hd1.heap_39 w.params) mainGlobals (Str.ofString "range") = some none := by rfl
theorem q_f2 : findIn (Mine.hd1.heap_39 w.params) (.ref 122) (Str.ofString "norm") = some none := by rfl
theorem q_f3 : findIn (Mine.hd1.heap_39 w.params) (.ref 122) (Str.ofString "nt") = some none := by rfl
end
end Mine
end
section
open PySem PySem.W PyProof.Rows PySem.Calls
namespace Mine
section
local macro_rules | `(tactic| walk_at "look") => `(tactic| first | with_reducible assumption | with_reducible exact upd_self _ _ _ | ((with_reducible refine' (upd_ne _ _ ?h).trans ?t); (case h => decide); (case t => walk_at "look")) | exact upd_self _ _ _ | assumption)
local macro_rules | `(tactic| walk_at "num") => `(tactic| first | omega | assumption | (simp; omega) | (simp; done) | decide)
local macro_rules | `(tactic| walk_at "kstr") => `(tactic| ((with_reducible refine' Evals.strS ?h); (case h => with_reducible first | exact k_257 | exact k_sq | exact k_q | exact k_e | exact k_dots | exact k_sp | exact k_tab | exact k_257q | exact k_made | exact k_nl | exact k_257d | exact k_257s)))
local macro_rules | `(tactic| walk_at "const") => `(tactic| first | with_reducible exact Evals.int | walk_at "kstr" | with_reducible exact Evals.boolc)
local macro_rules | `(tactic| walk_at "op") => `(tactic| first | with_reducible (first | exact Op2.add | exact Op2.sub | exact Op2.eqS | exact Op2.neS | exact Op2.lt | exact Op2.ge | exact Op2.gt | exact Op2.le | exact Op2.eq | exact Op2.ne) | ((with_reducible refine' Op2.addS ?h); (case h => walk_at "num")) | ((with_reducible refine' Op2.mul ?h); (case h => mul_fits)) | ((with_reducible refine' Op2.mulS ?a ?b ?h); (case a => omega); (case b => omega); (case h => simp)) | ((with_reducible refine' Op2.mulB ?a ?b); (case a => omega); (case b => omega)) | ((with_reducible refine' Op2.fmodB ?a); (case a => omega)) | ((with_reducible refine' Op2.fdivB ?a ?b); (case a => omega); (case b => omega)))
local macro_rules | `(tactic| walk_at "part") => `(tactic| first | with_reducible exact EvPart.nn | ((with_reducible refine' EvPart.s ?h); (case h => walk_at "ev")))
local macro_rules | `(tactic| walk_at "evs") => `(tactic| first | with_reducible exact EvalsL.nil | ((with_reducible refine' EvalsL.cons ?h ?t); (case h => walk_at "ev"); (case t => walk_at "evs")))
local macro_rules | `(tactic| walk_at "ev") => `(tactic| first
  | walk_at "const"
  | ((with_reducible refine' Evals.name ?h ?a ?b); (case h => walk_at "look"); (case a => decide); (case b => decide))
  | ((with_reducible refine' Evals.bin ?l ?r ?o); (case l => walk_at "ev"); (case r => walk_at "ev"); (case o => walk_at "op"))
  | ((with_reducible refine' Evals.un ?l Op1.neg); (case l => walk_at "ev"))
  | ((with_reducible refine' Evals.sliceS ?v ?l ?u ?z); (case v => walk_at "ev"); (case l => walk_at "part"); (case u => walk_at "part"); (case z => walk_at "num"))
  | ((with_reducible refine' Evals.itemS ?v ?i ?a ?b ?c ?hs); (case v => walk_at "ev"); (case i => walk_at "ev"); (case a => walk_at "num"); (case b => walk_at "num"); (case c => walk_at "get"); (case hs => intros; rfl))
  | walk_at "call")
local macro_rules | `(tactic| walk_at "get") => `(tactic| first | assumption | (simp; done))
local macro_rules | `(tactic| walk_at "test") => `(tactic| first
  | ((with_reducible refine' Tests.cmp ?l ?r ?o ?m); (case l => walk_at "ev"); (case r => walk_at "ev"); (case o => walk_at "op"); (case m => with_unfolding_all rfl))
  | ((with_reducible refine' Tests.or2 ?l ?r); (case l => walk_at "test"); (case r => intro _; walk_at "test"))
  | ((with_reducible refine' Tests.val ?l ?p); (case l => walk_at "ev"); (case p => intro _; rfl)))
local macro_rules | `(tactic| walk_at "call") => `(tactic| ((refine' Evals.call (f := .builtin "len") ?c ?k ?a ?f); (case c => exact Callee.blt g_len (by rfl)); (case k => trivial); (case a => walk_at "evs"); (case f => first | ((refine' Fun.lenS ?b); (case b => walk_at "num")) | ((refine' Fun.lenL ?e ?b); (case e => first | exact List.length_map _ | rfl); (case b => walk_at "num")) | ((refine' Fun.lenT ?e ?b); (case e => first | exact List.length_map _ | rfl); (case b => walk_at "num")))))
section
open PySem PySem.W PyProof.Rows PySem.Calls
set_option autoImplicit false
set_option maxRecDepth 100000

section
variable {w : World} {mg mb : Str → Option Value}



/-- what the loop still tells -/
noncomputable def go257 : List Nat → List Nat
  | [] => []
  | x :: r => if x = 34 then (match r with | y :: r' => if y = 34 then 34 :: go257 r' else [] | [] => []) else x :: go257 r

theorem go_other {x : Nat} {r : List Nat} (h : x ≠ 34) : go257 (x :: r) = x :: go257 r := by rw [go257.eq_def]; simp [h]
theorem go_end {y : Nat} {r : List Nat} (h : y ≠ 34) : go257 (34 :: y :: r) = [] := by rw [go257.eq_def]; simp [h]
theorem go_two {r : List Nat} : go257 (34 :: 34 :: r) = 34 :: go257 r := by rw [go257.eq_def]; simp
theorem go_last : go257 [34] = [] := by decide
theorem drop_cons {r : List Nat} {i x : Nat} (h : r[i]? = some x) : r.drop i = x :: r.drop (i + 1) := by
  obtain ⟨hl, e⟩ := List.getElem?_eq_some_iff.mp h
  rw [List.drop_eq_getElem_cons hl, e]
theorem sl_to (l : List Nat) (k : Nat) (h : k ≤ l.length) : sl l none (some (k : Int)) = l.take k := by
  have e := clipAt_cast l.length (k : Int)
  have : clipAt l.length (k : Int) = k := by
    omega
  unfold sl
  simp [this]
theorem sl_mid (l : List Nat) (a k : Nat) (h : k ≤ l.length) (ha : a ≤ k) : sl l (some (a : Int)) (some (k : Int)) = (l.drop a).take (k - a) := by
  have e := clipAt_cast l.length (k : Int)
  have e' := clipAt_cast l.length (a : Int)
  have h1 : clipAt l.length (k : Int) = k := by omega
  have h2 : clipAt l.length (a : Int) = a := by omega
  unfold sl
  simp [h1, h2]

theorem parse_ok {n : Nat} {r : List Nat} (hr : r.length ≤ 1000000) (h1 : r.take 5 = [50, 53, 55, 32, 34]) : Fun (c1 w mg mb) (n + 1) (.ref 60) [.str (S r)] (.str (S (go257 (r.drop 5)))) := by
  have hlen : 5 ≤ r.length := by
    have := congrArg List.length h1
    rw [List.length_take] at this
    simp at this; omega
  refine' Fun.def (names := ["resp"]) (ho := rfl) (hcd := by exact rfl) (hbind := ?hbind) (hloc := by decide +kernel) (hl := rfl) (run := ?run) (hcell := by decide +kernel)
  case hbind => intro vs h; obtain ⟨a, rfl⟩ := vs1 h; rfl
  intro L
  dsimp only [bindD]
  refine Runs.ifN (Tests.conv (by walk_at "test") ?_) ?_
  · rw [show sl r none (some 3) = r.take 3 from sl_to r 3 (by omega)]
    have : r.take 3 = [50, 53, 55] := by
      have := congrArg (List.take 3) h1
      rw [List.take_take] at this
      exact this
    rw [this]; decide
  refine Runs.ifN (Tests.conv (by walk_at "test") ?_) ?_
  · rw [show sl r (some 3) (some 5) = (r.drop 3).take 2 from sl_mid r 3 5 (by omega) (by omega)]
    have : (r.drop 3).take 2 = [32, 34] := by
      have := congrArg (List.drop 3) h1
      rw [List.drop_take] at this
      exact this
    rw [this]; decide
  refine Runs.assign (.inl rfl) (by walk_at "ev") ?_
  refine Runs.assign (.inl rfl) (by walk_at "ev") ?_
  refine Runs.assign (.inl rfl) (by walk_at "ev") ?_
  refine Runs.while (fun k ρ => ∃ i acc, k = r.length - i ∧ i ≤ r.length ∧ acc.length ≤ i ∧ acc ++ go257 (r.drop i) = go257 (r.drop 5) ∧ ρ "resp" = some (.fz (.str (S r))) ∧ ρ "i" = some (.fz (.int (i : Nat))) ∧ ρ "n" = some (.fz (.int r.length)) ∧ ρ "dirname" = some (.fz (.str (S acc)))) (n0 := r.length - 5) ⟨5, [], rfl, by omega, by simp, by simp, by walk_at "look", by walk_at "look", by walk_at "look", by walk_at "look"⟩ ?_
  rintro k ρ ⟨i, acc, rfl, hi, hac, he, hr1, hr2, hr3, hr4⟩
  refine ⟨_, by walk_at "test", fun hb => ?_, fun hb => ?_⟩
  · have hlt : i < r.length := by simpa using hb
    obtain ⟨x, hx⟩ : ∃ x, r[i]? = some x := ⟨_, List.getElem?_eq_getElem hlt⟩
    have hx' : r[((i : Nat) : Int).toNat]? = some x := by simpa using hx
    have hd := drop_cons hx
    refine Runs.assign (.inl rfl) (by walk_at "ev") ?_
    refine Runs.assign (.inl rfl) (by walk_at "ev") ?_
    refine Runs.cons (Run1.ite (by walk_at "test") (fun q => ?_) fun q => ?_)
    · have q : x = 34 := by simpa using q
      subst q
      by_cases hlt2 : i + 1 < r.length
      · obtain ⟨y, hy⟩ : ∃ y, r[i + 1]? = some y := ⟨_, List.getElem?_eq_getElem hlt2⟩
        have hy' : r[(((i : Nat) : Int) + 1).toNat]? = some y := by rw [show (((i : Nat) : Int) + 1).toNat = i + 1 by omega]; exact hy
        by_cases hq : y = 34
        · subst hq
          refine Runs.ifN (Tests.conv (by walk_at "test") ?_) ?_
          · simp; omega
          refine Runs.assign (.inl rfl) (by walk_at "ev") (Runs.nil ?_)
          refine Runs.assign (.inl rfl) (by walk_at "ev") (Runs.nil ?_)
          refine ⟨_, ?_, i + 2, acc ++ [34], rfl, by omega, by simp; omega, ?_, by walk_at "look", (by walk_at "look"), by walk_at "look", by walk_at "look"⟩
          · omega
          · rw [← he, hd, drop_cons hy, go_two]
            simp
        · refine Runs.ifT (Tests.conv (by walk_at "test") ?_) ?_
          · simp [hq]
          refine Runs.brk ?_
          refine Runs.ret (by walk_at "ev") (.inl ?_)
          rw [← he, hd, drop_cons hy, go_end hq]
          simp
      · refine Runs.ifT (Tests.conv (Tests.or2 (by walk_at "test") (b := true) fun e => ?_) ?_) ?_
        · exact absurd e (by simp; omega)
        · simp
        refine Runs.brk ?_
        refine Runs.ret (by walk_at "ev") (.inl ?_)
        have hd2 : r.drop (i + 1) = [] := List.drop_eq_nil_of_le (by omega)
        rw [← he, hd, hd2, go_last]
        simp
    · have q : x ≠ 34 := by simpa using q
      refine Runs.nil ?_
      refine Runs.assign (.inl rfl) (by walk_at "ev") (Runs.nil ?_)
      refine ⟨_, ?_, i + 1, acc ++ [x], rfl, by omega, by simp; omega, ?_, by walk_at "look", (by walk_at "look"), by walk_at "look", by walk_at "look"⟩
      · omega
      · rw [← he, hd, go_other q]
        simp
  · have hge : i = r.length := by
      have : ¬ i < r.length := by simpa using hb
      omega
    refine Runs.ret (by walk_at "ev") (.inl ?_)
    rw [← he, hge]
    simp [go257]
end
end
section
open PySem PySem.W PyProof.Rows PySem.Calls
set_option autoImplicit false
set_option maxRecDepth 100000
section
variable {w : World} {mg mb : Str → Option Value}




noncomputable def loopF (g : List Nat) : List (List Nat) → Nat → Nat → Bool
  | [], _, _ => true
  | w :: r, s, e => match findAt g w s e with
    | none => false
    | some k => loopF g r (k + w.length) e
noncomputable def st1 (ws : List (List Nat)) (g : List Nat) : Option (Nat × List (List Nat)) := if ws.headD [] = [] then some (0, ws) else if (ws.headD []).isPrefixOf g = true then some ((ws.headD []).length, ws.tail) else none
noncomputable def st2 (ws : List (List Nat)) (g : List Nat) : Option (Nat × List (List Nat)) := if ws.getLastD [] = [] then some (g.length, ws) else if (ws.getLastD []).isSuffixOf g = true then some (g.length - (ws.getLastD []).length, ws.dropLast) else none
noncomputable def ellM (ws : List (List Nat)) (g : List Nat) : Bool := match st1 ws g with
  | none => false
  | some (s, ws1) => match st2 ws1 g with
    | none => false
    | some (e, ws2) => if e < s then false else loopF g ws2 s e
noncomputable def DS (l : List Nat) : D := .str (S l)

theorem joinD_le {p : List Nat} : ∀ {ps : List (List Nat)}, p ∈ ps → p.length ≤ (joinD ps).length
  | [q], h => by simp at h; subst h; exact Nat.le_refl _
  | q :: r :: t, h => by
    rcases List.mem_cons.mp h with rfl | h
    · simp [joinD]
    · have := joinD_le h
      simp [joinD]; omega
theorem joinD_len : ∀ {ps : List (List Nat)}, ps.length ≤ (joinD ps).length + 1
  | [] => by simp
  | [q] => by simp
  | q :: r :: t => by
    have := joinD_len (ps := r :: t)
    simp [joinD] at this ⊢; omega
theorem ell_ok {n : Nat} {ps : List (List Nat)} {g : List Nat} (h2 : 2 ≤ ps.length) (hp : ∀ p ∈ ps, 46 ∉ p) (hz : (joinD ps).length ≤ 900000) (hg : g.length ≤ 1000000) : Fun (c1 w mg mb) (n + 1) (.ref 28) [.str (S (joinD ps)), .str (S g)] (.bool (ellM ps g)) := by
  refine' Fun.def (names := ["want", "got"]) (ho := rfl) (hcd := by exact rfl) (hbind := ?hbind) (hloc := by decide +kernel) (hl := rfl) (run := ?run) (hcell := by decide +kernel)
  case hbind => intro vs h; obtain ⟨a, b, rfl⟩ := vs2 h; rfl
  intro L
  dsimp only [bindD]
  obtain ⟨tm, hm⟩ := g_marker (w := w)
  have hds : (Txt.split (S (joinD ps)) (S dots)).map D.str = ps.map DS := by rw [split_join h2 hp, List.map_map]; rfl
  have hlen : ∀ p ∈ ps, p.length ≤ 1000000 := fun p hpp => Nat.le_trans (joinD_le hpp) (by omega)
  refine Runs.ifN (Tests.conv (Tests.cmp (Evals.globStr hm) (by walk_at "ev") Op2.notins) (by rw [contains_join h2]; rfl)) ?_
  refine Runs.assignNew (.inl rfl) (EvalsNew.meth (by walk_at "ev") (EvalsL.cons (Evals.globStr hm) EvalsL.nil) (FunNew.split (by rw [S_len]; rfl) (by rw [S_len, sizeLine_eq]; omega)) PySem.F.slot_str_split PySem.F.type_str_split) ?_
  rw [hds]
  have hpl : ps.length ≤ 1000000 := by have := joinD_len (ps := ps); omega
  refine Runs.assert (Tests.lend (x := "ws") (by walk_at "look") (Tests.conv (Tests.cmp (Evals.call (f := .builtin "len") (Callee.blt g_len (by rfl)) trivial (EvalsL.cons (by walk_at "ev") EvalsL.nil) (Fun.len_lst (by rw [List.length_map]; omega))) (by walk_at "ev") (by walk_at "op")) (by simp; omega))) ?_
  refine Runs.assignS (names := [Str.ofString "startpos", Str.ofString "endpos"]) (by walk_at "evs") (AsgN.cons (.inl rfl) (AsgN.cons (.inl rfl) (AsgN.nil ?_))) (hz := by decide)
  obtain ⟨p0, q0, r0, rfl⟩ : ∃ p q r, ps = p :: q :: r := by
    match ps, h2 with
    | p :: q :: r, _ => exact ⟨_, _, _, rfl⟩
  have hp0 := hlen p0 (.head _)
  refine Runs.assign (.inl rfl) (d := .str (S p0)) (Evals.lend (x := "ws") (by walk_at "look") (Evals.index (by walk_at "ev") (by walk_at "ev") (Op2.item_lst (by decide) (by decide) rfl) trivial)) ?_
  -- the beginning
  refine Runs.cut (fun o => (st1 (p0 :: q0 :: r0) g = none ∧ o = .ret (.bool false)) ∨ ∃ s1 ws1 ρ', st1 (p0 :: q0 :: r0) g = some (s1, ws1) ∧ o = .next ρ' ∧ ρ' "got" = some (.fz (.str (S g))) ∧ ρ' "ws" = some (.own (ws1.map DS)) ∧ ρ' "startpos" = some (.fz (.int (s1 : Nat))) ∧ ρ' "endpos" = some (.fz (.int g.length))) ?_ ?_
  · by_cases h0 : p0 = []
    · subst h0
      refine Run1.ite (Tests.conv (b' := false) (Tests.str (by walk_at "ev") (by decide)) (by decide)) (fun e => by cases e) fun _ => Runs.nil (.inr ⟨0, _, _, rfl, rfl, by walk_at "look", by walk_at "look", by walk_at "look", by walk_at "look"⟩)
    · refine Run1.ite (Tests.conv (b' := true) (Tests.str (by walk_at "ev") (by rw [S_len]; omega)) (by rw [S_len]; simp [h0])) (fun _ => ?_) fun e => by cases e
      refine Runs.cons (Run1.ite (Tests.val (Evals.meth (by walk_at "ev") (by walk_at "evs") Fun.startsS PySem.F.slot_str_startswith PySem.F.type_str_startswith)) (fun e => ?_) fun e => ?_)
      · refine Runs.assign (.inl rfl) (by walk_at "ev") ?_
        refine Runs.del (k := 0) (j := 0) (by walk_at "look") (by walk_at "ev") (by simp [seqIndex?]; omega) (by decide) (by decide) (by rw [List.length_map]; omega) (Runs.nil (Runs.nil (.inr ⟨p0.length, q0 :: r0, _, ?_, rfl, by walk_at "look", by walk_at "look", by walk_at "look", by walk_at "look"⟩)))
        unfold st1
        rw [if_neg (by simpa using h0), if_pos (by simpa using e)]
        rfl
      · refine Runs.ret (by walk_at "ev") (.inl ⟨?_, rfl⟩)
        unfold st1
        rw [if_neg (by simpa using h0), if_neg (show ¬ ((p0 :: q0 :: r0).headD []).isPrefixOf g = true from ne_true_of_eq_false e)]
  rintro o (⟨e1, rfl⟩ | ⟨s1, ws1, ρ1, e1, rfl, hgot, hws, hsp, hep⟩)
  · exact .inl (by unfold ellM; rw [e1])
  have hw1 : 1 ≤ ws1.length ∧ ws1.length ≤ 1000000 ∧ (∀ p ∈ ws1, p.length ≤ 1000000) ∧ s1 ≤ 1000000 := by
    unfold st1 at e1
    split at e1
    · cases e1; exact ⟨by simp, hpl, hlen, by omega⟩
    · split at e1
      · cases e1
        exact ⟨by simp, by simp at hpl ⊢; omega, fun p hp => hlen p (.tail _ hp), hp0⟩
      · cases e1
  have hne : ws1 ≠ [] := by intro e; rw [e] at hw1; simp at hw1
  obtain ⟨ini, w9, rfl⟩ : ∃ ini w9, ws1 = ini ++ [w9] := ⟨_, _, (List.dropLast_concat_getLast hne).symm⟩
  have h9 : w9.length ≤ 1000000 := hw1.2.2.1 w9 (by simp)
  have hl9 : ((ini ++ [w9]).map DS).length = ini.length + 1 := by simp
  refine Runs.assign (.inl rfl) (d := .str (S w9)) (Evals.lend (x := "ws") (by walk_at "look") (Evals.index (by walk_at "ev") (by walk_at "ev") (Op2.item_lst_neg (by decide) (by rw [hl9]; omega) (by decide) (by rw [hl9]; rw [show ((-1 : Int) + ((ini.length + 1 : Nat) : Int)).toNat = ini.length by omega]; simp [DS])) trivial)) ?_
  refine Runs.cut (fun o => (st2 (ini ++ [w9]) g = none ∧ o = .ret (.bool false)) ∨ ∃ e2 ws2 ρ', st2 (ini ++ [w9]) g = some (e2, ws2) ∧ o = .next ρ' ∧ ρ' "got" = some (.fz (.str (S g))) ∧ ρ' "ws" = some (.own (ws2.map DS)) ∧ ρ' "startpos" = some (.fz (.int (s1 : Nat))) ∧ ρ' "endpos" = some (.fz (.int (e2 : Nat)))) ?_ ?_
  · have hgl : (ini ++ [w9]).getLastD [] = w9 := by simp
    by_cases h0 : w9 = []
    · subst h0
      refine Run1.ite (Tests.conv (b' := false) (Tests.str (by walk_at "ev") (by decide)) (by decide)) (fun e => by cases e) fun _ => Runs.nil (.inr ⟨g.length, _, _, ?_, rfl, by walk_at "look", by walk_at "look", by walk_at "look", by walk_at "look"⟩)
      unfold st2
      rw [hgl, if_pos rfl]
    · refine Run1.ite (Tests.conv (b' := true) (Tests.str (by walk_at "ev") (by rw [S_len]; omega)) (by rw [S_len]; simp [h0])) (fun _ => ?_) fun e => by cases e
      refine Runs.cons (Run1.ite (Tests.val (Evals.meth (by walk_at "ev") (by walk_at "evs") Fun.endsS PySem.F.slot_str_endswith PySem.F.type_str_endswith)) (fun e => ?_) fun e => ?_)
      · have hsl : w9.length ≤ g.length := List.IsSuffix.length_le (List.isSuffixOf_iff_suffix.mp e)
        refine Runs.aug (.inl rfl) (by walk_at "look") (by walk_at "ev") Op2.isub ?_
        refine Runs.del (k := -1) (j := ini.length) (by walk_at "look") (by walk_at "ev") (by rw [hl9]; simp [seqIndex?]; omega) (by decide) (by decide) (by rw [List.length_map]; omega) (Runs.nil (Runs.nil (.inr ⟨g.length - w9.length, ini, _, ?_, rfl, by walk_at "look", ?_, by walk_at "look", ?_⟩)))
        · unfold st2
          rw [hgl, if_neg h0, if_pos e]
          simp
        · rw [upd_self]
          rw [show ((ini ++ [w9]).map DS).eraseIdx ini.length = ini.map DS by
            rw [List.map_append, List.eraseIdx_append_of_length_le (by simp)]
            simp]
        · rw [upd_ne _ _ (by decide), upd_self]
          rw [show ((g.length : Int) - (w9.length : Int)) = ((g.length - w9.length : Nat) : Int) by omega]
      · refine Runs.ret (by walk_at "ev") (.inl ⟨?_, rfl⟩)
        unfold st2
        rw [hgl, if_neg h0, if_neg (ne_true_of_eq_false e)]
  rintro o (⟨e2, rfl⟩ | ⟨en, ws2, ρ2, e2, rfl, hgot, hws, hsp, hep⟩)
  · exact .inl (by unfold ellM; rw [e1]; dsimp only; rw [e2])
  have hw2 : en ≤ g.length ∧ ws2.length ≤ 1000000 ∧ ∀ p ∈ ws2, p.length ≤ 1000000 := by
    unfold st2 at e2
    split at e2
    · cases e2; exact ⟨Nat.le_refl _, hw1.2.1, hw1.2.2.1⟩
    · split at e2
      · cases e2
        refine ⟨Nat.sub_le _ _, by simp at hw1 ⊢; omega, fun p hp => hw1.2.2.1 p (by simp at hp ⊢; exact .inl hp)⟩
      · cases e2
  have hell : ellM (p0 :: q0 :: r0) g = if en < s1 then false else loopF g ws2 s1 en := by unfold ellM; rw [e1]; dsimp only; rw [e2]
  rw [hell]
  by_cases hlt : en < s1
  · rw [if_pos hlt]
    exact Runs.ifT (Tests.conv (by walk_at "test") (by simp; omega)) (Runs.ret (by walk_at "ev") (.inl rfl))
  rw [if_neg hlt]
  refine Runs.ifN (Tests.conv (by walk_at "test") (by simp; omega)) ?_
  refine Runs.freeze hws ?_
  refine Runs.for (d := .lst (ws2.map DS)) (ds := ws2.map DS) (by walk_at "ev") Iters.lst (fun k ρ => ∃ s : Nat, loopF g (ws2.drop k) s en = loopF g ws2 s1 en ∧ s ≤ 1000000 ∧ ρ "got" = some (.fz (.str (S g))) ∧ ρ "startpos" = some (.fz (.int s)) ∧ ρ "endpos" = some (.fz (.int (en : Nat)))) ⟨s1, by simp, hw1.2.2.2, by walk_at "look", by walk_at "look", by walk_at "look"⟩ ?_ ?_
  · rintro k d ρ3 hk ⟨s, hl, hs, hg3, hs3, he3⟩
    rw [List.getElem?_map] at hk
    cases hx : ws2[k]? with
    | none => rw [hx] at hk; cases hk
    | some x =>
    rw [hx] at hk; cases hk
    have hxl : x.length ≤ 1000000 := hw2.2.2 x (List.mem_of_getElem? hx)
    have hdrop : ws2.drop k = x :: ws2.drop (k + 1) := by
      obtain ⟨hl, e⟩ := List.getElem?_eq_some_iff.mp hx
      rw [List.drop_eq_getElem_cons hl, e]
    refine Asg.name (.inl rfl) ?_
    refine Runs.assign (.inl rfl) (Evals.meth (by walk_at "ev") (EvalsL.cons (Evals.name (d := .str (S x)) (by walk_at "look")) (EvalsL.cons (by walk_at "ev") (EvalsL.cons (by walk_at "ev") EvalsL.nil))) (Fun.findS (by omega) (by omega) (by omega)) PySem.F.slot_str_find PySem.F.type_str_find) ?_
    rw [show ((s : Nat) : Int).toNat = s by omega, show ((en : Nat) : Int).toNat = en by omega]
    rw [hdrop] at hl
    rw [show loopF g (x :: ws2.drop (k + 1)) s en = (match findAt g x s en with | none => false | some j => loopF g (ws2.drop (k + 1)) (j + x.length) en) from rfl] at hl
    cases hf : findAt g x s en with
    | none =>
      rw [hf] at hl
      exact Runs.ifT (Tests.conv (by walk_at "test") (by decide)) (Runs.ret (by walk_at "ev") (.inl (by rw [← hl])))
    | some j =>
      rw [hf] at hl
      dsimp only at hl
      have hj : j + x.length ≤ en := by
        unfold findAt at hf
        have := List.find?_some hf
        simp at this
        exact this.1
      refine Runs.ifN (Tests.conv (by walk_at "test") (by first | (simp; done) | (simp; omega) | decide)) ?_
      refine Runs.aug (.inl rfl) (by walk_at "look") (Evals.call (f := .builtin "len") (Callee.blt g_len (by rfl)) trivial (EvalsL.cons (Evals.name (d := .str (S x)) (by walk_at "look")) EvalsL.nil) (Fun.lenS (by omega))) Op2.iadd (Runs.nil ?_)
      exact ⟨j + x.length, hl, by omega, by walk_at "look", by walk_at "look", by walk_at "look"⟩
  · rintro ρ4 ⟨s, hl, hs, _⟩
    refine Runs.ret (by walk_at "ev") (.inl ?_)
    rw [List.length_map, List.drop_length] at hl
    rw [← hl]; rfl
end
end
section
open PySem PySem.W PyProof.Rows PySem.Calls
set_option autoImplicit false
set_option maxRecDepth 100000
section
variable {w : World} {mg mb : Str → Option Value}



/-- what Whitespace counts: the tab counts, the run at hand, n, nt -/
structure WSt where
  cnt : List Int
  b : Nat
  n : Nat
  nt : Nat
noncomputable def ext (cnt : List Int) (b : Nat) : List Int := if cnt.length ≤ b then cnt ++ (List.replicate (b - cnt.length + 1) [(0 : Int)]).flatten else cnt
noncomputable def bump (cnt : List Int) (b : Nat) : List Int := (ext cnt b).set b ((ext cnt b).getD b 0 + 1)
theorem ext_len (cnt : List Int) (b : Nat) : b < (ext cnt b).length ∧ (ext cnt b).length ≤ max cnt.length (b + 1) := by
  unfold ext
  split
  · simp; omega
  · omega
noncomputable def wsRun : List Nat → WSt → WSt
  | [], s => s
  | x :: r, s => if x = 32 then wsRun r ⟨s.cnt, s.b + 1, s.n + 1, s.nt⟩ else if x = 9 then wsRun r ⟨bump s.cnt s.b, 0, s.n + 1, s.nt + 1⟩ else s
noncomputable def DI (i : Int) : D := .int i
noncomputable def wsD (l : List Nat) (s : WSt) : List (String × D) := [("is_simple", .bool (decide ((s.cnt.length : Int) ≤ 1))), ("norm", .tup [.tup (s.cnt.map DI), .int s.b]), ("nt", .int s.nt), ("n", .int s.n), ("raw", .str (S l))]

noncomputable def WsP (X : Addr) (l : List Nat) (st : WSt) (ρ : Rho) : Prop :=
  ρ "self" = some (.obj X 122 [("raw", .str (S l))]) ∧ ρ "S" = some (.fz (.str (S [32]))) ∧ ρ "T" = some (.fz (.str (S [9]))) ∧ ρ "count" = some (.own (st.cnt.map DI)) ∧ ρ "b" = some (.fz (.int st.b)) ∧ ρ "n" = some (.fz (.int st.n)) ∧ ρ "nt" = some (.fz (.int st.nt))
theorem chars_S (l : List Nat) : chars (S l) = l.map fun k => D.str (S [k]) := by unfold chars; rw [S_toList]; rfl
theorem wsRun_len : ∀ (l : List Nat) (st : WSt), (wsRun l st).cnt.length ≤ max st.cnt.length (st.b + l.length)
  | [], st => by simp [wsRun]; omega
  | x :: r, st => by
    unfold wsRun
    split
    · have := wsRun_len r ⟨st.cnt, st.b + 1, st.n + 1, st.nt⟩
      simp at this ⊢; omega
    · split
      · have := wsRun_len r ⟨bump st.cnt st.b, 0, st.n + 1, st.nt + 1⟩
        have h := ext_len st.cnt st.b
        have e : (bump st.cnt st.b).length = (ext st.cnt st.b).length := by simp [bump]
        rw [e] at this
        simp at this ⊢; omega
      · simp; omega
theorem init_ok {n : Nat} {l : List Nat} (hl : l.length ≤ 100) : Fun (c1 w mg mb) (n + 2) (.ref 122) [.str (S l)] (.inst 122 (wsD l (wsRun l ⟨[], 0, 0, 0⟩))) := by
  refine' Fun.cls (fI := 77) (names := ["ws"]) (self := "self") (hm := q_make) (hi := q_init) (hf := q_fn) (ho := rfl) (hcd := by exact rfl) (hbind := ?hbind) (hloc := by decide +kernel) (hnd := by decide) (hl := rfl) (run := ?run) (hcell := by decide +kernel)
  case hbind => intro x vs h; obtain ⟨a, rfl⟩ := vs1 h; rfl
  intro L X
  dsimp only [bindD]
  refine Runs.setAttr (by walk_at "look") (by walk_at "ev") q_plain q_set q_over q_t1 (by simp) (by simp) ?_
  obtain ⟨tS, hS⟩ := q_S (w := w)
  obtain ⟨tT, hT⟩ := q_T (w := w)
  refine Runs.assignS (names := [Str.ofString "S", Str.ofString "T"]) (EvalsL.cons (Evals.cattr (Callee.glob g_ws) q_read hS (fun _ _ => .str _ _) rfl) (EvalsL.cons (Evals.cattr (Callee.glob g_ws) q_read hT (fun _ _ => .str _ _) rfl) EvalsL.nil)) (AsgN.cons (.inl rfl) (AsgN.cons (.inl rfl) (AsgN.nil ?_))) (hz := by decide)
  refine Runs.assignNew (.inl rfl) (EvalsNew.list EvalsL.nil (by decide)) ?_
  refine Runs.assign3 (by walk_at "ev") (Asg.name (.inl rfl) (Asg.name (.inl rfl) (Asg.name (.inl rfl) ?_))) rfl
  refine Runs.cut (fun o => ∃ ρ', o = .next ρ' ∧ WsP X l (wsRun l ⟨[], 0, 0, 0⟩) ρ') ?_ ?_
  · refine Run1.for (d := .str (S l)) (ds := chars (S l)) (Evals.lendO (x := "self") (by walk_at "look") (Evals.attr (name := "raw") (by walk_at "ev") rfl q_plain q_f1 rfl)) Iters.str
      (fun k ρ => ∃ st, wsRun (l.drop k) st = wsRun l ⟨[], 0, 0, 0⟩ ∧ st.b ≤ k ∧ st.cnt.length ≤ k ∧ WsP X l st ρ) ⟨⟨[], 0, 0, 0⟩, rfl, by simp, by simp, by walk_at "look", by walk_at "look", by walk_at "look", by walk_at "look", by walk_at "look", by walk_at "look", by walk_at "look"⟩ ?_ ?_
    · rintro k d ρ hk ⟨st, hr, hb, hc, h1, h2, h3, h4, h5, h6, h7⟩
      rw [chars_S, List.getElem?_map] at hk
      cases hx : l[k]? with
      | none => rw [hx] at hk; cases hk
      | some x =>
      rw [hx] at hk; cases hk
      have hkl : k < l.length := (List.getElem?_eq_some_iff.mp hx).1
      have hd : l.drop k = x :: l.drop (k + 1) := by
        obtain ⟨hl, e⟩ := List.getElem?_eq_some_iff.mp hx
        rw [List.drop_eq_getElem_cons hl, e]
      rw [hd] at hr
      rw [show wsRun (x :: l.drop (k + 1)) st = (if x = 32 then wsRun (l.drop (k + 1)) ⟨st.cnt, st.b + 1, st.n + 1, st.nt⟩ else if x = 9 then wsRun (l.drop (k + 1)) ⟨bump st.cnt st.b, 0, st.n + 1, st.nt + 1⟩ else st) from rfl] at hr
      refine Asg.name (.inl rfl) ?_
      by_cases hs : x = 32
      · rw [if_pos hs] at hr
        refine Runs.ifT (Tests.conv (by walk_at "test") (by simp [hs])) ?_
        refine Runs.assign (.inl rfl) (by walk_at "ev") ?_
        refine Runs.assign (.inl rfl) (by walk_at "ev") (Runs.nil (Runs.nil ?_))
        exact ⟨_, hr, by simp; omega, by simp; omega, by walk_at "look", by walk_at "look", by walk_at "look", by walk_at "look", by walk_at "look", by walk_at "look", by walk_at "look"⟩
      rw [if_neg hs] at hr
      refine Runs.ifF (Tests.conv (by walk_at "test") (by simp [hs])) ?_
      by_cases ht : x = 9
      · rw [if_pos ht] at hr
        refine Runs.ifT (Tests.conv (by walk_at "test") (by simp [ht])) ?_
        refine Runs.assign (.inl rfl) (by walk_at "ev") ?_
        refine Runs.assign (.inl rfl) (by walk_at "ev") ?_
        refine Runs.cut (fun o => ∃ ρ', o = .next ρ' ∧ WsP X l ⟨ext st.cnt st.b, st.b, st.n + 1, st.nt + 1⟩ ρ') ?_ ?_
        · refine Run1.ite (b := decide ((st.cnt.length : Int) ≤ st.b)) (Tests.lend (x := "count") (by walk_at "look") (Tests.cmp (by walk_at "ev") (by walk_at "ev") Op2.ge)) (fun e => ?_) fun e => ?_
          · have e : (st.cnt.length : Int) ≤ st.b := by simpa using e
            refine Runs.assignNew (.inl rfl) (EvalsNew.add (EvSeq.own (by walk_at "look")) (EvSeq.new (EvalsNew.mul (ds := [.int 0]) (i := (st.b : Int) - st.cnt.length + 1) (EvSeq.new (EvalsNew.list (by walk_at "evs") (by decide))) (Evals.bin (Evals.bin (by walk_at "ev") (Evals.lend (x := "count") (by walk_at "look") (by walk_at "ev")) Op2.sub) (by walk_at "ev") Op2.add) (by omega) (by omega) (by decide))) ?_) (Runs.nil ⟨_, rfl, by walk_at "look", by walk_at "look", by walk_at "look", ?_, by walk_at "look", by walk_at "look", by walk_at "look"⟩)
            · simp; omega
            · rw [upd_self]
              unfold ext
              rw [if_pos (by omega), show ((st.b : Int) - st.cnt.length + 1).toNat = st.b - st.cnt.length + 1 by omega]
              simp [DI]
          · have e : ¬ (st.cnt.length : Int) ≤ st.b := by simpa using e
            refine Runs.nil ⟨_, rfl, by walk_at "look", by walk_at "look", by walk_at "look", ?_, by walk_at "look", by walk_at "look", by walk_at "look"⟩
            unfold ext
            rw [if_neg (by omega)]
            walk_at "look"
        · rintro o ⟨ρ2, rfl, h1, h2, h3, h4, h5, h6, h7⟩
          obtain ⟨el, el2⟩ := ext_len st.cnt st.b
          dsimp only at h4 h5 h6 h7
          refine Runs.setItem (k := st.b) (by walk_at "look") (Evals.bin (Evals.lend (x := "count") (by walk_at "look") (Evals.index (by walk_at "ev") (by walk_at "ev") (Op2.item_lst (d := .int ((ext st.cnt st.b).getD st.b 0)) (by omega) (by omega) ?_) trivial)) (by walk_at "ev") Op2.add) (by walk_at "ev") (by simpa using el) (by omega) ?_
          · rw [show ((st.b : Nat) : Int).toNat = st.b by omega, List.getElem?_map, List.getElem?_eq_getElem el]
            simp [DI, List.getD_eq_getElem?_getD, List.getElem?_eq_getElem el]
          refine Runs.assign (.inl rfl) (by walk_at "ev") (Runs.nil (Runs.nil (Runs.nil ⟨_, hr, by simp, ?_, by walk_at "look", by walk_at "look", by walk_at "look", ?_, by walk_at "look", by walk_at "look", by walk_at "look"⟩)))
          · simp only [bump, List.length_set]; omega
          · rw [upd_ne _ _ (by decide), upd_self]
            simp only [bump]
            rw [List.map_set]
            rfl
      · rw [if_neg ht] at hr
        refine Runs.ifF (Tests.conv (by walk_at "test") (by simp [ht])) ?_
        refine Runs.brk ?_
        refine ⟨_, rfl, ?_⟩
        rw [← hr]
        exact ⟨by walk_at "look", by walk_at "look", by walk_at "look", by walk_at "look", by walk_at "look", by walk_at "look", by walk_at "look"⟩
    · rintro ρ ⟨st, hr, _, _, hp⟩
      rw [chars_S, List.length_map, List.drop_length] at hr
      exact ⟨ρ, rfl, hr ▸ hp⟩
  rintro o ⟨ρ, rfl, h1, h2, h3, h4, h5, h6, h7⟩
  have hlen : (wsRun l ⟨[], 0, 0, 0⟩).cnt.length ≤ 100 := by
    have := wsRun_len l ⟨[], 0, 0, 0⟩
    simp at this; omega
  generalize wsRun l ⟨[], 0, 0, 0⟩ = st at h4 h5 h6 h7 hlen ⊢
  refine Runs.setAttr h1 (by walk_at "ev") q_plain q_set q_over q_t2 (by simp) (by simp) ?_
  refine Runs.setAttr (by walk_at "look") (by walk_at "ev") q_plain q_set q_over q_t3 (by simp) (by simp) ?_
  refine Runs.freeze (x := "count") (by walk_at "look") ?_
  refine Runs.setAttr (by walk_at "look") (Evals.tuple (EvalsL.cons (Evals.call (f := .type "tuple") (Callee.blt g_tuple (by rfl)) trivial (by walk_at "evs") (Fun.tuple_lst (by simp; omega))) (by walk_at "evs")) (by decide)) q_plain q_set q_over q_t4 (by simp) (by simp) ?_
  refine Runs.setAttr (by walk_at "look") (Evals.cmp (by walk_at "ev") (by walk_at "ev") (by walk_at "op")) q_plain q_set q_over q_t5 (by simp) (by simp) ?_
  exact Runs.nil ⟨_, rfl, upd_self _ _ _⟩
end
end
section
open PySem PySem.W PyProof.Rows PySem.Calls
set_option autoImplicit false
set_option maxRecDepth 100000
section
variable {w : World} {mg mb : Str → Option Value}

/-- what the tabs' counts come to -/
noncomputable def ilsum (ts : Nat) (cnt : List Int) : Nat → Int
  | 0 => 0
  | k + 1 => ilsum ts cnt k + ((ts + k : Nat) : Int) / ts * cnt.getD (ts + k) 0
noncomputable def indent (st : WSt) (ts : Nat) : Int := st.b + ts * (ilsum ts st.cnt (st.cnt.length - ts) + st.nt)

theorem ind_ok {n : Nat} {l : List Nat} {st : WSt} {ts : Nat} (h0 : 1 ≤ ts) (h1 : ts ≤ 1000) (hc : st.cnt.length ≤ 1000) : Fun (c1 w mg mb) (n + 1) (.ref 91) [.inst 122 (wsD l st), .int ts] (.int (indent st ts)) := by
  refine' Fun.def (names := ["self", "tabsize"]) (ho := rfl) (hcd := by exact rfl) (hbind := ?hbind) (hloc := by decide +kernel) (hl := rfl) (run := ?run) (hcell := by decide +kernel)
  case hbind => intro vs h; obtain ⟨a, b, rfl⟩ := vs2 h; rfl
  intro L
  dsimp only [bindD]
  refine Runs.assignT (Evals.attr (name := "norm") (d := .tup [.tup (st.cnt.map DI), .int st.b]) (by walk_at "ev") rfl q_plain q_f2 rfl) (Asg.tuple (AsgL.cons (Asg.name (.inl rfl) (AsgL.cons (Asg.name (.inl rfl) (AsgL.nil ?_)))))) 
  refine Runs.assign (.inl rfl) (by walk_at "ev") ?_
  have hln : (intsD ts st.cnt.length).length = st.cnt.length - ts := by unfold intsD; first | (simp; done) | (simp; omega)
  refine Runs.for (d := .rng ts st.cnt.length) (ds := intsD ts st.cnt.length) (Evals.call (f := .type "range") (Callee.blt g_range (by rfl)) trivial (by walk_at "evs") Fun.range2) (Iters.rng (by omega) (by omega) (by omega) (by omega))
    (fun k ρ => ρ "self" = some (.fz (.inst 122 (wsD l st))) ∧ ρ "tabsize" = some (.fz (.int ts)) ∧ ρ "count" = some (.fz (.tup (st.cnt.map DI))) ∧ ρ "trailing" = some (.fz (.int st.b)) ∧ ρ "il" = some (.fz (.int (ilsum ts st.cnt k))))
    ⟨by walk_at "look", by walk_at "look", by walk_at "look", by walk_at "look", by walk_at "look"⟩ ?_ ?_
  · rintro k d ρ hk ⟨h2, h3, h4, h5, h6⟩
    have hkl : k < st.cnt.length - ts := by rw [← hln]; exact (List.getElem?_eq_some_iff.mp hk).1
    have hd : d = .int ((ts + k : Nat) : Int) := by
      unfold intsD at hk
      rw [List.getElem?_map, List.getElem?_range (by omega)] at hk
      cases hk
      rfl
    subst hd
    refine Asg.name (.inl rfl) ?_
    refine Runs.assign (.inl rfl) (Evals.bin (by walk_at "ev") (Evals.bin (Evals.bin (by walk_at "ev") (by walk_at "ev") (Op2.fdivB (by omega) (by omega))) (Evals.index (by walk_at "ev") (by walk_at "ev") (Op2.item_tup (d := .int (st.cnt.getD (ts + k) 0)) (by omega) (by omega) ?_) trivial) (Op2.mulB ?_ ?_)) Op2.add) (Runs.nil ⟨by walk_at "look", by walk_at "look", by walk_at "look", by walk_at "look", by walk_at "look"⟩)
    · rw [show (((ts + k : Nat) : Int)).toNat = ts + k by omega, List.getElem?_map, List.getElem?_eq_getElem (by omega)]
      simp [DI, List.getD_eq_getElem?_getD, List.getElem?_eq_getElem (show ts + k < st.cnt.length by omega)]
    · have := Int.ediv_nonneg (a := ((ts + k : Nat) : Int)) (b := ts) (by omega) (by omega)
      omega
    · have := Int.ediv_le_self (a := ((ts + k : Nat) : Int)) (b := (ts : Int)) (by omega)
      omega
  · rintro ρ ⟨h2, h3, h4, h5, h6⟩
    rw [hln] at h6
    exact Runs.ret (Evals.bin (by walk_at "ev") (Evals.bin (by walk_at "ev") (Evals.bin (by walk_at "ev") (Evals.attr (name := "nt") (by walk_at "ev") rfl q_plain q_f3 rfl) Op2.add) (Op2.mulB (by omega) (by omega))) Op2.add) (.inl rfl)
end
end
section
open PySem PySem.W PyProof.Rows PySem.Calls
set_option autoImplicit false
set_option maxRecDepth 100000
section
variable {w : World} {mg mb : Str → Option Value}
/-- n marks' name -/
noncomputable def nm (n s2 : Nat) : List Nat := List.replicate (n / 2) 34 ++ (if n % 2 = 1 then [] else [s2])
theorem go_nm {s2 : Nat} {e : List Nat} (hs : s2 ≠ 34) (he : go257 e = []) : ∀ n, go257 (List.replicate n 34 ++ (s2 :: e)) = nm n s2
  | 0 => by rw [List.replicate_zero, List.nil_append, go_other hs, he]; rfl
  | 1 => by rw [show List.replicate 1 34 ++ (s2 :: e) = 34 :: s2 :: e from rfl, go_end hs]; rfl
  | n + 2 => by
    rw [show List.replicate (n + 2) 34 ++ (s2 :: e) = 34 :: 34 :: (List.replicate n 34 ++ (s2 :: e)) from rfl, go_two, go_nm hs he n]
    unfold nm
    rw [show (n + 2) / 2 = n / 2 + 1 by omega, show (n + 2) % 2 = n % 2 by omega]
    rfl
theorem nm_count {n s2 : Nat} (hs : s2 ≠ 34) : (nm n s2).count 34 = n / 2 := by
  unfold nm
  have : List.count 34 (if n % 2 = 1 then [] else [s2]) = 0 := by split <;> simp [hs]
  rw [List.count_append, List.count_replicate, this]
  simp
theorem nm_last {n s2 : Nat} (hs : s2 ≠ 34) : (sl (nm n s2) (some (-1)) none = [s2]) ↔ n % 2 = 0 := by
  have key : ∀ l : List Nat, sl l (some (-1)) none = l.drop (l.length - 1) := fun l => by
    have e := clipAt_cast l.length (-1)
    have : clipAt l.length (-1) = l.length - 1 := by omega
    unfold sl
    simp only [Option.elim, this]
    rw [List.take_of_length_le (by simp)]
  rw [key]
  unfold nm
  by_cases h : n % 2 = 1
  · rw [if_pos h, List.append_nil, List.length_replicate, List.drop_replicate]
    constructor
    · intro e
      have : s2 ∈ List.replicate (n / 2 - (n / 2 - 1)) 34 := by rw [e]; simp
      exact absurd (List.eq_of_mem_replicate this) hs
    · intro e; omega
  · rw [if_neg h, List.length_append, List.length_replicate]
    simp
    omega
theorem nm_len (n s2 : Nat) : (nm n s2).length ≤ n + 1 := by
  unfold nm
  rw [List.length_append, List.length_replicate]
  split <;> simp <;> omega
noncomputable abbrev Rl := List (Nat × Nat)
noncomputable def rl (rs : Rl) (k n : Nat) : Nat × Nat := rs.getD (2 * k + n % 2) (1, 0)
noncomputable def nI (rs : Rl) (n : Nat) : Nat → Nat
  | 0 => n
  | k + 1 => (rl rs k (nI rs n k)).1 * (nI rs n k / 2) + (rl rs k (nI rs n k)).2
noncomputable def mI (rs : Rl) (n : Nat) : Nat → Nat
  | 0 => 1
  | k + 1 => (rl rs k (nI rs n k)).1 * mI rs n k
noncomputable def wI (rs : Rl) (n : Nat) (a b : Nat) (k : Nat) : List Nat := (List.range k).map fun j => if nI rs n j % 2 = 0 then a else b
noncomputable def stepsD (rs : Rl) (n k : Nat) : List D := (List.range (k + 1)).map fun j => .tup [.int (nI rs n j), .int (mI rs n j)]
noncomputable def namesD (rs : Rl) (n s2 k : Nat) : List D := (List.range k).map fun j => .str (S (nm (nI rs n j) s2))
noncomputable def DP (p : Nat × Nat) : D := .tup [.int p.1, .int p.2]

theorem walk_ok {n n0 : Nat} {rs : Rl} {a b s2 : Nat} {e : List Nat} (hrs : rs.length = 6) (hr : ∀ p ∈ rs, p.1 ≤ 3 ∧ p.2 ≤ 3) (hs : s2 ≠ 34) (he : go257 e = []) (hel : e.length ≤ 100) (hn : n0 ≤ 100) :
    Fun (c1 w mg mb) (n + 2) (.ref 133) [.int n0, .lst (rs.map DP), .lst [.str (S [a]), .str (S [b]), .str (S [s2])], .str (S e)] (.tup [.str (S (wI rs n0 a b 3)), .lst (stepsD rs n0 3), .lst (namesD rs n0 s2 3)]) := by
  refine' Fun.def (names := ["n", "rules", "signs", "end"]) (ho := rfl) (hcd := by exact rfl) (hbind := ?hbind) (hloc := by decide +kernel) (hl := rfl) (run := ?run) (hcell := by decide +kernel)
  case hbind => intro vs h; obtain ⟨a, b, c, d, rfl⟩ := vs4 h; rfl
  intro L
  dsimp only [bindD]
  have hrl : ∀ k m, (rl rs k m).1 ≤ 3 ∧ (rl rs k m).2 ≤ 3 := fun k m => by
    unfold rl
    rw [List.getD_eq_getElem?_getD]
    cases q : rs[2 * k + m % 2]? with
    | none => simp
    | some p => exact hr p (List.mem_of_getElem? q)
  have hb : ∀ k, nI rs n0 (k + 1) ≤ 2 * nI rs n0 k + 3 := fun k => by
    have h := hrl k (nI rs n0 k)
    have : (rl rs k (nI rs n0 k)).1 * (nI rs n0 k / 2) ≤ 3 * (nI rs n0 k / 2) := Nat.mul_le_mul_right _ h.1
    show (rl rs k (nI rs n0 k)).1 * (nI rs n0 k / 2) + (rl rs k (nI rs n0 k)).2 ≤ _
    omega
  have hn3 : ∀ k, k ≤ 3 → nI rs n0 k ≤ 1000 := fun k hk => by
    have h0 : nI rs n0 0 = n0 := rfl
    have h1 : nI rs n0 1 ≤ 2 * nI rs n0 0 + 3 := hb 0
    have h2 : nI rs n0 2 ≤ 2 * nI rs n0 1 + 3 := hb 1
    have h3 : nI rs n0 3 ≤ 2 * nI rs n0 2 + 3 := hb 2
    match k, hk with
    | 0, _ => omega
    | 1, _ => omega
    | 2, _ => omega
    | 3, _ => omega
  refine Runs.cons (Run1.own3 (.inl rfl) (.inl rfl) (.inl rfl) (by decide) (by walk_at "ev") (EvalsNew.list (EvalsL.cons (Evals.tuple (by walk_at "evs") (by decide)) EvalsL.nil) (by decide)) (EvalsNew.list EvalsL.nil (by decide)) rfl ?_)
  refine Runs.for (d := .rng 0 3) (ds := intsD 0 3) (Evals.call (f := .type "range") (Callee.blt g_range (by rfl)) trivial (by walk_at "evs") Fun.range1) (Iters.rng (by omega) (by omega) (by omega) (by omega))
    (fun k ρ => ρ "n" = some (.fz (.int (nI rs n0 k))) ∧ ρ "rules" = some (.fz (.lst (rs.map DP))) ∧ ρ "signs" = some (.fz (.lst [D.str (S [a]), D.str (S [b]), D.str (S [s2])])) ∧ ρ "end" = some (.fz (.str (S e))) ∧
      ρ "word" = some (.fz (.str (S (wI rs n0 a b k)))) ∧ ρ "steps" = some (.own (stepsD rs n0 k)) ∧ ρ "names" = some (.own (namesD rs n0 s2 k)))
    ⟨by walk_at "look", by walk_at "look", by walk_at "look", by walk_at "look", by walk_at "look", by walk_at "look", by walk_at "look"⟩ ?_ ?_
  · rintro k d ρ hk ⟨h1, h2, h3, h4, h5, h6, h7⟩
    have hk3 : k < 3 := (List.getElem?_eq_some_iff.mp hk).1
    have hd : d = .int ((k : Nat) : Int) := by
      match k, hk3 with
      | 0, _ => cases hk; rfl
      | 1, _ => cases hk; rfl
      | 2, _ => cases hk; rfl
    subst hd
    have hnk := hn3 k (by omega)
    have hrk := hrl k (nI rs n0 k)
    refine Asg.name (.inl rfl) ?_
    refine Runs.append (by walk_at "look") (Evals.conv (d' := .str (S (nm (nI rs n0 k) s2))) (Evals.call (f := .ref 60) (Callee.glob g_parse) (by rfl) (EvalsL.cons (Evals.bin (Evals.bin (Evals.bin (by walk_at "ev") (Evals.bin (by walk_at "ev") (by walk_at "ev") (by walk_at "op")) (Op2.addS ?_)) (Evals.index (by walk_at "ev") (by walk_at "ev") (Op2.item_lst (d := .str (S [s2])) (by decide) (by decide) rfl) trivial) (Op2.addS ?_)) (by walk_at "ev") (Op2.addS ?_)) EvalsL.nil) (parse_ok ?_ ?_)) ?_) ?_ ?_
    · simp; omega
    · simp; omega
    · simp; omega
    · simp; omega
    · simp
    · rw [show ((nI rs n0 k : Nat) : Int).toNat = nI rs n0 k by omega]
      rw [show List.drop 5 ((([50, 53, 55, 32, 34] ++ (List.replicate (nI rs n0 k) [34]).flatten) ++ [s2]) ++ e : List Nat) = List.replicate (nI rs n0 k) 34 ++ (s2 :: e) by simp]
      rw [go_nm hs he]
    · simp [namesD]; omega
    have hnames : namesD rs n0 s2 k ++ [.str (S (nm (nI rs n0 k) s2))] = namesD rs n0 s2 (k + 1) := by
      unfold namesD
      rw [List.range_succ, List.map_append]; rfl
    rw [hnames]
    have hget : (namesD rs n0 s2 (k + 1))[(((k : Nat) : Int)).toNat]? = some (.str (S (nm (nI rs n0 k) s2))) := by
      unfold namesD
      rw [show (((k : Nat) : Int)).toNat = k by omega, List.getElem?_map, List.getElem?_range (by omega)]; rfl
    have hnl := nm_len (nI rs n0 k) s2
    refine Runs.assign (.inl rfl) (d := .int ((nI rs n0 k % 2 : Nat) : Int)) (Evals.ifexp (q := decide (nI rs n0 k % 2 = 0)) (Tests.lend (x := "names") (by walk_at "look") (Tests.conv (Tests.cmp (Evals.sliceS (Evals.index (by walk_at "ev") (by walk_at "ev") (Op2.item_lst (d := .str (S (nm (nI rs n0 k) s2))) (by omega) (by omega) hget) trivial) (by walk_at "part") (by walk_at "part") (by omega)) (Evals.index (by walk_at "ev") (by walk_at "ev") (Op2.item_lst (d := .str (S [s2])) (by decide) (by decide) rfl) trivial) Op2.eqS) (by exact decide_eq_decide.mpr (nm_last hs)))) (fun q => ?_) fun q => ?_) ?_
    · have q : nI rs n0 k % 2 = 0 := by simpa using q
      rw [q]; exact Evals.int
    · have q : nI rs n0 k % 2 = 1 := by
        have : ¬ nI rs n0 k % 2 = 0 := by simpa using q
        omega
      rw [q]; exact Evals.int
    have hidx : 2 * k + nI rs n0 k % 2 < rs.length := by omega
    have hrule : (rs.map DP)[((2 : Int) * ((k : Nat) : Int) + ((nI rs n0 k % 2 : Nat) : Int)).toNat]? = some (DP (rl rs k (nI rs n0 k))) := by
      rw [show ((2 : Int) * ((k : Nat) : Int) + ((nI rs n0 k % 2 : Nat) : Int)).toNat = 2 * k + nI rs n0 k % 2 by omega, List.getElem?_map, List.getElem?_eq_getElem hidx]
      unfold rl
      rw [List.getD_eq_getElem?_getD, List.getElem?_eq_getElem hidx]; rfl
    refine Runs.assignT (Evals.index (by walk_at "ev") (by walk_at "ev") (Op2.item_lst (d := DP (rl rs k (nI rs n0 k))) (by omega) (by omega) hrule) trivial) (Asg.tuple (AsgL.cons (Asg.name (.inl rfl) (AsgL.cons (Asg.name (.inl rfl) (AsgL.nil ?_))))))
    refine Runs.assign (.inl rfl) (d := .int (nI rs n0 (k + 1))) (Evals.conv (Evals.lend (x := "names") (by walk_at "look") (Evals.bin (Evals.bin (by walk_at "ev") (Evals.meth (Evals.index (by walk_at "ev") (by walk_at "ev") (Op2.item_lst (d := .str (S (nm (nI rs n0 k) s2))) (by omega) (by omega) hget) trivial) (by walk_at "evs") Fun.countS PySem.F.slot_str_count PySem.F.type_str_count) (Op2.mulB (by omega) (by omega))) (by walk_at "ev") Op2.add)) ?_) ?_
    · rw [nm_count hs]
      show D.int _ = D.int (((rl rs k (nI rs n0 k)).1 * (nI rs n0 k / 2) + (rl rs k (nI rs n0 k)).2 : Nat) : Int)
      push_cast
      rfl
    have hsg : ([D.str (S [a]), D.str (S [b]), D.str (S [s2])])[(((nI rs n0 k % 2 : Nat) : Int)).toNat]? = some (.str (S [if nI rs n0 k % 2 = 0 then a else b])) := by
      rw [show (((nI rs n0 k % 2 : Nat) : Int)).toNat = nI rs n0 k % 2 by omega]
      rcases Nat.mod_two_eq_zero_or_one (nI rs n0 k) with q | q <;> rw [q] <;> rfl
    refine Runs.assign (.inl rfl) (d := .str (S (wI rs n0 a b (k + 1)))) (Evals.conv (Evals.bin (by walk_at "ev") (Evals.index (by walk_at "ev") (by walk_at "ev") (Op2.item_lst (d := .str (S [if nI rs n0 k % 2 = 0 then a else b])) (by omega) (by omega) hsg) trivial) (Op2.addS (by simp [wI]; omega))) ?_) ?_
    · unfold wI
      rw [List.range_succ, List.map_append]; rfl
    have hst : (stepsD rs n0 k)[(((k : Nat) : Int)).toNat]? = some (.tup [.int (nI rs n0 k), .int (mI rs n0 k)]) := by
      unfold stepsD
      rw [show (((k : Nat) : Int)).toNat = k by omega, List.getElem?_map, List.getElem?_range (by omega)]; rfl
    refine Runs.append (d := .tup [.int (nI rs n0 (k + 1)), .int (mI rs n0 (k + 1))]) (by walk_at "look") (Evals.tuple (EvalsL.cons (by walk_at "ev") (EvalsL.cons (Evals.conv (Evals.bin (by walk_at "ev") (Evals.lend (x := "steps") (by walk_at "look") (Evals.index (Evals.index (by walk_at "ev") (by walk_at "ev") (Op2.item_lst (by omega) (by omega) hst) trivial) (by walk_at "ev") (Op2.item_tup (d := .int (mI rs n0 k)) (by decide) (by decide) rfl) trivial)) (Op2.mulB (by omega) (by omega))) ?_) EvalsL.nil)) (by decide)) (by simp [stepsD]; omega) (Runs.nil ?_)
    · show D.int _ = D.int (((rl rs k (nI rs n0 k)).1 * mI rs n0 k : Nat) : Int)
      push_cast
      rfl
    have hsteps : stepsD rs n0 k ++ [.tup [.int (nI rs n0 (k + 1)), .int (mI rs n0 (k + 1))]] = stepsD rs n0 (k + 1) := by
      unfold stepsD
      rw [List.range_succ (n := k + 1), List.map_append]; rfl
    rw [hsteps]
    exact ⟨by walk_at "look", by walk_at "look", by walk_at "look", by walk_at "look", by walk_at "look", by walk_at "look", by walk_at "look"⟩
  · rintro ρ ⟨h1, h2, h3, h4, h5, h6, h7⟩
    refine Runs.freeze h6 (Runs.freeze (x := "names") (by walk_at "look") ?_)
    exact Runs.ret (Evals.tuple (by walk_at "evs") (by decide)) (.inl rfl)
end
end
section
open PySem PySem.W PyProof.Rows PySem.Calls
set_option autoImplicit false
set_option maxRecDepth 100000
/-- a function is entered, in the words of the walk -/
theorem enter_K {K : Frag} {prog : Program} {w : World} {A : Around} {s : Shared} {R : Result → Shared → Prop} {name qual : Str} {params : Arguments} {body : List Stmt} {scope : Scope} {dV kV doc pm cdv ct oc : Value} {an od : Option Addr} {osl : Array (Option Value)} {f : Addr} {args : Args} {binds : List (Str × Value)}
    (X : K.In s.heap) (nl : s.heap.NoLimit) (ho : K.lookup f = some ⟨oc, od, .func (fnOf name qual params body scope dV kV doc pm an cdv ct), osl⟩) (hcd : codeIn K cdv qual = true) (hroom : A.depth < recursionLimit)
    (hbind : BindsTo s (fnOf name qual params body scope dV kV doc pm an cdv ct) args binds) (hloc : ∀ y ∈ binds, scope.names.lookup y.1 = some .local)
    (h : ∀ L h₁ tk, s.heap.get? L = none → Fr s.heap L h₁ (fun y => binds.reverse.lookup y) → News s.heap L h₁ [] →
      wpAny (model prog w) (A.deeper (envOf qual scope L f cdv)) (execs body (envOf qual scope L f cdv)) (fun fl s' => R (.ok (.ret (match fl with | .ret v => v | _ => .none))) s')
        (fun e s' => wpAny (model prog w) (A.deeper (envOf qual scope L f cdv)) (leaving (envOf qual scope L f cdv) e) (fun _ s'' => R (.error e) s'') (fun e' s'' => R (.error e') s'') s')
        { s with heap := h₁, toks := tk })
    (hco : scope.isCoroutine = false) (hgen : scope.isGenerator = false) (hk : scope.kind = .function) (hcell : ∀ x ∈ scope.names, x.2 ≠ .cell) : codeAny (model prog w) A (.call (.ref f) args) R s :=
  codeAny_call_def (fd := fnOf name qual params body scope dV kV doc pm an cdv ct) (body := body) (binds := binds) hroom (X _ _ ho) rfl nl (codeRec_of X hcd) rfl hbind hcell hloc
    (fun h₁ hns hk₁ => h s.heap.objs.size h₁ _ (get_size _) ⟨hns, hk₁, Nat.le_refl _⟩ News.nil) hco hgen hk

section
variable {w : World} {mg mb : Str → Option Value}
theorem other_raise {env0 : Env} {base : Heap} {s : Shared} {mean : ExcName → Option Value} {x : Str} {t : Tok} {Q : Value → Shared → Prop} (B : Below (callerA.deeper env0) base [env0] s.heap) (X₀ : (Mine.hd1.heap_39 w.params).In s.heap)
    (T : Top Mine.hd1.view_39 (looseW Mine.hd1.view_39 [Str.ofString "Whitespace"]) mean mg mb s.heap) (XB : (Mine.hd1.heap_39 w.params).In base)
    (TB : Top Mine.hd1.view_39 (looseW Mine.hd1.view_39 [Str.ofString "Whitespace"]) mean mg mb base) (D : KtsDicts ([env0].filterMap (·.frame)) s.heap)
    (hx : (Txt.slice x none (some 3) != Str.ofString "257") = true) (hz : x.length ≤ 1000000)
    (hQ : ∀ g' L' h' m' t' tk, KtsTurn ([env0].filterMap (·.frame)) s.heap g' → Fr g' L' h' m' → Q (.str x t') { s with heap := h', toks := tk }) :
    wpAny (model PySem.Challenge.pw_tl0020_01 w) (callerA.deeper env0) (call (.ref 140) [.str x t]) Q NE s := by
  have dummy : PySem.Challenge.rw_tl0020_01 = PySem.Challenge.rw_tl0020_01 ∧ Mine.hd1.heap_39 = Mine.hd1.heap_39 := by k_fill; exact ⟨rfl, rfl⟩
  clear dummy
  refine wpAny_call ?_
  refine' enter_K (binds := [(Str.ofString "reply", .str x t)]) X₀ T.nolimit (ho := rfl) (by exact rfl) (by rw [depth_deeper, depth_caller]; decide) (BindsTo.of_eq rfl) (by exact locs rfl) ?h rfl rfl rfl (by decide +kernel)
  case h =>
    intro L h₁ tk hL F N
    dsimp only
    k_steps
    refine' str_got (K := Mine.hd1.heap_39 w.params) (C := 51) ?hF ?hN ?hG ?hX ?hu (by rfl) (by rfl) ?hq
    case hG => assumption
    case hN => assumption
    case hF => assumption
    case hX => assumption
    case hu => simp only [Around.in1_units, Around.mark_units, Around.deeper_units]; decide
    case hq =>
      k_steps
      refine' hQ _ _ _ _ _ _ ?a ?b
      case a => assumption
      case b => assumption
end
end
section
open PySem PySem.W PyProof.Rows PySem.Calls
set_option autoImplicit false
set_option maxRecDepth 100000
section
variable {w : World} {mg mb : Str → Option Value}
theorem parse_dash {n : Nat} {r : List Nat} (hr : r.length ≤ 1000000) (h1 : sl r none (some 3) = [50, 53, 55]) (h2 : sl r (some 3) (some 5) ≠ [32, 34]) : Fun (c1 w mg mb) (n + 1) (.ref 60) [.str (S r)] (.str (S [])) := by
  refine' Fun.def (names := ["resp"]) (ho := rfl) (hcd := by exact rfl) (hbind := ?hbind) (hloc := by decide +kernel) (hl := rfl) (run := ?run) (hcell := by decide +kernel)
  case hbind => intro vs h; obtain ⟨a, rfl⟩ := vs1 h; rfl
  intro L
  dsimp only [bindD]
  refine Runs.ifN (Tests.conv (by walk_at "test") (by rw [h1]; decide)) ?_
  refine Runs.ifT (Tests.conv (by walk_at "test") (by simp [h2])) ?_
  exact Runs.ret (by walk_at "ev") (.inl rfl)
theorem other_dash {n : Nat} {r : List Nat} (hr : r.length ≤ 1000000) (h1 : sl r none (some 3) = [50, 53, 55]) (h2 : sl r (some 3) (some 5) ≠ [32, 34]) : Fun (c1 w mg mb) (n + 2) (.ref 140) [.str (S r)] (.lst [.str (S [])]) := by
  refine' Fun.def (names := ["reply"]) (ho := rfl) (hcd := by exact rfl) (hbind := ?hbind) (hloc := by decide +kernel) (hl := rfl) (run := ?run) (hcell := by decide +kernel)
  case hbind => intro vs h; obtain ⟨a, rfl⟩ := vs1 h; rfl
  intro L
  dsimp only [bindD]
  refine Runs.cons (Run1.try (Runs.ret (Evals.list (EvalsL.cons (Evals.call (f := .ref 60) (Callee.glob g_parse) (by rfl) (by walk_at "evs") (parse_dash hr h1 h2)) EvalsL.nil) (by decide)) (.inl rfl)))
end
end
section
open PySem PySem.W PyProof.Rows PySem.Calls
set_option autoImplicit false
set_option maxRecDepth 100000
section
variable {w : World} {mg mb : Str → Option Value}
theorem g_other : nsIn (Mine.hd1.heap_39 w.params) mainGlobals (Str.ofString "_law_other") = some (some (.ref 140)) := by rfl
theorem other_if {env : Env} {h₀ : Heap} {Z : AS} {ρ : Rho} {Φ : Out → Prop} {n : Nat} {mean : ExcName → Option Value} {e1 e2 : Expr} {np p1 p2 p3 : Pos} {body : List Stmt} {x : Str}
    (T : Top Mine.hd1.view_39 (looseW Mine.hd1.view_39 [Str.ofString "Whitespace"]) mean mg mb h₀) (hfr : env.frame = some env.locals) (hk : env.kindOf (Str.ofString "_law_other") = some .globalImplicit)
    (ao : AOk (c1 w mg mb) n (callerA.deeper env)) (h1 : Evals (c1 w mg mb) n env ρ e1 (.str x)) (h2 : Evals (c1 w mg mb) n env ρ e2 (.str x)) (hx : (Txt.slice x none (some 3) != Str.ofString "257") = true) (hz : x.length ≤ 1000000) (p : Φ (.next ρ))
    (hu : unstarred [e1] = true := by rfl) (hm : behindInMarks .NotEq e2 = false := by with_unfolding_all rfl) :
    Run1At (callerA.deeper env) h₀ Z (c1 w mg mb) env ρ (.If (.Compare (.Call (.Name (Str.ofString "_law_other") np) [e1] [] p1) [.NotEq] [e2] p2) body [] p3) Φ := by
  intro U s F
  refine wpAny_If (wpAny_isTrue_Compare1 ?_ hm)
  refine Call_Name (backTo_eq p1 env [e1] hu) ((Callee.glob g_other hk) _ Z U s ρ _ F.okh F.fs ?_)
  refine callWith_of (P := (c1 w mg mb).Ok) (by simp) (keeper_ok (c := c1 w mg mb) (f := .ref 140) (by rfl)) (evalArgs_plain (spliced_cons (h1 _ Z U s _ ao F.okh F.fs fun v H1 tk1 g1 dv => spliced_nil ⟨F.okh.g g1, ?_⟩)))
  cases dv with | str _ t =>
  have F1 := F.g g1
  obtain ⟨m, hm0, hv0, _⟩ := F1.fs.vars
  obtain ⟨oL, esL, epL, hoL, hdL, hrestL⟩ := id hm0
  have nL : h₀.get? env.locals = none := F.off _ F.fs.loc
  have fm : [env].filterMap (·.frame) = [env.locals] := by simp [hfr]
  refine other_raise (s := { s with heap := H1, toks := tk1 }) (base := h₀) (mean := mean) ⟨rfl, F1.base, ⟨by rw [F.fs.kind]; decide, ⟨env.locals, oL, hfr, nL, hoL, ?_⟩, trivial⟩⟩ F1.okh.1 (T.keeps F1.base) F.ok.1 T ?_ hx hz fun g' L' h' m' t' tk KT Fr' => ?_
  · intro vs q
    rw [hdL] at q; cases q
  · intro b hb
    rw [fm] at hb
    simp at hb
    subst hb
    exact ⟨oL, esL, epL, hoL, hdL⟩
  · rw [fm] at KT
    have F2 : FW (c1 w mg mb) h₀ env Z U h' ρ := by
      refine F1.turn (fun b o nb e => Fr'.keep _ _ (KT.other b o e (by simpa using nb))) fun m₁ hm₁ => ?_
      obtain ⟨o, es, ep, ho, hd, hr⟩ := hm₁
      obtain ⟨sl, hs⟩ := KT.frame _ o ho (by simp)
      exact ⟨_, es, ep, Fr'.keep _ _ hs, hd, hr⟩
    have kb : KB U s.heap h' := fun b o nb e => Fr'.keep _ _ (KT.other b o (g1 b o e) (by simp; rintro rfl; exact nb F.fs.loc))
    refine h2 _ Z U { s with heap := h', toks := tk } _ ao F2.okh F2.fs fun v2 h3 tk3 g3 dv3 => ?_
    cases dv3 with | str _ t3 =>
    refine ne_str ?_
    rw [show (x != x) = false by simp]
    refine wpAny_truthy_bool ?_
    refine wpAny_execs_nil ?_
    have F3 := F2.g g3
    exact ⟨h3, tk3, U, .next ρ, rfl, F3.base, fun b o nb e => g3 b o (kb b o nb e), fun _ q => .inl q, F.off, F3, p⟩
end
end
section
open PySem PySem.W PyProof.Rows PySem.Calls
set_option autoImplicit false
-- tabs
theorem wsRun_sp (x : Nat) (r : List Nat) (h1 : x ≠ 32) (h2 : x ≠ 9) : ∀ (m : Nat) (b k : Nat), wsRun (List.replicate m 32 ++ (9 :: x :: r)) ⟨[], b, k, 0⟩ = ⟨bump [] (b + m), 0, k + m + 1, 1⟩
  | 0, b, k => by simp [wsRun, h1, h2]
  | m + 1, b, k => by
    rw [List.replicate_succ, List.cons_append, wsRun, if_pos rfl]
    dsimp only
    rw [wsRun_sp x r h1 h2 m (b + 1) (k + 1)]
    congr 1
    · congr 1; omega
    · omega
theorem rep_flat (k : Nat) : (List.replicate k [(0 : Int)]).flatten = List.replicate k 0 := by
  induction k with
  | zero => rfl
  | succ k ih => rw [List.replicate_succ, List.flatten_cons, ih]; rfl
theorem bump_nil (m : Nat) : bump [] m = List.replicate m 0 ++ [1] := by
  have e : ext [] m = List.replicate (m + 1) 0 := by
    unfold ext
    rw [if_pos (by simp), rep_flat]
    simp
  unfold bump
  rw [e, List.replicate_succ']
  rw [List.set_append_right _ _ (by simp)]
  simp [List.getD_eq_getElem?_getD]
theorem wsRun_one (m x : Nat) (r : List Nat) (h1 : x ≠ 32) (h2 : x ≠ 9) : wsRun (List.replicate m 32 ++ (9 :: x :: r)) ⟨[], 0, 0, 0⟩ = ⟨List.replicate m 0 ++ [1], 0, m + 1, 1⟩ := by
  rw [wsRun_sp x r h1 h2, bump_nil]; simp
theorem ilsum_zero (ts m : Nat) : ∀ k, ts + k ≤ m → ilsum ts (List.replicate m 0 ++ [1]) k = 0
  | 0, _ => rfl
  | k + 1, h => by
    rw [ilsum, ilsum_zero ts m k (by omega)]
    rw [List.getD_eq_getElem?_getD, List.getElem?_append_left (by simp; omega)]
    rw [List.getElem?_replicate]
    rw [if_pos (by omega)]
    simp
theorem indent_one {ts m b n nt : Nat} (h : 1 ≤ ts) : indent ⟨List.replicate m 0 ++ [1], b, n, nt⟩ ts = b + ts * ((m / ts : Nat) + nt) := by
  unfold indent
  congr 2
  congr 1
  have hl : (List.replicate m (0 : Int) ++ [1]).length = m + 1 := by simp
  show ilsum ts (List.replicate m 0 ++ [1]) ((List.replicate m (0 : Int) ++ [1]).length - ts) = _
  rw [hl]
  by_cases hm : ts ≤ m
  · rw [show m + 1 - ts = (m - ts) + 1 by omega, ilsum, ilsum_zero ts m (m - ts) (by omega), show ts + (m - ts) = m by omega]
    rw [List.getD_eq_getElem?_getD, List.getElem?_append_right (by simp)]
    simp
  · rw [show m + 1 - ts = 0 by omega, Nat.div_eq_of_lt (by omega)]
    rfl

-- Terras
theorem rl_eq {rs : Rl} {k m m' : Nat} (h : m % 2 = m' % 2) : rl rs k m = rl rs k m' := by unfold rl; rw [h]
theorem mI_odd {rs : Rl} (ho : ∀ k m, (rl rs k m).1 % 2 = 1) (n : Nat) : ∀ k, mI rs n k % 2 = 1
  | 0 => rfl
  | k + 1 => by
    show ((rl rs k (nI rs n k)).1 * mI rs n k) % 2 = 1
    rw [Nat.mul_mod, ho, mI_odd ho n k]
theorem terras {rs : Rl} (n : Nat) : ∀ (k q : Nat), nI rs (n + 2 ^ k * q) k = nI rs n k + q * mI rs n k ∧ (∀ j, j < k → nI rs (n + 2 ^ k * q) j % 2 = nI rs n j % 2) ∧ mI rs (n + 2 ^ k * q) k = mI rs n k
  | 0, q => ⟨by simp [nI, mI], by simp, rfl⟩
  | k + 1, q => by
    obtain ⟨e, p, m⟩ := terras n k (2 * q)
    have ea : n + 2 ^ k * (2 * q) = n + 2 ^ (k + 1) * q := by rw [Nat.pow_succ, Nat.mul_assoc]
    rw [ea] at e p m
    have e2 : nI rs (n + 2 ^ (k + 1) * q) k = nI rs n k + 2 * (q * mI rs n k) := by rw [e, Nat.mul_assoc]
    have par : nI rs (n + 2 ^ (k + 1) * q) k % 2 = nI rs n k % 2 := by rw [e2]; omega
    have half : nI rs (n + 2 ^ (k + 1) * q) k / 2 = nI rs n k / 2 + q * mI rs n k := by rw [e2]; omega
    refine ⟨?_, fun j hj => ?_, ?_⟩
    · show (rl rs k (nI rs (n + 2 ^ (k + 1) * q) k)).1 * (nI rs (n + 2 ^ (k + 1) * q) k / 2) + (rl rs k (nI rs (n + 2 ^ (k + 1) * q) k)).2 = ((rl rs k (nI rs n k)).1 * (nI rs n k / 2) + (rl rs k (nI rs n k)).2) + q * ((rl rs k (nI rs n k)).1 * mI rs n k)
      rw [rl_eq par, half, Nat.mul_add]
      have : (rl rs k (nI rs n k)).1 * (q * mI rs n k) = q * ((rl rs k (nI rs n k)).1 * mI rs n k) := by rw [← Nat.mul_assoc, ← Nat.mul_assoc, Nat.mul_comm q]
      omega
    · rcases Nat.lt_succ_iff_lt_or_eq.mp hj with h | h
      · exact p j h
      · subst h; exact par
    · show (rl rs k (nI rs (n + 2 ^ (k + 1) * q) k)).1 * mI rs (n + 2 ^ (k + 1) * q) k = (rl rs k (nI rs n k)).1 * mI rs n k
      rw [rl_eq par, m]
theorem terras_iff {rs : Rl} (ho : ∀ k m, (rl rs k m).1 % 2 = 1) (n a : Nat) : ∀ k, (∀ j, j < k → nI rs (n + a) j % 2 = nI rs n j % 2) ↔ a % 2 ^ k = 0 := by
  intro k
  constructor
  · induction k with
    | zero => intro _; simp [Nat.mod_one]
    | succ k ih =>
      intro h
      have h1 := ih fun j hj => h j (by omega)
      obtain ⟨q, rfl⟩ := Nat.dvd_of_mod_eq_zero h1
      obtain ⟨e, _, _⟩ := terras (rs := rs) n k q
      have h2 := h k (by omega)
      rw [e] at h2
      have h3 := mI_odd ho n k
      have h4 : (q * mI rs n k) % 2 = 0 := by omega
      have h5 : q % 2 = 0 := by
        rw [Nat.mul_mod, h3] at h4
        omega
      obtain ⟨p, rfl⟩ := Nat.dvd_of_mod_eq_zero h5
      rw [← Nat.mul_assoc, ← Nat.pow_succ]
      exact Nat.mul_mod_right _ _
  · intro h
    obtain ⟨q, rfl⟩ := Nat.dvd_of_mod_eq_zero h
    exact (terras n k q).2.1
theorem terras_far {rs : Rl} (n a k : Nat) (h : a % 2 ^ k = 0) : (((nI rs (n + a) k : Nat) : Int) - (nI rs n k : Nat)) * (2 ^ k : Nat) = a * (mI rs n k : Nat) := by
  obtain ⟨q, rfl⟩ := Nat.dvd_of_mod_eq_zero h
  rw [(terras n k q).1]
  push_cast
  rw [show ((nI rs n k : Nat) : Int) + (q : Int) * (mI rs n k : Nat) - (nI rs n k : Nat) = (q : Int) * (mI rs n k : Nat) by omega, Int.mul_comm, Int.mul_assoc]

-- words of three letters
theorem ell1 (w0 w1 w2 o0 o1 o2 : Nat) : ellM [[w0], []] [o0, o1, o2] = decide (w0 = o0) := by
  by_cases h0 : w0 = o0
  · (try subst_vars); simp_all [ellM, st1, st2, loopF, findAt, List.isPrefixOf, List.isSuffixOf] <;> (first | rfl | decide)
  · (try subst_vars); simp_all [ellM, st1, st2, loopF, findAt, List.isPrefixOf, List.isSuffixOf] <;> (first | rfl | decide)
theorem ell2 (w0 w1 w2 o0 o1 o2 : Nat) : ellM [[w0, w1], []] [o0, o1, o2] = decide (w0 = o0 ∧ w1 = o1) := by
  by_cases h0 : w0 = o0
  · by_cases h1 : w1 = o1
    · (try subst_vars); simp_all [ellM, st1, st2, loopF, findAt, List.isPrefixOf, List.isSuffixOf] <;> (first | rfl | decide)
    · (try subst_vars); simp_all [ellM, st1, st2, loopF, findAt, List.isPrefixOf, List.isSuffixOf] <;> (first | rfl | decide)
  · by_cases h1 : w1 = o1
    · (try subst_vars); simp_all [ellM, st1, st2, loopF, findAt, List.isPrefixOf, List.isSuffixOf] <;> (first | rfl | decide)
    · (try subst_vars); simp_all [ellM, st1, st2, loopF, findAt, List.isPrefixOf, List.isSuffixOf] <;> (first | rfl | decide)
theorem ell3 (w0 w1 w2 o0 o1 o2 : Nat) : ellM [[w0, w1, w2], []] [o0, o1, o2] = decide (w0 = o0 ∧ w1 = o1 ∧ w2 = o2) := by
  by_cases h0 : w0 = o0
  · by_cases h1 : w1 = o1
    · by_cases h2 : w2 = o2
      · (try subst_vars); simp_all [ellM, st1, st2, loopF, findAt, List.isPrefixOf, List.isSuffixOf] <;> (first | rfl | decide)
      · (try subst_vars); simp_all [ellM, st1, st2, loopF, findAt, List.isPrefixOf, List.isSuffixOf] <;> (first | rfl | decide)
    · by_cases h2 : w2 = o2
      · (try subst_vars); simp_all [ellM, st1, st2, loopF, findAt, List.isPrefixOf, List.isSuffixOf] <;> (first | rfl | decide)
      · (try subst_vars); simp_all [ellM, st1, st2, loopF, findAt, List.isPrefixOf, List.isSuffixOf] <;> (first | rfl | decide)
  · by_cases h1 : w1 = o1
    · by_cases h2 : w2 = o2
      · (try subst_vars); simp_all [ellM, st1, st2, loopF, findAt, List.isPrefixOf, List.isSuffixOf] <;> (first | rfl | decide)
      · (try subst_vars); simp_all [ellM, st1, st2, loopF, findAt, List.isPrefixOf, List.isSuffixOf] <;> (first | rfl | decide)
    · by_cases h2 : w2 = o2
      · (try subst_vars); simp_all [ellM, st1, st2, loopF, findAt, List.isPrefixOf, List.isSuffixOf] <;> (first | rfl | decide)
      · (try subst_vars); simp_all [ellM, st1, st2, loopF, findAt, List.isPrefixOf, List.isSuffixOf] <;> (first | rfl | decide)
theorem ell4 (w0 w1 w2 o0 o1 o2 : Nat) : ellM [[w0], [o1, o2]] [o0, o1, o2] = decide (w0 = o0) := by
  by_cases h0 : w0 = o0
  · (try subst_vars); simp_all [ellM, st1, st2, loopF, findAt, List.isPrefixOf, List.isSuffixOf] <;> (first | rfl | decide)
  · (try subst_vars); simp_all [ellM, st1, st2, loopF, findAt, List.isPrefixOf, List.isSuffixOf] <;> (first | rfl | decide)
theorem ell5 (w0 w1 w2 o0 o1 o2 : Nat) : ellM [[w0, w1], [o2]] [o0, o1, o2] = decide (w0 = o0 ∧ w1 = o1) := by
  by_cases h0 : w0 = o0
  · by_cases h1 : w1 = o1
    · (try subst_vars); simp_all [ellM, st1, st2, loopF, findAt, List.isPrefixOf, List.isSuffixOf] <;> (first | rfl | decide)
    · (try subst_vars); simp_all [ellM, st1, st2, loopF, findAt, List.isPrefixOf, List.isSuffixOf] <;> (first | rfl | decide)
  · by_cases h1 : w1 = o1
    · (try subst_vars); simp_all [ellM, st1, st2, loopF, findAt, List.isPrefixOf, List.isSuffixOf] <;> (first | rfl | decide)
    · (try subst_vars); simp_all [ellM, st1, st2, loopF, findAt, List.isPrefixOf, List.isSuffixOf] <;> (first | rfl | decide)
theorem ell6 (w0 w1 w2 o0 o1 o2 : Nat) : ellM [[w0], [o0, o1, o2]] [o0, o1, o2] = false := by
  by_cases h0 : w0 = o0
  · (try subst_vars); simp_all [ellM, st1, st2, loopF, findAt, List.isPrefixOf, List.isSuffixOf] <;> (first | rfl | decide)
  · (try subst_vars); simp_all [ellM, st1, st2, loopF, findAt, List.isPrefixOf, List.isSuffixOf] <;> (first | rfl | decide)
theorem ell7 (w0 w1 w2 o0 o1 o2 : Nat) : ellM [[w0, w1], [o1, o2]] [o0, o1, o2] = false := by
  by_cases h0 : w0 = o0
  · by_cases h1 : w1 = o1
    · (try subst_vars); simp_all [ellM, st1, st2, loopF, findAt, List.isPrefixOf, List.isSuffixOf] <;> (first | rfl | decide)
    · (try subst_vars); simp_all [ellM, st1, st2, loopF, findAt, List.isPrefixOf, List.isSuffixOf] <;> (first | rfl | decide)
  · by_cases h1 : w1 = o1
    · (try subst_vars); simp_all [ellM, st1, st2, loopF, findAt, List.isPrefixOf, List.isSuffixOf] <;> (first | rfl | decide)
    · (try subst_vars); simp_all [ellM, st1, st2, loopF, findAt, List.isPrefixOf, List.isSuffixOf] <;> (first | rfl | decide)
theorem ell8 (w0 w1 w2 o0 o1 o2 : Nat) : ellM [[w0, w1, w2], [o2]] [o0, o1, o2] = false := by
  by_cases h0 : w0 = o0
  · by_cases h1 : w1 = o1
    · by_cases h2 : w2 = o2
      · (try subst_vars); simp_all [ellM, st1, st2, loopF, findAt, List.isPrefixOf, List.isSuffixOf] <;> (first | rfl | decide)
      · (try subst_vars); simp_all [ellM, st1, st2, loopF, findAt, List.isPrefixOf, List.isSuffixOf] <;> (first | rfl | decide)
    · by_cases h2 : w2 = o2
      · (try subst_vars); simp_all [ellM, st1, st2, loopF, findAt, List.isPrefixOf, List.isSuffixOf] <;> (first | rfl | decide)
      · (try subst_vars); simp_all [ellM, st1, st2, loopF, findAt, List.isPrefixOf, List.isSuffixOf] <;> (first | rfl | decide)
  · by_cases h1 : w1 = o1
    · by_cases h2 : w2 = o2
      · (try subst_vars); simp_all [ellM, st1, st2, loopF, findAt, List.isPrefixOf, List.isSuffixOf] <;> (first | rfl | decide)
      · (try subst_vars); simp_all [ellM, st1, st2, loopF, findAt, List.isPrefixOf, List.isSuffixOf] <;> (first | rfl | decide)
    · by_cases h2 : w2 = o2
      · (try subst_vars); simp_all [ellM, st1, st2, loopF, findAt, List.isPrefixOf, List.isSuffixOf] <;> (first | rfl | decide)
      · (try subst_vars); simp_all [ellM, st1, st2, loopF, findAt, List.isPrefixOf, List.isSuffixOf] <;> (first | rfl | decide)
theorem ell9 (w0 w1 w2 o0 o1 o2 : Nat) : ellM [[w0], [o2]] [o0, o1, o2] = decide (w0 = o0) := by
  by_cases h0 : w0 = o0
  · (try subst_vars); simp_all [ellM, st1, st2, loopF, findAt, List.isPrefixOf, List.isSuffixOf] <;> (first | rfl | decide)
  · (try subst_vars); simp_all [ellM, st1, st2, loopF, findAt, List.isPrefixOf, List.isSuffixOf] <;> (first | rfl | decide)
theorem ell10 (w0 w1 w2 o0 o1 o2 : Nat) : ellM [[w0], [w1, w2]] [o0, o1, o2] = decide (w0 = o0 ∧ w1 = o1 ∧ w2 = o2) := by
  by_cases h0 : w0 = o0
  · by_cases h1 : w1 = o1
    · by_cases h2 : w2 = o2
      · (try subst_vars); simp_all [ellM, st1, st2, loopF, findAt, List.isPrefixOf, List.isSuffixOf] <;> (first | rfl | decide)
      · (try subst_vars); simp_all [ellM, st1, st2, loopF, findAt, List.isPrefixOf, List.isSuffixOf] <;> (first | rfl | decide)
    · by_cases h2 : w2 = o2
      · (try subst_vars); simp_all [ellM, st1, st2, loopF, findAt, List.isPrefixOf, List.isSuffixOf] <;> (first | rfl | decide)
      · (try subst_vars); simp_all [ellM, st1, st2, loopF, findAt, List.isPrefixOf, List.isSuffixOf] <;> (first | rfl | decide)
  · by_cases h1 : w1 = o1
    · by_cases h2 : w2 = o2
      · (try subst_vars); simp_all [ellM, st1, st2, loopF, findAt, List.isPrefixOf, List.isSuffixOf] <;> (first | rfl | decide)
      · (try subst_vars); simp_all [ellM, st1, st2, loopF, findAt, List.isPrefixOf, List.isSuffixOf] <;> (first | rfl | decide)
    · by_cases h2 : w2 = o2
      · (try subst_vars); simp_all [ellM, st1, st2, loopF, findAt, List.isPrefixOf, List.isSuffixOf] <;> (first | rfl | decide)
      · (try subst_vars); simp_all [ellM, st1, st2, loopF, findAt, List.isPrefixOf, List.isSuffixOf] <;> (first | rfl | decide)
theorem find_mid (w1 o0 o1 o2 : Nat) : findAt [o0, o1, o2] [w1] 1 2 = if w1 = o1 then some 1 else none := by
  unfold findAt
  rw [show List.range' 1 (2 + 1 - 1) = [1, 2] from rfl]
  by_cases h : w1 = o1
  · subst h; simp [List.find?, List.isPrefixOf]
  · have : (w1 == o1) = false := by simpa using h
    simp [List.find?, List.isPrefixOf, h, this]
theorem ell11 (w0 w1 w2 o0 o1 o2 : Nat) : ellM [[w0], [w1], [w2]] [o0, o1, o2] = decide (w0 = o0 ∧ w1 = o1 ∧ w2 = o2) := by
  by_cases h0 : w0 = o0
  · by_cases h2 : w2 = o2
    · subst h0 h2
      have e1 : st1 [[w0], [w1], [w2]] [w0, o1, w2] = some (1, [[w1], [w2]]) := by simp [st1]
      have e2 : st2 [[w1], [w2]] [w0, o1, w2] = some (2, [[w1]]) := by simp [st2, List.isSuffixOf, List.isPrefixOf]
      unfold ellM
      rw [e1]
      dsimp only
      rw [e2]
      dsimp only
      rw [if_neg (by decide)]
      unfold loopF
      rw [find_mid]
      by_cases h1 : w1 = o1
      · subst h1; simp [loopF]
      · simp [h1]
    · have e1 : st1 [[w0], [w1], [w2]] [o0, o1, o2] = some (1, [[w1], [w2]]) := by subst h0; simp [st1]
      have e2 : st2 [[w1], [w2]] [o0, o1, o2] = none := by simp [st2, List.isSuffixOf, List.isPrefixOf, h2]
      unfold ellM
      rw [e1]
      dsimp only
      rw [e2]
      simp [h2]
  · have e1 : st1 [[w0], [w1], [w2]] [o0, o1, o2] = none := by simp [st1, List.isPrefixOf, h0]
    unfold ellM
    rw [e1]
    simp [h0]
end
section
open PySem PySem.W PyProof.Rows PySem.Calls
set_option autoImplicit false
set_option maxRecDepth 100000
section
variable {w : World} {mg mb : Str → Option Value}
theorem ell_eq {n : Nat} {p g : List Nat} (h : 46 ∉ p) : Fun (c1 w mg mb) (n + 1) (.ref 28) [.str (S p), .str (S g)] (.bool (decide (p = g))) := by
  refine' Fun.def (names := ["want", "got"]) (ho := rfl) (hcd := by exact rfl) (hbind := ?hbind) (hloc := by decide +kernel) (hl := rfl) (run := ?run) (hcell := by decide +kernel)
  case hbind => intro vs h; obtain ⟨a, b, rfl⟩ := vs2 h; rfl
  intro L
  dsimp only [bindD]
  obtain ⟨tm, hm⟩ := g_marker (w := w)
  refine Runs.ifT (Tests.conv (Tests.cmp (Evals.globStr hm) (by walk_at "ev") Op2.notins) (by rw [contains_free h]; rfl)) ?_
  exact Runs.ret (Evals.cmp (by walk_at "ev") (by walk_at "ev") Op2.eqS) (.inl rfl)
/-- a code of three figures -/
theorem lt_more {P : Nat → Prop} {n : Nat} (h : ∀ a < n, P a) (hn : P n) : ∀ a < n + 1, P a := fun a ha => (Nat.lt_succ_iff_lt_or_eq.mp ha).elim (h a) fun e => e ▸ hn
theorem code_0 : ∀ k < 100, (Str.ofString (toString ((100 + (100 * 0 + k) : Nat) : Int))) = S [48 + (100 + (100 * 0 + k)) / 100, 48 + (100 + (100 * 0 + k)) / 10 % 10, 48 + (100 + (100 * 0 + k)) % 10] := by decide +kernel
theorem code_1 : ∀ k < 100, (Str.ofString (toString ((100 + (100 * 1 + k) : Nat) : Int))) = S [48 + (100 + (100 * 1 + k)) / 100, 48 + (100 + (100 * 1 + k)) / 10 % 10, 48 + (100 + (100 * 1 + k)) % 10] := by decide +kernel
theorem code_2 : ∀ k < 100, (Str.ofString (toString ((100 + (100 * 2 + k) : Nat) : Int))) = S [48 + (100 + (100 * 2 + k)) / 100, 48 + (100 + (100 * 2 + k)) / 10 % 10, 48 + (100 + (100 * 2 + k)) % 10] := by decide +kernel
theorem code_3 : ∀ k < 100, (Str.ofString (toString ((100 + (100 * 3 + k) : Nat) : Int))) = S [48 + (100 + (100 * 3 + k)) / 100, 48 + (100 + (100 * 3 + k)) / 10 % 10, 48 + (100 + (100 * 3 + k)) % 10] := by decide +kernel
theorem code_4 : ∀ k < 100, (Str.ofString (toString ((100 + (100 * 4 + k) : Nat) : Int))) = S [48 + (100 + (100 * 4 + k)) / 100, 48 + (100 + (100 * 4 + k)) / 10 % 10, 48 + (100 + (100 * 4 + k)) % 10] := by decide +kernel
theorem code_5 : ∀ k < 100, (Str.ofString (toString ((100 + (100 * 5 + k) : Nat) : Int))) = S [48 + (100 + (100 * 5 + k)) / 100, 48 + (100 + (100 * 5 + k)) / 10 % 10, 48 + (100 + (100 * 5 + k)) % 10] := by decide +kernel
theorem code_6 : ∀ k < 100, (Str.ofString (toString ((100 + (100 * 6 + k) : Nat) : Int))) = S [48 + (100 + (100 * 6 + k)) / 100, 48 + (100 + (100 * 6 + k)) / 10 % 10, 48 + (100 + (100 * 6 + k)) % 10] := by decide +kernel
theorem code_7 : ∀ k < 100, (Str.ofString (toString ((100 + (100 * 7 + k) : Nat) : Int))) = S [48 + (100 + (100 * 7 + k)) / 100, 48 + (100 + (100 * 7 + k)) / 10 % 10, 48 + (100 + (100 * 7 + k)) % 10] := by decide +kernel
theorem code_8 : ∀ k < 100, (Str.ofString (toString ((100 + (100 * 8 + k) : Nat) : Int))) = S [48 + (100 + (100 * 8 + k)) / 100, 48 + (100 + (100 * 8 + k)) / 10 % 10, 48 + (100 + (100 * 8 + k)) % 10] := by decide +kernel
theorem code_text (k : Nat) (hk : k < 900) : (Str.ofString (toString ((100 + k : Nat) : Int))) = S [48 + (100 + k) / 100, 48 + (100 + k) / 10 % 10, 48 + (100 + k) % 10] := by
  have := @lt_more (fun j => ∀ k < 100, (Str.ofString (toString ((100 + (100 * j + k) : Nat) : Int))) = S [48 + (100 + (100 * j + k)) / 100, 48 + (100 + (100 * j + k)) / 10 % 10, 48 + (100 + (100 * j + k)) % 10]) 8 (lt_more (lt_more (lt_more (lt_more (lt_more (lt_more (lt_more (lt_more (fun _ h => absurd h (Nat.not_lt_zero _)) code_0) code_1) code_2) code_3) code_4) code_5) code_6) code_7) code_8 (k / 100) (by omega) (k % 100) (by omega)
  rwa [Nat.div_add_mod] at this
end
end
section
open PySem PySem.W PyProof.Rows PySem.Calls
set_option autoImplicit false
set_option maxRecDepth 100000
section
variable {w : World} {mg mb : Str → Option Value}
theorem g_sum : nsIn (Mine.hd1.heap_39 w.params) mainGlobals (Str.ofString "sum") = some none := by rfl
theorem g_chr : nsIn (Mine.hd1.heap_39 w.params) mainGlobals (Str.ofString "chr") = some none := by rfl
theorem g_str : nsIn (Mine.hd1.heap_39 w.params) mainGlobals (Str.ofString "str") = some none := by rfl
theorem g_walk : nsIn (Mine.hd1.heap_39 w.params) mainGlobals (Str.ofString "_law_walk") = some (some (.ref 133)) := by rfl
theorem g_ell : nsIn (Mine.hd1.heap_39 w.params) mainGlobals (Str.ofString "_ellipsis_match") = some (some (.ref 28)) := by rfl


theorem ao_of (env : Env) : AOk (c1 w mg mb) 8 (callerA.deeper env) := ⟨rfl, by rw [depth_deeper, depth_caller]; decide, by rw [Around.deeper_units]; decide, trivial⟩
/-- the script's eight draws -/
noncomputable def drN (ns : List Int) : List Nat := (ns.take 8).map (fun x => (x % 1000000).toNat) ++ ([0, 5, 0, 5, 0, 5, 7, 5] : List Nat).drop (ns.take 8).length
theorem drN_len (ns : List Int) : (drN ns).length = 8 := by
  unfold drN
  simp only [List.length_append, List.length_map, List.length_drop]
  simp
  omega
theorem drN_lt (ns : List Int) : ∀ x ∈ drN ns, x < 1000000 := by
  intro x hx
  unfold drN at hx
  rcases List.mem_append.mp hx with h | h
  · obtain ⟨y, _, rfl⟩ := List.mem_map.mp h
    have := Int.emod_lt_of_pos y (show (0 : Int) < 1000000 by decide)
    omega
  · have := List.mem_of_mem_drop h
    simp at this
    omega
theorem dslice_from (L : List D) (k : Nat) (h : k ≤ L.length) : dslice L (some k) none = L.drop k := by
  unfold dslice
  have e : clipAt L.length k = k := by have := clipAt_cast L.length k; omega
  simp only [Option.elim, e]
  exact List.take_of_length_le (by rw [List.length_drop]; omega)
theorem eight {l : List Nat} (h : l.length = 8) : ∃ a b c d e f g i, l = [a, b, c, d, e, f, g, i] := by
  match l, h with
  | [a, b, c, d, e, f, g, i], _ => exact ⟨a, b, c, d, e, f, g, i, rfl⟩
noncomputable def rulesOf (l : List Nat) : Rl := l.map fun x => (1 + x % 2 * 2, x / 2 % 4)
noncomputable def endOf (k : Nat) : List Nat := ([[], [34], [34, 32, 109, 97, 100, 101], [34, 10, 34, 98, 34, 32, 34]] : List (List Nat)).getD k []
theorem endOf_ok (k : Nat) : go257 (endOf k) = [] ∧ (endOf k).length ≤ 10 := by
  match k with
  | 0 => exact ⟨by rfl, by decide⟩
  | 1 => exact ⟨by rfl, by decide⟩
  | 2 => exact ⟨by rfl, by decide⟩
  | 3 => exact ⟨by rfl, by decide⟩
  | k + 4 => exact ⟨by rfl, by simp [endOf]⟩
theorem rulesOf_ok (l : List Nat) : ∀ p ∈ rulesOf l, p.1 ≤ 3 ∧ p.2 ≤ 3 ∧ p.1 % 2 = 1 := by
  intro p hp
  obtain ⟨x, _, rfl⟩ := List.mem_map.mp hp
  dsimp only
  omega
theorem ok_e : okD (.lst [.str (S [])]) = true := by decide +kernel
theorem dash_ok {l r : List Nat} (h : 5 ≤ l.length) : sl (l ++ r) none (some 3) = l.take 3 ∧ sl (l ++ r) (some 3) (some 5) = (l.drop 3).take 2 := by
  constructor
  · rw [show ((3 : Int)) = ((3 : Nat) : Int) from rfl, sl_to _ 3 (by simp; omega), List.take_append_of_le_length (by omega)]
  · rw [show ((3 : Int)) = ((3 : Nat) : Int) from rfl, show ((5 : Int)) = ((5 : Nat) : Int) from rfl, sl_mid _ 3 5 (by simp; omega) (by decide), List.drop_append_of_le_length (by omega), List.take_append_of_le_length (by simp; omega)]
/-- what stands in the frame after the replies -/
structure Mid (ρ : Rho) (here sg d7 : Nat) (e : List Nat) (rs : Rl) : Prop where
  hh : here < 8
  hs : 97 ≤ sg ∧ sg ≤ 50096
  he : go257 e = []
  hel : e.length ≤ 10
  hrl : rs.length = 6
  hrs : ∀ p ∈ rs, p.1 ≤ 3 ∧ p.2 ≤ 3 ∧ p.1 % 2 = 1
  hd : d7 < 1000000
  v1 : ∃ ds, ρ "draws" = some (.fz (.lst ds)) ∧ ds[7]? = some (.int (d7 : Nat))
  v2 : ρ "rules" = some (.fz (.lst (rs.map DP)))
  v3 : ρ "signs" = some (.fz (.lst [.str (S [sg]), .str (S [sg + 1]), .str (S [sg + 2])]))
  v4 : ρ "end" = some (.fz (.str (S e)))
  v5 : ρ "here" = some (.fz (.int (here : Nat)))
noncomputable abbrev NI (k : Nat) : D := .int ((k : Nat) : Int)
theorem q_ind : findIn (Mine.hd1.heap_39 w.params) (.ref 122) (Str.ofString "indent_level") = some (some (.ref 91)) := by rfl
theorem nI_le {rs : Rl} (hr : ∀ p ∈ rs, p.1 ≤ 3 ∧ p.2 ≤ 3 ∧ p.1 % 2 = 1) (n0 : Nat) (hn : n0 ≤ 100) : ∀ k, k ≤ 3 → nI rs n0 k ≤ 1000 := by
  have hrl : ∀ k m, (rl rs k m).1 ≤ 3 ∧ (rl rs k m).2 ≤ 3 := fun k m => by
    unfold rl
    rw [List.getD_eq_getElem?_getD]
    cases q : rs[2 * k + m % 2]? with
    | none => simp
    | some p => have := hr p (List.mem_of_getElem? q); exact ⟨this.1, this.2.1⟩
  have hb : ∀ k, nI rs n0 (k + 1) ≤ 2 * nI rs n0 k + 3 := fun k => by
    have h := hrl k (nI rs n0 k)
    have : (rl rs k (nI rs n0 k)).1 * (nI rs n0 k / 2) ≤ 3 * (nI rs n0 k / 2) := Nat.mul_le_mul_right _ h.1
    show (rl rs k (nI rs n0 k)).1 * (nI rs n0 k / 2) + (rl rs k (nI rs n0 k)).2 ≤ _
    omega
  have h0 : nI rs n0 0 = n0 := rfl
  have h1 : nI rs n0 1 ≤ 2 * nI rs n0 0 + 3 := hb 0
  have h2 : nI rs n0 2 ≤ 2 * nI rs n0 1 + 3 := hb 1
  have h3 : nI rs n0 3 ≤ 2 * nI rs n0 2 + 3 := hb 2
  intro k hk
  match k, hk with
  | 0, _ => omega
  | 1, _ => omega
  | 2, _ => omega
  | 3, _ => omega
noncomputable def lv (m ts : Nat) : Nat := ts * (m / ts + 1)
structure Mid2 (ρ : Rho) (here sg d7 : Nat) (e : List Nat) (rs : Rl) : Prop where
  m : Mid ρ here sg d7 e rs
  w1 : ρ "stops" = some (.fz (.lst [NI (lv here 2), NI (lv here 4), NI (lv here 8)]))
  w2 : ρ "word" = some (.fz (.str (S (wI rs here sg (sg + 1) 3))))
  w3 : ρ "steps" = some (.fz (.lst (stepsD rs here 3)))
theorem strOk_S {l : List Nat} (h : ∀ x ∈ l, x < 0x110000) : PyData.strOk (S l) = true := by
  unfold PyData.strOk
  simp [S]
  exact h
theorem ok_ints (a b c : Int) : okD (.lst [.int a, .int b, .int c]) = true := by simp [okD, okDs]
theorem ok_names {n s2 : Nat} {rs : Rl} (hs : s2 < 0x110000) : okD (.lst (namesD rs n s2 3)) = true := by
  rw [okD, okDs_iff]
  intro d hd
  unfold namesD at hd
  obtain ⟨j, _, rfl⟩ := List.mem_map.mp hd
  rw [okD]
  refine strOk_S fun x hx => ?_
  unfold nm at hx
  rcases List.mem_append.mp hx with h | h
  · rw [List.eq_of_mem_replicate h]; decide
  · split at h
    · cases h
    · cases h with
      | head => exact hs
      | tail _ h => cases h
/-- what one size shows -/
structure Turn (w : World) (mg mb : Str → Option Value) (here aw k sz : Nat) (rs : Rl) (wd od : List Nat) (q : Bool) : Prop where
  hk : 1 ≤ k ∧ k ≤ 3
  hz : sz = 2 ^ k
  h8 : sz ≤ 8
  s0 : [NI (lv here 2), NI (lv here 4), NI (lv here 8)][k - 1]? = some (NI (lv here sz))
  a1 : (((lv here sz : Nat) : Int) - (here : Nat) == ((lv (here + aw) sz : Nat) : Int) - (here : Nat) - (aw : Nat)) = q
  a2 : (((aw : Nat) : Int) % (sz : Nat) == 0) = q
  e1 : ∀ n, Fun (c1 w mg mb) (n + 1) (.ref 28) [.str (S (wd.take k ++ dots)), .str (S od)] (.bool q)
  e2 : ∀ n, Fun (c1 w mg mb) (n + 1) (.ref 28) [.str (S (wd.take k ++ dots ++ od.drop k)), .str (S od)] (.bool q)
  e3 : ∀ n, Fun (c1 w mg mb) (n + 1) (.ref 28) [.str (S (wd.take k ++ dots ++ od.drop (k - 1))), .str (S od)] (.bool false)
  fa : q = true → (((nI rs (here + aw) k : Nat) : Int) - (nI rs here k : Nat)) * (sz : Nat) = (aw : Nat) * (mI rs here k : Nat)

theorem lv_all : ∀ here < 8, ∀ aw < 9, ∀ sz ∈ [2, 4, 8], (((lv here sz : Nat) : Int) - (here : Nat) == ((lv (here + aw) sz : Nat) : Int) - (here : Nat) - (aw : Nat)) = decide (aw % sz = 0) := by decide +kernel
theorem lv_like {here aw sz : Nat} (hh : here < 8) (ha : aw ≤ 8) (h : sz ∈ [2, 4, 8]) : (((lv here sz : Nat) : Int) - (here : Nat) == ((lv (here + aw) sz : Nat) : Int) - (here : Nat) - (aw : Nat)) = decide (aw % sz = 0) := lv_all here hh aw (Nat.lt_succ_of_le ha) sz h
theorem wI3 (rs : Rl) (n a b : Nat) : wI rs n a b 3 = [if nI rs n 0 % 2 = 0 then a else b, if nI rs n 1 % 2 = 0 then a else b, if nI rs n 2 % 2 = 0 then a else b] := rfl
theorem sign_iff {a b x y : Nat} (h : a ≠ b) : ((if x % 2 = 0 then a else b) = (if y % 2 = 0 then a else b)) ↔ y % 2 = x % 2 := by
  rcases Nat.mod_two_eq_zero_or_one x with p | p <;> rcases Nat.mod_two_eq_zero_or_one y with q | q <;> rw [p, q] <;> simp [h, Ne.symm h]
theorem q_of {rs : Rl} (ho : ∀ k m, (rl rs k m).1 % 2 = 1) (n aw : Nat) {a b : Nat} (h : a ≠ b) {w0 w1 w2 o0 o1 o2 : Nat} (hw : wI rs n a b 3 = [w0, w1, w2]) (hp : wI rs (n + aw) a b 3 = [o0, o1, o2]) :
    ((w0 = o0) ↔ aw % 2 = 0) ∧ ((w0 = o0 ∧ w1 = o1) ↔ aw % 4 = 0) ∧ ((w0 = o0 ∧ w1 = o1 ∧ w2 = o2) ↔ aw % 8 = 0) := by
  rw [wI3] at hw hp
  cases hw; cases hp
  rw [sign_iff h, sign_iff h, sign_iff h]
  have t1 := terras_iff ho n aw 1
  have t2 := terras_iff ho n aw 2
  have t3 := terras_iff ho n aw 3
  refine ⟨⟨fun q => t1.mp fun j hj => ?_, fun q => t1.mpr q 0 (by decide)⟩, ⟨fun q => t2.mp fun j hj => ?_, fun q => ⟨t2.mpr q 0 (by decide), t2.mpr q 1 (by decide)⟩⟩, ⟨fun q => t3.mp fun j hj => ?_, fun q => ⟨t3.mpr q 0 (by decide), t3.mpr q 1 (by decide), t3.mpr q 2 (by decide)⟩⟩⟩
  · match j, hj with
    | 0, _ => exact q
  · match j, hj with
    | 0, _ => exact q.1
    | 1, _ => exact q.2
  · match j, hj with
    | 0, _ => exact q.1
    | 1, _ => exact q.2.1
    | 2, _ => exact q.2.2

theorem ell_at {n : Nat} {want : List Nat} (ps : List (List Nat)) {g : List Nat} {b : Bool} (hw : want = joinD ps) (h2 : 2 ≤ ps.length) (hp : ∀ p ∈ ps, 46 ∉ p) (hz : (joinD ps).length ≤ 900000) (hg : g.length ≤ 1000000) (hb : ellM ps g = b) : Fun (c1 w mg mb) (n + 1) (.ref 28) [.str (S want), .str (S g)] (.bool b) := by
  subst hw hb; exact ell_ok h2 hp hz hg
theorem turns {here aw a b : Nat} {rs : Rl} {w0 w1 w2 o0 o1 o2 : Nat} (ho : ∀ k m, (rl rs k m).1 % 2 = 1) (hh : here < 8) (haw : aw ≤ 8) (ha : 97 ≤ a) (hab : b = a + 1) (hw : wI rs here a b 3 = [w0, w1, w2]) (hp : wI rs (here + aw) a b 3 = [o0, o1, o2]) :
    Turn w mg mb here aw 1 2 rs [w0, w1, w2] [o0, o1, o2] (decide (aw % 2 = 0)) ∧ Turn w mg mb here aw 2 4 rs [w0, w1, w2] [o0, o1, o2] (decide (aw % 4 = 0)) ∧ Turn w mg mb here aw 3 8 rs [w0, w1, w2] [o0, o1, o2] (decide (aw % 8 = 0)) := by
  obtain ⟨q1, q2, q3⟩ := q_of ho here aw (show a ≠ b by omega) hw hp
  have big : ∀ x, x ∈ [w0, w1, w2] ∨ x ∈ [o0, o1, o2] → 97 ≤ x := by
    rw [← hw, ← hp, wI3, wI3]
    intro x hx
    simp only [List.mem_cons, List.not_mem_nil, or_false] at hx
    rcases hx with (h | h | h) | (h | h | h) <;> (rw [h]; split <;> omega)
  have b0 := big w0 (by simp)
  have b1 := big w1 (by simp)
  have b2 := big w2 (by simp)
  have c0 := big o0 (by simp)
  have c1 := big o1 (by simp)
  have c2 := big o2 (by simp)
  have am : ∀ sz : Nat, 0 < sz → (((aw : Nat) : Int) % (sz : Nat) == 0) = decide (aw % sz = 0) := fun sz hs => by
    rw [show (((aw : Nat) : Int) % (sz : Nat)) = ((aw % sz : Nat) : Int) by push_cast; rfl]
    show decide _ = _
    exact decide_eq_decide.mpr (by omega)
  refine ⟨⟨by decide, rfl, by decide, rfl, lv_like hh haw (by simp), am 2 (by decide), fun n => ?_, fun n => ?_, fun n => ?_, fun q => ?_⟩, ⟨by decide, rfl, by decide, rfl, lv_like hh haw (by simp), am 4 (by decide), fun n => ?_, fun n => ?_, fun n => ?_, fun q => ?_⟩, ⟨by decide, rfl, by decide, rfl, lv_like hh haw (by simp), am 8 (by decide), fun n => ?_, fun n => ?_, fun n => ?_, fun q => ?_⟩⟩
  · exact ell_at [[w0], []] rfl (by simp) (by simp; omega) (by simp [joinD]) (by simp) ((ell1 w0 w1 w2 o0 o1 o2).trans (decide_eq_decide.mpr q1))
  · exact ell_at [[w0], [o1, o2]] rfl (by simp) (by simp; omega) (by simp [joinD]) (by simp) ((ell4 w0 w1 w2 o0 o1 o2).trans (decide_eq_decide.mpr q1))
  · exact ell_at [[w0], [o0, o1, o2]] rfl (by simp) (by simp; omega) (by simp [joinD]) (by simp) (ell6 w0 w1 w2 o0 o1 o2)
  · exact terras_far here aw 1 (by simpa using q)
  · exact ell_at [[w0, w1], []] rfl (by simp) (by simp; omega) (by simp [joinD]) (by simp) ((ell2 w0 w1 w2 o0 o1 o2).trans (decide_eq_decide.mpr q2))
  · exact ell_at [[w0, w1], [o2]] rfl (by simp) (by simp; omega) (by simp [joinD]) (by simp) ((ell5 w0 w1 w2 o0 o1 o2).trans (decide_eq_decide.mpr q2))
  · exact ell_at [[w0, w1], [o1, o2]] rfl (by simp) (by simp; omega) (by simp [joinD]) (by simp) (ell7 w0 w1 w2 o0 o1 o2)
  · exact terras_far here aw 2 (by simpa using q)
  · exact ell_at [[w0, w1, w2], []] rfl (by simp) (by simp; omega) (by simp [joinD]) (by simp) ((ell3 w0 w1 w2 o0 o1 o2).trans (decide_eq_decide.mpr q3))
  · exact ell_at [[w0, w1, w2], []] rfl (by simp) (by simp; omega) (by simp [joinD]) (by simp) ((ell3 w0 w1 w2 o0 o1 o2).trans (decide_eq_decide.mpr q3))
  · exact ell_at [[w0, w1, w2], [o2]] rfl (by simp) (by simp; omega) (by simp [joinD]) (by simp) (ell8 w0 w1 w2 o0 o1 o2)
  · exact terras_far here aw 3 (by simpa using q)

theorem sl_from (l : List Nat) (k : Nat) (h : k ≤ l.length) : sl l (some (k : Int)) none = l.drop k := by
  have e := clipAt_cast l.length (k : Int)
  have e' : clipAt l.length (k : Int) = k := by omega
  unfold sl
  simp only [Option.elim, e']
  exact List.take_of_length_le (by simp)
theorem rl_odd {rs : Rl} (hr : ∀ p ∈ rs, p.1 % 2 = 1) : ∀ k m, (rl rs k m).1 % 2 = 1 := fun k m => by
  unfold rl
  rw [List.getD_eq_getElem?_getD]
  cases q : rs[2 * k + m % 2]? with
  | none => rfl
  | some p => exact hr p (List.mem_of_getElem? q)
theorem am_of (aw : Nat) {sz : Nat} (hs : 0 < sz) : (((aw : Nat) : Int) % (sz : Nat) == 0) = decide (aw % sz = 0) := by
  rw [show (((aw : Nat) : Int) % (sz : Nat)) = ((aw % sz : Nat) : Int) by push_cast; rfl]
  show decide _ = _
  exact decide_eq_decide.mpr (by omega)
structure In3 (ρ : Rho) (here aw sg d7 : Nat) (e : List Nat) (rs : Rl) (od : List Nat) : Prop where
  m : Mid2 ρ here sg d7 e rs
  z1 : ρ "away" = some (.fz (NI aw))
  z2 : ρ "far" = some (.fz (.inst 122 (wsD (List.replicate (here + aw) 32 ++ [9, sg + 1, 9]) ⟨List.replicate (here + aw) 0 ++ [1], 0, here + aw + 1, 1⟩)))
  z3 : ρ "other" = some (.fz (.str (S od)))
  z4 : ρ "leaps" = some (.fz (.lst (stepsD rs (here + aw) 3)))
set_option maxHeartbeats 20000000 in
theorem law_parts : ∃ (name qual : Str) (params : Arguments) (body : List Stmt) (scope : Scope) (dV kV doc pm cdv ct oc : Value) (an od : Option Addr) (osl : Array (Option Value)),
    (Mine.hd1.heap_39 w.params).lookup 145 = some ⟨oc, od, .func (fnOf name qual params body scope dV kV doc pm an cdv ct), osl⟩ ∧
    (∀ (f : Addr) (cd : Value) (qn : Str) (L : Addr) (h₀ : Heap) (Z : AS) (mean : ExcName → Option Value) (ns : List Int),
      Top Mine.hd1.view_39 (looseW Mine.hd1.view_39 [Str.ofString "Whitespace"]) mean mg mb h₀ → ns.length ≤ 63 →
      (∀ ρ here sg d7 e rs, Mid ρ here sg d7 e rs → Runs (c1 w mg mb) 8 (envOfC qn scope L f cd) ρ (body.drop 10) (Ends (.bool true))) →
      RunsAt (callerA.deeper (envOfC qn scope L f cd)) h₀ Z (c1 w mg mb) (envOfC qn scope L f cd) (upd (fun _ => none) "script" (.fz (.lst (ns.map D.int)))) body (Ends (.bool true))) ∧
    (∀ (f : Addr) (cd : Value) (qn : Str) (L : Addr) ρ here sg d7 e rs, Mid ρ here sg d7 e rs →
      (∀ ρ', Mid2 ρ' here sg d7 e rs → Runs (c1 w mg mb) 8 (envOfC qn scope L f cd) ρ' (body.drop 15) (Ends (.bool true))) →
      Runs (c1 w mg mb) 8 (envOfC qn scope L f cd) ρ (body.drop 10) (Ends (.bool true))) ∧
    (∀ (f : Addr) (cd : Value) (qn : Str) (L : Addr) ρ here sg d7 e rs, Mid2 ρ here sg d7 e rs → Runs (c1 w mg mb) 8 (envOfC qn scope L f cd) ρ (body.drop 15) (Ends (.bool true))) := by
  refine ⟨_, _, _, _, _, _, _, _, _, _, _, _, _, _, _, rfl, ?_, ?_, ?_⟩
  · skip
    intro f cd qn L h₀ Z mean ns T hlen KK
    have hsl : dslice (ns.map D.int) none (some 8) = (ns.take 8).map D.int := by
      unfold dslice
      have h8 : clipAt (ns.map D.int).length 8 = min 8 ns.length := by
        have := clipAt_cast (ns.map D.int).length 8
        rw [List.length_map] at this ⊢
        omega
      simp only [Option.elim, h8]
      rw [List.drop_zero, Nat.sub_zero, ← List.map_take]
      congr 1
      exact List.take_eq_take_iff.mpr (by omega)
    -- draws
    refine RunsAt.step (ao_of _) (Run1.assignComp (cl := []) (ρ₀ := fun _ => none) (fun d => match d with | .int x => some (.int (x % 1000000)) | _ => none) (.inl rfl) (Evals.conv (Evals.slice_lst (by walk_at "ev") (by walk_at "part") (by walk_at "part") (by rw [List.length_map, sizeLine_eq]; omega)) (by rw [hsl])) Iters.lst Inner.none ?_ ?_ ?_ (hcl := trivial))
    · intro C k d hk
      rw [List.getElem?_map] at hk
      obtain ⟨x, hx, rfl⟩ := Option.map_eq_some_iff.mp hk
      refine Asg.name (.inl rfl) ?_
      refine ⟨sub_upd (fun _ _ e => e) rfl, true, rfl, by simp, fun _ => ⟨_, Evals.bin (by walk_at "ev") (Evals.bin (by walk_at "ev") (by walk_at "ev") (Op2.pow (by decide) (by decide) (by decide))) (Op2.fmodB (by decide)), rfl⟩⟩
    · have hfm : List.filterMap (fun d : D => match d with | .int x => some (D.int (x % 1000000)) | _ => none) ((ns.take 8).map D.int) = ((ns.take 8).map fun x => (x % 1000000).toNat).map NI := by
        generalize ns.take 8 = l
        induction l with
        | nil => rfl
        | cons x l ih =>
          have := Int.emod_nonneg x (show (1000000 : Int) ≠ 0 by decide)
          simp only [List.map_cons, List.filterMap_cons, ih, NI]
          rw [show (((x % 1000000).toNat : Nat) : Int) = x % 1000000 by omega]
      rw [hfm]
      have hl8 : (ns.take 8).length ≤ 8 := by rw [List.length_take]; omega
      generalize hA : (ns.take 8).map (fun x => (x % 1000000).toNat) = dA
      have hAl : dA.length ≤ 8 := by rw [← hA, List.length_map]; exact hl8
      refine RunsAt.assign (ao_of _) (.inl rfl) (d := .lst (dA.map NI ++ dslice [.int 0, .int 5, .int 0, .int 5, .int 0, .int 5, .int 7, .int 5] (some dA.length) none)) ?_ ?_
      · refine Evals.ofNew (EvalsNew.add (EvSeq.fz ?_) (EvSeq.fz ?_) ?_)
        · walk_at "ev"
        · refine Evals.slice_lst ?_ ?_ ?_ ?_
          · exact Evals.list (by walk_at "evs") (by first | exact szs rfl | (rw [sizeLine_eq]; simp))
          · exact EvPart.s (Evals.call (f := .builtin "len") (Callee.blt g_len (by rfl)) trivial (by walk_at "evs") (Fun.lenL (by simp) (by omega)))
          · walk_at "part"
          · first | exact szs rfl | (rw [sizeLine_eq]; simp)
        · have : (dslice [.int 0, .int 5, .int 0, .int 5, .int 0, .int 5, .int 7, .int 5] (some (dA.length : Int)) none).length ≤ 8 := by
            unfold dslice
            simp only [List.length_take, List.length_drop]
            simp
          rw [List.length_map]; omega
      rw [dslice_from _ _ (by simpa using hAl)]
      have hdr : dA.map NI ++ [D.int 0, .int 5, .int 0, .int 5, .int 0, .int 5, .int 7, .int 5].drop dA.length = (drN ns).map NI := by
        rw [← hA]
        unfold drN
        rw [List.map_append, List.length_map, List.map_drop]
        rfl
      rw [hdr]
      obtain ⟨d0, d1, d2, d3, d4, d5, d6, d7, he⟩ := eight (drN_len ns)
      have hlt := drN_lt ns
      rw [he] at hlt ⊢
      simp only [List.mem_cons, List.not_mem_nil, or_false, forall_eq_or_imp, forall_eq] at hlt
      obtain ⟨b0, b1, b2, b3, b4, b5, b6, b7⟩ := hlt
      clear hdr he hA hsl hfm
      simp only [List.map_cons, List.map_nil]
      generalize ht : d0 + d1 + d2 + d3 + d4 + d5 + d6 + d7 = tot
      have htot : tot ≤ 8000000 := by omega
      refine RunsAt.assign (ao_of _) (.inr ⟨_, rfl, rfl, by intro h; cases h⟩) (d := .int (tot : Nat)) (Evals.conv (Evals.call (f := .builtin "sum") (Callee.blt g_sum (by rfl)) trivial (EvalsL.cons (by walk_at "ev") EvalsL.nil) (Fun.sum (l := [(d0 : Int), d1, d2, d3, d4, d5, d6, d7]))) ?_) ?_
      · rw [← ht]; simp; omega
      refine RunsAt.step (ao_of _) (Run1.assignComp (cl := []) (ρ₀ := fun _ => none) (fun d => match d with | .int x => some (.tup [.int (1 + x % 2 * 2), .int (x / 2 % 4)]) | _ => none) (.inl rfl) (Evals.conv (d' := .lst [NI d0, NI d1, NI d2, NI d3, NI d4, NI d5]) (Evals.slice_lst (by walk_at "ev") (by walk_at "part") (by walk_at "part") (by first | exact szs rfl | (rw [sizeLine_eq]; simp))) rfl) Iters.lst Inner.none ?_ ?_ ?_ (hcl := trivial))
      · intro C k d hk
        obtain ⟨x, rfl, hx⟩ : ∃ x : Nat, d = NI x ∧ x < 1000000 := by
          have := List.mem_of_getElem? hk
          simp only [List.mem_cons, List.not_mem_nil, or_false] at this
          rcases this with h | h | h | h | h | h
          · exact ⟨_, h, b0⟩
          · exact ⟨_, h, b1⟩
          · exact ⟨_, h, b2⟩
          · exact ⟨_, h, b3⟩
          · exact ⟨_, h, b4⟩
          · exact ⟨_, h, b5⟩
        refine Asg.name (.inl rfl) ?_
        refine ⟨sub_upd (fun _ _ e => e) rfl, true, rfl, by simp, fun _ => ⟨_, Evals.tuple (EvalsL.cons (by walk_at "ev") (EvalsL.cons (by walk_at "ev") EvalsL.nil)) (by decide), rfl⟩⟩
      · rw [show List.filterMap (fun d : D => match d with | .int x => some (D.tup [.int (1 + x % 2 * 2), .int (x / 2 % 4)]) | _ => none) [NI d0, NI d1, NI d2, NI d3, NI d4, NI d5] = (rulesOf [d0, d1, d2, d3, d4, d5]).map DP by simp [rulesOf, DP]]
        generalize hs : 97 + tot % 50000 = sg
        have hsg : 97 ≤ sg ∧ sg ≤ 50096 := by omega
        refine RunsAt.assign (ao_of _) (.inr ⟨_, rfl, rfl, by intro h; cases h⟩) (d := .lst [.str (S [sg]), .str (S [sg + 1]), .str (S [sg + 2])]) (Evals.conv (Evals.comp (cl := [(Str.ofString "total", _)]) (ρ₀ := upd (fun _ => none) "total" (.fz (.int (tot : Nat)))) (ds := intsD 0 3) (fun d => match d with | .int x => some (.str (S [(97 + (tot : Int) % 50000 + x).toNat])) | _ => none) (Evals.call (f := .type "range") (Callee.blt g_range (by rfl)) trivial (by walk_at "evs") Fun.range1) (Iters.rng (by omega) (by omega) (by omega) (by omega)) (Inner.upd Inner.none (by walk_at "look") rfl rfl rfl rfl) ?_ ?_ (hcl := ⟨rfl, trivial⟩)) ?_) ?_
        · intro C k d hk
          obtain ⟨x, rfl, hx⟩ : ∃ x : Nat, d = NI x ∧ x < 3 := by
            match k, hk with
            | 0, hk => cases hk; exact ⟨0, rfl, by decide⟩
            | 1, hk => cases hk; exact ⟨1, rfl, by decide⟩
            | 2, hk => cases hk; exact ⟨2, rfl, by decide⟩
          refine Asg.name (.inl rfl) ?_
          refine ⟨sub_upd (fun _ _ e => e) rfl, true, rfl, by simp, fun _ => ⟨_, Evals.call (f := .builtin "chr") (Callee.blt g_chr (by rfl)) trivial (EvalsL.cons (by walk_at "ev") EvalsL.nil) (Fun.chr (by omega) (by omega)), rfl⟩⟩
        · rw [sizeLine_eq]; decide
        · have e0 : (97 + (tot : Int) % 50000 + 0).toNat = sg := by omega
          have e1 : (97 + (tot : Int) % 50000 + 1).toNat = sg + 1 := by omega
          have e2 : (97 + (tot : Int) % 50000 + 2).toNat = sg + 2 := by omega
          show D.lst [.str (S [(97 + (tot : Int) % 50000 + 0).toNat]), .str (S [(97 + (tot : Int) % 50000 + 1).toNat]), .str (S [(97 + (tot : Int) % 50000 + 2).toNat])] = _
          rw [e0, e1, e2]
        refine RunsAt.assign (ao_of _) (.inl rfl) (d := .str (S (endOf (tot % 4)))) (Evals.index (Evals.list (ds := [.str (S []), .str (S [34]), .str (S [34, 32, 109, 97, 100, 101]), .str (S [34, 10, 34, 98, 34, 32, 34])]) (by walk_at "evs") (by first | exact szs rfl | (rw [sizeLine_eq]; simp))) (Evals.bin (by walk_at "ev") (by walk_at "ev") (Op2.fmodB (by decide))) (Op2.item_lst (by omega) (by omega) ?_) trivial) ?_
        · rw [show ((tot : Int) % 4).toNat = tot % 4 by omega]
          have h4 : tot % 4 < 4 := Nat.mod_lt _ (by decide)
          generalize tot % 4 = q at h4
          match q, h4 with
          | 0, _ => rfl
          | 1, _ => rfl
          | 2, _ => rfl
          | 3, _ => rfl
        refine RunsAt.assign (ao_of _) (.inr ⟨_, rfl, rfl, by intro h; cases h⟩) (d := NI (d6 % 8)) (Evals.conv (Evals.bin (Evals.index (by walk_at "ev") (by walk_at "ev") (Op2.item_lst (d := NI d6) (by decide) (by decide) rfl) trivial) (by walk_at "ev") (Op2.fmodB (by decide))) rfl) ?_
        generalize hh : d6 % 8 = here
        have hh8 : here < 8 := by omega
        obtain ⟨hend, hendl⟩ := endOf_ok (tot % 4)
        generalize endOf (tot % 4) = e at hend hendl
        have hrs := rulesOf_ok [d0, d1, d2, d3, d4, d5]
        have hrl : (rulesOf [d0, d1, d2, d3, d4, d5]).length = 6 := rfl
        generalize rulesOf [d0, d1, d2, d3, d4, d5] = rs at hrs hrl
        generalize hk : (158 + tot % 899) % 900 = kk
        have hkk : kk < 900 ∧ kk ≠ 157 := by omega
        generalize hcd : [48 + (100 + kk) / 100, 48 + (100 + kk) / 10 % 10, 48 + (100 + kk) % 10] = cod
        have hcod : cod ≠ [50, 53, 55] := by rw [← hcd]; simp; omega
        have hcl : cod.length = 3 := by rw [← hcd]; rfl
        generalize hrow : List.replicate (here + 1) 34 ++ [sg + 2] ++ e = row
        have hrowl : row.length ≤ 200 := by rw [← hrow]; simp; omega
        refine RunsAt.assignS (ao_of _) (ds := [.str (S cod), .str (S row)]) (EvalsL.cons ?_ (EvalsL.cons ?_ EvalsL.nil)) (AsgN.cons (.inl rfl) (AsgN.cons (.inl rfl) (AsgN.nil ?_))) (hz := by rw [sizeLine_eq]; simp)
        · refine Evals.conv (Evals.call (f := .type "str") (Callee.blt g_str (by rfl)) trivial (EvalsL.cons ?_ EvalsL.nil) (Fun.str_int (i := ((100 + kk : Nat) : Int)) ?_)) ?_
          · refine Evals.conv (Evals.bin (by walk_at "ev") (Evals.bin (Evals.bin (by walk_at "ev") (Evals.bin (by walk_at "ev") (by walk_at "ev") (Op2.fmodB (by decide))) Op2.add) (by walk_at "ev") (Op2.fmodB (by decide))) Op2.add) ?_
            rw [← hk]; simp
          · have : (100 + kk) < 2 ^ 10 := by omega
            have := Nat.log2_lt (n := 100 + kk) (k := 10) (by omega) |>.mpr this
            rw [show (((100 + kk : Nat) : Int)).natAbs = 100 + kk by omega]
            omega
          · rw [← hcd]
            exact congrArg D.str (code_text kk hkk.1)
        · refine Evals.conv (d := .str (S ((List.replicate (((here : Nat) : Int) + 1).toNat [34]).flatten ++ [sg + 2] ++ e))) (Evals.bin (Evals.bin (Evals.bin ?_ (Evals.bin ?_ ?_ Op2.add) (Op2.mulS ?_ ?_ ?_)) (Evals.index ?_ ?_ (Op2.item_lst (k := 2) (ds := [.str (S [sg]), .str (S [sg + 1]), .str (S [sg + 2])]) (d := .str (S [sg + 2])) (by decide) (by decide) rfl) trivial) (Op2.addS ?_)) ?_ (Op2.addS ?_)) ?_
          · walk_at "ev"
          · walk_at "ev"
          · walk_at "ev"
          · omega
          · omega
          · simp
          · walk_at "ev"
          · walk_at "ev"
          · simp; omega
          · walk_at "ev"
          · simp; omega
          · rw [show ((here : Int) + 1).toNat = here + 1 by omega, ← hrow]; simp
        refine RunsAt.cons (other_if T rfl rfl (ao_of _) (Evals.bin (Evals.bin (by walk_at "ev") (by walk_at "ev") (Op2.addS (by simp; omega))) (by walk_at "ev") (Op2.addS (by simp; omega))) (Evals.bin (Evals.bin (by walk_at "ev") (by walk_at "ev") (Op2.addS (by simp; omega))) (by walk_at "ev") (Op2.addS (by simp; omega))) ?_ ?_ ?_)
        · rw [S_slice, k_257, S_ne, List.append_assoc, (show sl (cod ++ ([32, 34] ++ row)) none (some 3) = cod from ?_)]
          · simpa using hcod
          · rw [show ((3 : Int)) = ((3 : Nat) : Int) from rfl, sl_to _ 3 (by simp; omega), List.take_append_of_le_length (by omega), List.take_of_length_le (by omega)]
        · rw [S_len]; simp; omega
        refine RunsAt.of (ao_of _) (Runs.ifN ?_ ?_)
        · refine Tests.conv (Tests.or2 (a := false) (b := false) (Tests.cmp (Evals.call (f := .ref 140) (Callee.glob g_other) (by rfl) (EvalsL.cons (Evals.bin (by walk_at "ev") (by walk_at "ev") (Op2.addS (by simp; omega))) EvalsL.nil) (other_dash ?_ ?_ ?_)) (Evals.list (by walk_at "evs") (by first | exact szs rfl | (rw [sizeLine_eq]; simp))) (Op2.nel ok_e (by decide)) (by with_unfolding_all rfl)) fun _ => (Tests.cmp (Evals.call (f := .ref 140) (Callee.glob g_other) (by rfl) (EvalsL.cons (Evals.bin (Evals.bin (by walk_at "ev") (Evals.index (by walk_at "ev") (by walk_at "ev") (Op2.item_lst (k := 2) (d := .str (S [sg + 2])) (by decide) (by decide) rfl) trivial) (Op2.addS ?_)) (by walk_at "ev") (Op2.addS ?_)) EvalsL.nil) (other_dash ?_ ?_ ?_)) (Evals.list (by walk_at "evs") (by first | exact szs rfl | (rw [sizeLine_eq]; simp))) (Op2.nel ok_e (by decide)) (by with_unfolding_all rfl))) rfl
          · simp; omega
          · exact (dash_ok (l := [50, 53, 55, 45, 34]) (by decide)).1
          · rw [(dash_ok (l := [50, 53, 55, 45, 34]) (by decide)).2]; decide
          · simp
          · simp; omega
          · simp; omega
          · exact (dash_ok (l := [50, 53, 55, 32, sg + 2]) (by simp)).1
          · rw [show ([50, 53, 55, 32] ++ [sg + 2] ++ row : List Nat) = [50, 53, 55, 32, sg + 2] ++ row from rfl, (dash_ok (l := [50, 53, 55, 32, sg + 2]) (by simp)).2]
            simp; omega
        exact KK _ _ _ _ _ _ ⟨hh8, hsg, hend, hendl, hrl, hrs, b7, ⟨_, by walk_at "look", rfl⟩, by walk_at "look", by walk_at "look", by walk_at "look", by walk_at "look"⟩
      · first | exact szs rfl | (rw [sizeLine_eq]; simp)
    · rw [List.length_map, List.length_take, sizeLine_eq]; omega
  · skip
    intro f cd qn L ρ here sg d7 e rs M KK
    obtain ⟨hh, ⟨hs1, hs2⟩, he, hel, hrl, hrs, hd, ⟨ds, v1, v1'⟩, v2, v3, v4, v5⟩ := id M
    have hws : wsRun (List.replicate here 32 ++ [9, sg, 32]) ⟨[], 0, 0, 0⟩ = ⟨List.replicate here 0 ++ [1], 0, here + 1, 1⟩ := wsRun_one here sg [32] (by omega) (by omega)
    refine Runs.assign (.inr ⟨_, rfl, rfl, by intro h; cases h⟩) (d := .inst 122 (wsD (List.replicate here 32 ++ [9, sg, 32]) ⟨List.replicate here 0 ++ [1], 0, here + 1, 1⟩)) (Evals.conv (Evals.call (f := .ref 122) (Callee.glob g_ws) (by rfl) (EvalsL.cons (Evals.conv (d' := .str (S (List.replicate here 32 ++ [9, sg, 32]))) (Evals.bin (Evals.bin (Evals.bin (Evals.bin (by walk_at "ev") (by walk_at "ev") (by walk_at "op")) (by walk_at "ev") (Op2.addS ?_)) (Evals.index (by walk_at "ev") (by walk_at "ev") (Op2.item_lst (ds := [.str (S [sg]), .str (S [sg + 1]), .str (S [sg + 2])]) (k := 0) (d := .str (S [sg])) (by decide) (by decide) rfl) trivial) (Op2.addS ?_)) (by walk_at "ev") (Op2.addS ?_)) ?_) EvalsL.nil) (init_ok ?_)) ?_) ?_
    · simp; omega
    · simp; omega
    · simp; omega
    · simp
    · simp; omega
    · rw [hws]
    have hst : ∀ (k : Nat) (d : D), [D.int 2, D.int 4, D.int 8][k]? = some d → ∃ ts : Nat, d = NI ts ∧ 1 ≤ ts ∧ ts ≤ 8 := by
      intro k d hk
      match k, hk with
      | 0, hk => cases hk; exact ⟨2, rfl, by decide, by decide⟩
      | 1, hk => cases hk; exact ⟨4, rfl, by decide, by decide⟩
      | 2, hk => cases hk; exact ⟨8, rfl, by decide, by decide⟩
    have hone : ∀ ts : Nat, 1 ≤ ts → indent ⟨List.replicate here 0 ++ [1], 0, here + 1, 1⟩ ts = ((lv here ts : Nat) : Int) := by
      intro ts h1
      rw [indent_one h1]
      unfold lv
      push_cast
      simp
    refine Runs.cons (Run1.assignComp (cl := [(Str.ofString "lead", _)]) (ρ₀ := upd (fun _ => none) "lead" (.fz (.inst 122 (wsD (List.replicate here 32 ++ [9, sg, 32]) ⟨List.replicate here 0 ++ [1], 0, here + 1, 1⟩)))) (fun d => match d with | .int x => some (.int (lv here x.toNat : Nat)) | _ => none) (.inl rfl) (Evals.list (by walk_at "evs") (by first | exact szs rfl | (rw [sizeLine_eq]; simp))) Iters.lst (Inner.upd Inner.none (by walk_at "look") rfl rfl rfl rfl) ?_ ?_ ?_ (hcl := ⟨rfl, trivial⟩))
    · intro C k d hk
      obtain ⟨ts, rfl, h1, h2⟩ := hst k d hk
      refine Asg.name (.inl rfl) ?_
      refine ⟨sub_upd (fun _ _ e => e) rfl, true, rfl, by simp, fun _ => ⟨_, Evals.conv (Evals.methI (name := "indent_level") (by walk_at "ev") (by walk_at "evs") (ind_ok (ts := ts) h1 (by omega) (by simp; omega)) q_plain q_ind (by rfl) (by rfl) (by simp [wsD])) ?_, rfl⟩⟩
      rw [hone ts h1]
      rfl
    · refine Runs.ifN (Tests.cmp (by walk_at "ev") (Evals.conv (Evals.comp (cl := [(Str.ofString "here", _)]) (ρ₀ := upd (fun _ => none) "here" (.fz (.int (here : Nat)))) (fun d => match d with | .int x => some (.int (lv here x.toNat : Nat)) | _ => none) (Evals.list (by walk_at "evs") (by first | exact szs rfl | (rw [sizeLine_eq]; simp))) Iters.lst (Inner.upd Inner.none (by walk_at "look") rfl rfl rfl rfl) ?_ ?_ (hcl := ⟨rfl, trivial⟩)) rfl) (Op2.nel ?_ ?_) (by with_unfolding_all rfl)) ?_
      · intro C k d hk
        obtain ⟨ts, rfl, h1, h2⟩ := hst k d hk
        refine Asg.name (.inl rfl) ?_
        refine ⟨sub_upd (fun _ _ e => e) rfl, true, rfl, by simp, fun _ => ⟨_, Evals.bin (Evals.bin (Evals.bin (by walk_at "ev") (by walk_at "ev") (Op2.fdivB (by omega) (by omega))) (by walk_at "ev") (Op2.mulB ?_ ?_)) (by walk_at "ev") Op2.add, ?_⟩⟩
        · have := Int.ediv_nonneg (a := ((here : Nat) : Int)) (b := ts) (by omega) (by omega)
          omega
        · have := Int.ediv_le_self (a := ((here : Nat) : Int)) (b := (ts : Int)) (by omega)
          omega
        · show some (D.int ((lv here ts : Nat) : Int)) = some (D.int _)
          unfold lv
          congr 2
          push_cast
          rw [Int.mul_add, Int.mul_comm]
          simp
      · first | exact szs rfl | (rw [sizeLine_eq]; simp)
      · exact ok_ints _ _ _
      · simp [py, pys, PyData.depth, PyData.depthAll]
      rw [show List.filterMap (fun d : D => match d with | .int x => some (D.int (lv here x.toNat : Nat)) | _ => none) [D.int 2, D.int 4, D.int 8] = [NI (lv here 2), NI (lv here 4), NI (lv here 8)] from rfl]
      refine Runs.assignT (Evals.call (f := .ref 133) (Callee.glob g_walk) (by rfl) (by walk_at "evs") (walk_ok (n0 := here) (rs := rs) (a := sg) (b := sg + 1) (s2 := sg + 2) (e := e) hrl (fun p hp => ⟨(hrs p hp).1, (hrs p hp).2.1⟩) (by omega) he (by omega) (by omega))) (Asg.tuple (AsgL.cons (Asg.name (.inl rfl) (AsgL.cons (Asg.name (.inl rfl) (AsgL.cons (Asg.name (.inl rfl) (AsgL.nil ?_))))))))
      have hn3 := nI_le hrs here (by omega)
      refine Runs.ifN (Tests.cmp (by walk_at "ev") (Evals.conv (Evals.comp (cl := [(Str.ofString "signs", _)]) (ρ₀ := upd (fun _ => none) "signs" (.fz (.lst [.str (S [sg]), .str (S [sg + 1]), .str (S [sg + 2])]))) (fun d => match d with | .tup [.int x, .int _] => some (.str (S (nm x.toNat (sg + 2)))) | _ => none) (Evals.conv (d' := .lst ((List.range 3).map fun j => .tup [.int (nI rs here j), .int (mI rs here j)])) (Evals.slice_lst (by walk_at "ev") (by walk_at "part") (by walk_at "part") (by rw [sizeLine_eq]; simp [stepsD])) rfl) Iters.lst (Inner.upd Inner.none (by walk_at "look") rfl rfl rfl rfl) ?_ ?_ (hcl := ⟨rfl, trivial⟩)) rfl) (Op2.nel (d := .lst (namesD rs here (sg + 2) 3)) ?_ ?_) (by with_unfolding_all rfl)) ?_
      · intro C k d hk
        have hk3 : k < 3 := by have := (List.getElem?_eq_some_iff.mp hk).1; simpa using this
        obtain ⟨x, y, rfl, hx⟩ : ∃ x y : Nat, d = .tup [NI x, NI y] ∧ x ≤ 1000 := by
          rw [List.getElem?_map, List.getElem?_range hk3] at hk
          cases hk
          exact ⟨_, _, rfl, hn3 k (by omega)⟩
        refine Asg.tuple (AsgL.cons (Asg.name (.inl rfl) (AsgL.cons (Asg.name (.inl rfl) (AsgL.nil ?_)))))
        refine ⟨sub_upd (sub_upd (fun _ _ e => e) rfl) rfl, true, rfl, by simp, fun _ => ⟨_, Evals.bin (Evals.bin (by walk_at "ev") (Evals.bin (by walk_at "ev") (by walk_at "ev") (Op2.fdivB (by omega) (by omega))) (by walk_at "op")) (Evals.ifexp (q := decide (x % 2 = 1)) (d := .str (S (if x % 2 = 1 then [] else [sg + 2]))) ?_ (fun q => ?_) fun q => ?_) (Op2.addS ?_), ?_⟩⟩
        · refine Tests.conv (Tests.cmp (b := decide (((x : Nat) : Int) % 2 = 1)) (Evals.bin (by walk_at "ev") (by walk_at "ev") (Op2.fmodB (by omega))) (by walk_at "ev") Op2.eq (by with_unfolding_all rfl)) ?_
          exact decide_eq_decide.mpr (by omega)
        · have q : x % 2 = 1 := by simpa using q
          rw [if_pos q]; walk_at "ev"
        · have q : ¬ x % 2 = 1 := by simpa using q
          rw [if_neg q]
          exact Evals.index (by walk_at "ev") (by walk_at "ev") (Op2.item_lst (k := 2) (ds := [.str (S [sg]), .str (S [sg + 1]), .str (S [sg + 2])]) (d := .str (S [sg + 2])) (by decide) (by decide) rfl) trivial
        · have : (if x % 2 = 1 then [] else [sg + 2]).length ≤ 1 := by split <;> simp
          simp
          omega
        · show some (D.str (S (nm x (sg + 2)))) = some (D.str _)
          unfold nm
          rw [show (((x : Nat) : Int) / 2).toNat = x / 2 by omega]
          simp
      · first | exact szs rfl | (rw [sizeLine_eq]; simp)
      · exact ok_names (by omega)
      · simp [namesD, py, pys, PyData.depth, PyData.depthAll, List.range, List.range.loop]
      exact KK _ ⟨⟨hh, ⟨hs1, hs2⟩, he, hel, hrl, hrs, hd, ⟨ds, by walk_at "look", v1'⟩, by walk_at "look", by walk_at "look", by walk_at "look", by walk_at "look"⟩, by walk_at "look", by walk_at "look", by walk_at "look"⟩
    · first | exact szs rfl | (rw [sizeLine_eq]; simp)
  · skip
    intro f cd qn L ρ here sg d7 e rs M2
    obtain ⟨M, x1, x2, x3⟩ := id M2
    obtain ⟨hh, ⟨hs1, hs2⟩, he, hel, hrl, hrs, hd, ⟨ds, v1, v1'⟩, v2, v3, v4, v5⟩ := id M
    refine Runs.for (d := .lst [NI 1, NI 2, NI 4, NI 8, NI (1 + d7 % 8)]) (ds := [NI 1, NI 2, NI 4, NI 8, NI (1 + d7 % 8)]) (Evals.conv (Evals.list (EvalsL.cons (by walk_at "ev") (EvalsL.cons (by walk_at "ev") (EvalsL.cons (by walk_at "ev") (EvalsL.cons (by walk_at "ev") (EvalsL.cons (Evals.bin (by walk_at "ev") (Evals.bin (Evals.index (by walk_at "ev") (by walk_at "ev") (Op2.item_lst (by decide) (by decide) v1') trivial) (by walk_at "ev") (Op2.fmodB (by decide))) Op2.add) EvalsL.nil))))) (by first | exact szs rfl | (rw [sizeLine_eq]; simp))) rfl) Iters.lst
      (fun _ ρ => Mid2 ρ here sg d7 e rs) M2 ?_ ?_
    · rintro k d ρ' hk M2'
      obtain ⟨aw, rfl, haw⟩ : ∃ aw : Nat, d = NI aw ∧ 1 ≤ aw ∧ aw ≤ 8 := by
        match k, hk with
        | 0, hk => cases hk; exact ⟨1, rfl, by decide, by decide⟩
        | 1, hk => cases hk; exact ⟨2, rfl, by decide, by decide⟩
        | 2, hk => cases hk; exact ⟨4, rfl, by decide, by decide⟩
        | 3, hk => cases hk; exact ⟨8, rfl, by decide, by decide⟩
        | 4, hk => cases hk; exact ⟨1 + d7 % 8, rfl, by omega, by omega⟩
      refine Asg.name (.inl rfl) ?_
      obtain ⟨M', y1, y2, y3⟩ := id M2'
      obtain ⟨_, _, _, _, _, _, _, ⟨ds', u1, u1'⟩, u2, u3, u4, u5⟩ := id M'
      have hws : wsRun (List.replicate (here + aw) 32 ++ [9, sg + 1, 9]) ⟨[], 0, 0, 0⟩ = ⟨List.replicate (here + aw) 0 ++ [1], 0, here + aw + 1, 1⟩ := wsRun_one (here + aw) (sg + 1) [9] (by omega) (by omega)
      refine Runs.assign (.inl rfl) (d := .inst 122 (wsD (List.replicate (here + aw) 32 ++ [9, sg + 1, 9]) ⟨List.replicate (here + aw) 0 ++ [1], 0, here + aw + 1, 1⟩)) (Evals.conv (Evals.call (f := .ref 122) (Callee.glob g_ws) (by rfl) (EvalsL.cons (Evals.conv (d := .str (S ((((List.replicate (((here : Nat) : Int) + ((aw : Nat) : Int)).toNat [32]).flatten ++ [9]) ++ [sg + 1]) ++ [9]))) (d' := .str (S (List.replicate (here + aw) 32 ++ [9, sg + 1, 9]))) (Evals.bin (Evals.bin (Evals.bin (Evals.bin (by walk_at "ev") (Evals.bin (by walk_at "ev") (by walk_at "ev") Op2.add) (by walk_at "op")) (by walk_at "ev") (Op2.addS ?_)) (Evals.index (by walk_at "ev") (by walk_at "ev") (Op2.item_lst (ds := [.str (S [sg]), .str (S [sg + 1]), .str (S [sg + 2])]) (k := 1) (d := .str (S [sg + 1])) (by decide) (by decide) rfl) trivial) (Op2.addS ?_)) (by walk_at "ev") (Op2.addS ?_)) ?_) EvalsL.nil) (init_ok ?_)) ?_) ?_
      · simp; omega
      · simp; omega
      · simp; omega
      · rw [show (((here : Nat) : Int) + ((aw : Nat) : Int)).toNat = here + aw by omega]; simp
      · simp; omega
      · rw [hws]
      refine Runs.assignT (Evals.two_of (Evals.call (f := .ref 133) (Callee.glob g_walk) (by rfl) (EvalsL.cons (Evals.conv (d' := NI (here + aw)) (Evals.bin (by walk_at "ev") (by walk_at "ev") Op2.add) (by simp [NI])) (by walk_at "evs")) (walk_ok (n0 := here + aw) (rs := rs) (a := sg) (b := sg + 1) (s2 := sg + 2) (e := e) hrl (fun p hp => ⟨(hrs p hp).1, (hrs p hp).2.1⟩) (by omega) he (by omega) (by omega))) (by walk_at "ev")) (Asg.tuple (AsgL.cons (Asg.name (.inl rfl) (AsgL.cons (Asg.name (.inl rfl) (AsgL.nil ?_))))))
      obtain ⟨w0, w1, w2, hw⟩ : ∃ w0 w1 w2, wI rs here sg (sg + 1) 3 = [w0, w1, w2] := ⟨_, _, _, rfl⟩
      obtain ⟨o0, o1, o2, hp⟩ : ∃ o0 o1 o2, wI rs (here + aw) sg (sg + 1) 3 = [o0, o1, o2] := ⟨_, _, _, rfl⟩
      have ho : ∀ k m, (rl rs k m).1 % 2 = 1 := rl_odd fun p hp => (hrs p hp).2.2
      obtain ⟨t1, t2, t3⟩ := turns (w := w) (mg := mg) (mb := mb) ho hh haw.2 hs1 rfl hw hp
      rw [hp]
      refine Runs.for (d := .rng 1 4) (ds := intsD 1 4) (Evals.call (f := .type "range") (Callee.blt g_range (by rfl)) trivial (by walk_at "evs") Fun.range2) (Iters.rng (by omega) (by omega) (by omega) (by omega))
        (fun _ ρ => In3 ρ here aw sg d7 e rs [o0, o1, o2]) ?_ ?_ ?_
      · exact ⟨⟨⟨hh, ⟨hs1, hs2⟩, he, hel, hrl, hrs, hd, ⟨_, by walk_at "look", u1'⟩, by walk_at "look", by walk_at "look", by walk_at "look", by walk_at "look"⟩, by walk_at "look", by walk_at "look", by walk_at "look"⟩, by walk_at "look", by walk_at "look", by walk_at "look", by walk_at "look"⟩
      · rintro k d ρ'' hk I
        obtain ⟨kk, sz, q, rfl, t⟩ : ∃ kk sz q, d = NI kk ∧ Turn w mg mb here aw kk sz rs [w0, w1, w2] [o0, o1, o2] q := by
          match k, hk with
          | 0, hk => cases hk; exact ⟨1, _, _, rfl, t1⟩
          | 1, hk => cases hk; exact ⟨2, _, _, rfl, t2⟩
          | 2, hk => cases hk; exact ⟨3, _, _, rfl, t3⟩
        obtain ⟨⟨M3, i1, i2, i3⟩, z1, z2, z3, z4⟩ := id I
        obtain ⟨_, _, _, _, _, _, _, ⟨_, j1, j1'⟩, j2, j3, j4, j5⟩ := id M3
        obtain ⟨⟨hk1, hk2⟩, hz, h8, s0, a1, a2, e1, e2, e3, fa⟩ := id t
        rw [hw] at i2
        have hsz : 1 ≤ sz := by rw [hz]; exact Nat.one_le_two_pow
        refine Asg.name (.inl rfl) ?_
        refine Runs.assign (.inl rfl) (d := NI sz) (Evals.conv (Evals.bin (by walk_at "ev") (by walk_at "ev") (Op2.pow (by omega) (by omega) (by decide))) ?_) ?_
        · rw [hz, show (((kk : Nat) : Int)).toNat = kk by omega]; simp [NI]
        have hind : indent ⟨List.replicate (here + aw) 0 ++ [1], 0, here + aw + 1, 1⟩ sz = ((lv (here + aw) sz : Nat) : Int) := by
          rw [indent_one hsz]
          unfold lv
          push_cast
          simp
        refine Runs.assign (.inl rfl) (d := .bool q) (Evals.conv (Evals.cmp (Evals.bin (Evals.index (by walk_at "ev") (by walk_at "ev") (Op2.item_lst (d := NI (lv here sz)) (by omega) (by omega) ?_) trivial) (by walk_at "ev") Op2.sub) (Evals.bin (Evals.bin (Evals.conv (d' := NI (lv (here + aw) sz)) (Evals.methI (name := "indent_level") (by walk_at "ev") (by walk_at "evs") (ind_ok (ts := sz) hsz (by omega) (by simp; omega)) q_plain q_ind (by rfl) (by rfl) (by simp [wsD])) ?_) (by walk_at "ev") Op2.sub) (by walk_at "ev") Op2.sub) Op2.eq) ?_) ?_
        · rw [show (((kk : Nat) : Int) - 1).toNat = kk - 1 by omega]; exact s0
        · rw [hind]
        · rw [a1]
        have sw : sl [w0, w1, w2] none (some ((kk : Nat) : Int)) = [w0, w1, w2].take kk := sl_to _ kk hk2
        have so : sl [o0, o1, o2] (some ((kk : Nat) : Int)) none = [o0, o1, o2].drop kk := sl_from _ kk hk2
        have so' : sl [o0, o1, o2] (some (((kk : Nat) : Int) - 1)) none = [o0, o1, o2].drop (kk - 1) := by
          rw [show (((kk : Nat) : Int) - 1) = ((kk - 1 : Nat) : Int) by omega]; exact sl_from _ (kk - 1) (by simp; omega)
        have lt : ([w0, w1, w2].take kk).length ≤ 3 := by simp; omega
        have ld : ([o0, o1, o2].drop kk).length ≤ 3 := by simp
        have ld' : ([o0, o1, o2].drop (kk - 1)).length ≤ 3 := by simp
        refine Runs.ifN (Tests.conv (Tests.cmp (by walk_at "ev") (Evals.conv (d' := .bool q) (Evals.cmp (Evals.bin (by walk_at "ev") (by walk_at "ev") (Op2.fmodB (by omega))) (by walk_at "ev") Op2.eq) ?_) Op2.isnot (by with_unfolding_all rfl)) ?_) ?_
        · rw [a2]
        · cases q <;> rfl
        refine Runs.ifN (Tests.conv (Tests.cmp (Evals.call (f := .ref 28) (Callee.glob g_ell) (by rfl) (EvalsL.cons (Evals.conv (d' := .str (S ([w0, w1, w2].take kk ++ dots))) (Evals.bin (by walk_at "ev") (by walk_at "ev") (Op2.addS ?_)) ?_) (by walk_at "evs")) (e1 _)) (by walk_at "ev") Op2.isnot (by with_unfolding_all rfl)) ?_) ?_
        · rw [sw]; simp; omega
        · rw [sw]
        · cases q <;> rfl
        refine Runs.ifN (Tests.conv (Tests.cmp (Evals.call (f := .ref 28) (Callee.glob g_ell) (by rfl) (EvalsL.cons (Evals.conv (d' := .str (S ([w0, w1, w2].take kk ++ dots ++ [o0, o1, o2].drop kk))) (Evals.bin (Evals.bin (by walk_at "ev") (by walk_at "ev") (Op2.addS ?_)) (by walk_at "ev") (Op2.addS ?_)) ?_) (by walk_at "evs")) (e2 _)) (by walk_at "ev") Op2.isnot (by with_unfolding_all rfl)) ?_) ?_
        · rw [sw]; simp; omega
        · rw [sw, so]; simp; omega
        · rw [sw, so]
        · cases q <;> rfl
        refine Runs.ifN (Tests.conv (Tests.cmp (Evals.call (f := .ref 28) (Callee.glob g_ell) (by rfl) (EvalsL.cons (Evals.conv (d' := .str (S ([w0, w1, w2].take kk ++ dots ++ [o0, o1, o2].drop (kk - 1)))) (Evals.bin (Evals.bin (by walk_at "ev") (by walk_at "ev") (Op2.addS ?_)) (Evals.sliceS (by walk_at "ev") (EvPart.s (Evals.bin (by walk_at "ev") (by walk_at "ev") Op2.sub)) EvPart.nn (by simp)) (Op2.addS ?_)) ?_) (by walk_at "evs")) (e3 _)) (by walk_at "ev") Op2.isnot (by with_unfolding_all rfl)) ?_) ?_
        · rw [sw]; simp; omega
        · rw [sw, so']; simp; omega
        · rw [sw, so']
        · rfl
        have hst : ∀ n0, (stepsD rs n0 3)[((kk : Nat) : Int).toNat]? = some (.tup [.int (nI rs n0 kk), .int (mI rs n0 kk)]) := fun n0 => by
          unfold stepsD
          rw [show (((kk : Nat) : Int)).toNat = kk by omega, List.getElem?_map, List.getElem?_range (by omega)]; rfl
        have hb1 := nI_le hrs here (by omega) kk hk2
        have hb2 := nI_le hrs (here + aw) (by omega) kk hk2
        refine Runs.ifN (Tests.conv (Tests.and2 (a := q) (b := false) (Tests.val (by walk_at "ev")) fun hq => Tests.conv (Tests.cmp (Evals.bin (Evals.bin (Evals.index (Evals.index (by walk_at "ev") (by walk_at "ev") (Op2.item_lst (by omega) (by omega) (hst _)) trivial) (by walk_at "ev") (Op2.item_tup (d := .int (nI rs (here + aw) kk)) (by decide) (by decide) rfl) trivial) (Evals.index (Evals.index (by walk_at "ev") (by walk_at "ev") (Op2.item_lst (by omega) (by omega) (hst _)) trivial) (by walk_at "ev") (Op2.item_tup (d := .int (nI rs here kk)) (by decide) (by decide) rfl) trivial) Op2.sub) (by walk_at "ev") (Op2.mulB (by omega) (by omega))) (Evals.bin (by walk_at "ev") (Evals.index (Evals.index (by walk_at "ev") (by walk_at "ev") (Op2.item_lst (by omega) (by omega) (hst _)) trivial) (by walk_at "ev") (Op2.item_tup (d := .int (mI rs here kk)) (by decide) (by decide) rfl) trivial) (Op2.mulB (by omega) (by omega))) Op2.ne (by with_unfolding_all rfl)) ?_) ?_) (Runs.nil ?_)
        · rw [fa hq]; simp
        · cases q <;> rfl
        exact ⟨⟨⟨hh, ⟨hs1, hs2⟩, he, hel, hrl, hrs, hd, ⟨_, by walk_at "look", j1'⟩, by walk_at "look", by walk_at "look", by walk_at "look", by walk_at "look"⟩, by walk_at "look", by rw [hw]; walk_at "look", by walk_at "look"⟩, by walk_at "look", by walk_at "look", by walk_at "look", by walk_at "look"⟩
      · rintro ρ'' I
        obtain ⟨⟨M3, i1, i2, i3⟩, z1, z2, z3, z4⟩ := id I
        rw [hw] at i2
        obtain ⟨q1, q2, q3⟩ := q_of ho here aw (show sg ≠ sg + 1 by omega) hw hp
        have big : ∀ x, x ∈ [w0, w1, w2] ∨ x ∈ [o0, o1, o2] → 97 ≤ x := by
          rw [← hw, ← hp, wI3, wI3]
          intro x hx
          simp only [List.mem_cons, List.not_mem_nil, or_false] at hx
          rcases hx with (h | h | h) | (h | h | h) <;> (rw [h]; split <;> omega)
        have b0 := big w0 (by simp)
        have b1 := big w1 (by simp)
        have b2 := big w2 (by simp)
        have c2 := big o2 (by simp)
        have q3' : decide ([w0, w1, w2] = [o0, o1, o2]) = decide (aw % 8 = 0) := decide_eq_decide.mpr (by rw [← q3]; simp)
        refine Runs.ifN (Tests.conv (Tests.cmp (Evals.call (f := .ref 28) (Callee.glob g_ell) (by rfl) (by walk_at "evs") (ell_eq (by simp; omega))) (Evals.conv (d' := .bool (decide (aw % 8 = 0))) (Evals.cmp (Evals.bin (by walk_at "ev") (by walk_at "ev") (Op2.fmodB (by omega))) (by walk_at "ev") Op2.eq) ?_) Op2.isnot (by with_unfolding_all rfl)) ?_) ?_
        · exact congrArg D.bool (am_of aw (by decide))
        · rw [q3']; cases decide (aw % 8 = 0) <;> rfl
        refine Runs.for (d := .lst [.tup [NI 2, .str (S [o2])], .tup [NI 8, .str (S [w1, w2])], .tup [NI 8, .str (S ([w1] ++ dots ++ [w2]))]]) (ds := [.tup [NI 2, .str (S [o2])], .tup [NI 8, .str (S [w1, w2])], .tup [NI 8, .str (S ([w1] ++ dots ++ [w2]))]]) (Evals.conv (Evals.list (EvalsL.cons (Evals.tuple (by walk_at "evs") (by decide)) (EvalsL.cons (Evals.tuple (by walk_at "evs") (by decide)) (EvalsL.cons (Evals.tuple (EvalsL.cons (by walk_at "ev") (EvalsL.cons (Evals.bin (Evals.bin (by walk_at "ev") (by walk_at "ev") (Op2.addS ?_)) (by walk_at "ev") (Op2.addS ?_)) EvalsL.nil)) (by decide)) EvalsL.nil))) (by first | exact szs rfl | (rw [sizeLine_eq]; simp))) ?_) Iters.lst
          (fun _ ρ => In3 ρ here aw sg d7 e rs [o0, o1, o2]) I ?_ ?_
        · show ([w1] ++ dots).length ≤ _
          simp
        · show (([w1] ++ dots) ++ [w2]).length ≤ _
          simp
        · rfl
        · rintro k d ρ3 hk I3
          obtain ⟨bb, rest, rfl, hb1, hb2, hrl3, hf⟩ : ∃ (bb : Nat) (rest : List Nat), d = .tup [NI bb, .str (S rest)] ∧ 1 ≤ bb ∧ bb ≤ 8 ∧ rest.length ≤ 5 ∧ ∀ n, Fun (c1 w mg mb) (n + 1) (.ref 28) [.str (S ([w0] ++ dots ++ rest)), .str (S [o0, o1, o2])] (.bool (decide (aw % bb = 0))) := by
            match k, hk with
            | 0, hk => cases hk; exact ⟨2, [o2], rfl, by decide, by decide, by simp, fun n => ell_at [[w0], [o2]] rfl (by simp) (by simp; omega) (by simp [joinD]) (by simp) ((ell9 w0 w1 w2 o0 o1 o2).trans (decide_eq_decide.mpr q1))⟩
            | 1, hk => cases hk; exact ⟨8, [w1, w2], rfl, by decide, by decide, by simp, fun n => ell_at [[w0], [w1, w2]] rfl (by simp) (by simp; omega) (by simp [joinD]) (by simp) ((ell10 w0 w1 w2 o0 o1 o2).trans (decide_eq_decide.mpr q3))⟩
            | 2, hk => cases hk; exact ⟨8, [w1] ++ dots ++ [w2], rfl, by decide, by decide, by simp, fun n => ell_at [[w0], [w1], [w2]] rfl (by simp) (by simp; omega) (by simp [joinD]) (by simp) ((ell11 w0 w1 w2 o0 o1 o2).trans (decide_eq_decide.mpr q3))⟩
          obtain ⟨⟨M4, f1, f2, f3⟩, y1, y2, y3, y4⟩ := id I3
          obtain ⟨_, _, _, _, _, _, _, ⟨_, j1, j1'⟩, j2, j3, j4, j5⟩ := id M4
          rw [hw] at f2
          refine Asg.tuple (AsgL.cons (Asg.name (.inl rfl) (AsgL.cons (Asg.name (.inl rfl) (AsgL.nil ?_)))))
          refine Runs.ifN (Tests.conv (Tests.cmp (Evals.call (f := .ref 28) (Callee.glob g_ell) (by rfl) (EvalsL.cons (Evals.conv (d' := .str (S ([w0] ++ dots ++ rest))) (Evals.bin (Evals.bin (by walk_at "ev") (by walk_at "ev") (Op2.addS ?_)) (by walk_at "ev") (Op2.addS ?_)) ?_) (by walk_at "evs")) (hf _)) (Evals.conv (d' := .bool (decide (aw % bb = 0))) (Evals.cmp (Evals.bin (by walk_at "ev") (by walk_at "ev") (Op2.fmodB (by omega))) (by walk_at "ev") Op2.eq) ?_) Op2.isnot (by with_unfolding_all rfl)) ?_) (Runs.nil ?_)
          · show ([w0] ++ dots).length ≤ _
            simp
          · show ([w0] ++ dots).length + rest.length ≤ _
            simp; omega
          · rfl
          · exact congrArg D.bool (am_of aw (by omega))
          · cases decide (aw % bb = 0) <;> rfl
          exact ⟨⟨⟨hh, ⟨hs1, hs2⟩, he, hel, hrl, hrs, hd, ⟨_, by walk_at "look", j1'⟩, by walk_at "look", by walk_at "look", by walk_at "look", by walk_at "look"⟩, by walk_at "look", by rw [hw]; walk_at "look", by walk_at "look"⟩, by walk_at "look", by walk_at "look", by walk_at "look", by walk_at "look"⟩
        · rintro ρ3 I3
          exact Runs.nil I3.m
    · rintro ρ' M2'
      exact Runs.ret (by walk_at "ev") (.inl rfl)
end
end
end
end Mine
end
end
section
open PySem PySem.W PyProof.Rows PySem.Calls
set_option autoImplicit false
namespace Mine
noncomputable def fdOf (w : World) : FuncData := match (Mine.hd1.heap_39 w.params).lookup 145 with
  | some ⟨_, _, .func fd, _⟩ => fd
  | _ => default
noncomputable def stmtsOf (w : World) : List Stmt := match (fdOf w).body with
  | .stmts b => b
  | _ => []
set_option maxRecDepth 100000
theorem law_all {w : World} {mg mb : Str → Option Value} (f : Addr) (cd : Value) (qn : Str) (L : Addr) (h₀ : Heap) (Z : AS) (mean : ExcName → Option Value) (ns : List Int)
    (T : Top Mine.hd1.view_39 (looseW Mine.hd1.view_39 [Str.ofString "Whitespace"]) mean mg mb h₀) (hlen : ns.length ≤ 63) :
    RunsAt (callerA.deeper (envOfC qn (fdOf w).scope L f cd)) h₀ Z (c1 w mg mb) (envOfC qn (fdOf w).scope L f cd) (upd (fun _ => none) "script" (.fz (.lst (ns.map D.int)))) (stmtsOf w) (Ends (.bool true)) := by
  obtain ⟨_, _, _, body, scope, _, _, _, _, _, _, _, _, _, _, e, HA, HB, HC⟩ := law_parts (w := w) (mg := mg) (mb := mb)
  have h1 : (fdOf w).scope = scope ∧ stmtsOf w = body := by unfold stmtsOf fdOf; rw [e]; exact ⟨rfl, rfl⟩
  rw [h1.1, h1.2]
  exact HA f cd qn L h₀ Z mean ns T hlen fun ρ here sg d7 en rs M => HB f cd qn L ρ here sg d7 en rs M fun ρ' M' => HC f cd qn L ρ' here sg d7 en rs M'
end Mine
set_option maxRecDepth 100000 in
set_option maxHeartbeats 8000000 in
theorem PySem.Challenge.cw_tl0020_01_holds : PySem.Challenge.rw_tl0020_01.Holds := by
  refine Mine.hd1 ?_
  k_go0
  all_goals try k_fold
  rename Fr _ _ _ _ => F
  rename News _ _ _ _ => N0
  rename Top _ _ _ _ _ _ => T
  rename Frag.In _ _ => KX
  rename Well _ _ _ _ => W1
  refine wpAny_mono (Mine.law_all _ _ _ _ _ (fun _ => False) _ _ T ?_ _ _ (Mine.FW.enter rfl ⟨KX, topRead_of T⟩ F N0 ?_ rfl rfl W1)) ?_ ?_
  · rename ¬ _ < _ => hc
    omega
  · rename CellsAre _ _ _ => X0
    exact Mine.cells_hc X0
  · intro f s' P
    obtain ⟨h', tk', U', out, rfl, g, _, _, _, l, p⟩ := P
    rcases p with rfl | ⟨p, _⟩
    · cases f with
      | ret v =>
        cases l
        exact ⟨.inl ⟨_, .bool true, [], rfl, raisesW_false (by wrow_none_raised), .bool true, postW_of (by wrow_shape) (by wtm_val) (by first | rfl | w_fin), unshared_nil⟩, g, rfl, by assumption⟩
      | _ => exact l.elim
    · cases p
  · intro e s' h
    exact h.elim
end
