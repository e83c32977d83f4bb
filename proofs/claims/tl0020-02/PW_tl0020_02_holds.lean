import PyProof.Rows.All
import Wide.All
import OpenK.AllK
import Wide.FinOn
import Lean
import PySem.Challenge.RW_tl0020_02
set_option Elab.async false
set_option linter.all false
set_option compiler.extract_closed false
set_option genSizeOf false
set_option genSizeOfSpec false
set_option genInjectivity false
section
open PySem PySem.W PyProof.Rows
set_option maxRecDepth 100000 in
set_option maxHeartbeats 8000000 in
open_top Mine.hd2 for PySem.Challenge.rw_tl0020_02
end
section
local macro_rules | `(tactic| omega) => `(tactic| lia)
section
open PySem PySem.W PyProof.Rows
set_option autoImplicit false
namespace Mine

noncomputable abbrev AS := Addr → Prop

/-- the dict tells nothing else -/
noncomputable def ClosedF (es : List DictEntry) (ns : List String) : Prop := ∀ x : String, ¬ x ∈ ns → getL (Str.ofString x) es = some none
/-- what a value stands for -/
inductive D where
  | none
  | bool (b : Bool)
  | int (i : Int)
  | str (x : Str)
  | strT (x : Str) (t : Tok)
  | tup (ds : List D)
  | lst (ds : List D)
  | rng (a b : Int)
  | inst (C : Addr) (fs : List (String × D))

/-- the heap only grows -/
noncomputable def G (h h' : Heap) : Prop := ∀ b o, h.get? b = some o → h'.get? b = some o
theorem G.rfl {h : Heap} : G h h := fun _ _ e => e
theorem G.trans {h₁ h₂ h₃ : Heap} (x : G h₁ h₂) (y : G h₂ h₃) : G h₁ h₃ := fun b o e => y b o (x b o e)
/-- all but the addresses of U stand -/
noncomputable def KB (U : AS) (h h' : Heap) : Prop := ∀ b o, ¬ U b → h.get? b = some o → h'.get? b = some o
theorem G.kb {U : AS} {h h' : Heap} (x : G h h') : KB U h h' := fun b o _ e => x b o e

mutual
inductive Den (S : AS) (h : Heap) : Value → D → Prop
  | none : Den S h Value.none D.none
  | bool (b : Bool) : Den S h (Value.bool b) (D.bool b)
  | int (i : Int) (t : Tok) : Den S h (Value.int i t) (D.int i)
  | str (x : Str) (t : Tok) : Den S h (Value.str x t) (D.str x)
  | strT (x : Str) (t : Tok) : Den S h (Value.str x t) (D.strT x t)
  | tup {a : Addr} {vs : List Value} {n : Nat} {ds : List D} : ¬ S a → h.get? a = some { cls := .type "tuple", data := .seq vs.toArray n } → DenL S h vs ds → Den S h (Value.ref a) (D.tup ds)
  | lst {a : Addr} {vs : List Value} {n : Nat} {ds : List D} : ¬ S a → h.get? a = some { cls := .type "list", data := .seq vs.toArray n } → DenL S h vs ds → Den S h (Value.ref a) (D.lst ds)
  | rng {a : Addr} {p q : Int} {t u v : Tok} : ¬ S a → IsRange h a p q 1 t u v → Den S h (Value.ref a) (D.rng p q)
  | inst {a dx C : Addr} {es : List DictEntry} {n : Nat} {fs : List (String × D)} : ¬ S a → ¬ S dx → h.get? a = some (instObj C dx) → h.get? dx = some (dictOf es n) → DenF S h es fs → ClosedF es (fs.map (·.1)) → Den S h (Value.ref a) (D.inst C fs)
inductive DenL (S : AS) (h : Heap) : List Value → List D → Prop
  | nil : DenL S h [] []
  | cons {v : Value} {vs : List Value} {d : D} {ds : List D} : Den S h v d → DenL S h vs ds → DenL S h (v :: vs) (d :: ds)
inductive DenF (S : AS) (h : Heap) : List DictEntry → List (String × D) → Prop
  | nil {es : List DictEntry} : DenF S h es []
  | cons {es : List DictEntry} {x : String} {v : Value} {d : D} {fs : List (String × D)} : getL (Str.ofString x) es = some (some v) → Den S h v d → DenF S h es fs → DenF S h es ((x, d) :: fs)
end

theorem Den.mono {S S' : AS} {h h' : Heap} (k : ∀ b o, ¬ S b → h.get? b = some o → ¬ S' b ∧ h'.get? b = some o) {v : Value} {d : D} (x : Den S h v d) : Den S' h' v d :=
  Den.rec (motive_1 := fun v d _ => Den S' h' v d) (motive_2 := fun vs ds _ => DenL S' h' vs ds) (motive_3 := fun es fs _ => DenF S' h' es fs)
    .none .bool .int .str .strT (fun ns e _ l => .tup (k _ _ ns e).1 (k _ _ ns e).2 l) (fun ns e _ l => .lst (k _ _ ns e).1 (k _ _ ns e).2 l)
    (fun ns e => .rng (k _ _ ns e).1 (k _ _ ns e).2) (fun n1 n2 e1 e2 _ cl f => .inst (k _ _ n1 e1).1 (k _ _ n2 e2).1 (k _ _ n1 e1).2 (k _ _ n2 e2).2 f cl)
    .nil (fun _ _ d l => .cons d l) .nil (fun g _ _ d l => .cons g d l) x
/-- what a value is, told by what it stands for -/
noncomputable def DenI (S : AS) (h : Heap) (v : Value) : D → Prop
  | .none => v = .none
  | .bool b => v = .bool b
  | .int i => ∃ t, v = .int i t
  | .str x => ∃ t, v = .str x t
  | .strT x t => v = .str x t
  | .tup ds => ∃ (a : Addr) (vs : List Value) (n : Nat), v = .ref a ∧ ¬ S a ∧ h.get? a = some { cls := .type "tuple", data := .seq vs.toArray n } ∧ DenL S h vs ds
  | .lst ds => ∃ (a : Addr) (vs : List Value) (n : Nat), v = .ref a ∧ ¬ S a ∧ h.get? a = some { cls := .type "list", data := .seq vs.toArray n } ∧ DenL S h vs ds
  | .rng p q => ∃ (a : Addr) (t u w : Tok), v = .ref a ∧ ¬ S a ∧ IsRange h a p q 1 t u w
  | .inst _ _ => True
theorem Den.inv {S : AS} {h : Heap} {v : Value} {d : D} (x : Den S h v d) : DenI S h v d := by
  cases x with
  | none => rfl
  | bool b => rfl
  | int i t => exact ⟨t, rfl⟩
  | str x t => exact ⟨t, rfl⟩
  | strT x t => rfl
  | tup ns e l => exact ⟨_, _, _, rfl, ns, e, l⟩
  | lst ns e l => exact ⟨_, _, _, rfl, ns, e, l⟩
  | rng ns e => exact ⟨_, _, _, _, rfl, ns, e⟩
  | inst => trivial
noncomputable def DenLI (S : AS) (h : Heap) (vs : List Value) : List D → Prop
  | [] => vs = []
  | d :: ds => ∃ v ws, vs = v :: ws ∧ Den S h v d ∧ DenL S h ws ds
theorem DenL.inv {S : AS} {h : Heap} {vs : List Value} {ds : List D} (x : DenL S h vs ds) : DenLI S h vs ds := by
  cases x with
  | nil => rfl
  | cons d l => exact ⟨_, _, rfl, d, l⟩
theorem DenL.mono {S S' : AS} {h h' : Heap} (k : ∀ b o, ¬ S b → h.get? b = some o → ¬ S' b ∧ h'.get? b = some o) {vs : List Value} {ds : List D} (x : DenL S h vs ds) : DenL S' h' vs ds := by
  induction ds generalizing vs with
  | nil => obtain rfl : vs = [] := x.inv; exact .nil
  | cons d ds ih => obtain ⟨v, ws, rfl, a, l⟩ := x.inv; exact .cons (a.mono k) (ih l)
noncomputable def DenFI (S : AS) (h : Heap) (es : List DictEntry) : List (String × D) → Prop
  | [] => True
  | (x, d) :: fs => ∃ v, getL (Str.ofString x) es = some (some v) ∧ Den S h v d ∧ DenF S h es fs
theorem DenF.inv {S : AS} {h : Heap} {es : List DictEntry} {fs : List (String × D)} (x : DenF S h es fs) : DenFI S h es fs := by
  cases x with
  | nil => trivial
  | cons g d l => exact ⟨_, g, d, l⟩
theorem DenF.mono {S S' : AS} {h h' : Heap} (k : ∀ b o, ¬ S b → h.get? b = some o → ¬ S' b ∧ h'.get? b = some o) {es : List DictEntry} {fs : List (String × D)} (x : DenF S h es fs) : DenF S' h' es fs := by
  induction fs with
  | nil => exact .nil
  | cons p fs ih => obtain ⟨v, g, d, l⟩ := x.inv; exact .cons g (d.mono k) (ih l)
theorem Den.g {S : AS} {h h' : Heap} (k : G h h') {v : Value} {d : D} (x : Den S h v d) : Den S h' v d := x.mono fun b o ns e => ⟨ns, k b o e⟩
theorem DenL.g {S : AS} {h h' : Heap} (k : G h h') {v : List Value} {d : List D} (x : DenL S h v d) : DenL S h' v d := x.mono fun b o ns e => ⟨ns, k b o e⟩
theorem Den.kb {S : AS} {h h' : Heap} (k : KB S h h') {v : Value} {d : D} (x : Den S h v d) : Den S h' v d := x.mono fun b o ns e => ⟨ns, k b o ns e⟩
theorem DenL.kb {S : AS} {h h' : Heap} (k : KB S h h') {v : List Value} {d : List D} (x : DenL S h v d) : DenL S h' v d := x.mono fun b o ns e => ⟨ns, k b o ns e⟩

theorem DenL.length {S : AS} {h : Heap} {vs : List Value} {ds : List D} (x : DenL S h vs ds) : vs.length = ds.length := by
  induction ds generalizing vs with
  | nil => obtain rfl : vs = [] := x.inv; rfl
  | cons d ds ih => obtain ⟨v, ws, rfl, _, l⟩ := x.inv; rw [List.length_cons, List.length_cons, ih l]
theorem DenL.get {S : AS} {h : Heap} {vs : List Value} {ds : List D} (x : DenL S h vs ds) (k : Nat) (d : D) (e : ds[k]? = some d) : ∃ v, vs[k]? = some v ∧ Den S h v d := by
  induction ds generalizing vs k with
  | nil => cases e
  | cons d0 ds ih =>
    obtain ⟨v, ws, rfl, dv, l⟩ := x.inv
    cases k with
    | zero => cases e; exact ⟨v, rfl, dv⟩
    | succ k => exact ih l k e
theorem DenL.append {S : AS} {h : Heap} {vs : List Value} {ds : List D} (x : DenL S h vs ds) {ws : List Value} {es : List D} (y : DenL S h ws es) : DenL S h (vs ++ ws) (ds ++ es) := by
  induction ds generalizing vs with
  | nil => obtain rfl : vs = [] := x.inv; exact y
  | cons d ds ih => obtain ⟨v, us, rfl, dv, l⟩ := x.inv; exact .cons dv (ih l)
theorem DenL.get' {S : AS} {h : Heap} {vs : List Value} {ds : List D} (x : DenL S h vs ds) (k : Nat) (v : Value) (e : vs[k]? = some v) : ∃ d, ds[k]? = some d ∧ Den S h v d := by
  induction ds generalizing vs k with
  | nil => obtain rfl : vs = [] := x.inv; cases e
  | cons d0 ds ih =>
    obtain ⟨v0, ws, rfl, dv, l⟩ := x.inv
    cases k with
    | zero => cases e; exact ⟨d0, rfl, dv⟩
    | succ k => exact ih l k e
theorem DenF.get {S : AS} {h : Heap} {es : List DictEntry} {fs : List (String × D)} (r : DenF S h es fs) {x : String} {d : D} (e : fs.lookup x = some d) : ∃ v, getL (Str.ofString x) es = some (some v) ∧ Den S h v d := by
  induction fs with
  | nil => cases e
  | cons p fs ih =>
    obtain ⟨v, g, k, r⟩ := r.inv
    rw [List.lookup_cons] at e
    by_cases q : (x == p.1) = true
    · rw [q] at e
      cases e
      rw [beq_iff_eq.mp q]
      exact ⟨_, g, k⟩
    · rw [Bool.eq_false_iff.mpr q] at e
      exact ih r e

/-- what stands all through a call: the program's own objects, and what its names mean -/
structure Cx where
  prog : Program
  w : World
  K : Frag
  p : Program
  loose : List Str
  mg : Str → Option Value
  mb : Str → Option Value
  fr : Around → Prop
noncomputable def Cx.Ok (c : Cx) (h : Heap) : Prop := c.K.In h ∧ TopRead c.p c.loose c.mg c.mb h
theorem Cx.Ok.g {c : Cx} {h h' : Heap} (x : c.Ok h) (k : G h h') : c.Ok h' := ⟨x.1.keeps k, x.2.keeps k⟩

inductive Sl where
  | fz (d : D)
  | own (ds : List D)
  | obj (a C : Addr) (fs : List (String × D))
noncomputable abbrev Rho := String → Option Sl
noncomputable def upd (ρ : Rho) (x : String) (v : Sl) : Rho := fun y => if y = x then some v else ρ y
noncomputable abbrev Both (Z U : AS) : AS := fun a => Z a ∨ U a
/-- L: the frame's own dict -/
noncomputable def SlD (L : Addr) (Z U : AS) (h : Heap) : Value → Sl → Prop
  | v, .fz d => Den (Both Z U) h v d
  | v, .own ds => ∃ a vs n, v = .ref a ∧ U a ∧ h.get? a = some { cls := .type "list", data := .seq (List.toArray vs) n } ∧ DenL (Both Z U) h vs ds
  | v, .obj a₀ C fs => ∃ a dx es n, v = .ref a ∧ U a ∧ U dx ∧ dx ≠ L ∧ h.get? a = some (instObj C dx) ∧ h.get? dx = some (dictOf es n) ∧ DenF (Both Z U) h es fs ∧ ClosedF es (fs.map (·.1)) ∧ es.length ≤ fs.length ∧ a = a₀

noncomputable def Has (env : Env) (h : Heap) (m : Str → Option Value) (x : Str) (v : Value) : Prop :=
  (env.kindOf x = some .local ∧ m x = some v) ∨ ((env.kindOf x = some .cell ∨ env.kindOf x = some .free) ∧ ∃ c, env.cells.lookup x = some c ∧ h.IsCell c (some v))

/-- the frame at hand and what its names hold -/
structure FS (env : Env) (Z U : AS) (h : Heap) (ρ : Rho) : Prop where
  kind : env.scope.kind = .function
  glob : env.globals = mainGlobals
  blt : env.builtins = builtinsNs
  loc : U env.locals
  live : ∀ a, Both Z U a → ∃ o, h.get? a = some o
  disj : ∀ a, U a → ¬ Z a
  vars : ∃ m, h.Ns env.locals m ∧ (∀ x sl, ρ x = some sl → ∃ v, Has env h m (Str.ofString x) v ∧ SlD env.locals Z U h v sl) ∧
    (∀ x y dx dy a, ρ x = some (.own dx) → ρ y = some (.own dy) → Has env h m (Str.ofString x) (.ref a) → Has env h m (Str.ofString y) (.ref a) → x = y)
  one : ∀ x y a b C D fs gs, ρ x = some (.obj a C fs) → ρ y = some (.obj b D gs) → x = y
  cell : ∀ x k, env.cells.lookup x = some k → (∃ v, h.IsCell k v) ∧ ∀ y, env.cells.lookup y = some k → y = x

theorem Has.g {env : Env} {h h' : Heap} {m : Str → Option Value} {x : Str} {v : Value} (k : G h h') (H : Has env h m x v) : Has env h' m x v :=
  H.imp id fun ⟨a, c, hc, ic⟩ => ⟨a, c, hc, ic.keeps k⟩
theorem Has.unique {env : Env} {h h' : Heap} {m : Str → Option Value} {x : Str} {v v' : Value} (k : G h h') (H : Has env h m x v) (H' : Has env h' m x v') : v = v' := by
  rcases H with ⟨a, b⟩ | ⟨a, c, d, ⟨o, e, f⟩⟩ <;> rcases H' with ⟨a', b'⟩ | ⟨a', c', d', ⟨o', e', f'⟩⟩
  · rw [b] at b'; exact Option.some.inj b'
  · rw [a] at a'; rcases a' with q | q <;> cases q
  · rw [a'] at a; rcases a with q | q <;> cases q
  · rw [d] at d'; cases d'; rw [k _ _ e] at e'; cases e'; rw [f] at f'; cases f'; rfl
theorem DenF.g {S : AS} {h h' : Heap} (k : G h h') {es : List DictEntry} {fs : List (String × D)} (x : DenF S h es fs) : DenF S h' es fs := x.mono fun b o ns e => ⟨ns, k b o e⟩
theorem DenF.kb {S : AS} {h h' : Heap} (k : KB S h h') {es : List DictEntry} {fs : List (String × D)} (x : DenF S h es fs) : DenF S h' es fs := x.mono fun b o ns e => ⟨ns, k b o ns e⟩
/-- a slot stands when its own objects stand and the rest is kept -/
theorem SlD.move {L : Addr} {Z U Z' U' : AS} {h h' : Heap} (k : ∀ b o, ¬ Both Z U b → h.get? b = some o → ¬ Both Z' U' b ∧ h'.get? b = some o) (u : ∀ b, U b → U' b)
    (hl : ∀ a vs n, U a → h.get? a = some { cls := .type "list", data := .seq (List.toArray vs) n } → h'.get? a = some { cls := .type "list", data := .seq (List.toArray vs) n })
    (hi : ∀ a C dx, U a → h.get? a = some (instObj C dx) → h'.get? a = some (instObj C dx))
    (hd : ∀ a es n, U a → a ≠ L → h.get? a = some (dictOf es n) → h'.get? a = some (dictOf es n)) : ∀ {v : Value} {sl : Sl}, SlD L Z U h v sl → SlD L Z' U' h' v sl := by
  intro v sl x
  cases sl with
  | fz d => exact Den.mono k x
  | own ds => obtain ⟨a, vs, n, e, ua, g, l⟩ := x; exact ⟨a, vs, n, e, u _ ua, hl _ _ _ ua g, DenL.mono k l⟩
  | obj a₀ C fs => obtain ⟨a, dx, es, n, e, ua, ud, nl, g1, g2, l, r⟩ := x; exact ⟨a, dx, es, n, e, u _ ua, u _ ud, nl, hi _ _ _ ua g1, hd _ _ _ ud nl g2, DenF.mono k l, r⟩
theorem SlD.g {L : Addr} {Z U : AS} {h h' : Heap} (k : G h h') {v : Value} {sl : Sl} (x : SlD L Z U h v sl) : SlD L Z U h' v sl :=
  x.move (fun b o nb e => ⟨nb, k b o e⟩) (fun _ u => u) (fun _ _ _ _ e => k _ _ e) (fun _ _ _ _ e => k _ _ e) fun _ _ _ _ _ e => k _ _ e
theorem FS.g {env : Env} {Z U : AS} {h h' : Heap} {ρ : Rho} (F : FS env Z U h ρ) (k : G h h') : FS env Z U h' ρ where
  kind := F.kind
  glob := F.glob
  blt := F.blt
  loc := F.loc
  live := fun a s => let ⟨o, e⟩ := F.live a s; ⟨o, k _ _ e⟩
  disj := F.disj
  vars := by
    obtain ⟨m, hm, hv, hi⟩ := F.vars
    refine ⟨m, hm.keeps k, fun x sl e => ?_, fun x y dx dy a e1 e2 h1 h2 => ?_⟩
    · obtain ⟨v, H, d⟩ := hv x sl e
      exact ⟨v, H.g k, d.g k⟩
    · obtain ⟨v1, H1, _⟩ := hv x _ e1
      obtain ⟨v2, H2, _⟩ := hv y _ e2
      cases H1.unique k h1
      cases H2.unique k h2
      exact hi x y dx dy a e1 e2 H1 H2
  one := F.one
  cell := fun x q e => let ⟨⟨v, i⟩, j⟩ := F.cell x q e; ⟨⟨v, i.keeps k⟩, j⟩
/-- a new address is in no set of the frame's -/
theorem FS.fresh {env : Env} {Z U : AS} {h : Heap} {ρ : Rho} (F : FS env Z U h ρ) {a : Addr} (e : h.get? a = none) : ¬ Both Z U a := fun s => by
  obtain ⟨o, q⟩ := F.live a s
  rw [e] at q; cases q

noncomputable abbrev NE : Value → Shared → Prop := fun _ _ => False

structure AOk (c : Cx) (n : Nat) (A : Around) : Prop where
  handled : A.handled = none
  depth : A.depth + n < recursionLimit
  units : A.units + 8 * n < cLine
  fr : c.fr A

noncomputable def Evals (c : Cx) (n : Nat) (env : Env) (ρ : Rho) (e : Expr) (d : D) : Prop :=
  ∀ (A : Around) (Z U : AS) (s : Shared) (Q : Value → Shared → Prop), AOk c n A → c.Ok s.heap → FS env Z U s.heap ρ →
    (∀ v h' tk, G s.heap h' → Den (Both Z U) h' v d → Q v { s with heap := h', toks := tk }) → wpAny (model c.prog c.w) A (eval e env) Q NE s

end Mine
end
section
open PySem PySem.W PyProof.Rows
set_option autoImplicit false
namespace Mine

theorem get_size (h : Heap) : h.get? h.objs.size = none := by
  cases e : h.get? h.objs.size with
  | none => rfl
  | some o => exact absurd (Heap.lt_size e) (Nat.lt_irrefl _)
theorem G.push (h : Heap) (o : Obj) : G h (h.push o) := fun _ _ e => Heap.get?_push_of_some o e
theorem fresh_of {S : AS} {h : Heap} (l : ∀ a, S a → ∃ o, h.get? a = some o) {a : Addr} (e : h.get? a = none) : ¬ S a := fun s => by
  obtain ⟨o, q⟩ := l a s
  rw [e] at q; cases q
theorem live_g {S : AS} {h h' : Heap} (l : ∀ a, S a → ∃ o, h.get? a = some o) (k : G h h') : ∀ a, S a → ∃ o, h'.get? a = some o := fun a s => let ⟨o, e⟩ := l a s; ⟨o, k _ _ e⟩

noncomputable def Op2 (c : Cx) (n : Nat) (f : Value → Value → Sem Value) (d1 d2 d : D) : Prop :=
  ∀ (A : Around) (S : AS) (s : Shared) (Q : Value → Shared → Prop) (v1 v2 : Value), AOk c n A → c.Ok s.heap → (∀ a, S a → ∃ o, s.heap.get? a = some o) → Den S s.heap v1 d1 → Den S s.heap v2 d2 →
    (∀ v h' tk, G s.heap h' → Den S h' v d → Q v { s with heap := h', toks := tk }) → wpAny (model c.prog c.w) A (f v1 v2) Q NE s
noncomputable def Op1 (c : Cx) (n : Nat) (f : Value → Sem Value) (d1 d : D) : Prop :=
  ∀ (A : Around) (S : AS) (s : Shared) (Q : Value → Shared → Prop) (v1 : Value), AOk c n A → c.Ok s.heap → (∀ a, S a → ∃ o, s.heap.get? a = some o) → Den S s.heap v1 d1 →
    (∀ v h' tk, G s.heap h' → Den S h' v d → Q v { s with heap := h', toks := tk }) → wpAny (model c.prog c.w) A (f v1) Q NE s

section
variable {c : Cx} {n : Nat} {env : Env} {ρ : Rho}

theorem Evals.name {x : String} {pos : Pos} {d : D} (h : ρ x = some (.fz d)) (hd : (Str.ofString x == ("__debug__" : Str)) = false := by decide) (hc : (Str.ofString x == ("__classdict__" : Str)) = false := by decide) : Evals c n env ρ (.Name (Str.ofString x) pos) d := by
  intro A Z U s Q ao ok F hQ
  obtain ⟨m, hm, hv, _⟩ := F.vars
  obtain ⟨v, H, dv⟩ := hv x _ h
  refine wpAny_Name ?_ hd
  rcases H with ⟨a, b⟩ | ⟨a | a, k, hk, ik⟩
  · exact wpAny_loadName_local F.kind a hm b (hQ v s.heap s.toks G.rfl dv)
  · exact wpAny_loadName_cell F.kind a hk ik (hQ v s.heap s.toks G.rfl dv)
  · exact wpAny_loadName_free F.kind a hk ik (hQ v s.heap s.toks G.rfl dv) hc

theorem Evals.int {i : Int} {k : Nat} {pos : Pos} : Evals c n env ρ (.Constant (.int i) k pos) (.int i) :=
  fun _ _ _ _ _ _ _ _ hQ => wpAny_Constant_int (hQ _ _ _ G.rfl (.int _ _))
theorem Evals.strc {x : Str} {k : Nat} {pos : Pos} : Evals c n env ρ (.Constant (.str x) k pos) (.str x) :=
  fun _ _ _ _ _ _ _ _ hQ => wpAny_Constant_str (hQ _ _ _ G.rfl (.str _ _))
theorem Evals.boolc {b : Bool} {k : Nat} {pos : Pos} : Evals c n env ρ (.Constant (.bool b) k pos) (.bool b) :=
  fun _ _ _ s _ _ _ _ hQ => wpAny_Constant_bool (hQ _ s.heap s.toks G.rfl (.bool _))

theorem Evals.two {f : Value → Value → Sem Value} {l r : Expr} {d1 d2 d : D} (h1 : Evals c n env ρ l d1) (h2 : Evals c n env ρ r d2) (o : Op2 c n f d1 d2 d)
    {A : Around} {Z U : AS} {s : Shared} {Q : Value → Shared → Prop} (ao : AOk c n A) (ok : c.Ok s.heap) (F : FS env Z U s.heap ρ) (hQ : ∀ v h' tk, G s.heap h' → Den (Both Z U) h' v d → Q v { s with heap := h', toks := tk }) :
    wpAny (model c.prog c.w) A (eval l env) (fun a s₁ => wpAny (model c.prog c.w) A (eval r env) (fun b s₂ => wpAny (model c.prog c.w) A (f a b) Q NE s₂) NE s₁) NE s :=
  h1 A Z U s _ ao ok F fun v1 _ _ g1 e1 => h2 A Z U _ _ ao (ok.g g1) (F.g g1) fun v2 _ _ g2 e2 =>
    o A (Both Z U) _ _ v1 v2 ao (ok.g (g1.trans g2)) (F.g (g1.trans g2)).live (e1.g g2) e2 fun v h' tk g3 e3 => hQ v h' tk (g1.trans (g2.trans g3)) e3

theorem Evals.bin {op : Operator} {l r : Expr} {pos : Pos} {d1 d2 d : D} (h1 : Evals c n env ρ l d1) (h2 : Evals c n env ρ r d2) (o : Op2 c n (binaryOp op) d1 d2 d) : Evals c n env ρ (.BinOp l op r pos) d :=
  fun _ _ _ _ _ ao ok F hQ => wpAny_BinOp (h1.two h2 o ao ok F hQ)
theorem Evals.cmp {op : CmpOp} {l r : Expr} {pos : Pos} {d1 d2 d : D} (h1 : Evals c n env ρ l d1) (h2 : Evals c n env ρ r d2) (o : Op2 c n (compareOp op) d1 d2 d)
    (hm : behindInMarks op r = false := by with_unfolding_all rfl) : Evals c n env ρ (.Compare l [op] [r] pos) d :=
  fun _ _ _ _ _ ao ok F hQ => wpAny_Compare1 (h1.two h2 o ao ok F hQ) hm
theorem Evals.un {op : UnaryOp} {x : Expr} {pos : Pos} {d1 d : D} (h1 : Evals c n env ρ x d1) (o : Op1 c n (unaryOp op) d1 d) : Evals c n env ρ (.UnaryOp op x pos) d :=
  fun A Z U s _ ao ok F hQ => wpAny_UnaryOp (h1 A Z U s _ ao ok F fun v1 _ _ g1 e1 => o A (Both Z U) _ _ v1 ao (ok.g g1) (F.g g1).live e1 fun v h' tk g3 e3 => hQ v h' tk (g1.trans g3) e3)

-- ints
theorem Op2.add {a b : Int} : Op2 c n (binaryOp .Add) (.int a) (.int b) (.int (a + b)) := fun _ _ _ _ _ _ _ _ _ e1 e2 hQ => by
  obtain ⟨_, rfl⟩ := e1.inv; obtain ⟨_, rfl⟩ := e2.inv; exact add_int (hQ _ _ _ G.rfl (.int _ _))
theorem Op2.sub {a b : Int} : Op2 c n (binaryOp .Sub) (.int a) (.int b) (.int (a - b)) := fun _ _ _ _ _ _ _ _ _ e1 e2 hQ => by
  obtain ⟨_, rfl⟩ := e1.inv; obtain ⟨_, rfl⟩ := e2.inv; exact sub_int (hQ _ _ _ G.rfl (.int _ _))
theorem Op2.mul {a b : Int} (hm : IntMulOk a b := by mul_fits) : Op2 c n (binaryOp .Mult) (.int a) (.int b) (.int (a * b)) := fun _ _ _ _ _ _ _ _ _ e1 e2 hQ => by
  obtain ⟨_, rfl⟩ := e1.inv; obtain ⟨_, rfl⟩ := e2.inv; exact mul_int (hQ _ _ _ G.rfl (.int _ _)) hm
theorem Op2.fdiv {a b : Int} (hb : b ≠ 0) (hp : Builtin.divisionGoesByPylong a b = false) : Op2 c n (binaryOp .FloorDiv) (.int a) (.int b) (.int (a.fdiv b)) := fun _ _ _ _ _ _ _ _ _ e1 e2 hQ => by
  obtain ⟨_, rfl⟩ := e1.inv; obtain ⟨_, rfl⟩ := e2.inv; exact floordiv_int hb (hQ _ _ _ G.rfl (.int _ _)) (.inl hp)
theorem Op2.fmod {a b : Int} (hb : b ≠ 0) : Op2 c n (binaryOp .Mod) (.int a) (.int b) (.int (a.fmod b)) := fun _ _ _ _ _ _ _ _ _ e1 e2 hQ => by
  obtain ⟨_, rfl⟩ := e1.inv; obtain ⟨_, rfl⟩ := e2.inv; exact mod_int hb (hQ _ _ _ G.rfl (.int _ _))
theorem Op2.pow {a b : Int} (hn : 0 ≤ b) (hn2 : b ≤ 1000000) (ha : a.natAbs < 2 ^ 64) : Op2 c n (binaryOp .Pow) (.int a) (.int b) (.int (a ^ b.toNat)) := fun _ _ _ _ _ _ _ _ _ e1 e2 hQ => by
  obtain ⟨_, rfl⟩ := e1.inv; obtain ⟨_, rfl⟩ := e2.inv; exact pow_int_small hn hn2 ha (hQ _ _ _ G.rfl (.int _ _))
theorem Op2.eq {a b : Int} : Op2 c n (compareOp .Eq) (.int a) (.int b) (.bool (a == b)) := fun _ _ s _ _ _ _ _ _ e1 e2 hQ => by
  obtain ⟨_, rfl⟩ := e1.inv; obtain ⟨_, rfl⟩ := e2.inv; exact eq_int (hQ _ s.heap s.toks G.rfl (.bool _))
theorem Op2.ne {a b : Int} : Op2 c n (compareOp .NotEq) (.int a) (.int b) (.bool (a != b)) := fun _ _ s _ _ _ _ _ _ e1 e2 hQ => by
  obtain ⟨_, rfl⟩ := e1.inv; obtain ⟨_, rfl⟩ := e2.inv; exact ne_int (hQ _ s.heap s.toks G.rfl (.bool _))
theorem Op2.lt {a b : Int} : Op2 c n (compareOp .Lt) (.int a) (.int b) (.bool (decide (a < b))) := fun _ _ s _ _ _ _ _ _ e1 e2 hQ => by
  obtain ⟨_, rfl⟩ := e1.inv; obtain ⟨_, rfl⟩ := e2.inv; exact lt_int (hQ _ s.heap s.toks G.rfl (.bool _))
theorem Op2.gt {a b : Int} : Op2 c n (compareOp .Gt) (.int a) (.int b) (.bool (decide (b < a))) := fun _ _ s _ _ _ _ _ _ e1 e2 hQ => by
  obtain ⟨_, rfl⟩ := e1.inv; obtain ⟨_, rfl⟩ := e2.inv; exact gt_int (hQ _ s.heap s.toks G.rfl (.bool _))
theorem Op2.le {a b : Int} : Op2 c n (compareOp .LtE) (.int a) (.int b) (.bool (decide (a ≤ b))) := fun _ _ s _ _ _ _ _ _ e1 e2 hQ => by
  obtain ⟨_, rfl⟩ := e1.inv; obtain ⟨_, rfl⟩ := e2.inv; exact le_int (hQ _ s.heap s.toks G.rfl (.bool _))
theorem Op2.ge {a b : Int} : Op2 c n (compareOp .GtE) (.int a) (.int b) (.bool (decide (b ≤ a))) := fun _ _ s _ _ _ _ _ _ e1 e2 hQ => by
  obtain ⟨_, rfl⟩ := e1.inv; obtain ⟨_, rfl⟩ := e2.inv; exact ge_int (hQ _ s.heap s.toks G.rfl (.bool _))
theorem Op1.neg {a : Int} : Op1 c n (unaryOp .USub) (.int a) (.int (-a)) := fun _ _ _ _ _ _ _ _ e1 hQ => by
  obtain ⟨_, rfl⟩ := e1.inv; exact P.neg_int (hQ _ _ _ G.rfl (.int _ _))

-- texts
theorem Op2.adds {a b : Str} (hz : a.length + b.length ≤ sizeLine) : Op2 c n (binaryOp .Add) (.str a) (.str b) (.str (a ++ b)) := fun _ _ s _ _ _ _ _ _ e1 e2 hQ => by
  obtain ⟨_, rfl⟩ := e1.inv; obtain ⟨_, rfl⟩ := e2.inv; exact SB.add (fun t k => hQ _ s.heap k G.rfl (.str _ _)) hz
theorem Op2.eqs {a b : Str} : Op2 c n (compareOp .Eq) (.str a) (.str b) (.bool (a == b)) := fun _ _ s _ _ _ _ _ _ e1 e2 hQ => by
  obtain ⟨_, rfl⟩ := e1.inv; obtain ⟨_, rfl⟩ := e2.inv; exact eq_str (hQ _ s.heap s.toks G.rfl (.bool _))
theorem Op2.nes {a b : Str} : Op2 c n (compareOp .NotEq) (.str a) (.str b) (.bool (a != b)) := fun _ _ s _ _ _ _ _ _ e1 e2 hQ => by
  obtain ⟨_, rfl⟩ := e1.inv; obtain ⟨_, rfl⟩ := e2.inv; exact ne_str (hQ _ s.heap s.toks G.rfl (.bool _))
theorem Op2.ins {a b : Str} : Op2 c n (compareOp .In) (.str a) (.str b) (.bool (Txt.contains b a)) := fun _ _ s _ _ _ _ _ _ e1 e2 hQ => by
  obtain ⟨_, rfl⟩ := e1.inv; obtain ⟨_, rfl⟩ := e2.inv; exact SB.contains (hQ _ s.heap s.toks G.rfl (.bool _))
theorem Op2.notins {a b : Str} : Op2 c n (compareOp .NotIn) (.str a) (.str b) (.bool (!Txt.contains b a)) := fun _ _ s _ _ _ _ _ _ e1 e2 hQ => by
  obtain ⟨_, rfl⟩ := e1.inv; obtain ⟨_, rfl⟩ := e2.inv; exact SB.notContains (hQ _ s.heap s.toks G.rfl (.bool _))
end
end Mine
end
section
open PySem PySem.W PyProof.Rows
set_option autoImplicit false
namespace Mine

theorem ofString_inj {a b : String} (h : Str.ofString a = Str.ofString b) : a = b := by
  rw [Str.ofString_eq_toList, Str.ofString_eq_toList] at h
  have h1 : a.toList.map Char.toNat = b.toList.map Char.toNat := by
    have := congrArg (fun x : Str => x.cps.toList) h
    simpa using this
  have inj : ∀ (l m : List Char), l.map Char.toNat = m.map Char.toNat → l = m := by
    intro l
    induction l with
    | nil => intro m e; cases m with
      | nil => rfl
      | cons c r => simp at e
    | cons c r ih =>
      intro m e
      cases m with
      | nil => simp at e
      | cons d q =>
        simp only [List.map_cons, List.cons.injEq] at e
        rw [ih q e.2]
        have : c = d := by
          apply Char.ext
          apply UInt32.toNat.inj
          exact e.1
        rw [this]
  have := inj _ _ h1
  exact String.toList_inj.mp this

noncomputable def Tests (c : Cx) (n : Nat) (env : Env) (ρ : Rho) (e : Expr) (b : Bool) : Prop :=
  ∀ (A : Around) (Z U : AS) (s : Shared) (Q : Bool → Shared → Prop), AOk c n A → c.Ok s.heap → FS env Z U s.heap ρ →
    (∀ h' tk, G s.heap h' → Q b { s with heap := h', toks := tk }) → wpAny (model c.prog c.w) A (isTrue e env (eval e env)) Q NE s

section
variable {c : Cx} {n : Nat} {env : Env} {ρ : Rho}
theorem Tests.cmp {op : CmpOp} {l r : Expr} {pos : Pos} {d1 d2 : D} {b : Bool} (h1 : Evals c n env ρ l d1) (h2 : Evals c n env ρ r d2) (o : Op2 c n (compareOp op) d1 d2 (.bool b))
    (hm : behindInMarks op r = false := by with_unfolding_all rfl) : Tests c n env ρ (.Compare l [op] [r] pos) b := by
  intro A Z U s Q ao ok F hQ
  refine wpAny_isTrue_Compare1 (wpAny_mono (h1.two h2 o ao ok F (Q := fun v s' => wpAny (model c.prog c.w) A (truthy v) Q NE s') fun v h' tk g e => ?_) (fun _ _ x => ?_) fun _ _ x => x) hm
  · cases e
    exact wpAny_truthy_bool (hQ h' tk g)
  · exact x
theorem Tests.val {e : Expr} {b : Bool} (h : Evals c n env ρ e (.bool b)) (hp : ∀ w, isTrue e env w = (do let v ← w; standAt e.pos; holding [v] (truthy v)) := by intro _; rfl) : Tests c n env ρ e b := by
  intro A Z U s Q ao ok F hQ
  refine wpAny_isTrue_value (h A Z U s _ ao ok F fun v h' tk g e => ?_) (hp _)
  cases e
  exact wpAny_truthy_bool (hQ h' tk g)
theorem Tests.str {e : Expr} {x : Str} (h : Evals c n env ρ e (.str x)) (hx : x.length < 2 ^ 62) (hp : ∀ w, isTrue e env w = (do let v ← w; standAt e.pos; holding [v] (truthy v)) := by intro _; rfl) : Tests c n env ρ e ((x.length : Int) != 0) := by
  intro A Z U s Q ao ok F hQ
  refine wpAny_isTrue_value (h A Z U s _ ao ok F fun v h' tk g e => ?_) (hp _)
  cases e
  refine P.truthy_str (by omega) ?_
  exact hQ h' _ g
theorem Tests.or2 {x y : Expr} {pos : Pos} {a b : Bool} (h1 : Tests c n env ρ x a) (h2 : a = false → Tests c n env ρ y b) : Tests c n env ρ (.BoolOp .Or [x, y] pos) (a || b) := by
  intro A Z U s Q ao ok F hQ
  refine wpAny_isTrue_BoolOp (wpAny_allTrue_Or_cons (h1 A Z U s _ ao ok F fun h' tk g => ?_))
  cases a with
  | true => exact hQ h' tk g
  | false => exact wpAny_allTrue_Or_cons (h2 rfl A Z U _ _ ao (ok.g g) (F.g g) fun h2' tk2 g2 => by
      cases b with
      | true => exact hQ h2' tk2 (g.trans g2)
      | false => exact wpAny_allTrue_Or_nil (hQ h2' tk2 (g.trans g2)))
theorem Tests.and2 {x y : Expr} {pos : Pos} {a b : Bool} (h1 : Tests c n env ρ x a) (h2 : a = true → Tests c n env ρ y b) : Tests c n env ρ (.BoolOp .And [x, y] pos) (a && b) := by
  intro A Z U s Q ao ok F hQ
  refine wpAny_isTrue_BoolOp (wpAny_allTrue_And_cons (h1 A Z U s _ ao ok F fun h' tk g => ?_))
  cases a with
  | false => exact hQ h' tk g
  | true => exact wpAny_allTrue_And_cons (h2 rfl A Z U _ _ ao (ok.g g) (F.g g) fun h2' tk2 g2 => by
      cases b with
      | false => exact hQ h2' tk2 (g.trans g2)
      | true => exact wpAny_allTrue_And_nil (hQ h2' tk2 (g.trans g2)))
end

end Mine
end
section
open PySem PySem.W PyProof.Rows
set_option autoImplicit false
namespace Mine

/-- a frame that may be written: what stood at the call's start (h₀) stands; the cells are the frame's own -/
structure FW (c : Cx) (h₀ : Heap) (env : Env) (Z U : AS) (h : Heap) (ρ : Rho) : Prop where
  fs : FS env Z U h ρ
  ok : c.Ok h₀
  base : G h₀ h
  off : ∀ a, U a → h₀.get? a = none
  own : env.func ≠ none → ∀ x k, env.cells.lookup x = some k → U k

theorem FW.g {c : Cx} {h₀ h h' : Heap} {env : Env} {Z U : AS} {ρ : Rho} (F : FW c h₀ env Z U h ρ) (k : G h h') : FW c h₀ env Z U h' ρ :=
  ⟨F.fs.g k, F.ok, F.base.trans k, F.off, F.own⟩
theorem FW.okh {c : Cx} {h₀ h : Heap} {env : Env} {Z U : AS} {ρ : Rho} (F : FW c h₀ env Z U h ρ) : c.Ok h := F.ok.g F.base

theorem upd_self (ρ : Rho) (x : String) (v : Sl) : upd ρ x v x = some v := by unfold upd; rw [if_pos rfl]
theorem upd_ne (ρ : Rho) {x y : String} (v : Sl) (h : y ≠ x) : upd ρ x v y = ρ y := by unfold upd; rw [if_neg h]

theorem upd_cases {ρ : Rho} {x y : String} {sl s2 : Sl} (e : upd ρ x sl y = some s2) : (y = x ∧ sl = s2) ∨ (y ≠ x ∧ ρ y = some s2) := by
  by_cases q : y = x
  · rw [q, upd_self] at e; exact .inl ⟨q, Option.some.inj e⟩
  · rw [upd_ne _ _ q] at e; exact .inr ⟨q, e⟩
theorem upd_off {ρ : Rho} {x y : String} {sl s2 : Sl} (e : upd ρ x sl y = some s2) (h : (sl.ctorIdx == s2.ctorIdx) = false) : ρ y = some s2 :=
  (upd_cases e).elim (fun q => by rw [q.2, beq_self_eq_true] at h; cases h) (·.2)
/-- two objects of two kinds stand at two addresses -/
theorem apart {h : Heap} {a : Addr} {o o' : Obj} (e : h.get? a = some o) (e' : h.get? a = some o') (n : (o.data.ctorIdx == o'.data.ctorIdx) = false) : False := by
  rw [e] at e'; cases e'; rw [beq_self_eq_true] at n; cases n
theorem Has.iff {env : Env} {h h' : Heap} {m m' : Str → Option Value} {x : Str} {v : Value} (e : m x = m' x) (k : ∀ c, env.cells.lookup x = some c → h'.get? c = h.get? c) : Has env h m x v ↔ Has env h' m' x v := by
  unfold Has Heap.IsCell
  rw [e]
  exact or_congr .rfl (and_congr .rfl (exists_congr fun c => and_congr_right fun hc => by rw [k c hc]))
theorem FS.cne {env : Env} {Z U : AS} {h : Heap} {ρ : Rho} (F : FS env Z U h ρ) {a : Addr} {o : Obj} (g : h.get? a = some o) (nc : (o.data.ctorIdx == (Data.cell none).ctorIdx) = false) (y : Str) (k : Addr) (e : env.cells.lookup y = some k) : k ≠ a := fun q => by
  obtain ⟨⟨v, o', ho, hd⟩, _⟩ := F.cell y k e
  exact apart g (q ▸ ho) (by rw [hd]; exact nc)
theorem FS.lne {env : Env} {Z U : AS} {h : Heap} {ρ : Rho} (F : FS env Z U h ρ) {a : Addr} {o : Obj} (g : h.get? a = some o) (nd : (o.data.ctorIdx == (Data.dict #[] 0).ctorIdx) = false) : env.locals ≠ a := fun q => by
  obtain ⟨m, ⟨o', es, n, ho, hd, _⟩, _⟩ := F.vars
  exact apart g (q ▸ ho) (by rw [hd]; exact nd)

/-- one address of U is written (the frame's dict or a cell): the names but x hold what they held -/
theorem FS.store {env : Env} {Z U : AS} {h h' : Heap} {ρ : Rho} {x : String} {v : Value} {sl : Sl} {a : Addr} (F : FS env Z U h ρ) (ua : U a) (hs : Heap.SameBut a h h') (ex : ∃ o, h'.get? a = some o)
    (hl : ∀ o, h.get? a = some o → (∃ v, o.data = .cell v) ∨ (a = env.locals ∧ ∃ es n, o.data = .dict es n))
    (nw : ∀ m, h.Ns env.locals m → ∃ m', h'.Ns env.locals m' ∧ Has env h' m' (Str.ofString x) v ∧ ∀ y, y ≠ x → ∀ u, Has env h m (Str.ofString y) u ↔ Has env h' m' (Str.ofString y) u)
    (dv : SlD env.locals Z U h v sl) (hinj : ∀ m, h.Ns env.locals m → ∀ ds y dy, sl = .own ds → y ≠ x → ρ y = some (.own dy) → ¬ Has env h m (Str.ofString y) v)
    (hone : ∀ a C fs, sl = .obj a C fs → ∀ y b D gs, y ≠ x → ρ y ≠ some (.obj b D gs)) (hc : ∀ y k, env.cells.lookup y = some k → ∃ u, h'.IsCell k u) : FS env Z U h' (upd ρ x sl) := by
  have kb : ∀ b o, ¬ Both Z U b → h.get? b = some o → ¬ Both Z U b ∧ h'.get? b = some o := fun b o nb e => ⟨nb, (hs.2 b fun q => nb (q ▸ .inr ua)).trans e⟩
  have off : ∀ {d d' : Data}, d = d' → (d.ctorIdx == d'.ctorIdx) = false → False := fun e n => by rw [e, beq_self_eq_true] at n; cases n
  have mv : ∀ {v : Value} {sl : Sl}, SlD env.locals Z U h v sl → SlD env.locals Z U h' v sl := fun {v sl} S =>
    S.move kb (fun _ u => u)
      (fun b vs n _ e => (hs.2 b fun q => by
        rcases hl _ (q ▸ e) with ⟨_, d⟩ | ⟨_, _, _, d⟩ <;> exact off d rfl).trans e)
      (fun b C dx _ e => (hs.2 b fun q => by
        rcases hl _ (q ▸ e) with ⟨_, d⟩ | ⟨_, _, _, d⟩ <;> exact off d rfl).trans e)
      (fun b es n _ nl e => (hs.2 b fun q => by
        rcases hl _ (q ▸ e) with ⟨_, d⟩ | ⟨d, _⟩
        · exact off d rfl
        · exact nl (q.trans d)).trans e)
  obtain ⟨m, hm, hv, hi⟩ := F.vars
  obtain ⟨m', hm', hx, hy⟩ := nw m hm
  refine ⟨F.kind, F.glob, F.blt, F.loc, fun b sb => ?_, F.disj, ⟨m', hm', fun y sl' e => ?_, fun y z dy dz b e1 e2 h1 h2 => ?_⟩, fun y z a' b' C D fs gs e1 e2 => ?_, fun y k e => ⟨hc y k e, (F.cell y k e).2⟩⟩
  · by_cases q : b = a
    · subst q; exact ex
    · obtain ⟨o, e⟩ := F.live b sb
      exact ⟨o, (hs.2 b q).trans e⟩
  · rcases upd_cases e with ⟨rfl, rfl⟩ | ⟨q, e⟩
    · exact ⟨v, hx, mv dv⟩
    · obtain ⟨u, H, sd⟩ := hv y sl' e
      exact ⟨u, (hy y q u).mp H, mv sd⟩
  · rcases upd_cases e1 with ⟨rfl, r1⟩ | ⟨n1, e3⟩
    · rcases upd_cases e2 with ⟨q, _⟩ | ⟨n2, e4⟩
      · exact q.symm
      · exact absurd (h1.unique G.rfl hx ▸ (hy z n2 _).mpr h2) (hinj m hm _ z _ r1 n2 e4)
    · rcases upd_cases e2 with ⟨rfl, r2⟩ | ⟨n2, e4⟩
      · exact absurd (h2.unique G.rfl hx ▸ (hy y n1 _).mpr h1) (hinj m hm _ y _ r2 n1 e3)
      · exact hi y z dy dz b e3 e4 ((hy y n1 _).mpr h1) ((hy z n2 _).mpr h2)
  · rcases upd_cases e1 with ⟨q, r1⟩ | ⟨n1, e3⟩
    · rcases upd_cases e2 with ⟨r, _⟩ | ⟨n2, e4⟩
      · exact q.trans r.symm
      · exact absurd e4 (hone _ _ _ r1 z _ _ _ n2)
    · rcases upd_cases e2 with ⟨_, r2⟩ | ⟨n2, e4⟩
      · exact absurd e3 (hone _ _ _ r2 y _ _ _ n1)
      · exact F.one y z _ _ _ _ _ _ e3 e4

noncomputable def Stores (env : Env) (x : String) : Prop := env.kindOf (Str.ofString x) = some .local ∨ ∃ k, env.kindOf (Str.ofString x) = some .cell ∧ env.cells.lookup (Str.ofString x) = some k ∧ env.func ≠ none

/-- x alone is stored -/
noncomputable def Stored (env : Env) (h h' : Heap) (x : String) (v : Value) : Prop :=
  ∀ m, h.Ns env.locals m → ∃ m', h'.Ns env.locals m' ∧ Has env h' m' (Str.ofString x) v ∧ ∀ y, y ≠ x → ∀ u, Has env h m (Str.ofString y) u ↔ Has env h' m' (Str.ofString y) u
theorem FW.storeSl' {c : Cx} {A : Around} {h₀ : Heap} {env : Env} {Z U : AS} {s : Shared} {ρ : Rho} {x : String} {v : Value} {sl : Sl} {Q : Unit → Shared → Prop} (F : FW c h₀ env Z U s.heap ρ) (st : Stores env x) (dv : SlD env.locals Z U s.heap v sl)
    (hinj : ∀ m, s.heap.Ns env.locals m → ∀ ds y dy, sl = .own ds → y ≠ x → ρ y = some (.own dy) → ¬ Has env s.heap m (Str.ofString y) v) (hone : ∀ a C fs, sl = .obj a C fs → ∀ y b D gs, y ≠ x → ρ y ≠ some (.obj b D gs))
    (hQ : ∀ h' tk, FW c h₀ env Z U h' (upd ρ x sl) → KB U s.heap h' → (∀ a, s.heap.get? a = none → h'.get? a = none) → Stored env s.heap h' x v →
      (∀ b o, b ≠ env.locals → (∀ v, o.data ≠ .cell v) → s.heap.get? b = some o → h'.get? b = some o) → Q () { s with heap := h', toks := tk }) : wpAny (model c.prog c.w) A (storeName env (Str.ofString x) v) Q NE s := by
  have fin : ∀ {a : Addr} {h' : Heap} {tk : Nat} {o : Obj}, U a → Heap.SameBut a s.heap h' → s.heap.get? a = some o → ((∃ v, o.data = .cell v) ∨ (a = env.locals ∧ ∃ es n, o.data = .dict es n)) → (∃ o, h'.get? a = some o) →
      Stored env s.heap h' x v → (∀ y k, env.cells.lookup y = some k → ∃ u, h'.IsCell k u) → Q () { s with heap := h', toks := tk } := by
    intro a h' tk o ua hs ea hd ex nw hc
    refine hQ h' tk ⟨F.fs.store ua hs ex (fun o e => ?_) nw dv hinj hone hc, F.ok, fun b o e => (hs.2 b fun q => ?_).trans (F.base b o e), F.off, F.own⟩ (fun b o nb e => (hs.2 b fun q => nb (q ▸ ua)).trans e)
      (fun b e => (hs.2 b fun q => ?_).trans e) nw fun b o nb nc e => (hs.2 b fun q => ?_).trans e
    · rw [ea] at e; cases e; exact hd
    · rw [q, F.off _ ua] at e; cases e
    · rw [q, ea] at e; cases e
    · rw [q, ea] at e; cases e
      exact hd.elim (fun ⟨v, d⟩ => nc v d) fun d => nb (q.trans d.1)
  obtain ⟨m, hm, _, _⟩ := F.fs.vars
  have ⟨o, es, ep, eo, ed, _⟩ := hm
  rcases st with kl | ⟨k, kc, hk, hfn⟩
  · refine wpAny_storeName_local kl hm (fun h' hn hs => ?_) (by rw [F.fs.kind]; rfl)
    have hcell := F.fs.cne eo (by rw [ed]; rfl)
    refine fin F.fs.loc hs eo (.inr ⟨rfl, _, _, ed⟩) (let ⟨o, _, _, e, _⟩ := hn; ⟨o, e⟩) (fun m₁ hm₁ => ⟨_, hn, .inl ⟨kl, by simp⟩, fun y ny u => ?_⟩) fun y k e => ?_
    · rw [hm₁.eq_nsMap.trans hm.eq_nsMap.symm]
      have ns : Str.ofString y ≠ Str.ofString x := fun q => ny (ofString_inj q)
      exact Has.iff (by simp [ns]) fun k hk => hs.2 k (hcell _ _ hk)
    · obtain ⟨⟨u, o, ho, hd⟩, _⟩ := F.fs.cell y k e
      exact ⟨u, o, (hs.2 k (hcell _ _ e)).trans ho, hd⟩
  · obtain ⟨⟨v₀, ic⟩, inj⟩ := F.fs.cell _ k hk
    have uk := F.own hfn _ k hk
    refine wpAny_storeName_cell F.fs.kind kc hk ic fun h' hv hs => ?_
    obtain ⟨oc, ec, dc⟩ := ic
    refine fin uk hs ec (.inl ⟨_, dc⟩) (let ⟨o, e, _⟩ := hv; ⟨o, e⟩) (fun m₁ hm₁ => ⟨m₁, hm₁.sameBut hs (F.fs.lne ec (by rw [dc]; rfl)), .inr ⟨.inl kc, k, hk, hv⟩, fun y ny u => Has.iff rfl fun k' hk' => hs.2 k' fun q => ny (ofString_inj (inj _ (q ▸ hk')))⟩) fun y k' e => ?_
    by_cases q : k' = k
    · exact q ▸ ⟨_, hv⟩
    · obtain ⟨⟨u, o, ho, hd⟩, _⟩ := F.fs.cell y k' e
      exact ⟨u, o, (hs.2 k' q).trans ho, hd⟩
theorem FW.storeSl {c : Cx} {A : Around} {h₀ : Heap} {env : Env} {Z U : AS} {s : Shared} {ρ : Rho} {x : String} {v : Value} {sl : Sl} {Q : Unit → Shared → Prop} (F : FW c h₀ env Z U s.heap ρ) (st : Stores env x) (dv : SlD env.locals Z U s.heap v sl)
    (hinj : ∀ m, s.heap.Ns env.locals m → ∀ ds y dy, sl = .own ds → y ≠ x → ρ y = some (.own dy) → ¬ Has env s.heap m (Str.ofString y) v) (hone : ∀ a C fs, sl = .obj a C fs → ∀ y b D gs, y ≠ x → ρ y ≠ some (.obj b D gs))
    (hQ : ∀ h' tk, FW c h₀ env Z U h' (upd ρ x sl) → KB U s.heap h' → (∀ a, s.heap.get? a = none → h'.get? a = none) → Q () { s with heap := h', toks := tk }) : wpAny (model c.prog c.w) A (storeName env (Str.ofString x) v) Q NE s :=
  F.storeSl' st dv hinj hone fun h' tk F' kb kn _ _ => hQ h' tk F' kb kn
theorem FW.store {c : Cx} {A : Around} {h₀ : Heap} {env : Env} {Z U : AS} {s : Shared} {ρ : Rho} {x : String} {v : Value} {d : D} {Q : Unit → Shared → Prop} (F : FW c h₀ env Z U s.heap ρ) (st : Stores env x) (dv : Den (Both Z U) s.heap v d)
    (hQ : ∀ h' tk, FW c h₀ env Z U h' (upd ρ x (.fz d)) → KB U s.heap h' → (∀ a, s.heap.get? a = none → h'.get? a = none) → Q () { s with heap := h', toks := tk }) : wpAny (model c.prog c.w) A (storeName env (Str.ofString x) v) Q NE s :=
  F.storeSl (sl := .fz d) st dv (fun _ _ _ _ _ e => by cases e) (fun _ _ _ e => by cases e) hQ

/-- new addresses may be the frame's own -/
theorem FW.extend {c : Cx} {h₀ h h' : Heap} {env : Env} {Z U N : AS} {ρ : Rho} (F : FW c h₀ env Z U h ρ) (g : G h h') (nw : ∀ a, N a → h.get? a = none ∧ ∃ o, h'.get? a = some o) : FW c h₀ env Z (fun a => U a ∨ N a) h' ρ where
  fs := by
    have no : ∀ b o, h.get? b = some o → ¬ N b := fun b o e nb => by have := (nw b nb).1; rw [e] at this; cases this
    have mv : ∀ {v : Value} {sl : Sl}, SlD env.locals Z U h v sl → SlD env.locals Z (fun a => U a ∨ N a) h' v sl := fun {v sl} S =>
      S.move (fun b o nb e => ⟨fun q => q.elim (fun z => nb (.inl z)) fun z => z.elim (fun z => nb (.inr z)) (no b o e), g b o e⟩) (fun _ u => .inl u) (fun _ _ _ _ e => g _ _ e) (fun _ _ _ _ e => g _ _ e) fun _ _ _ _ _ e => g _ _ e
    refine ⟨F.fs.kind, F.fs.glob, F.fs.blt, .inl F.fs.loc, fun a s => ?_, fun a u z => ?_, ?_, F.fs.one, (F.fs.g g).cell⟩
    · rcases s with z | u | n
      · obtain ⟨o, e⟩ := F.fs.live a (.inl z); exact ⟨o, g _ _ e⟩
      · obtain ⟨o, e⟩ := F.fs.live a (.inr u); exact ⟨o, g _ _ e⟩
      · exact (nw a n).2
    · rcases u with u | n
      · exact F.fs.disj a u z
      · obtain ⟨o, e⟩ := F.fs.live a (.inl z); exact no a o e n
    · obtain ⟨m, hm, hv, hi⟩ := F.fs.vars
      refine ⟨m, hm.keeps g, fun x sl e => ?_, fun x y dx dy a e1 e2 h1 h2 => ?_⟩
      · obtain ⟨v, H, d⟩ := hv x sl e
        exact ⟨v, H.g g, mv d⟩
      · obtain ⟨v1, H1, _⟩ := hv x _ e1
        obtain ⟨v2, H2, _⟩ := hv y _ e2
        cases H1.unique g h1
        cases H2.unique g h2
        exact hi x y dx dy a e1 e2 H1 H2
  ok := F.ok
  base := F.base.trans g
  off := fun a u => by
    rcases u with u | n
    · exact F.off a u
    · cases e : h₀.get? a with
      | none => rfl
      | some o => have := F.base a o e; rw [(nw a n).1] at this; cases this
  own := fun q x k e => .inl (F.own q x k e)

inductive Out where
  | next (ρ : Rho)
  | ret (d : D)
  | brk (ρ : Rho)

noncomputable def Lands (c : Cx) (h₀ : Heap) (env : Env) (Z U : AS) (h : Heap) : Flow → Out → Prop
  | .next, .next ρ => FW c h₀ env Z U h ρ
  | .brk, .brk ρ => FW c h₀ env Z U h ρ
  | .ret v, .ret d => Den (Both Z U) h v d
  | _, _ => False
noncomputable def Post (c : Cx) (h₀ : Heap) (env : Env) (Z U : AS) (s : Shared) (Φ : Out → Prop) (f : Flow) (s' : Shared) : Prop :=
  ∃ h' tk U' out, s' = { s with heap := h', toks := tk } ∧ G h₀ h' ∧ KB U s.heap h' ∧ (∀ a, U' a → U a ∨ s.heap.get? a = none) ∧ (∀ a, U' a → h₀.get? a = none) ∧ Lands c h₀ env Z U' h' f out ∧ Φ out

noncomputable def Runs (c : Cx) (n : Nat) (env : Env) (ρ : Rho) (ss : List Stmt) (Φ : Out → Prop) : Prop :=
  ∀ (A : Around) (h₀ : Heap) (Z U : AS) (s : Shared), AOk c n A → FW c h₀ env Z U s.heap ρ → wpAny (model c.prog c.w) A (execs ss env) (Post c h₀ env Z U s Φ) NE s
/-- one statement -/
noncomputable def Run1 (c : Cx) (n : Nat) (env : Env) (ρ : Rho) (st : Stmt) (Φ : Out → Prop) : Prop :=
  ∀ (A : Around) (h₀ : Heap) (Z U : AS) (s : Shared), AOk c n A → FW c h₀ env Z U s.heap ρ → wpAny (model c.prog c.w) A (exec st env) (Post c h₀ env Z U s Φ) NE s

theorem Post.trans {c : Cx} {h₀ : Heap} {env : Env} {Z U U₁ : AS} {s : Shared} {Φ : Out → Prop} {h₁ : Heap} {tk₁ : Nat} (k : KB U s.heap h₁) (u : ∀ a, U₁ a → U a ∨ s.heap.get? a = none) {f : Flow} {s' : Shared}
    (P : Post c h₀ env Z U₁ { s with heap := h₁, toks := tk₁ } Φ f s') : Post c h₀ env Z U s Φ f s' := by
  obtain ⟨h', tk, U', out, rfl, g, kb, uu, o, l, p⟩ := P
  refine ⟨h', tk, U', out, rfl, g, fun b o nb e => kb b o (fun ub => ?_) (k b o nb e), fun a ua => ?_, o, l, p⟩
  · rcases u b ub with q | q
    · exact nb q
    · rw [q] at e; cases e
  · rcases uu a ua with q | q
    · exact u a q
    · by_cases w : U a
      · exact .inl w
      · right
        cases e : s.heap.get? a with
        | none => rfl
        | some o => rw [show h₁.get? a = some o from k a o w e] at q; cases q
theorem Post.mono {c : Cx} {h₀ : Heap} {env : Env} {Z U : AS} {s : Shared} {Φ Ψ : Out → Prop} (i : ∀ o, Φ o → Ψ o) {f : Flow} {s' : Shared} (P : Post c h₀ env Z U s Φ f s') : Post c h₀ env Z U s Ψ f s' := by
  obtain ⟨h', tk, U', out, r⟩ := P
  exact ⟨h', tk, U', out, r.1, r.2.1, r.2.2.1, r.2.2.2.1, r.2.2.2.2.1, r.2.2.2.2.2.1, i _ r.2.2.2.2.2.2⟩
/-- the heap has only grown, the frame's set is the same -/
theorem Post.grown {c : Cx} {h₀ : Heap} {env : Env} {Z U : AS} {s : Shared} {ρ : Rho} {Φ : Out → Prop} {h₁ : Heap} {tk₁ : Nat} (_F : FW c h₀ env Z U s.heap ρ) (k : G s.heap h₁) {f : Flow} {s' : Shared}
    (P : Post c h₀ env Z U { s with heap := h₁, toks := tk₁ } Φ f s') : Post c h₀ env Z U s Φ f s' := P.trans k.kb fun _ q => .inl q

noncomputable def Then (c : Cx) (n : Nat) (env : Env) (rest : List Stmt) (Ψ : Out → Prop) : Out → Prop
  | .next ρ => Runs c n env ρ rest Ψ
  | o => Ψ o

section
variable {c : Cx} {n : Nat} {env : Env} {ρ : Rho} {Φ Ψ : Out → Prop}
theorem Runs.nil (h : Φ (.next ρ)) : Runs c n env ρ [] Φ := by
  intro A h₀ Z U s ao F
  exact wpAny_execs_nil ⟨s.heap, s.toks, U, .next ρ, rfl, F.base, fun _ _ _ e => e, fun _ q => .inl q, F.off, F, h⟩
theorem Runs.cons {st : Stmt} {rest : List Stmt} (h : Run1 c n env ρ st (Then c n env rest Ψ)) : Runs c n env ρ (st :: rest) Ψ := by
  intro A h₀ Z U s ao F
  refine wpAny_execs_cons (wpAny_mono (h A h₀ Z U s ao F) (fun f s₁ P => ?_) fun _ _ x => x)
  obtain ⟨h₁, tk₁, U₁, out, rfl, g, kb, uu, o, l, p⟩ := P
  cases f with
  | next =>
    cases out with
    | next ρ' => exact wpAny_mono (p A h₀ Z U₁ _ ao l) (fun f s₂ P => P.trans kb uu) fun _ _ x => x
    | ret d => exact l.elim
    | brk ρ' => exact l.elim
  | brk =>
    cases out with
    | next ρ' => exact l.elim
    | ret d => exact l.elim
    | brk ρ' => exact ⟨h₁, tk₁, U₁, .brk ρ', rfl, g, kb, uu, o, l, p⟩
  | cont => cases out <;> exact l.elim
  | ret v =>
    cases out with
    | next ρ' => exact l.elim
    | ret d => exact ⟨h₁, tk₁, U₁, .ret d, rfl, g, kb, uu, o, l, p⟩
    | brk ρ' => exact l.elim

theorem Runs.mono {ss : List Stmt} (h : Runs c n env ρ ss Φ) (i : ∀ o, Φ o → Ψ o) : Runs c n env ρ ss Ψ := fun A h₀ Z U s ao F => wpAny_mono (h A h₀ Z U s ao F) (fun _ _ P => P.mono i) fun _ _ x => x

theorem Run1.ite {test : Expr} {body orelse : List Stmt} {pos : Pos} {b : Bool} (ht : Tests c n env ρ test b) (h1 : b = true → Runs c n env ρ body Φ) (h2 : b = false → Runs c n env ρ orelse Φ) : Run1 c n env ρ (.If test body orelse pos) Φ := by
  intro A h₀ Z U s ao F
  refine wpAny_If (ht A Z U s _ ao F.okh F.fs fun h' tk g => ?_)
  cases b with
  | true => exact wpAny_mono (h1 rfl A h₀ Z U _ ao (F.g g)) (fun _ _ P => P.grown F g) fun _ _ x => x
  | false => exact wpAny_mono (h2 rfl A h₀ Z U _ ao (F.g g)) (fun _ _ P => P.grown F g) fun _ _ x => x
theorem Run1.ret {e : Expr} {pos : Pos} {d : D} (h : Evals c n env ρ e d) (p : Φ (.ret d)) : Run1 c n env ρ (.Return (some e) pos) Φ := by
  intro A h₀ Z U s ao F
  exact wpAny_Return_some (h A Z U s _ ao F.okh F.fs fun v h' tk g e => ⟨h', tk, U, .ret d, rfl, F.base.trans g, g.kb, fun _ q => .inl q, F.off, e, p⟩)
theorem Run1.brk {pos : Pos} (p : Φ (.brk ρ)) : Run1 c n env ρ (.Break pos) Φ := by
  intro A h₀ Z U s ao F
  exact wpAny_Break ⟨s.heap, s.toks, U, .brk ρ, rfl, F.base, fun _ _ _ e => e, fun _ q => .inl q, F.off, F, p⟩
theorem Run1.assert {e : Expr} {msg : Option Expr} {pos : Pos} (h : Tests c n env ρ e true) (p : Φ (.next ρ)) : Run1 c n env ρ (.Assert e msg pos) Φ := by
  intro A h₀ Z U s ao F
  exact wpAny_Assert_holds (h A Z U s _ ao F.okh F.fs fun h' tk g => ⟨rfl, h', tk, U, .next ρ, rfl, F.base.trans g, g.kb, fun _ q => .inl q, F.off, F.g g, p⟩)

/-- a store behind a growth -/
theorem FW.stored {A : Around} {h₀ : Heap} {Z U : AS} {s : Shared} {x : String} {v : Value} {d : D} {h₁ : Heap} {tk₁ : Nat} {Q : Unit → Shared → Prop} (F : FW c h₀ env Z U s.heap ρ) (g : G s.heap h₁) (st : Stores env x) (dv : Den (Both Z U) h₁ v d)
    (hQ : ∀ h' tk, FW c h₀ env Z U h' (upd ρ x (.fz d)) → KB U s.heap h' → Q () { s with heap := h', toks := tk }) : wpAny (model c.prog c.w) A (storeName env (Str.ofString x) v) Q NE { s with heap := h₁, toks := tk₁ } :=
  (F.g g).store (s := { s with heap := h₁, toks := tk₁ }) st dv fun h' tk F' kb _ => hQ h' tk F' fun b o nb e => kb b o nb (g b o e)

theorem Run1.assign {x : String} {e : Expr} {px pos : Pos} {d : D} (st : Stores env x) (h : Evals c n env ρ e d) (p : Φ (.next (upd ρ x (.fz d))))
    (hs : swapsWith e (some (.Name (Str.ofString x) px)) pos.line env = pure false := by rfl) : Run1 c n env ρ (.Assign [.Name (Str.ofString x) px] e pos) Φ := by
  intro A h₀ Z U s ao F
  refine wpAny_Assign_Name (h A Z U s _ ao F.okh F.fs fun v h' tk g dv => F.stored g st dv fun h2 tk2 F2 kb => ?_) hs
  exact ⟨h2, tk2, U, .next _, rfl, F2.base, kb, fun _ q => .inl q, F.off, F2, p⟩
theorem Run1.aug {x : String} {op : Operator} {e : Expr} {px pos : Pos} {d0 d1 d : D} (st : Stores env x) (h0 : ρ x = some (.fz d0)) (h : Evals c n env ρ e d1) (o : Op2 c n (inplaceOp op) d0 d1 d) (p : Φ (.next (upd ρ x (.fz d))))
    (hl : env.kindOf (Str.ofString x) = some .local := by rfl) : Run1 c n env ρ (.AugAssign (.Name (Str.ofString x) px) op e pos) Φ := by
  intro A h₀ Z U s ao F
  obtain ⟨m, hm, hv, _⟩ := F.fs.vars
  obtain ⟨v0, H, dv0⟩ := hv x _ h0
  rcases H with ⟨_, b⟩ | ⟨a | a, _⟩
  · refine wpAny_AugAssign_Name (wpAny_loadName_local F.fs.kind hl hm b (h A Z U s _ ao F.okh F.fs fun v1 h1 tk1 g1 dv1 => ?_))
    refine o A (Both Z U) _ _ v0 v1 ao (F.okh.g g1) (F.fs.g g1).live (Den.g g1 dv0) dv1 fun v h2 tk2 g2 dv => ?_
    refine F.stored (g1.trans g2) st dv fun h3 tk3 F3 kb => ?_
    exact ⟨h3, tk3, U, .next _, rfl, F3.base, kb, fun _ q => .inl q, F.off, F3, p⟩
  · rw [hl] at a; cases a
  · rw [hl] at a; cases a

theorem Run1.while {test : Expr} {body : List Stmt} {pos : Pos} (Inv : Nat → Rho → Prop) {n0 : Nat} (h0 : Inv n0 ρ)
    (turn : ∀ k ρ', Inv k ρ' → ∃ b, Tests c n env ρ' test b ∧
      (b = true → Runs c n env ρ' body (fun o => match o with | .next ρ'' => ∃ k', k' < k ∧ Inv k' ρ'' | .brk ρ'' => Φ (.next ρ'') | .ret d => Φ (.ret d))) ∧ (b = false → Φ (.next ρ'))) :
    Run1 c n env ρ (.While test body [] pos) Φ := by
  intro A h₀ Z U s ao F
  obtain ⟨LI, hLI⟩ : ∃ LI : Nat → Shared → Prop, ∀ k s', LI k s' ↔ (∃ h₁ tk₁ U₁ ρ₁, s' = { s with heap := h₁, toks := tk₁ } ∧ KB U s.heap h₁ ∧ (∀ a, U₁ a → U a ∨ s.heap.get? a = none) ∧ FW c h₀ env Z U₁ h₁ ρ₁ ∧ Inv k ρ₁) := ⟨_, fun _ _ => Iff.rfl⟩
  refine wpAny_While (codeAny_whileLoop LI ?_ n0 ((hLI _ _).mpr ⟨s.heap, s.toks, U, ρ, rfl, fun _ _ _ e => e, fun _ q => .inl q, F, h0⟩))
  intro k s' hs'
  obtain ⟨h₁, tk₁, U₁, ρ₁, rfl, kb, uu, F₁, hI⟩ := (hLI _ _).mp hs'
  clear hs'
  obtain ⟨b, ht, hb, he⟩ := turn k ρ₁ hI
  refine wpAny_mono (ht A Z U₁ { s with heap := h₁, toks := tk₁ } _ ao F₁.okh F₁.fs fun h₂ tk₂ g => ?_) (fun _ _ x => x) fun _ _ x => x.elim
  have kb2 : KB U s.heap h₂ := fun b o nb e => g b o (kb b o nb e)
  cases b with
  | false =>
    refine wpAny_execs_nil ?_
    exact ⟨h₂, tk₂, U₁, .next ρ₁, rfl, (F₁.g g).base, kb2, uu, F₁.off, F₁.g g, he rfl⟩
  | true =>
    refine wpAny_mono (hb rfl A h₀ Z U₁ { s with heap := h₂, toks := tk₂ } ao (F₁.g g)) (fun f s₃ P => ?_) fun _ _ x => x.elim
    have P' := Post.trans (s := s) kb2 uu P
    obtain ⟨h₃, tk₃, U₃, out, rfl, g3, kb3, uu3, o3, l, p⟩ := P'
    cases f with
    | next =>
      cases out with
      | next ρ'' => obtain ⟨k', lt, i⟩ := p; exact ⟨k', lt, (hLI _ _).mpr ⟨h₃, tk₃, U₃, ρ'', rfl, kb3, uu3, l, i⟩⟩
      | ret d => exact l.elim
      | brk ρ'' => exact l.elim
    | cont => cases out <;> exact l.elim
    | brk =>
      cases out with
      | brk ρ'' => exact ⟨h₃, tk₃, U₃, .next ρ'', rfl, g3, kb3, uu3, o3, l, p⟩
      | next ρ'' => exact l.elim
      | ret d => exact l.elim
    | ret v =>
      cases out with
      | ret d => exact ⟨h₃, tk₃, U₃, .ret d, rfl, g3, kb3, uu3, o3, l, p⟩
      | next ρ'' => exact l.elim
      | brk ρ'' => exact l.elim
end
end Mine
end
section
open PySem PySem.W PyProof.Rows PySem.Calls
set_option autoImplicit false
namespace Mine

noncomputable def unstarred : List Expr → Bool
  | [] => true
  | .Starred .. :: _ => false
  | _ :: r => unstarred r
theorem starEach_eq (env : Env) : ∀ es : List Expr, unstarred es = true → starEach es env = es.map fun e => (false, eval e env)
  | [], _ => rfl
  | e :: r, h => by
    cases e <;> first | (cases h; done) | exact congrArg (_ :: ·) (starEach_eq env r h)
theorem backTo_eq (pos : Pos) (env : Env) (es : List Expr) (h : unstarred es = true) : backTo pos (starEach es env) = es.map fun e => (false, eval e env) := by
  rw [starEach_eq env es h]
  unfold backTo
  simp
noncomputable def EvalsL (c : Cx) (n : Nat) (env : Env) (ρ : Rho) (es : List Expr) (ds : List D) : Prop :=
  ∀ (A : Around) (Z U : AS) (s : Shared) (Q : List Value → Shared → Prop), AOk c n A → c.Ok s.heap → FS env Z U s.heap ρ →
    (∀ vs h' tk, G s.heap h' → DenL (Both Z U) h' vs ds → Q vs { s with heap := h', toks := tk }) → wpAny (model c.prog c.w) A (spliced (es.map fun e => (false, eval e env))) Q NE s
noncomputable def Fun (c : Cx) (n : Nat) (f : Value) (ds : List D) (d : D) : Prop :=
  ∀ (A : Around) (S : AS) (s : Shared) (Q : Value → Shared → Prop) (vs : List Value), AOk c n A → c.Ok s.heap → (∀ a, S a → ∃ o, s.heap.get? a = some o) → DenL S s.heap vs ds →
    (∀ v h' tk, G s.heap h' → Den S h' v d → Q v { s with heap := h', toks := tk }) → wpAny (model c.prog c.w) A (call f vs) Q NE s
noncomputable def Callee (c : Cx) (env : Env) (e : Expr) (f : Value) : Prop :=
  ∀ (A : Around) (Z U : AS) (s : Shared) (ρ : Rho) (Q : Value → Shared → Prop), c.Ok s.heap → FS env Z U s.heap ρ → Q f s → wpAny (model c.prog c.w) A (eval e env) Q NE s
/-- what a callee may be -/
noncomputable def KeepOk (c : Cx) : Value → Prop
  | .ref a => keepIn c.K (.ref a) = true
  | .builtin _ => True
  | .type _ => True
  | _ => False

section
variable {c : Cx} {n : Nat} {env : Env} {ρ : Rho}
theorem EvalsL.nil : EvalsL c n env ρ [] [] := fun _ _ _ s _ _ _ _ hQ => spliced_nil (hQ [] s.heap s.toks G.rfl .nil)
theorem EvalsL.cons {e : Expr} {es : List Expr} {d : D} {ds : List D} (h : Evals c n env ρ e d) (t : EvalsL c n env ρ es ds) : EvalsL c n env ρ (e :: es) (d :: ds) := by
  intro A Z U s Q ao ok F hQ
  exact spliced_cons (h A Z U s _ ao ok F fun v h1 tk1 g1 dv => t A Z U _ _ ao (ok.g g1) (F.g g1) fun vs h2 tk2 g2 dl => hQ (v :: vs) h2 tk2 (g1.trans g2) (.cons (dv.g g2) dl))

theorem Callee.glob {x : String} {pos : Pos} {v : Value} (e : nsIn c.K mainGlobals (Str.ofString x) = some (some v)) (hx : env.kindOf (Str.ofString x) = some .globalImplicit := by rfl) (hd : (Str.ofString x == ("__debug__" : Str)) = false := by decide) :
    Callee c env (.Name (Str.ofString x) pos) v := by
  intro A Z U s ρ Q ok F hQ
  exact Name_function_global F.kind hx (loadGlobal_global (by rw [F.glob]; exact ok.2.g) (mg_of ok.1 ok.2.g e) hQ) hd
theorem Callee.blt {x : String} {pos : Pos} {v : Value} (e : nsIn c.K mainGlobals (Str.ofString x) = some none) (hv : bootBuiltins (Str.ofString x) = some v) (hn : Str.ofString x ≠ "__name__" := by decide)
    (hx : env.kindOf (Str.ofString x) = some .globalImplicit := by rfl) (hd : (Str.ofString x == ("__debug__" : Str)) = false := by decide) : Callee c env (.Name (Str.ofString x) pos) v := by
  intro A Z U s ρ Q ok F hQ
  exact Name_function_global F.kind hx (loadGlobal_builtin (by rw [F.glob]; exact ok.2.g) (mg_none_of ok.1 ok.2.g e) (by rw [F.blt]; exact ok.2.b) ((ok.2.builtins _ hn).trans hv) hQ) hd
/-- a text that stands at the top -/
theorem Evals.globStr {x : String} {pos : Pos} {y : Str} {t : Tok} (e : nsIn c.K mainGlobals (Str.ofString x) = some (some (.str y t))) (hx : env.kindOf (Str.ofString x) = some .globalImplicit := by rfl)
    (hd : (Str.ofString x == ("__debug__" : Str)) = false := by decide) : Evals c n env ρ (.Name (Str.ofString x) pos) (.str y) :=
  fun A Z U s Q _ ok F hQ => Callee.glob e hx hd A Z U s ρ Q ok F (hQ _ s.heap s.toks G.rfl (.str _ _))

theorem keeper_ok {M : Model} {f : Value} (k : KeepOk c f) (h : Heap) (ok : c.Ok h) : ∃ r, (r = Keeper.frame ∨ r = Keeper.machine ∨ r = Keeper.boundFrame) ∧ Looks M h (keeperOf f) r := by
  cases f with
  | ref a => exact keeps_K k h ok.1
  | builtin id => exact ⟨.machine, .inr (.inl rfl), Looks.of_pure rfl⟩
  | type T => exact ⟨.machine, .inr (.inl rfl), Looks.of_pure rfl⟩
  | _ => exact k.elim

theorem callWith_ev {pos : Pos} {f : Value} {first : List Value} {es : List Expr} {ds ds0 : List D} {d : D} {A : Around} {Z U : AS} {s : Shared} {Q : Value → Shared → Prop} (k : KeepOk c f) (he : es ≠ [])
    (ao : AOk c n A) (ok : c.Ok s.heap) (F : FS env Z U s.heap ρ) (d0 : DenL (Both Z U) s.heap first ds0) (hl : EvalsL c n env ρ es ds) (hf : Fun c n f (ds0 ++ ds) d)
    (hQ : ∀ v h' tk, G s.heap h' → Den (Both Z U) h' v d → Q v { s with heap := h', toks := tk }) :
    wpAny (model c.prog c.w) A (callWith pos f first (es.map fun e => (false, eval e env)) []) Q NE s := by
  refine callWith_of (P := c.Ok) (by simp) (keeper_ok k) ?_
  cases es with
  | nil => exact absurd rfl he
  | cons e r =>
    refine evalArgs_plain ?_
    refine hl A Z U s _ ao ok F fun vs h1 tk1 g1 dl => ⟨ok.g g1, ?_⟩
    exact hf A (Both Z U) _ _ _ ao (ok.g g1) (F.g g1).live ((d0.g g1).append dl) fun v h2 tk2 g2 dv => hQ v h2 tk2 (g1.trans g2) dv
theorem callWith_ev0 {pos : Pos} {f : Value} {first : List Value} {ds0 : List D} {d : D} {A : Around} {Z U : AS} {s : Shared} {Q : Value → Shared → Prop} (k : KeepOk c f)
    (ao : AOk c n A) (ok : c.Ok s.heap) (F : FS env Z U s.heap ρ) (d0 : DenL (Both Z U) s.heap first ds0) (hf : Fun c n f ds0 d)
    (hQ : ∀ v h' tk, G s.heap h' → Den (Both Z U) h' v d → Q v { s with heap := h', toks := tk }) :
    wpAny (model c.prog c.w) A (callWith pos f first [] []) Q NE s := by
  refine callWith_of (P := c.Ok) (by simp) (keeper_ok k) (evalArgs_nil3 ⟨ok, ?_⟩)
  rw [List.append_nil]
  exact hf A (Both Z U) _ _ _ ao ok F.live d0 hQ

theorem Evals.call {x : Str} {np pos : Pos} {es : List Expr} {f : Value} {ds : List D} {d : D} (hc : Callee c env (.Name x np) f) (k : KeepOk c f) (hl : EvalsL c n env ρ es ds) (hf : Fun c n f ds d)
    (he : es ≠ [] := by exact List.cons_ne_nil _ _) (hu : unstarred es = true := by rfl) : Evals c n env ρ (.Call (.Name x np) es [] pos) d := by
  intro A Z U s Q ao ok F hQ
  refine Call_Name (backTo_eq pos env es hu) (hc A Z U s ρ _ ok F ?_)
  exact callWith_ev (ds0 := []) k he ao ok F .nil hl hf hQ

/-- a method of a text -/
theorem Evals.meth {o : Expr} {name : Str} {apos pos : Pos} {es : List Expr} {id : String} {x : Str} {ds : List D} {d : D} (ho : Evals c n env ρ o (.str x)) (hl : EvalsL c n env ρ es ds) (hf : Fun c n (.builtin id) (.str x :: ds) d)
    (slot : Slot "str" name id) (ty : typeOf (.builtin id) = pure (.type "method_descriptor")) (he : es ≠ [] := by exact List.cons_ne_nil _ _) (hu : unstarred es = true := by rfl)
    (hbase : attributeBase o name env (eval o env) = eval o env := by rfl)
    (hfew : ((backTo pos (starEach es env)).all (fun x => !x.1) && (backToKw pos (keywordEach [] env)).all (fun x => x.1.isSome) && decide (es.length + ([] : List Keyword).length + (if ([] : List Keyword).isEmpty then 0 else 1) < 30)) = true := by rfl)
    (hline : (apos.endLine == pos.line) = true := by rfl) : Evals c n env ρ (.Call (.Attribute o name apos) es [] pos) d := by
  intro A Z U s Q ao ok F hQ
  refine wpAny_Call_method_lateS hbase hfew hline (ho A Z U s _ ao ok F fun v h1 tk1 g1 dv => ?_)
  obtain ⟨_, rfl⟩ := dv.inv
  refine ⟨"str", id, PySem.F.plainAttrs_str, slot, ty, typeIs_str _ _ _, (fun _ e => nomatch e), ?_⟩
  rw [backTo_eq pos env es hu]
  exact callWith_ev (ds0 := [.str x]) trivial he ao (ok.g g1) (F.g g1) (.cons (.str _ _) .nil) hl hf fun v h2 tk2 g2 dv2 => hQ v h2 tk2 (g1.trans g2) dv2
end
end Mine
end
section
open PySem PySem.W PyProof.Rows PySem.Calls
set_option autoImplicit false
namespace Mine

theorem Den.newList {S : AS} {h : Heap} {vs : List Value} {ds : List D} (l : ∀ a, S a → ∃ o, h.get? a = some o) (d : DenL S h vs ds) : Den S (h.push { cls := .type "list", data := .seq vs.toArray }) (.ref h.objs.size) (.lst ds) :=
  .lst (fresh_of l (get_size h)) (Heap.get?_push_size _ rfl) (d.g (G.push h _))
theorem Den.newTup {S : AS} {h : Heap} {vs : List Value} {ds : List D} (l : ∀ a, S a → ∃ o, h.get? a = some o) (d : DenL S h vs ds) : Den S (h.push { cls := .type "tuple", data := .seq vs.toArray }) (.ref h.objs.size) (.tup ds) :=
  .tup (fresh_of l (get_size h)) (Heap.get?_push_size _ rfl) (d.g (G.push h _))
theorem isList_of {h : Heap} {a : Addr} {vs : List Value} {n : Nat} (e : h.get? a = some { cls := .type "list", data := .seq vs.toArray n }) : h.IsList a vs.toArray := ⟨_, e, rfl, n, rfl⟩
theorem isTup_of {h : Heap} {a : Addr} {vs : List Value} {n : Nat} (e : h.get? a = some { cls := .type "tuple", data := .seq vs.toArray n }) : IsTup h a vs.toArray := ⟨_, e, rfl, n, rfl⟩
theorem denL_strs {S : AS} {h : Heap} : ∀ l : List (Str × Tok), DenL S h (strValues l) ((l.map (·.1)).map D.str)
  | [] => .nil
  | (x, t) :: r => .cons (.str x t) (denL_strs r)

section
variable {c : Cx} {n : Nat} {env : Env} {ρ : Rho}
theorem Evals.list {es : List Expr} {pos : Pos} {ds : List D} (h : EvalsL c n env ρ es ds) (hz : es.length ≤ sizeLine) (hu : unstarred es = true := by rfl) (hl : es.length = ds.length := by rfl) : Evals c n env ρ (.List es pos) (.lst ds) := by
  intro A Z U s Q ao ok F hQ
  refine wpAny_List ?_
  rw [backTo_eq pos env es hu]
  exact h A Z U s _ ao ok F fun vs h1 tk1 g1 dl => ⟨by rw [dl.length, ← hl]; exact hz, hQ _ _ _ (g1.trans (G.push _ _)) (Den.newList (F.g g1).live dl)⟩
theorem Evals.tuple {es : List Expr} {k : Nat} {pos : Pos} {ds : List D} (h : EvalsL c n env ρ es ds) (hz : es.length ≤ sizeLine) (hu : unstarred es = true := by rfl) (hl : es.length = ds.length := by rfl) : Evals c n env ρ (.Tuple es k pos) (.tup ds) := by
  intro A Z U s Q ao ok F hQ
  refine wpAny_Tuple ?_
  rw [backTo_eq pos env es hu]
  exact h A Z U s _ ao ok F fun vs h1 tk1 g1 dl => ⟨by rw [dl.length, ← hl]; exact hz, hQ _ _ _ (g1.trans (G.push _ _)) (Den.newTup (F.g g1).live dl)⟩

theorem Fun.len_str {x : Str} (hx : x.length < 2 ^ 62) : Fun c n (.builtin "len") [.str x] (.int x.length) := fun A S s Q vs ao ok l dl hQ => by
  obtain ⟨_, _, rfl, d, r⟩ := dl.inv; obtain rfl := r.inv; obtain ⟨_, rfl⟩ := d.inv; exact PyProof.Rows.len_str (by omega) (hQ _ _ _ G.rfl (.int _ _))
theorem Fun.len_lst {ds : List D} (hx : ds.length < 2 ^ 62) : Fun c n (.builtin "len") [.lst ds] (.int ds.length) := fun A S s Q vs ao ok l dl hQ => by
      obtain ⟨_, _, rfl, d, r⟩ := dl.inv
      obtain rfl := r.inv
      obtain ⟨_, _, _, rfl, ns, e, dl⟩ := d.inv
      have hz := dl.length
      refine len_list (isList_of e) (by rw [List.size_toArray, hz]; omega) ?_
      rw [List.size_toArray, hz]
      exact hQ _ _ _ G.rfl (.int _ _)
theorem Fun.chr {i : Int} (h0 : 0 ≤ i) (h1 : i ≤ 0x10FFFF) : Fun c n (.builtin "chr") [.int i] (.str ⟨#[i.toNat]⟩) := fun A S s Q vs ao ok l dl hQ => by
  obtain ⟨_, _, rfl, d, r⟩ := dl.inv; obtain rfl := r.inv; obtain ⟨_, rfl⟩ := d.inv; exact P.chr_of_int (by rw [Bool.or_eq_false_iff]; exact ⟨decide_eq_false (by omega), decide_eq_false (by omega)⟩) (hQ _ _ _ G.rfl (.str _ _))
theorem Fun.max2 {a b : Int} : Fun c n (.builtin "max") [.int a, .int b] (.int (if b > a then b else a)) := fun A S s Q vs ao ok l dl hQ => by
  obtain ⟨_, _, rfl, d, r⟩ := dl.inv; obtain ⟨_, _, rfl, d2, r⟩ := r.inv; obtain rfl := r.inv; obtain ⟨_, rfl⟩ := d.inv; obtain ⟨_, rfl⟩ := d2.inv; exact max_two_ints ao.handled fun h' tk g => hQ _ h' tk g (by split <;> exact .int _ _)
theorem Fun.min2 {a b : Int} : Fun c n (.builtin "min") [.int a, .int b] (.int (if b < a then b else a)) := fun A S s Q vs ao ok l dl hQ => by
  obtain ⟨_, _, rfl, d, r⟩ := dl.inv; obtain ⟨_, _, rfl, d2, r⟩ := r.inv; obtain rfl := r.inv; obtain ⟨_, rfl⟩ := d.inv; obtain ⟨_, rfl⟩ := d2.inv; exact min_two_ints ao.handled fun h' tk g => hQ _ h' tk g (by split <;> exact .int _ _)

-- texts' methods
theorem Fun.count {x y : Str} : Fun c n (.builtin "str.count") [.str x, .str y] (.int (Txt.count x y)) := fun A S s Q vs ao ok l dl hQ => by
  obtain ⟨_, _, rfl, d, r⟩ := dl.inv; obtain ⟨_, _, rfl, d2, r⟩ := r.inv; obtain rfl := r.inv; obtain ⟨_, rfl⟩ := d.inv; obtain ⟨_, rfl⟩ := d2.inv; exact SC.count (hQ _ _ _ G.rfl (.int _ _))
theorem Fun.startswith {x y : Str} : Fun c n (.builtin "str.startswith") [.str x, .str y] (.bool (Txt.startswith x y)) := fun A S s Q vs ao ok l dl hQ => by
  obtain ⟨_, _, rfl, d, r⟩ := dl.inv; obtain ⟨_, _, rfl, d2, r⟩ := r.inv; obtain rfl := r.inv; obtain ⟨_, rfl⟩ := d.inv; obtain ⟨_, rfl⟩ := d2.inv; exact SC.startswith (hQ _ s.heap s.toks G.rfl (.bool _))
theorem Fun.endswith {x y : Str} : Fun c n (.builtin "str.endswith") [.str x, .str y] (.bool (Txt.endswith x y)) := fun A S s Q vs ao ok l dl hQ => by
  obtain ⟨_, _, rfl, d, r⟩ := dl.inv; obtain ⟨_, _, rfl, d2, r⟩ := r.inv; obtain rfl := r.inv; obtain ⟨_, rfl⟩ := d.inv; obtain ⟨_, rfl⟩ := d2.inv; exact SC.endswith (hQ _ s.heap s.toks G.rfl (.bool _))

noncomputable def find4 (x y : Str) (i j : Int) : Int := match Builtin.Str.occurrences x y (fromIndex x.length i) (min (fromIndex x.length j) x.length) 1 with | k :: _ => (k : Int) | [] => -1
theorem gives_find4 (x y : Str) (i j : Int) (t u v w : Tok) : Gives (Builtin.«str.find» ⟨[.str x t, .str y u, .int i v, .int j w], []⟩) (.int (find4 x y i j)) := by
  show Gives (match Builtin.Str.occurrences x y (fromIndex x.length i) (min (fromIndex x.length j) x.length) 1 with | k :: _ => retInt k | [] => (do rule "str.find.not-found"; retInt (-1))) _
  unfold find4
  cases Builtin.Str.occurrences x y (fromIndex x.length i) (min (fromIndex x.length j) x.length) 1 with
  | nil => exact .rule (.of_eq rfl)
  | cons k _ => exact .of_eq rfl
theorem Fun.find4 {x y : Str} {i j : Int} : Fun c n (.builtin "str.find") [.str x, .str y, .int i, .int j] (.int (find4 x y i j)) := fun A S s Q vs ao ok l dl hQ => by
    obtain ⟨_, _, rfl, d, r⟩ := dl.inv
    obtain ⟨_, _, rfl, d2, r⟩ := r.inv
    obtain ⟨_, _, rfl, d3, r⟩ := r.inv
    obtain ⟨_, _, rfl, d4, r⟩ := r.inv
    obtain rfl := r.inv
    obtain ⟨_, rfl⟩ := d.inv
    obtain ⟨_, rfl⟩ := d2.inv
    obtain ⟨_, rfl⟩ := d3.inv
    obtain ⟨_, rfl⟩ := d4.inv
    exact call_gives F.slot_str_find (typeIs_str _ _ _) F.entry_str_find (F.args_str_find_4 _ _ _ _) (gives_find4 _ _ _ _ _ _ _ _) (hQ _ _ _ G.rfl (.int _ _))

theorem Fun.split {x y : Str} (hy : (y.length == 0) = false) (hx : x.length + 2 ≤ sizeLine) : Fun c n (.builtin "str.split") [.str x, .str y] (.lst ((Txt.split x y).map D.str)) := fun A S s Q vs ao ok l dl hQ => by
  cases dl with | cons d r => cases r with | cons d2 r =>
    cases r; cases d with | str _ t => cases d2 with | str _ u =>
    have fin : ∀ (ll : List (Str × Tok)) tk, ll.map (·.1) = Txt.split x y → Q (.ref s.heap.objs.size) { s with heap := s.heap.push { cls := .type "list", data := .seq (strValues ll).toArray }, toks := tk } := fun ll tk e =>
      hQ _ _ tk (G.push _ _) (by rw [← e]; exact Den.newList l (denL_strs ll))
    cases h1 : (decide (x.length < y.length) || decide (Builtin.Str.strKind x < Builtin.Str.strKind y))
    · cases hf : (Builtin.Str.occurrences x y 0 x.length (x.length + 1)).isEmpty
      · have hp : (Builtin.Str.partsBetween x (Builtin.Str.occurrences x y 0 x.length (x.length + 1)) y.length).length ≤ sizeLine := by
          have e1 := StrLaws.occ_length_le x y 0 x.length (x.length + 1)
          rw [length_partsBetween]
          omega
        refine call_meets F.slot_str_split (typeIs_str _ _ _) F.entry_str_split (F.args_str_split_2 _ _) (meets_str_split_sep x y t u h1 hy hf (by omega) hp) ?_
        show Q _ { s with toks := _, heap := s.heap.push { cls := .type "list", data := .seq (strsFrom s.toks (Builtin.Str.partsBetween x (Builtin.Str.occurrences x y 0 x.length (x.length + 1)) y.length)).toArray } }
        rw [strsFrom_eq]
        exact fin (numbered s.toks _) _ ((numbered_texts _ _).trans ((if_neg (ne_true_of_eq_false h1)).trans (if_neg (ne_true_of_eq_false hf))).symm)
      · exact call_meets F.slot_str_split (typeIs_str _ _ _) F.entry_str_split (F.args_str_split_2 _ _) (meets_str_split_not_found x y t u h1 hy hf)
          (fin [(x, t)] s.toks ((if_neg (ne_true_of_eq_false h1)).trans (if_pos hf)).symm)
    · exact call_meets F.slot_str_split (typeIs_str _ _ _) F.entry_str_split (F.args_str_split_2 _ _) (meets_str_split_cannot_occur x y t u h1)
        (fin [(x, t)] s.toks (if_pos h1).symm)
end
end Mine
end
section
open PySem PySem.W PyProof.Rows PySem.Calls
set_option autoImplicit false
namespace Mine

noncomputable def dslice (ds : List D) (lo hi : Option Int) : List D := (ds.drop (lo.elim 0 (clipAt ds.length))).take (hi.elim ds.length (clipAt ds.length) - lo.elim 0 (clipAt ds.length))
theorem DenL.drop {S : AS} {h : Heap} {vs : List Value} {ds : List D} (x : DenL S h vs ds) (k : Nat) : DenL S h (vs.drop k) (ds.drop k) := by
  induction ds generalizing vs k with
  | nil => obtain rfl : vs = [] := x.inv; rw [List.drop_nil, List.drop_nil]; exact .nil
  | cons d ds ih =>
    obtain ⟨v, ws, rfl, dv, l⟩ := x.inv
    cases k with
    | zero => exact x
    | succ k => exact ih l k
theorem DenL.take {S : AS} {h : Heap} {vs : List Value} {ds : List D} (x : DenL S h vs ds) (k : Nat) : DenL S h (vs.take k) (ds.take k) := by
  induction ds generalizing vs k with
  | nil => obtain rfl : vs = [] := x.inv; rw [List.take_nil, List.take_nil]; exact .nil
  | cons d ds ih =>
    obtain ⟨v, ws, rfl, dv, l⟩ := x.inv
    cases k with
    | zero => exact .nil
    | succ k => exact .cons dv (ih l k)
theorem DenL.pick {S : AS} {h : Heap} {vs : List Value} {ds : List D} (l : DenL S h vs ds) (lo hi : Option Int) : ∃ ws, slicePick vs.toArray lo hi none = ws.toArray ∧ DenL S h ws (dslice ds lo hi) := by
  refine ⟨_, slicePick_plain _ _ _, ?_⟩
  unfold dslice
  rw [List.size_toArray, l.length]
  exact (l.drop _).take _

noncomputable def EvPart (c : Cx) (n : Nat) (env : Env) (ρ : Rho) : Option Expr → Option Int → Prop
  | none, none => True
  | some e, some i => Evals c n env ρ e (.int i)
  | _, _ => False

section
variable {c : Cx} {n : Nat} {env : Env} {ρ : Rho}
theorem part_ev {l : Option Expr} {k : Option Int} (h : EvPart c n env ρ l k) {A : Around} {Z U : AS} {s : Shared} {Q : Value → Shared → Prop} (ao : AOk c n A) (ok : c.Ok s.heap) (F : FS env Z U s.heap ρ)
    (hQ : ∀ p h' tk, G s.heap h' → p.map (·.1) = k → Q (partValue p) { s with heap := h', toks := tk }) : wpAny (model c.prog c.w) A (evalPart l env) Q NE s := by
  cases l with
  | none =>
    cases k with
    | none => exact wpAny_pure (hQ none s.heap s.toks G.rfl rfl)
    | some i => exact h.elim
  | some e =>
    cases k with
    | none => exact h.elim
    | some i =>
      rw [evalPart_some]
      exact h A Z U s Q ao ok F fun v h' tk g dv => by cases dv with | int _ t => exact hQ (some (i, t)) h' tk g rfl

theorem slice_ev {value : Expr} {l u : Option Expr} {p pos : Pos} {k1 k2 : Option Int} {d1 d : D} (hv : Evals c n env ρ value d1) (hl : EvPart c n env ρ l k1) (hu : EvPart c n env ρ u k2)
    (o : ∀ (A : Around) (S : AS) (s : Shared) (Q : Value → Shared → Prop) (v : Value) (p1 p2 : Option (Int × Tok)), AOk c n A → (∀ a, S a → ∃ o, s.heap.get? a = some o) → Den S s.heap v d1 → p1.map (·.1) = k1 → p2.map (·.1) = k2 →
      (∀ v' h' tk, G s.heap h' → Den S h' v' d → Q v' { s with heap := h', toks := tk }) →
      wpAny (model c.prog c.w) A (subscriptTail value (.Slice l u none p) v (.ref s.heap.objs.size)) Q NE { s with heap := s.heap.push { cls := .type "slice", data := .fields #[partValue p1, partValue p2, .none] } }) :
    Evals c n env ρ (.Subscript value (.Slice l u none p) pos) d := by
  intro A Z U s Q ao ok F hQ
  refine Subscript_ (hv A Z U s _ ao ok F fun v h1 tk1 g1 dv => ?_)
  refine wpAny_Slice (part_ev hl ao (ok.g g1) (F.g g1) fun p1 h2 tk2 g2 e1 => part_ev hu ao (ok.g (g1.trans g2)) (F.g (g1.trans g2)) fun p2 h3 tk3 g3 e2 => ?_)
  rw [evalPart_none]
  refine wpAny_pure ?_
  exact o A (Both Z U) { s with heap := h3, toks := tk3 } Q v p1 p2 ao (F.g (g1.trans (g2.trans g3))).live (dv.g (g2.trans g3)) e1 e2 fun v' h4 tk4 g4 dv4 => hQ v' h4 tk4 (g1.trans (g2.trans (g3.trans g4))) dv4

theorem Evals.slice_str {value : Expr} {l u : Option Expr} {p pos : Pos} {k1 k2 : Option Int} {x : Str} (hv : Evals c n env ρ value (.str x)) (hl : EvPart c n env ρ l k1) (hu : EvPart c n env ρ u k2) (hz : x.length ≤ sizeLine) :
    Evals c n env ρ (.Subscript value (.Slice l u none p) pos) (.str (Txt.slice x k1 k2)) := by
  refine slice_ev hv hl hu fun A S s Q v p1 p2 ao live dv e1 e2 hQ => ?_
  obtain ⟨t, rfl⟩ := dv.inv
  subst e1 e2
  refine tail_any (typeIs_str _ _ _) F.slot_str_getitem.lookup (wpAny_getItem_str_slice (l := p1) (u := p2) (st := none) ⟨_, Heap.get?_push_size _ rfl, rfl, rfl⟩ rfl ?_) rfl
  refine post_val_or_str (y := x) ⟨Nat.le_trans (Txt.slice_le x _ _) hz, fun t' k => hQ _ _ k (G.push _ _) ?_⟩
  exact .str _ _
theorem Evals.slice_lst {value : Expr} {l u : Option Expr} {p pos : Pos} {k1 k2 : Option Int} {ds : List D} (hv : Evals c n env ρ value (.lst ds)) (hl : EvPart c n env ρ l k1) (hu : EvPart c n env ρ u k2) (hz : ds.length ≤ sizeLine) :
    Evals c n env ρ (.Subscript value (.Slice l u none p) pos) (.lst (dslice ds k1 k2)) := by
  refine slice_ev hv hl hu fun A S s Q v p1 p2 ao live dv e1 e2 hQ => ?_
  obtain ⟨_, _, _, rfl, ns, e, dl⟩ := dv.inv
  subst e1 e2
  have part : ∀ q : Option (Int × Tok), IsPart (partValue q) (q.map (·.1)) := fun q => by cases q with | none => exact .none | some r => exact .int _ _
  obtain ⟨ws, ew, dw⟩ := dl.pick (p1.map (·.1)) (p2.map (·.1))
  have hl' := isList_of (G.push s.heap { cls := .type "slice", data := .fields #[partValue p1, partValue p2, .none] } _ _ e)
  refine tail_any hl'.typeIs slot_list_getitem.lookup (wpAny_getItem_list_slice hl' ⟨_, Heap.get?_push_size _ rfl, rfl, rfl⟩ (part p1) (part p2) .none (by simp) ?_ (by rw [List.size_toArray, dl.length]; exact hz)) rfl
  rw [ew]
  exact hQ _ _ _ ((G.push _ _).trans (G.push _ _)) (Den.newList (live_g live (G.push _ _)) (dw.g (G.push _ _)))
/-- an item -/
theorem Evals.index {value slice : Expr} {pos : Pos} {d1 d2 d : D} (hv : Evals c n env ρ value d1) (hi : Evals c n env ρ slice d2) (o : Op2 c n getItem d1 d2 d)
    (hk : match d1 with | .str _ => True | .lst _ => True | .tup _ => True | _ => False) (hs : ∀ o i, subscripted slice false o i = operate [o, i] (getItem o i) := by intros; rfl) : Evals c n env ρ (.Subscript value slice pos) d := by
  intro A Z U s Q ao ok F hQ
  refine Subscript_ (hv A Z U s _ ao ok F fun v h1 tk1 g1 dv => hi A Z U _ _ ao (ok.g g1) (F.g g1) fun i h2 tk2 g2 di => ?_)
  have go := o A (Both Z U) { s with heap := h2, toks := tk2 } Q v i ao (ok.g (g1.trans g2)) (F.g (g1.trans g2)).live (dv.g g2) di fun v' h3 tk3 g3 dv3 => hQ v' h3 tk3 (g1.trans (g2.trans g3)) dv3
  have dv' := (dv.g g2).inv
  cases d1 with
  | str x => obtain ⟨t, rfl⟩ := dv'; exact tail_any (typeIs_str _ _ _) PySem.F.slot_str_getitem.lookup go (hs _ _)
  | lst ds => obtain ⟨_, _, _, rfl, ns, e, dl⟩ := dv'; exact tail_any (isList_of e).typeIs slot_list_getitem.lookup go (hs _ _)
  | tup ds => obtain ⟨_, _, _, rfl, ns, e, dl⟩ := dv'; exact tail_any (isTup_of e).typeIs slot_tuple_getitem.lookup go (hs _ _)
  | _ => exact hk.elim

theorem Op2.item_lst {ds : List D} {k : Int} {d : D} (h0 : 0 ≤ k) (hk : k < 2 ^ 63) (h : ds[k.toNat]? = some d) : Op2 c n getItem (.lst ds) (.int k) d := fun A S s Q v1 v2 ao ok live e1 e2 hQ => by
  obtain ⟨_, _, _, rfl, ns, e, dl⟩ := e1.inv
  obtain ⟨_, rfl⟩ := e2.inv
  obtain ⟨v, hv, dv⟩ := dl.get _ _ h
  exact wpAny_getItem_list (isList_of e) h0 hk (by simpa using hv) (hQ v s.heap s.toks G.rfl dv)
theorem Op2.item_lst_neg {ds : List D} {k : Int} {d : D} (h0 : k < 0) (hk : -(ds.length : Int) ≤ k) (hk2 : -(2 ^ 63) ≤ k) (h : ds[(k + ds.length).toNat]? = some d) : Op2 c n getItem (.lst ds) (.int k) d := fun A S s Q v1 v2 ao ok live e1 e2 hQ => by
  obtain ⟨_, _, _, rfl, ns, e, dl⟩ := e1.inv
  obtain ⟨_, rfl⟩ := e2.inv
  obtain ⟨v, hv, dv⟩ := dl.get _ _ h
  exact wpAny_getItem_list_neg (isList_of e) h0 (by rw [List.size_toArray, dl.length]; exact hk) hk2 (by rw [List.size_toArray, dl.length]; simpa using hv) (hQ v s.heap s.toks G.rfl dv)
theorem Op2.item_tup {ds : List D} {k : Int} {d : D} (h0 : 0 ≤ k) (hk : k < 2 ^ 63) (h : ds[k.toNat]? = some d) : Op2 c n getItem (.tup ds) (.int k) d := fun A S s Q v1 v2 ao ok live e1 e2 hQ => by
  obtain ⟨_, _, _, rfl, ns, e, dl⟩ := e1.inv
  obtain ⟨_, rfl⟩ := e2.inv
  obtain ⟨v, hv, dv⟩ := dl.get _ _ h
  have hlt : k.toNat < ds.length := (List.getElem?_eq_some_iff.mp h).1
  refine getItem_tuple (isTup_of e) (by omega) hk (j := k.toNat) ?_ (by simpa using hv) (hQ v s.heap s.toks G.rfl dv)
  unfold seqIndex?
  rw [List.size_toArray, dl.length]
  simp only [if_neg (show ¬ k < 0 by omega)]
  rw [if_pos (by simp; omega)]
theorem Op2.item_str {x : Str} {k : Int} (hr : fitsSsize k = true) (h : (Txt.charAt x k).isSome = true) : Op2 c n getItem (.str x) (.int k) (.str (Txt.item x k)) := fun A S s Q v1 v2 ao ok live e1 e2 hQ => by
  obtain ⟨_, rfl⟩ := e1.inv
  obtain ⟨_, rfl⟩ := e2.inv
  exact SB.getItem hr h (hQ _ _ _ G.rfl (.str _ _))
end
end Mine
end
section
open PySem PySem.W PyProof.Rows PySem.Calls
set_option autoImplicit false
namespace Mine

theorem AOk.deeper {c : Cx} {n : Nat} {A : Around} (a : AOk c (n + 1) A) (hf : ∀ A, c.fr A) (env : Env) : AOk c n (A.deeper env) := by
  obtain ⟨h, d, u, _⟩ := a
  refine ⟨h, ?_, ?_, hf _⟩
  · show A.depth + 1 + n < recursionLimit
    omega
  · show A.units + 3 + 8 * n < cLine
    omega
/-- the same, with more known of the frames around -/
noncomputable def Cx.at (c : Cx) (fr : Around → Prop) : Cx := { c with fr := fr }

/-- the parameters' map -/
noncomputable def rho0 (names : List String) (ds : List D) : Rho := fun x => ((names.zip ds).reverse.lookup x).map .fz
noncomputable def bindD : List String → List D → Rho → Rho
  | x :: xs, d :: ds, ρ => bindD xs ds (upd ρ x (.fz d))
  | _, _, ρ => ρ
theorem bindD_eq (x : String) : ∀ (names : List String) (ds : List D) (ρ : Rho), bindD names ds ρ x = (match (names.zip ds).reverse.lookup x with | some d => some (.fz d) | none => ρ x)
  | [], _, ρ => by simp [bindD]
  | _ :: _, [], ρ => by simp [bindD]
  | y :: ys, d :: ds, ρ => by
    rw [bindD, bindD_eq x ys ds]
    simp only [List.zip_cons_cons, List.reverse_cons, List.lookup_append]
    cases h : List.lookup x (ys.zip ds).reverse with
    | some d' => simp
    | none =>
      unfold upd
      by_cases q : x = y
      · subst q; simp
      · have q1 : (x == y) = false := by simpa using q
        simp [q, List.lookup_cons, q1]
theorem rho0_eq (names : List String) (ds : List D) : rho0 names ds = bindD names ds (fun _ => none) := by
  funext x
  rw [bindD_eq]
  unfold rho0
  cases List.lookup x (names.zip ds).reverse <;> rfl

theorem lookup_pairs {S : AS} {h : Heap} : ∀ {P : List (String × D)} {B : List (Str × Value)}, (∃ vs : List Value, B = (P.map fun p => Str.ofString p.1).zip vs ∧ DenL S h vs (P.map (·.2))) → ∀ x d, P.lookup x = some d → ∃ v, B.lookup (Str.ofString x) = some v ∧ Den S h v d
  | [], _, _, x, d, e => by simp at e
  | (y, d') :: P, B, ⟨vs, eB, dl⟩, x, d, e => by
    cases dl with
    | cons dv dl =>
      subst eB
      simp only [List.map_cons, List.zip_cons_cons, List.lookup_cons] at e ⊢
      by_cases q : x = y
      · subst q
        simp only [beq_self_eq_true] at e ⊢
        cases e
        exact ⟨_, rfl, dv⟩
      · have q1 : (x == y) = false := by simpa using q
        have q2 : (Str.ofString x == Str.ofString y) = false := by simpa using fun r => q (ofString_inj r)
        simp only [q1, q2] at e ⊢
        exact lookup_pairs ⟨_, rfl, dl⟩ x d e

theorem mem_lookupS {α : Type} {x : String} {d : α} : ∀ {l : List (String × α)}, l.lookup x = some d → (x, d) ∈ l
  | [], e => by simp at e
  | (y, d') :: r, e => by
    rw [List.lookup_cons] at e
    by_cases q : x = y
    · subst q
      simp only [beq_self_eq_true] at e
      cases e
      exact .head _
    · have q1 : (x == y) = false := by simpa using q
      simp only [q1] at e
      exact .tail _ (mem_lookupS e)

theorem DenL.reverse {S : AS} {h : Heap} {vs : List Value} {ds : List D} (x : DenL S h vs ds) : DenL S h vs.reverse ds.reverse := by
  induction ds generalizing vs with
  | nil => obtain rfl : vs = [] := x.inv; exact .nil
  | cons d ds ih =>
    obtain ⟨v, ws, rfl, dv, l⟩ := x.inv
    rw [List.reverse_cons, List.reverse_cons]
    exact (ih l).append (.cons dv .nil)

theorem zip_rev {names : List String} {vs : List Value} {ds : List D} {S : AS} {h : Heap} (hl : names.length = ds.length) (dl : DenL S h vs ds) :
    ∃ ws : List Value, ((names.map Str.ofString).zip vs).reverse = (((names.zip ds).reverse).map fun p => Str.ofString p.1).zip ws ∧ DenL S h ws (((names.zip ds).reverse).map (·.2)) := by
  refine ⟨vs.reverse, ?_, ?_⟩
  · have e1 : ((names.zip ds).reverse).map (fun p => Str.ofString p.1) = (names.map Str.ofString).reverse := by
      rw [List.map_reverse]
      congr 1
      have : (names.zip ds).map (fun p => Str.ofString p.1) = ((names.zip ds).map Prod.fst).map Str.ofString := by simp
      rw [this, List.map_fst_zip (by omega)]
    rw [e1]
    have hv : (names.map Str.ofString).length = vs.length := by rw [List.length_map, hl, dl.length]
    exact List.reverse_zipWith hv
  · have e2 : ((names.zip ds).reverse).map (·.2) = ds.reverse := by
      rw [List.map_reverse, List.map_snd_zip (by omega)]
    rw [e2]
    exact dl.reverse

section
variable {c : Cx} {n : Nat}
end
end Mine
end
section
open PySem PySem.W PyProof.Rows PySem.Calls
set_option autoImplicit false
namespace Mine

theorem FW.zmove {c : Cx} {h₀ h h' : Heap} {env : Env} {Z Z' U : AS} {ρ : Rho} (X : AS) (F : FW c h₀ env Z U h ρ) (hX : ∀ b, X b → Z b) (hcx : ∀ x k, env.cells.lookup x = some k → ¬ X k) (sub : ∀ b, Z' b → Z b)
    (k : ∀ b o, ¬ X b → h.get? b = some o → h'.get? b = some o) (hz : ∀ b, Z' b → ∃ o, h'.get? b = some o) (base : G h₀ h') : FW c h₀ env Z' U h' ρ where
  fs := by
    have ku : ∀ b o, U b → h.get? b = some o → h'.get? b = some o := fun b o u e => k b o (fun x => F.fs.disj b u (hX b x)) e
    have mv : ∀ {v : Value} {sl : Sl}, SlD env.locals Z U h v sl → SlD env.locals Z' U h' v sl := fun {v sl} S =>
      S.move (fun b o nb e => ⟨fun q => nb (q.imp (sub b) id), k b o (fun z => nb (.inl (hX b z))) e⟩) (fun _ u => u) (fun _ _ _ u e => ku _ _ u e) (fun _ _ _ u e => ku _ _ u e) fun _ _ _ u _ e => ku _ _ u e
    refine ⟨F.fs.kind, F.fs.glob, F.fs.blt, F.fs.loc, fun a s => ?_, fun a u z => F.fs.disj a u (sub a z), ?_, F.fs.one, fun x q e => let ⟨⟨v, o, ho, hd⟩, j⟩ := F.fs.cell x q e; ⟨⟨v, o, k _ _ (hcx x q e) ho, hd⟩, j⟩⟩
    · rcases s with z | u
      · exact hz a z
      · obtain ⟨o, e⟩ := F.fs.live a (.inr u); exact ⟨o, ku _ _ u e⟩
    · obtain ⟨m, hm, hv, hi⟩ := F.fs.vars
      have hl : ∀ o, h.get? env.locals = some o → h'.get? env.locals = some o := fun o e => ku _ _ F.fs.loc e
      have hc : ∀ {x v}, Has env h m x v → Has env h' m x v := fun {x v} H => H.imp id fun ⟨a, q, hq, ⟨o, ho, hd⟩⟩ => ⟨a, q, hq, o, k _ _ (hcx _ _ hq) ho, hd⟩
      refine ⟨m, hm.at' hl, fun x sl e => ?_, fun x y dx dy a e1 e2 h1 h2 => ?_⟩
      · obtain ⟨v, H, d⟩ := hv x sl e
        exact ⟨v, hc H, mv d⟩
      · obtain ⟨v1, H1, _⟩ := hv x _ e1
        obtain ⟨v2, H2, _⟩ := hv y _ e2
        cases (hc H1).unique G.rfl h1
        cases (hc H2).unique G.rfl h2
        exact hi x y dx dy a e1 e2 H1 H2
  ok := F.ok
  base := base
  off := F.off
  own := F.own

theorem FS.sub {env : Env} {Z U : AS} {h : Heap} {ρ ρ' : Rho} (F : FS env Z U h ρ) (s : ∀ x sl, ρ' x = some sl → ρ x = some sl) : FS env Z U h ρ' :=
  ⟨F.kind, F.glob, F.blt, F.loc, F.live, F.disj, let ⟨m, hm, hv, hi⟩ := F.vars; ⟨m, hm, fun x sl e => hv x sl (s x sl e), fun x y dx dy a e1 e2 => hi x y dx dy a (s _ _ e1) (s _ _ e2)⟩, fun x y a b C D fs gs e1 e2 => F.one x y a b C D fs gs (s _ _ e1) (s _ _ e2), F.cell⟩
theorem FW.sub {c : Cx} {h₀ h : Heap} {env : Env} {Z U : AS} {ρ ρ' : Rho} (F : FW c h₀ env Z U h ρ) (s : ∀ x sl, ρ' x = some sl → ρ x = some sl) : FW c h₀ env Z U h ρ' := ⟨F.fs.sub s, F.ok, F.base, F.off, F.own⟩

noncomputable def plainIters : List String := ["list_iterator", "tuple_iterator", "range_iterator", "str_iterator", "str_ascii_iterator"]
theorem owned_none {prog : Program} {w : World} {A : Around} {E : Value → Shared → Prop} {s : Shared} {I : Addr} {o : Obj} {T : String} {target : Expr} {v : Value} {Q : Unit → Shared → Prop}
    (e : s.heap.get? I = some o) (ec : o.cls = .type T) (hT : T ∈ plainIters) (h : Q () s) : wpAny (model prog w) A (letOwnedTupleGo target (.ref I) v) Q E s := by
  have hT' : ["enumerate", "zip", "dict_itemiterator", "dict_reverseitemiterator", "odict_iterator", "itertools.zip_longest", "itertools.pairwise"].contains T = false := by
    unfold plainIters at hT
    simp only [List.mem_cons, List.not_mem_nil, or_false] at hT
    rcases hT with rfl | rfl | rfl | rfl | rfl <;> decide
  have core : ∀ a : Addr, wpAny (model prog w) A (do
      let o ← load I
      match o.cls, o.data with
      | .type n, .fields vs =>
        if ["enumerate", "zip", "dict_itemiterator", "dict_reverseitemiterator", "odict_iterator", "itertools.zip_longest", "itertools.pairwise"].contains n && vs[0]? == some (rawInt a) then
          rule "for.unpacks-the-owned-tuple"
          updateField I 0 .none
      | _, _ => pure ()) Q E s := by
    intro a
    refine wpAny_bind (wpAny_load e ?_)
    rw [ec]
    cases o.data with
    | fields vs =>
      dsimp only
      rw [if_neg (by rw [hT', Bool.false_and]; decide)]
      exact wpAny_pure h
    | _ => exact wpAny_pure h
  cases target with
  | Tuple _ _ _ =>
    cases v with
    | ref a => exact core a
    | _ => exact wpAny_pure h
  | List _ _ =>
    cases v with
    | ref a => exact core a
    | _ => exact wpAny_pure h
  | _ => exact wpAny_pure h

noncomputable def Iters (c : Cx) (d : D) (ds : List D) : Prop :=
  ∀ (A : Around) (S : AS) (s : Shared) (Q : Value → Shared → Prop) (v : Value), A.handled = none → (∀ a, S a → ∃ o, s.heap.get? a = some o) → Den S s.heap v d →
    (∀ I h' tk fp P St, Walks c.prog c.w A I fp [I] ds.length P St → G s.heap h' → s.heap.get? I = none → (∀ b ∈ fp, b = I ∨ (¬ S b ∧ ∃ o, s.heap.get? b = some o)) → St 0 h' →
      (∀ i h, St i h → ∃ o T, h.get? I = some o ∧ o.cls = .type T ∧ T ∈ plainIters) → (∀ i v, P i v → ∃ d, ds[i]? = some d ∧ Den S s.heap v d) → Q (.ref I) { s with heap := h', toks := tk }) →
    wpAny (model c.prog c.w) A (pyIter v) Q NE s

theorem Iters.lst {c : Cx} {ds : List D} : Iters c (.lst ds) ds := fun A S s Q v hh live dv hQ => by
  obtain ⟨a, vs, n, rfl, ns, e, dl⟩ := dv.inv
  have hl := isList_of e
  have ha : a ≠ s.heap.objs.size := Nat.ne_of_lt (Heap.lt_size e)
  have W := Walks.list (prog := c.prog) (w := c.w) hh s.heap.objs.size a ha vs.toArray
  rw [show vs.toArray.size = ds.length by rw [List.size_toArray, dl.length]] at W
  refine wpAny_pyIter_list hl (hQ s.heap.objs.size _ s.toks _ _ _ W (G.push _ _) (get_size _) (fun b hb => ?_) ⟨⟨_, Heap.get?_push_size _ rfl, rfl, rfl⟩, hl.push _⟩ (fun i h st => ?_) fun i v hv => ?_)
  · simp at hb
    rcases hb with rfl | rfl
    · exact .inl rfl
    · exact .inr ⟨ns, _, e⟩
  · obtain ⟨⟨o, ho, hc, _⟩, _⟩ := st
    exact ⟨o, _, ho, hc, by unfold plainIters; simp⟩
  · exact dl.get' i v (by simpa using hv)
noncomputable def chars (x : Str) : List D := x.cps.toList.map fun k => D.str ⟨#[k]⟩
theorem Iters.str {c : Cx} {x : Str} : Iters c (.str x) (chars x) := fun A S s Q v hh live dv hQ => by
  obtain ⟨t, rfl⟩ := dv.inv
  have hlen : (chars x).length = x.cps.size := by unfold chars; simp
  have hget : ∀ i v, SignAt x i v → ∃ d, (chars x)[i]? = some d ∧ Den S s.heap v d := by
    rintro i v ⟨k, u, hk, rfl⟩
    refine ⟨.str ⟨#[k]⟩, ?_, .str _ _⟩
    unfold chars
    rw [List.getElem?_map, Array.getElem?_toList, hk]; rfl
  cases ha : x.cps.all (· < 128)
  · have W := Walks.strWide (prog := c.prog) (w := c.w) hh s.heap.objs.size x t
    rw [← hlen] at W
    refine wpAny_pyIter_wide ha (hQ s.heap.objs.size _ s.toks _ _ _ W (G.push _ _) (get_size _) (fun b hb => .inl (by simpa using hb)) ⟨_, Heap.get?_push_size _ rfl, rfl, rfl⟩ (fun i h st => ?_) hget)
    obtain ⟨o, ho, hc, _⟩ := st
    exact ⟨o, _, ho, hc, by unfold plainIters; simp⟩
  · have W := Walks.strAscii (prog := c.prog) (w := c.w) hh s.heap.objs.size x t
    rw [← hlen] at W
    refine wpAny_pyIter_ascii ha (hQ s.heap.objs.size _ s.toks _ _ _ W (G.push _ _) (get_size _) (fun b hb => .inl (by simpa using hb)) ⟨_, Heap.get?_push_size _ rfl, rfl, rfl⟩ (fun i h st => ?_) hget)
    obtain ⟨o, ho, hc, _⟩ := st
    exact ⟨o, _, ho, hc, by unfold plainIters; simp⟩
/-- a..b-1 -/
noncomputable def intsD (a b : Int) : List D := (List.range (b - a).toNat).map fun k : Nat => D.int (a + (k : Int))
theorem Iters.rng {c : Cx} {a b : Int} (ha : -1000000000 ≤ a) (ha2 : a ≤ 1000000000) (hb : -1000000000 ≤ b) (hb2 : b ≤ 1000000000) : Iters c (.rng a b) (intsD a b) := fun A S s Q v hh live dv hQ => by
  obtain ⟨r, t, u, v, rfl, ns, e⟩ := dv.inv
  have hn : Builtin.Range.rangeSize a b 1 = ((b - a).toNat : Int) := by
    unfold Builtin.Range.rangeSize
    simp
    split <;> omega
  have hsm : Builtin.Range.small a b 1 = true := by
    unfold Builtin.Range.small
    rw [hn]
    simp only [Builtin.Range.rangeFitsLong]
    simp
    omega
  have hlen : (intsD a b).length = (b - a).toNat := by unfold intsD; simp
  have W := (Walks.range (prog := c.prog) (w := c.w) hh s.heap.objs.size a 1 (b - a).toNat).bound
  rw [← hlen] at W
  refine wpAny_pyIter_range e hsm (hQ s.heap.objs.size _ s.toks _ _ _ W (G.push _ _) (get_size _) (fun b hb => .inl (by simpa using hb)) ?_ (fun i h st => ?_) ?_)
  · show IsRangeIter _ _ _ _ _
    rw [hn]
    simpa [hlen] using Heap.get?_push_size _ rfl
  · exact ⟨_, _, st, rfl, by unfold plainIters; simp⟩
  · rintro i v ⟨hi, t, rfl⟩
    refine ⟨.int (a + i), ?_, by rw [Int.mul_one]; exact .int _ _⟩
    unfold intsD
    rw [List.getElem?_map, List.getElem?_range (by omega)]
    rfl
end Mine
end
section
open PySem PySem.W PyProof.Rows PySem.Calls
set_option autoImplicit false
namespace Mine

/-- a target takes a value -/
noncomputable def Asg (c : Cx) (n : Nat) (env : Env) (target : Expr) (ρ : Rho) (d : D) (K : Rho → Prop) : Prop :=
  ∃ ρ', K ρ' ∧ ∀ (A : Around) (h₀ : Heap) (Z U : AS) (s : Shared) (Q : Unit → Shared → Prop) (v : Value), AOk c n A → FW c h₀ env Z U s.heap ρ → Den (Both Z U) s.heap v d →
    (∀ h' tk, FW c h₀ env Z U h' ρ' → KB U s.heap h' → Q () { s with heap := h', toks := tk }) → wpAny (model c.prog c.w) A (assign target env v) Q NE s
/-- items onto targets, one by one -/
noncomputable def AsgL (c : Cx) (n : Nat) (env : Env) (ts : List (Value → Sem Unit)) (ρ : Rho) (ds : List D) (K : Rho → Prop) : Prop :=
  ∃ ρ', K ρ' ∧ ∀ (A : Around) (h₀ : Heap) (Z U : AS) (s : Shared) (Q : Unit → Shared → Prop) (vs : List Value), AOk c n A → FW c h₀ env Z U s.heap ρ → DenL (Both Z U) s.heap vs ds →
    (∀ h' tk, FW c h₀ env Z U h' ρ' → KB U s.heap h' → Q () { s with heap := h', toks := tk }) → wpAny (model c.prog c.w) A (assignInOrder ts vs) Q NE s

theorem KB.both {Z U : AS} {h h' : Heap} (k : KB U h h') : KB (Both Z U) h h' := fun b o nb e => k b o (fun u => nb (.inr u)) e

section
variable {c : Cx} {n : Nat} {env : Env} {ρ : Rho} {Φ Ψ : Out → Prop}
theorem Asg.name {x : String} {px : Pos} {d : D} {K : Rho → Prop} (st : Stores env x) (k : K (upd ρ x (.fz d))) : Asg c n env (.Name (Str.ofString x) px) ρ d K :=
  ⟨_, k, fun _ _ _ _ _ _ _ _ F dv hQ => wpAny_assign_Name (F.store st dv fun h' tk F' kb _ => hQ h' tk F' kb)⟩
theorem AsgL.nil {K : Rho → Prop} (k : K ρ) : AsgL c n env [] ρ [] K := ⟨_, k, fun _ _ _ _ s _ _ _ F dl hQ => by
  cases dl; exact wpAny_pure (hQ s.heap s.toks F fun _ _ _ e => e)⟩
theorem AsgL.cons {t : Expr} {ts : List (Value → Sem Unit)} {d : D} {ds : List D} {K : Rho → Prop} (h : Asg c n env t ρ d fun ρ' => AsgL c n env ts ρ' ds K) : AsgL c n env (assign t env :: ts) ρ (d :: ds) K := by
  obtain ⟨ρ1, ⟨ρ2, k, h2⟩, h1⟩ := h
  refine ⟨ρ2, k, fun A h₀ Z U s Q vs ao F dl hQ => ?_⟩
  cases dl with | cons dv dl =>
  show wpAny _ A (do holding _ (assign t env _); assignInOrder ts _) _ _ _
  refine wpAny_bind (wpAny_holding (h1 A h₀ Z U s _ _ ao F dv fun h' tk F' kb => ?_))
  exact h2 A h₀ Z U _ _ _ ao F' (dl.kb (KB.both kb)) fun h2 tk2 F2 kb2 => hQ h2 tk2 F2 fun b o nb e => kb2 b o nb (kb b o nb e)
theorem Asg.tuple {elts : List Expr} {k : Nat} {pos : Pos} {ds : List D} {K : Rho → Prop} (h : AsgL c n env ((assignEach elts env).map (·.2)) ρ ds K) (hn : (assignEach elts env).length = ds.length := by rfl)
    (hstar : (assignEach elts env).findIdx? (·.1) = none := by rfl) : Asg c n env (.Tuple elts k pos) ρ (.tup ds) K := by
  obtain ⟨ρ', k, h⟩ := h
  refine ⟨ρ', k, fun A h₀ Z U s Q v ao F dv hQ => ?_⟩
  obtain ⟨_, _, _, rfl, ns, e, dl⟩ := dv.inv
  rename_i a vs m
  refine assign_Tuple_tuple ao.handled (isTup_of e) (by rw [hn, List.size_toArray, dl.length]) hstar fun h' he => ?_
  have g : G s.heap h' := fun b o e => he b o (Nat.ne_of_lt (Heap.lt_size e)) e
  exact h A h₀ Z U { s with heap := h' } _ _ ao (F.g g) (dl.g g) fun h2 tk2 F2 kb2 => hQ h2 tk2 F2 fun b o nb e => kb2 b o nb (g b o e)

theorem FW.zadd {c : Cx} {h₀ h h' : Heap} {env : Env} {Z U : AS} {ρ : Rho} {I : Addr} (F : FW c h₀ env Z U h ρ) (g : G h h') (hI : h.get? I = none) (gI : ∃ o, h'.get? I = some o) : FW c h₀ env (fun a => Z a ∨ a = I) U h' ρ := by
  have nI : ¬ Both Z U I := F.fs.fresh hI
  have F2 := F.g g
  refine ⟨⟨F2.fs.kind, F2.fs.glob, F2.fs.blt, F2.fs.loc, fun a s => ?_, fun a u z => ?_, ?_, F2.fs.one, F2.fs.cell⟩, F2.ok, F2.base, F2.off, F2.own⟩
  · rcases s with (z | rfl) | u
    · exact F2.fs.live a (.inl z)
    · exact gI
    · exact F2.fs.live a (.inr u)
  · rcases z with z | rfl
    · exact F2.fs.disj a u z
    · exact nI (.inr u)
  · obtain ⟨m, hm, hv, hj⟩ := F.fs.vars
    refine ⟨m, hm.keeps g, fun x sl e => ?_, fun x y dx dy a e1 e2 h1 h2 => ?_⟩
    · obtain ⟨v, H, d⟩ := hv x sl e
      refine ⟨v, H.g g, d.move (fun b o nb e => ⟨fun q => ?_, g b o e⟩) (fun _ u => u) (fun _ _ _ _ e => g _ _ e) (fun _ _ _ _ e => g _ _ e) fun _ _ _ _ _ e => g _ _ e⟩
      rcases q with (q | rfl) | q
      · exact nb (.inl q)
      · rw [hI] at e; cases e
      · exact nb (.inr q)
    · obtain ⟨v1, H1, _⟩ := hv x _ e1
      obtain ⟨v2, H2, _⟩ := hv y _ e2
      have q1 := (H1.g g).unique G.rfl h1
      have q2 := (H2.g g).unique G.rfl h2
      exact hj x y dx dy a e1 e2 (q1 ▸ H1) (q2 ▸ H2)
theorem Run1.for {target iter : Expr} {body : List Stmt} {pos : Pos} {d : D} {ds : List D} (hit : Evals c n env ρ iter d) (hi : Iters c d ds) (Inv : Nat → Rho → Prop) (h0 : Inv 0 ρ)
    (turn : ∀ k d ρ', ds[k]? = some d → Inv k ρ' → Asg c n env target ρ' d fun ρ'' => Runs c n env ρ'' body fun o => match o with | .next ρ₂ => Inv (k + 1) ρ₂ | .brk ρ₂ => Φ (.next ρ₂) | .ret d => Φ (.ret d))
    (done : ∀ ρ', Inv ds.length ρ' → Φ (.next ρ')) (hs : ∀ x, foldedSetIterable iter env x = pure x := by intro _; rfl) : Run1 c n env ρ (.For target iter body [] pos) Φ := by
  intro A h₀ Z U s ao F
  refine wpAny_For (hit A Z U s _ ao F.okh F.fs fun v h1 tk1 g1 dv => ?_) hs
  have F1 := F.g g1
  refine hi A (Both Z U) { s with heap := h1, toks := tk1 } _ v ao.handled F1.fs.live dv fun I h2 tk2 fp P St W g2 hI hfp st0 hSt hP => ?_
  dsimp only at g2 hI hfp st0 hP ⊢
  have gI : ∃ o, h2.get? I = some o := let ⟨o, _, e, _⟩ := hSt 0 h2 st0; ⟨o, e⟩
  have nI : ¬ Both Z U I := F1.fs.fresh hI
  have F2 : FW c h₀ env (fun a => Z a ∨ a = I) U h2 ρ := F1.zadd g2 hI gI
  have hI0 : s.heap.get? I = none := by
    cases e : s.heap.get? I with
    | none => rfl
    | some o => have := g1 _ _ e; rw [hI] at this; cases this
  have ncI : ∀ x k, env.cells.lookup x = some k → ¬ (k = I) := fun x k e q => by
    obtain ⟨⟨_, o, ho, _⟩, _⟩ := F1.fs.cell x k e
    rw [q, hI] at ho; cases ho
  have back : ∀ {h' : Heap} {U' : AS} {ρ' : Rho} {h'' : Heap}, FW c h₀ env (fun a => Z a ∨ a = I) U' h' ρ' → (∀ b o, b ∉ [I] → h'.get? b = some o → h''.get? b = some o) → FW c h₀ env Z U' h'' ρ' := by
    intro h' U' ρ' h'' F k
    refine F.zmove (fun a => a = I) (fun _ e => .inr e) ncI (fun _ z => .inl z) (fun b o nz e => k b o (by simp only [List.mem_singleton]; exact nz) e) (fun b z => ?_) fun b o e => k b o ?_ (F.base b o e)
    · obtain ⟨o, e⟩ := F.fs.live b (.inl (.inl z))
      refine ⟨o, k b o ?_ e⟩
      simp only [List.mem_singleton]
      rintro rfl
      exact nI (.inl z)
    · simp only [List.mem_singleton]
      rintro rfl
      have := F1.base b o e
      rw [hI] at this; cases this
  obtain ⟨LI, hLI⟩ : ∃ LI : Nat → Shared → Prop, ∀ k s', LI k s' ↔ (∃ h₃ tk₃ U₃ ρ₃ i, s' = { s with heap := h₃, toks := tk₃ } ∧ k = ds.length - i ∧ i ≤ ds.length ∧ St i h₃ ∧ (∀ b o, ¬ U b → b ≠ I → h2.get? b = some o → h₃.get? b = some o) ∧ (∀ a, U₃ a → U a ∨ h2.get? a = none) ∧
    FW c h₀ env (fun a => Z a ∨ a = I) U₃ h₃ ρ₃ ∧ Inv i ρ₃) := ⟨_, fun _ _ => Iff.rfl⟩
  refine codeAny_forLoop_any LI ?_ (ds.length - 0) ((hLI _ _).mpr ⟨h2, tk2, U, ρ, 0, rfl, rfl, Nat.zero_le _, st0, fun b o _ _ e => e, fun _ u => .inl u, F2, h0⟩)
  intro k s' hs'
  obtain ⟨h₃, tk₃, U₃, ρ₃, i, rfl, rfl, hle, st, kb, uu, F3, inv⟩ := (hLI _ _).mp hs'
  clear hs'
  have kb0 : ∀ b o, ¬ U b → s.heap.get? b = some o → h₃.get? b = some o ∧ b ≠ I := fun b o nb e => by
    have nbI : b ≠ I := by rintro rfl; rw [hI0] at e; cases e
    exact ⟨kb b o nb nbI (g2 b o (g1 b o e)), nbI⟩
  have uu0 : ∀ a, U₃ a → U a ∨ s.heap.get? a = none := fun a u => (uu a u).imp id fun e => by
    cases q : s.heap.get? a with
    | none => rfl
    | some o => rw [g2 _ _ (g1 _ _ q)] at e; cases e
  by_cases hlt : i < ds.length
  · refine wpAny_mono (W.item i { s with heap := h₃, toks := tk₃ } _ NE hlt st fun v h4 tk4 hPv st4 k4 => ?_) (fun _ _ x => x) fun _ _ x => x.elim
    dsimp only at k4 ⊢
    obtain ⟨d', hd', dv'⟩ := hP i v hPv
    have F4 : FW c h₀ env (fun a => Z a ∨ a = I) U₃ h4 ρ₃ := F3.zmove (fun a => a = I) (fun _ e => .inr e) ncI (fun _ z => z) (fun b o nz e => k4 b o (by simp only [List.mem_singleton]; exact nz) e) (fun b z => by
        rcases z with z | rfl
        · obtain ⟨o, e⟩ := F3.fs.live b (.inl (.inl z))
          refine ⟨o, k4 b o ?_ e⟩
          simp only [List.mem_singleton]
          rintro rfl
          exact nI (.inl z)
        · obtain ⟨o, _, e, _⟩ := hSt _ _ st4; exact ⟨o, e⟩) (back F3 k4).base
    obtain ⟨ρ4, h4', as⟩ := turn i d' ρ₃ hd' inv
    obtain ⟨oI, TI, eI, cI, pI⟩ := hSt _ _ st4
    refine owned_none (s := { s with heap := h4, toks := tk4 }) eI cI pI ?_
    have dv4 : Den (Both (fun a => Z a ∨ a = I) U₃) h4 v d' := dv'.mono fun b o nb e => by
      have nbI : b ≠ I := by rintro rfl; rw [hI] at e; cases e
      refine ⟨fun q => ?_, k4 b o (by simpa using nbI) (kb b o (fun u => nb (.inr u)) nbI (g2 b o e))⟩
      rcases q with (q | q) | q
      · exact nb (.inl q)
      · exact nbI q
      · rcases uu b q with u | u
        · exact nb (.inr u)
        · rw [g2 _ _ e] at u; cases u
    refine wpAny_mono (as A h₀ _ U₃ { s with heap := h4, toks := tk4 } _ v ao F4 dv4 fun h5 tk5 F5 kb5 => ?_) (fun _ _ x => x) fun _ _ x => x.elim
    dsimp only at kb5 ⊢
    have nUI : ¬ U₃ I := fun u => F3.fs.disj I u (.inr rfl)
    have kbb : ∀ b o, ¬ U b → b ≠ I → h2.get? b = some o → h5.get? b = some o := fun b o nb ni e => by
      refine kb5 b o (fun u => ?_) (k4 b o (by simpa using ni) (kb b o nb ni e))
      rcases uu b u with u | u
      · exact nb u
      · rw [e] at u; cases u
    have nU3 : ∀ b, b ∈ fp → ¬ U₃ b := fun b hb u => by
      rcases hfp b hb with rfl | ⟨ns, o, e⟩
      · exact nUI u
      · rcases uu b u with u | u
        · exact ns (.inr u)
        · rw [g2 _ _ e] at u; cases u
    have st5 : St (i + 1) h5 := W.frame _ _ _ st4 fun b hb o e => kb5 b o (nU3 b hb) e
    refine wpAny_mono (h4' A h₀ _ U₃ { s with heap := h5, toks := tk5 } ao F5) (fun f s6 P => ?_) fun _ _ x => x.elim
    obtain ⟨h6, tk6, U6, out, rfl, g6, kb6, uu6, o6, l, p⟩ := P
    dsimp only at kb6 uu6 l p ⊢
    have kb6' : ∀ b o, ¬ U b → b ≠ I → h2.get? b = some o → h6.get? b = some o := fun b o nb ni e => by
      refine kb6 b o (fun u => ?_) (kbb b o nb ni e)
      rcases uu b u with u | u
      · exact nb u
      · rw [e] at u; cases u
    have gI5 : ∃ o, h5.get? I = some o := F5.fs.live I (.inl (.inr rfl))
    have uu6' : ∀ a, U6 a → U a ∨ h2.get? a = none := fun a u => by
      rcases uu6 a u with u | e
      · exact uu a u
      · by_cases w : U a
        · exact .inl w
        · right
          cases q : h2.get? a with
          | none => rfl
          | some o =>
            by_cases ni : a = I
            · subst ni
              obtain ⟨o', e'⟩ := gI5
              rw [e] at e'; cases e'
            · rw [kbb a o w ni q] at e; cases e
    have kbs : KB U s.heap h6 := fun b o nb e => by
      have nbI : b ≠ I := by rintro rfl; rw [hI0] at e; cases e
      exact kb6' b o nb nbI (g2 b o (g1 b o e))
    have uus : ∀ a, U6 a → U a ∨ s.heap.get? a = none := fun a u => (uu6' a u).imp id fun e => by
      cases q : s.heap.get? a with
      | none => rfl
      | some o => rw [g2 _ _ (g1 _ _ q)] at e; cases e
    have nUI6 : ¬ U6 I := fun u => by
      rcases uu6 I u with u | e
      · exact nUI u
      · obtain ⟨o', e'⟩ := gI5
        rw [e] at e'; cases e'
    have out1 : ∀ ρ₂, FW c h₀ env (fun a => Z a ∨ a = I) U6 h6 ρ₂ → FW c h₀ env Z U6 h6 ρ₂ := fun ρ₂ F => back F fun _ _ _ e => e
    cases f with
    | next =>
      cases out with
      | next ρ₂ =>
        refine ⟨ds.length - (i + 1), by omega, (hLI _ _).mpr ⟨h6, tk6, U6, ρ₂, i + 1, rfl, rfl, hlt, W.frame _ _ _ st5 fun b hb o e => ?_, kb6', uu6', l, p⟩⟩
        exact kb6 b o (nU3 b hb) e
      | ret d => exact l.elim
      | brk ρ₂ => exact l.elim
    | cont => cases out <;> exact l.elim
    | brk =>
      cases out with
      | brk ρ₂ => exact ⟨h6, tk6, U6, .next ρ₂, rfl, g6, kbs, uus, o6, out1 _ l, p⟩
      | next ρ₂ => exact l.elim
      | ret d => exact l.elim
    | ret v =>
      cases out with
      | ret d => exact ⟨h6, tk6, U6, .ret d, rfl, g6, kbs, uus, o6, l.mono fun b o nb e => ⟨fun q => nb (q.imp .inl id), e⟩, p⟩
      | next ρ₂ => exact l.elim
      | brk ρ₂ => exact l.elim
  · have hi' : i = ds.length := by omega
    subst hi'
    refine wpAny_mono (W.done { s with heap := h₃, toks := tk₃ } _ NE st fun h4 tk4 k4 => ?_) (fun _ _ x => x) fun _ _ x => x.elim
    dsimp only at k4 ⊢
    refine wpAny_execs_nil ?_
    have F4 := back F3 k4
    exact ⟨h4, tk4, U₃, .next ρ₃, rfl, F4.base, fun b o nb e => k4 b o (by simpa using (kb0 b o nb e).2) (kb0 b o nb e).1, uu0, F4.off, F4, done _ inv⟩
end
end Mine
end
section
open PySem PySem.W PyProof.Rows
set_option autoImplicit false
namespace Mine
theorem runs_toks {M : Model} {Γ : Ctx} {p : Pos} {t : Sem Fin} {fs : List Frame} {s s' : Shared} {e : End} (h : PySem.Runs M Γ p t fs s e s') : s.toks ≤ s'.toks := by
  induction h <;> first | exact Nat.le_refl _ | assumption | (simp only [Shared.setGen] at *; omega) | omega | exact Nat.le_trans (by assumption) (by assumption)
theorem wakes_toks {M : Model} {Γ : Ctx} {p : Pos} {g : Nat} {r : Resume} {s s' : Shared} {res : GenResult} (h : Wakes M Γ p g r s res s') : s.toks ≤ s'.toks := by
  unfold Wakes at h
  split at h
  · exact h.elim
  · split at h
    · obtain ⟨e, s₁, hr, _, _, rfl⟩ := h
      have := runs_toks hr
      simpa [Shared.setGen] using this
    · rw [h.2]; exact Nat.le_refl _
    · rw [h.2]; exact Nat.le_refl _
  · obtain ⟨e, s₁, hr, _, _, rfl⟩ := h
    have := runs_toks hr
    simpa [Shared.setGen] using this
  · rw [h.2]; exact Nat.le_refl _
  · rw [h.2]; exact Nat.le_refl _
theorem wp_up {M : Model} {α : Type} {E : Value → Pos → Shared → Prop} (n : Nat) : ∀ (t : Sem α) (Γ : Ctx) (Q : α → Pos → Shared → Prop) (p : Pos) (s : Shared), n ≤ s.toks →
    Sem.wp M Γ t (fun a p s' => n ≤ s'.toks → Q a p s') E p s → Sem.wp M Γ t Q E p s := by
  intro t
  induction t with
  | pure a => intro Γ Q p s hn h; rw [Sem.wp] at h ⊢; exact h hn
  | raise e => intro Γ Q p s hn h; rw [Sem.wp] at h ⊢; exact h
  | unsupported w => intro Γ Q p s hn h; rw [Sem.wp] at h; exact h.elim
  | finish w => intro Γ Q p s hn h; rw [Sem.wp] at h; exact h.elim
  | rule tag k ih => intro Γ Q p s hn h; rw [Sem.wp] at h ⊢; exact ih () Γ Q p s hn h
  | «at» pos k ih => intro Γ Q p s hn h; rw [Sem.wp] at h ⊢; exact ih () Γ Q _ s hn h
  | load a part k ih => intro Γ Q p s hn h; rw [Sem.wp] at h ⊢; obtain ⟨o, ho, h⟩ := h; exact ⟨o, ho, ih o Γ Q p s hn h⟩
  | update a part f k ih => intro Γ Q p s hn h; rw [Sem.wp] at h ⊢; exact ⟨h.1, ih () Γ Q p _ hn h.2⟩
  | alloc o k ih => intro Γ Q p s hn h; rw [Sem.wp] at h ⊢; exact ih _ Γ Q p _ hn h
  | loadIfAlive a k ih => intro Γ Q p s hn h; rw [Sem.wp] at h ⊢; exact ih _ Γ Q p _ hn h
  | point l k ih => intro Γ Q p s hn h; rw [Sem.wp] at h ⊢; exact ih () Γ Q p s hn h
  | register a k ih => intro Γ Q p s hn h; rw [Sem.wp] at h; exact h.elim
  | fresh k ih => intro Γ Q p s hn h; rw [Sem.wp] at h ⊢; exact ih _ Γ Q p _ (Nat.le_succ_of_le hn) h
  | ask k ih => intro Γ Q p s hn h; rw [Sem.wp] at h ⊢; exact ih _ Γ Q p _ hn h
  | choose src m k ih => intro Γ Q p s hn h; rw [Sem.wp] at h ⊢; exact ⟨h.1, ih _ Γ Q p _ hn h.2⟩
  | os q l k ih => intro Γ Q p s hn h; rw [Sem.wp] at h ⊢; exact ih _ Γ Q p _ hn h
  | call c hd g l k ih =>
    intro Γ Q p s hn h
    rw [Sem.wp] at h ⊢
    obtain ⟨r, s', hr, h⟩ := h
    exact ⟨r, s', hr, ih r Γ Q p s' (Nat.le_trans hn (runs_toks hr)) h⟩
  | handled own k ih => intro Γ Q p s hn h; rw [Sem.wp] at h ⊢; exact ih _ Γ Q p s hn h
  | newGen c k ih => intro Γ Q p s hn h; rw [Sem.wp] at h ⊢; exact ih _ Γ Q p _ hn h
  | genState g k ih => intro Γ Q p s hn h; rw [Sem.wp] at h ⊢; obtain ⟨st, e, h⟩ := h; exact ⟨st, e, ih _ Γ Q p s hn h⟩
  | resume g r l k ih =>
    intro Γ Q p s hn h
    rw [Sem.wp] at h ⊢
    obtain ⟨res, s', hr, h⟩ := h
    exact ⟨res, s', hr, ih _ Γ Q p s' (Nat.le_trans hn (wakes_toks hr)) h⟩
  | yield v g l k ih => intro Γ Q p s hn h; rw [Sem.wp] at h; exact h.elim
  | stack k ih => intro Γ Q p s hn h; rw [Sem.wp] at h ⊢; exact ih _ Γ Q p s hn h
  | fork c k ih => intro Γ Q p s hn h; rw [Sem.wp] at h; exact h.elim
  | thread k ih => intro Γ Q p s hn h; rw [Sem.wp] at h ⊢; exact ih _ Γ Q p s hn h
  | await a t timed l k ih => intro Γ Q p s hn h; rw [Sem.wp] at h; exact h.elim
/-- no step takes a mark back -/
theorem wpAny_up {α : Type} {M : Model} {A : Around} {t : Sem α} {Q : α → Shared → Prop} {E : Value → Shared → Prop} {s : Shared} (h : wpAny M A t (fun v s' => s.toks ≤ s'.toks → Q v s') E s) : wpAny M A t Q E s :=
  fun Γ p hΓ => wp_up s.toks t Γ _ p s (Nat.le_refl _) (h Γ p hΓ)
end Mine
end
section
open PySem PySem.W PyProof.Rows PySem.Calls
set_option autoImplicit false
namespace Mine

theorem compLoop_any {prog : Program} {w : World} {A : Around} {R : Result → Shared → Prop} {s : Shared} {elt target iter : Expr} {ifs : List Expr} {scope : Scope} {pos : Pos} {it acc : Value} {env : Env} (I : Nat → Shared → Prop)
    (turn : ∀ n s, I n s → wpAny (model prog w) A (pyNext it) (fun r s₁ => match r with
      | none => R (.ok .next) s₁
      | some v => wpAny (model prog w) A (letOwnedTupleGo target it v) (fun _ s₁' => wpAny (model prog w) A (assign target env v) (fun _ s₂ =>
          wpAny (model prog w) A (forIn ifs true fun c r => if r = true then do let ok ← isTrue c env (eval c env); pure (ForInStep.yield ok) else pure (ForInStep.yield r)) (fun ok s₃ =>
            if ok = true then wpAny (model prog w) A (eval elt env) (fun x s₄ =>
              wpAny (model prog w) A (call (.builtin "list.append") [acc, x]) (fun _ s₅ => ∃ m, m < n ∧ I m s₅) NE s₄) NE s₃
            else ∃ m, m < n ∧ I m s₃) NE s₂) NE s₁') NE s₁) NE s)
    (n : Nat) (h : I n s) : codeAny (model prog w) A (.compLoop (.ListComp elt [⟨target, iter, ifs, 0⟩] scope pos) 0 it acc env) R s := by
  refine codeAny_loop rfl I (fun n s hI => ?_) n h
  show wpAny _ A ((compTurn (.ListComp elt [⟨target, iter, ifs, 0⟩] scope pos) 0 it acc env).onRaise (fun x => do noteFrame x env; theTreesLotGoes x)) _ _ s
  refine wpAny_noted ?_
  rw [compTurn_list]
  refine wpAny_bind (wpAny_standAt (wpAny_bind (wpAny_mono (turn n s hI) (fun r s₁ h₁ => ?_) fun _ _ h' => h'.elim)))
  cases r with
  | none => exact wpAny_pure h₁
  | some v =>
    refine wpAny_bind (wpAny_mono h₁ (fun _ s₁' h₁' => ?_) fun _ _ h' => h'.elim)
    refine wpAny_bind (wpAny_mono h₁' (fun _ s₂ h₂ => wpAny_bind (wpAny_mono h₂ (fun ok s₃ h₃ => ?_) fun _ _ h' => h'.elim)) fun _ _ h' => h'.elim)
    cases ok with
    | false => exact wpAny_pure ⟨rfl, h₃⟩
    | true =>
      exact wpAny_bind (wpAny_bind (wpAny_mono h₃ (fun x s₄ h₄ => wpAny_bind (wpAny_mono h₄ (fun _ s₅ h₅ => wpAny_pure (wpAny_pure ⟨rfl, h₅⟩)) fun _ _ h' => h'.elim)) fun _ _ h' => h'.elim))

noncomputable def TestsIf (c : Cx) (n : Nat) (env : Env) (ρ : Rho) : List Expr → Bool → Prop
  | [], b => b = true
  | [t], b => Tests c n env ρ t b
  | _, _ => False
theorem tests_run {c : Cx} {n : Nat} {env : Env} {ρ : Rho} {ifs : List Expr} {b : Bool} (h : TestsIf c n env ρ ifs b) {A : Around} {Z U : AS} {s : Shared} {Q : Bool → Shared → Prop} (ao : AOk c n A) (ok : c.Ok s.heap) (F : FS env Z U s.heap ρ)
    (hQ : ∀ h' tk, G s.heap h' → Q b { s with heap := h', toks := tk }) :
    wpAny (model c.prog c.w) A (forIn ifs true fun c r => if r = true then do let ok ← isTrue c env (eval c env); pure (ForInStep.yield ok) else pure (ForInStep.yield r)) Q NE s := by
  match ifs, h with
  | [], h => cases h; exact wpAny_tests_nil (hQ s.heap s.toks G.rfl)
  | [t], h => exact wpAny_tests_one (h A Z U s _ ao ok F hQ)

noncomputable def SubCl (env : Env) : List (Str × Addr) → Prop
  | [] => True
  | (x, k) :: r => env.cells.lookup x = some k ∧ SubCl env r
theorem SubCl.get {env : Env} {x : Str} {k : Addr} : ∀ {cl : List (Str × Addr)}, SubCl env cl → cl.lookup x = some k → env.cells.lookup x = some k
  | [], _, e => by simp at e
  | (y, q) :: r, ⟨h, t⟩, e => by
    rw [List.lookup_cons] at e
    by_cases w : (x == y) = true
    · rw [w] at e; cases e; rw [beq_iff_eq.mp w]; exact h
    · simp only [w] at e; exact SubCl.get t e

/-- the names that a comprehension reads of the frame around it -/
noncomputable def Inner (env : Env) (scope : Scope) (cl : List (Str × Addr)) (ρ ρ₀ : Rho) : Prop :=
  ∀ x sl, ρ₀ x = some sl → ρ x = some sl ∧ (∃ d, sl = .fz d) ∧ (env.kindOf (Str.ofString x) = some .cell ∨ env.kindOf (Str.ofString x) = some .free) ∧
    ((relabel scope env).names.lookup (Str.ofString x) = some .cell ∨ (relabel scope env).names.lookup (Str.ofString x) = some .free) ∧ ∃ k, cl.lookup (Str.ofString x) = some k ∧ env.cells.lookup (Str.ofString x) = some k

theorem Inner.none {env : Env} {scope : Scope} {cl : List (Str × Addr)} {ρ : Rho} : Inner env scope cl ρ (fun _ => Option.none) := fun _ _ e => by cases e
theorem Inner.upd {env : Env} {scope : Scope} {cl : List (Str × Addr)} {ρ ρ₀ : Rho} {x : String} {d : D} {k : Addr} (h : Inner env scope cl ρ ρ₀) (e : ρ x = some (.fz d)) (e1 : env.kindOf (Str.ofString x) = some .cell) (e2 : (relabel scope env).names.lookup (Str.ofString x) = some .cell)
    (e3 : cl.lookup (Str.ofString x) = some k) (e4 : env.cells.lookup (Str.ofString x) = some k) : Inner env scope cl ρ (Mine.upd ρ₀ x (.fz d)) := fun y sl ey => by
  by_cases q : y = x
  · subst q
    rw [upd_self] at ey; cases ey
    exact ⟨e, ⟨_, rfl⟩, .inl e1, .inl e2, k, e3, e4⟩
  · rw [upd_ne _ _ q] at ey; exact h y sl ey
theorem sub_upd {ρ₀ ρ' : Rho} {x : String} {v : Sl} (h : ∀ y sl, ρ₀ y = some sl → ρ' y = some sl) (e : ρ₀ x = Option.none) : ∀ y sl, ρ₀ y = some sl → Mine.upd ρ' x v y = some sl := fun y sl ey => by
  have : y ≠ x := fun q => by subst q; rw [e] at ey; cases ey
  rw [upd_ne _ _ this]; exact h y sl ey
noncomputable abbrev Zc (Z U : AS) (I Dr : Addr) : AS := fun a => Both Z U a ∨ a = I ∨ a = Dr
noncomputable abbrev Uc (C : Addr) : AS := fun a => a = C
/-- like Evals, with what the new value adds to J -/
noncomputable def EvalsJ (c : Cx) (n : Nat) (env : Env) (ρ : Rho) (e : Expr) (d : D) (J : List Value → Nat → Prop) : Prop :=
  ∀ (A : Around) (Z U : AS) (s : Shared) (Q : Value → Shared → Prop), AOk c n A → c.Ok s.heap → FS env Z U s.heap ρ →
    (∀ v h' tk, G s.heap h' → Den (Both Z U) h' v d → (∀ l, J l s.toks → J (l ++ [v]) tk) → Q v { s with heap := h', toks := tk }) → wpAny (model c.prog c.w) A (eval e env) Q NE s
section
variable {c : Cx} {n : Nat} {env : Env} {ρ : Rho}

theorem comp_coreJ {target elt iter : Expr} {ifs : List Expr} {scope : Scope} {cl : List (Str × Addr)} {pos spos : Pos} {d : D} {ds : List D} {ρ₀ : Rho} (f : D → Option D) (J : List Value → Nat → Prop) (hJ0 : ∀ tk, J [] tk) (hJm : ∀ l tk tk', tk ≤ tk' → J l tk → J l tk') {use : Option (Value → Sem Unit)}
    (hit : Evals c n env ρ iter d) (hi : Iters c d ds) (hin : Inner env scope cl ρ ρ₀)
    (hclos : closureFor scope env = pure cl) (hcell : ∀ y ∈ scope.names, y.2 ≠ .cell) (hkind : scope.kind = .function) (hnames : ∀ y ∈ scope.names, y.2 = .local → scope.names.lookup y.1 = some .local)
    (hcl : SubCl env cl)
    (turn : ∀ (C : Addr) (k : Nat) (d : D), ds[k]? = some d → Asg c n (compEnvC scope cl C env) target ρ₀ d fun ρ' => (∀ x sl, ρ₀ x = some sl → ρ' x = some sl) ∧
      ∃ b, TestsIf c n (compEnvC scope cl C env) ρ' ifs b ∧ (b = false → f d = none) ∧ (b = true → ∃ e, EvalsJ c n (compEnvC scope cl C env) ρ' elt e J ∧ f d = some e))
    (hlen : ds.length ≤ sizeLine) (hs : ∀ x, foldedSetIterable iter env x = pure x)
    {A : Around} {Z U : AS} {s : Shared} {Q : Value → Shared → Prop} (ao : AOk c n A) (okh : c.Ok s.heap) (F : FS env Z U s.heap ρ)
    (hQ : ∀ Dr C h' tk m' ys, s.heap.get? Dr = none → s.heap.get? C = none → Dr ≠ C → G s.heap h' → h'.Ns C m' → h'.PlainList Dr ys → DenL (fun a => Both Z U a ∨ a = Dr ∨ a = C) h' ys.toList (ds.filterMap f) → J ys.toList tk →
      compPost (model c.prog c.w) A NE use Q (.ref Dr) C (.ok .next) { s with heap := h', toks := tk }) :
    wpAny (model c.prog c.w) A (comprehension (.ListComp elt [⟨target, iter, ifs, 0⟩] scope pos) scope env spos (newList []) false (eval iter env) use) Q NE s := by
  have hcl : ∀ x k, cl.lookup x = some k → (∃ y, env.cells.lookup y = some k) ∧ ∀ y, cl.lookup y = some k → y = x := fun x k e =>
    ⟨⟨x, hcl.get e⟩, fun y ey => (F.cell x k (hcl.get e)).2 y (hcl.get ey)⟩
  refine wpAny_comprehension_free (use := use) rfl hs hclos hkind hnames ?_
  refine hit A Z U s _ ao okh F fun v h1 tk1 g1 dv => ?_
  have F1 := F.g g1
  refine hi A (Both Z U) { s with heap := h1, toks := tk1 } _ v ao.handled F1.live dv fun I h2 tk2 fp P St W g2 hI hfp st0 hSt hP => ?_
  dsimp only at g2 hI hfp st0 hP ⊢
  have F2 := F1.g g2
  have gI : ∃ o, h2.get? I = some o := let ⟨o, _, e, _⟩ := hSt 0 h2 st0; ⟨o, e⟩
  have nI : ¬ Both Z U I := F1.fresh hI
  refine wpAny_newObj_type (wpAny_newFunctionEnv hcell (by intro y hy; simp at hy) (fun h₁ hns₁ hsb₁ => ?_) hkind)
  dsimp only at hns₁ hsb₁ ⊢
  generalize hH3 : h2.push { cls := .type "list", dict := none, data := .seq ([] : List Value).toArray } = h3 at hns₁ hsb₁ ⊢
  have hDn : h2.get? h2.objs.size = none := get_size _
  have hCn3 : h3.get? h3.objs.size = none := get_size _
  generalize hDr : h2.objs.size = Dr at hDn ⊢
  generalize hC : h3.objs.size = C at hns₁ hsb₁ hCn3 ⊢
  have g3 : G h2 h3 := by rw [← hH3]; exact G.push _ _
  have gD3 : h3.get? Dr = some { cls := .type "list", data := .seq #[] } := by rw [← hH3, ← hDr]; exact Heap.get?_push_size _ rfl
  have hDC : Dr ≠ C := by rintro rfl; rw [gD3] at hCn3; cases hCn3
  have g4 : G h3 h₁ := fun b o e => (hsb₁.2 b (by rintro rfl; rw [hCn3] at e; cases e)).trans (Heap.get?_push_of_some _ e)
  have gs : G s.heap h₁ := g1.trans (g2.trans (g3.trans g4))
  have fresh_s : ∀ {h : Heap} {a : Addr}, G s.heap h → h.get? a = none → s.heap.get? a = none := fun {h a} g e => by
    cases q : s.heap.get? a with
    | none => rfl
    | some o => rw [g _ _ q] at e; cases e
  have hDs : s.heap.get? Dr = none := fresh_s (g1.trans g2) hDn
  have hCs : s.heap.get? C = none := fresh_s (g1.trans (g2.trans g3)) hCn3
  have hIs : s.heap.get? I = none := fresh_s g1 hI
  have hIC : I ≠ C := by rintro rfl; obtain ⟨o, e⟩ := gI; rw [g3 _ _ e] at hCn3; cases hCn3
  have hID : I ≠ Dr := by rintro rfl; obtain ⟨o, e⟩ := gI; rw [e] at hDn; cases hDn
  have F4 := F2.g (g3.trans g4)
  have cenvF : FW c s.heap (compEnvC scope cl C env) (Zc Z U I Dr) (Uc C) h₁ ρ₀ := by
    refine ⟨⟨hkind, F.glob, F.blt, rfl, fun a sa => ?_, fun a u z => ?_, ⟨_, hns₁, fun x sl e => ?_, fun x y dx dy a e1 => ?_⟩, fun x y a b C D fs gs e1 => ?_, fun x k e => ?_⟩, okh, gs, fun a u => ?_, fun q => absurd rfl q⟩
    · rcases sa with (sa | rfl | rfl) | rfl
      · obtain ⟨o, e⟩ := F.live a sa; exact ⟨o, gs _ _ e⟩
      · obtain ⟨o, e⟩ := gI; exact ⟨o, g4 _ _ (g3 _ _ e)⟩
      · exact ⟨_, g4 _ _ gD3⟩
      · obtain ⟨o, _, _, e, _⟩ := hns₁; exact ⟨o, e⟩
    · subst u
      rcases z with z | z | z
      · exact F.fresh hCs z
      · exact hIC z.symm
      · exact hDC z.symm
    · obtain ⟨e', ⟨d', rfl⟩, ek, ik, k, lk, ck⟩ := hin x sl e
      obtain ⟨m, hm, hv, _⟩   := F.vars
      obtain ⟨v', H, dv'⟩ := hv x _ e'
      have hcellv : ∃ q, env.cells.lookup (Str.ofString x) = some q ∧ s.heap.IsCell q (some v') := by
        rcases H with ⟨a, _⟩ | ⟨_, H⟩
        · rcases ek with ek | ek <;> (rw [a] at ek; cases ek)
        · exact H
      obtain ⟨q, hq, ic⟩ := hcellv
      rw [ck] at hq; cases hq
      refine ⟨v', .inr ⟨ik, k, lk, ic.keeps gs⟩, ?_⟩
      refine Den.mono (fun b o nb e => ⟨fun z => ?_, gs b o e⟩) dv'
      rcases z with (z | rfl | rfl) | rfl
      · exact nb z
      · rw [hIs] at e; cases e
      · rw [hDs] at e; cases e
      · rw [hCs] at e; cases e
    · obtain ⟨_, ⟨d', e⟩, _⟩ := hin x _ e1; cases e
    · obtain ⟨_, ⟨d', e⟩, _⟩ := hin x _ e1; cases e
    · have e : cl.lookup x = some k := e
      obtain ⟨⟨y, hy⟩, inj⟩ := hcl x k e
      obtain ⟨⟨v, i⟩, _⟩ := F.cell y k hy
      exact ⟨⟨v, i.keeps gs⟩, inj⟩
    · have : a = C := u
      rw [this]; exact hCs
  have ncl : ∀ x k, (compEnvC scope cl C env).cells.lookup x = some k → ∃ o, s.heap.get? k = some o := fun x k e => by
    obtain ⟨⟨y, hy⟩, _⟩ := hcl x k e
    obtain ⟨⟨v, o, ho, _⟩, _⟩ := F.cell y k hy
    exact ⟨o, ho⟩
  have st1 : St 0 h₁ := W.frame _ _ _ st0 fun b hb o e => g4 _ _ (g3 _ _ e)
  have acc1 : h₁.PlainList Dr #[] := ⟨_, g4 _ _ gD3⟩
  have loop : ∀ s₃ : Shared, s₃ = { s with heap := h₁, toks := tk2 + ([] : List (Str × Value)).length } →
      codeAny (model c.prog c.w) A (.compLoop (.ListComp elt [⟨target, iter, ifs, 0⟩] scope pos) 0 (.ref I) (.ref Dr) (compEnvC scope cl C env)) (compPost (model c.prog c.w) A NE use Q (.ref Dr) C) s₃ := by
    rintro s₃ rfl
    obtain ⟨LI, hLI⟩ : ∃ LI : Nat → Shared → Prop, ∀ k s', LI k s' ↔ (∃ h' tk' ys i, s' = { s with heap := h', toks := tk' } ∧ k = ds.length + 1 - i ∧ i ≤ ds.length ∧ St i h' ∧ h'.PlainList Dr ys ∧ DenL (Both (Zc Z U I Dr) (Uc C)) h' ys.toList ((ds.take i).filterMap f) ∧ (∀ b o, b ≠ I → b ≠ Dr → b ≠ C → h₁.get? b = some o → h'.get? b = some o) ∧
      FW c s.heap (compEnvC scope cl C env) (Zc Z U I Dr) (Uc C) h' ρ₀ ∧ J ys.toList tk') := ⟨_, fun _ _ => Iff.rfl⟩
    refine compLoop_any LI ?_ (ds.length + 1) ((hLI _ _).mpr ⟨h₁, _, #[], 0, rfl, rfl, Nat.zero_le _, st1, acc1, .nil, fun b o _ _ _ e => e, cenvF, hJ0 _⟩)
    intro k s' hs'
    obtain ⟨h', tk', ys, i, rfl, rfl, hle, st, hys, dys, kb, F', hJ⟩ := (hLI _ _).mp hs'
    clear hs'
    by_cases hlt : i < ds.length
    · refine wpAny_up (W.item i _ _ NE hlt st fun v h5 tk5 hPv st5 k5 u5 => ?_)
      dsimp only at k5 u5 ⊢
      have k5' : ∀ b o, b ≠ I → h'.get? b = some o → h5.get? b = some o := fun b o nb e => k5 b o (by simpa using nb) e
      obtain ⟨d', hd', dv'⟩ := hP i v hPv
      obtain ⟨oI, TI, eI, cI, pI⟩ := hSt _ _ st5
      refine owned_none (s := { s with heap := h5, toks := tk5 }) eI cI pI ?_
      have liveZ : ∀ b, (Zc Z U I Dr) b → ∃ o, h5.get? b = some o := fun b z => by
        by_cases q : b = I
        · subst q; exact ⟨_, eI⟩
        · obtain ⟨o, e⟩ := F'.fs.live b (.inl z); exact ⟨o, k5' b o q e⟩
      have F5 : FW c s.heap (compEnvC scope cl C env) (Zc Z U I Dr) (Uc C) h5 ρ₀ := F'.zmove (fun a => a = I) (fun _ e => .inr (.inl e)) (fun x k e q => by obtain ⟨o, ho⟩ := ncl x k e; rw [q, hIs] at ho; cases ho) (fun _ z => z) (fun b o nb e => k5' b o nb e) liveZ
        fun b o e => k5' b o (by rintro rfl; rw [hIs] at e; cases e) (F'.base b o e)
      have dv5 : Den (Both (Zc Z U I Dr) (Uc C)) h5 v d' := dv'.mono fun b o nb e => by
        have e1 := g4 _ _ (g3 _ _ (g2 _ _ e))
        have n1 : b ≠ I := by rintro rfl; rw [hI] at e; cases e
        have n2 : b ≠ Dr := by rintro rfl; rw [g2 _ _ e] at hDn; cases hDn
        have n3 : b ≠ C := by rintro rfl; rw [g3 _ _ (g2 _ _ e)] at hCn3; cases hCn3
        refine ⟨fun z => ?_, k5' b o n1 (kb b o n1 n2 n3 e1)⟩
        rcases z with (z | z | z) | z
        · exact nb z
        · exact n1 z
        · exact n2 z
        · exact n3 z
      obtain ⟨ρ', ⟨hsub, b, ht, hb0, hb1⟩, as⟩ := turn C i d' hd'
      refine wpAny_up (as A s.heap (Zc Z U I Dr) (Uc C) { s with heap := h5, toks := tk5 } _ v ao F5 dv5 fun h6 tk6 F6 kb6 u6 => ?_)
      dsimp only at kb6 u6 ⊢
      refine wpAny_up (tests_run ht ao F6.okh F6.fs fun h7 tk7 g7 u7 => ?_)
      dsimp only at g7 u7 ⊢
      have hJ7 : J ys.toList tk7 := hJm _ _ _ (Nat.le_trans u5 (Nat.le_trans u6 u7)) hJ
      have F7 := F6.g g7
      have k7 : ∀ b o, b ≠ I → b ≠ C → h'.get? b = some o → h7.get? b = some o := fun b o n1 n3 e => g7 b o (kb6 b o n3 (k5' b o n1 e))
      have fpn : ∀ b ∈ fp, b ≠ Dr ∧ b ≠ C := fun b hb => by
        rcases hfp b hb with rfl | ⟨_, o, e⟩
        · exact ⟨hID, hIC⟩
        · exact ⟨(by rintro rfl; rw [g2 _ _ e] at hDn; cases hDn), (by rintro rfl; rw [g3 _ _ (g2 _ _ e)] at hCn3; cases hCn3)⟩
      have st7 : St (i + 1) h7 := W.frame _ _ _ st5 fun b hb o e => g7 b o (kb6 b o (fpn b hb).2 e)
      have hys7 : h7.PlainList Dr ys := hys.at fun o e => k7 _ o hID.symm hDC e
      have dys7 : DenL (Both (Zc Z U I Dr) (Uc C)) h7 ys.toList ((ds.take i).filterMap f) := dys.mono fun b o nb e => ⟨nb, k7 b o (fun q => nb (.inl (.inr (.inl q)))) (fun q => nb (.inr q)) e⟩
      have tks : (ds.take (i + 1)).filterMap f = (ds.take i).filterMap f ++ (f d').toList := by
        rw [List.take_add_one, hd', List.filterMap_append]
        cases q : f d' <;> simp [q]
      cases b with
      | false =>
        simp only [Bool.false_eq_true, if_false]
        refine ⟨ds.length + 1 - (i + 1), by omega, (hLI _ _).mpr ⟨h7, tk7, ys, i + 1, rfl, rfl, hlt, st7, hys7, ?_, fun b o n1 n2 n3 e => k7 b o n1 n3 (kb b o n1 n2 n3 e), F7.sub hsub, hJ7⟩⟩
        rw [tks, hb0 rfl]
        simpa using dys7
      | true =>
        simp only [if_true]
        obtain ⟨e', he', hf'⟩ := hb1 rfl
        refine he' A (Zc Z U I Dr) (Uc C) { s with heap := h7, toks := tk7 } _ ao F7.okh F7.fs fun x h8 tk8 g8 dx j8 => ?_
        dsimp only at g8 j8 ⊢
        have hyz : ys.size ≤ sizeLine := by
          have e1 := dys.length
          have e2 : ((ds.take i).filterMap f).length ≤ (ds.take i).length := List.length_filterMap_le _ _
          have e3 : (ds.take i).length ≤ ds.length := by rw [List.length_take]; omega
          have e4 : ys.toList.length = ys.size := by simp
          omega
        have F8 := F7.g g8
        refine wpAny_list_append_plain (hsz := hyz) (hys7.at fun o e => g8 _ o e) fun h9 hl9 hs9 => ?_
        have k9 : ∀ b o, b ≠ Dr → h8.get? b = some o → h9.get? b = some o := fun b o nb e => (hs9.2 b nb).trans e
        have F9 : FW c s.heap (compEnvC scope cl C env) (Zc Z U I Dr) (Uc C) h9 ρ' := F8.zmove (fun a => a = Dr) (fun _ e => .inr (.inr e)) (fun x k e q => by obtain ⟨o, ho⟩ := ncl x k e; rw [q, hDs] at ho; cases ho) (fun _ z => z) (fun b o nb e => k9 b o nb e)
          (fun b z => by
            by_cases q : b = Dr
            · subst q; obtain ⟨n, e⟩ := hl9; exact ⟨_, e⟩
            · obtain ⟨o, e⟩ := F8.fs.live b (.inl z); exact ⟨o, k9 b o q e⟩)
          fun b o e => k9 b o (by rintro rfl; rw [hDs] at e; cases e) (F8.base b o e)
        refine ⟨ds.length + 1 - (i + 1), by omega, (hLI _ _).mpr ⟨h9, tk8, ys.push x, i + 1, rfl, rfl, hlt, ?_, hl9, ?_, fun b o n1 n2 n3 e => k9 b o n2 (g8 b o (k7 b o n1 n3 (kb b o n1 n2 n3 e))), F9.sub hsub, by rw [Array.toList_push]; exact j8 _ hJ7⟩⟩
        · exact W.frame _ _ _ st7 fun b hb o e => k9 b o (fpn b hb).1 (g8 b o e)
        · rw [tks, hf', Array.toList_push]
          refine DenL.append (dys7.mono fun b o nb e => ⟨nb, k9 b o (fun q => nb (.inl (.inr (.inr q)))) (g8 b o e)⟩) (.cons (dx.mono fun b o nb e => ⟨nb, k9 b o (fun q => nb (.inl (.inr (.inr q)))) e⟩) .nil)
    · have hi' : i = ds.length := by omega
      subst hi'
      refine wpAny_up (W.done _ _ NE st fun h5 tk5 k5 u5 => ?_)
      have k5' : ∀ b o, b ≠ I → h'.get? b = some o → h5.get? b = some o := fun b o nb e => k5 b o (by simpa using nb) e
      have gs5 : G s.heap h5 := fun b o e => k5' b o (by rintro rfl; rw [hIs] at e; cases e) (F'.base b o e)
      obtain ⟨m', hm', _⟩ := F'.fs.vars
      refine hQ Dr C h5 tk5 m' ys hDs hCs hDC gs5 (hm'.at' fun o e => k5' _ o hIC.symm e) (hys.at fun o e => k5' _ o hID.symm e) ?_ (hJm _ _ _ u5 hJ)
      rw [List.take_length] at dys
      refine dys.mono fun b o nb e => ⟨fun z => nb ?_, k5' b o (fun q => nb (.inl (.inr (.inl q)))) e⟩
      rcases z with z | z | z
      · exact .inl (.inl z)
      · exact .inl (.inr (.inr z))
      · exact .inr z
  exact codeAny_compStart_list (loop _ rfl) (W.self 0 _ _ _ st1 (loop _ rfl))
theorem comp_core {target elt iter : Expr} {ifs : List Expr} {scope : Scope} {cl : List (Str × Addr)} {pos spos : Pos} {d : D} {ds : List D} {ρ₀ : Rho} (f : D → Option D) {use : Option (Value → Sem Unit)}
    (hit : Evals c n env ρ iter d) (hi : Iters c d ds) (hin : Inner env scope cl ρ ρ₀)
    (hclos : closureFor scope env = pure cl) (hcell : ∀ y ∈ scope.names, y.2 ≠ .cell) (hkind : scope.kind = .function) (hnames : ∀ y ∈ scope.names, y.2 = .local → scope.names.lookup y.1 = some .local)
    (hcl : SubCl env cl)
    (turn : ∀ (C : Addr) (k : Nat) (d : D), ds[k]? = some d → Asg c n (compEnvC scope cl C env) target ρ₀ d fun ρ' => (∀ x sl, ρ₀ x = some sl → ρ' x = some sl) ∧
      ∃ b, TestsIf c n (compEnvC scope cl C env) ρ' ifs b ∧ (b = false → f d = none) ∧ (b = true → ∃ e, Evals c n (compEnvC scope cl C env) ρ' elt e ∧ f d = some e))
    (hlen : ds.length ≤ sizeLine) (hs : ∀ x, foldedSetIterable iter env x = pure x)
    {A : Around} {Z U : AS} {s : Shared} {Q : Value → Shared → Prop} (ao : AOk c n A) (okh : c.Ok s.heap) (F : FS env Z U s.heap ρ)
    (hQ : ∀ Dr C h' tk m' ys, s.heap.get? Dr = none → s.heap.get? C = none → Dr ≠ C → G s.heap h' → h'.Ns C m' → h'.PlainList Dr ys → DenL (fun a => Both Z U a ∨ a = Dr ∨ a = C) h' ys.toList (ds.filterMap f) →
      compPost (model c.prog c.w) A NE use Q (.ref Dr) C (.ok .next) { s with heap := h', toks := tk }) :
    wpAny (model c.prog c.w) A (comprehension (.ListComp elt [⟨target, iter, ifs, 0⟩] scope pos) scope env spos (newList []) false (eval iter env) use) Q NE s := by
  refine comp_coreJ (spos := spos) (pos := pos) f (fun _ _ => True) (fun _ => trivial) (fun _ _ _ _ _ => trivial) hit hi hin hclos hcell hkind hnames hcl (fun C k d hd => ?_) hlen hs ao okh F fun Dr C h' tk m' ys a1 a2 a3 a4 a5 a6 a7 _ => hQ Dr C h' tk m' ys a1 a2 a3 a4 a5 a6 a7
  obtain ⟨ρ', ⟨h1, b, h2, h3, h4⟩, h⟩ := turn C k d hd
  refine ⟨ρ', ⟨h1, b, h2, h3, fun e => ?_⟩, h⟩
  obtain ⟨x, h5, h6⟩ := h4 e
  exact ⟨x, fun A Z U s Q ao ok F hQ => h5 A Z U s Q ao ok F fun v h' tk g dv => hQ v h' tk g dv fun _ _ => trivial, h6⟩
end
end Mine
end
section
open PySem PySem.W PyProof.Rows PySem.Calls
set_option autoImplicit false
namespace Mine

/-- a value that is no object -/
noncomputable def atomic : D → Bool
  | .none | .bool _ | .int _ | .str _ => true
  | _ => false
theorem Den.atom {S S' : AS} {h h' : Heap} {v : Value} {d : D} (e : atomic d = true) (x : Den S h v d) : Den S' h' v d := by
  have i := x.inv
  clear x
  cases d with
  | none => obtain rfl : v = .none := i; exact .none
  | bool b => obtain rfl : v = .bool b := i; exact .bool b
  | int k => obtain ⟨t, rfl⟩ := i; exact .int _ t
  | str y => obtain ⟨t, rfl⟩ := i; exact .str _ t
  | strT y t => cases e
  | tup ds => cases e
  | lst ds => cases e
  | rng p q => cases e
  | inst C fs => cases e

theorem DenL.set {S : AS} {h : Heap} {v : Value} {d : D} (dv : Den S h v d) {vs : List Value} {ds : List D} (x : DenL S h vs ds) (k : Nat) : DenL S h (vs.set k v) (ds.set k d) := by
  induction ds generalizing vs k with
  | nil => obtain rfl : vs = [] := x.inv; exact .nil
  | cons d0 ds ih =>
    obtain ⟨v0, ws, rfl, dv0, l⟩ := x.inv
    cases k with
    | zero => exact .cons dv l
    | succ k => exact .cons dv0 (ih l k)

/-- an own list is read as if nobody wrote it -/
theorem FS.lend {env : Env} {Z U : AS} {h : Heap} {ρ : Rho} {x : String} {ds : List D} (F : FS env Z U h ρ) (e : ρ x = some (.own ds)) :
    ∃ a, U a ∧ (∃ vs n, h.get? a = some { cls := .type "list", data := .seq (List.toArray vs) n }) ∧ FS env Z (fun b => U b ∧ b ≠ a) h (upd ρ x (.fz (.lst ds))) := by
  obtain ⟨m, hm, hv, hi⟩ := F.vars
  obtain ⟨v, H, a, vs, n, rfl, ua, g, dl⟩ := hv x _ e
  refine ⟨a, ua, ⟨vs, n, g⟩, F.kind, F.glob, F.blt, ⟨F.loc, F.lne g rfl⟩, fun b s => F.live b (s.imp id (·.1)), fun b u => F.disj b u.1, ⟨m, hm, fun y sl e2 => ?_, fun y z dy dz b e1 e2 h1 h2 => ?_⟩, fun y z a1 b1 C D fs gs e1 e2 => ?_, F.cell⟩
  · have wk : ∀ b o, ¬ Both Z U b → h.get? b = some o → ¬ Both Z (fun b => U b ∧ b ≠ a) b ∧ h.get? b = some o := fun b o nb e => ⟨fun q => nb (q.imp id (·.1)), e⟩
    rcases upd_cases e2 with ⟨rfl, rfl⟩ | ⟨q, e2⟩
    · exact ⟨_, H, .lst (fun q => q.elim (F.disj a ua) (fun q => q.2 rfl)) g (dl.mono wk)⟩
    · obtain ⟨v', H', sd⟩ := hv y sl e2
      refine ⟨v', H', ?_⟩
      cases sl with
      | fz d => exact Den.mono wk sd
      | own ds' =>
        obtain ⟨a', vs', n', rfl, ua', g', dl'⟩ := sd
        exact ⟨a', vs', n', rfl, ⟨ua', fun r => q (hi y x _ _ _ e2 e (r ▸ H') H)⟩, g', dl'.mono wk⟩
      | obj a2 C fs =>
        obtain ⟨a', dx, es, n', rfl, ua', ud, nl, g1, g2, df, r⟩ := sd
        refine ⟨a', dx, es, n', rfl, ⟨ua', fun r => ?_⟩, ⟨ud, fun r => ?_⟩, nl, g1, g2, df.mono wk, r⟩
        · exact apart g (r ▸ g1) rfl
        · exact apart g (r ▸ g2) rfl
  · exact hi y z _ _ _ (upd_off e1 rfl) (upd_off e2 rfl) h1 h2
  · exact F.one y z _ _ _ _ _ _ (upd_off e1 rfl) (upd_off e2 rfl)
/-- an own object likewise -/
theorem FS.lendO {env : Env} {Z U : AS} {h : Heap} {ρ : Rho} {x : String} {a₀ C : Addr} {fs : List (String × D)} (F : FS env Z U h ρ) (e : ρ x = some (.obj a₀ C fs)) :
    ∃ a dx, U a ∧ U dx ∧ (∃ es n, h.get? a = some (instObj C dx) ∧ h.get? dx = some (dictOf es n)) ∧ FS env Z (fun b => U b ∧ b ≠ a ∧ b ≠ dx) h (upd ρ x (.fz (.inst C fs))) := by
  obtain ⟨m, hm, hv, hi⟩ := F.vars
  obtain ⟨v, H, a, dx, es, n, rfl, ua, ud, nl, g1, g2, df, r⟩ := hv x _ e
  refine ⟨a, dx, ua, ud, ⟨es, n, g1, g2⟩, F.kind, F.glob, F.blt, ⟨F.loc, F.lne g1 rfl, nl.symm⟩, fun b s => F.live b (s.imp id (·.1)), fun b u => F.disj b u.1, ⟨m, hm, fun y sl e2 => ?_, fun y z dy dz b e1 e2 h1 h2 => ?_⟩, fun y z a1 b1 C D fs gs e1 e2 => ?_, F.cell⟩
  · have wk : ∀ b o, ¬ Both Z U b → h.get? b = some o → ¬ Both Z (fun b => U b ∧ b ≠ a ∧ b ≠ dx) b ∧ h.get? b = some o := fun b o nb e => ⟨fun q => nb (q.imp id (·.1)), e⟩
    rcases upd_cases e2 with ⟨rfl, rfl⟩ | ⟨q, e2⟩
    · exact ⟨_, H, .inst (fun q => q.elim (F.disj a ua) (fun q => q.2.1 rfl)) (fun q => q.elim (F.disj dx ud) (fun q => q.2.2 rfl)) g1 g2 (df.mono wk) r.1⟩
    · obtain ⟨v', H', sd⟩ := hv y sl e2
      refine ⟨v', H', ?_⟩
      cases sl with
      | fz d => exact Den.mono wk sd
      | own ds' =>
        obtain ⟨a', vs', n', rfl, ua', g', dl'⟩ := sd
        refine ⟨a', vs', n', rfl, ⟨ua', fun r => ?_, fun r => ?_⟩, g', dl'.mono wk⟩
        · exact apart g1 (r ▸ g') rfl
        · exact apart g2 (r ▸ g') rfl
      | obj a2 C' fs' => exact absurd (F.one y x _ _ _ _ _ _ e2 e) q
  · exact hi y z _ _ _ (upd_off e1 rfl) (upd_off e2 rfl) h1 h2
  · exact F.one y z _ _ _ _ _ _ (upd_off e1 rfl) (upd_off e2 rfl)

section
variable {c : Cx} {n : Nat} {env : Env} {ρ : Rho} {Φ Ψ : Out → Prop}
theorem Evals.lend {x : String} {ds : List D} {e : Expr} {d : D} (hx : ρ x = some (.own ds)) (h : Evals c n env (upd ρ x (.fz (.lst ds))) e d) (ha : atomic d = true := by rfl) : Evals c n env ρ e d := by
  intro A Z U s Q ao ok F hQ
  obtain ⟨a, _, _, F'⟩ := F.lend hx
  exact h A Z _ s Q ao ok F' fun v h' tk g dv => hQ v h' tk g (dv.atom ha)
theorem Evals.lendO {x : String} {a₀ C : Addr} {fs : List (String × D)} {e : Expr} {d : D} (hx : ρ x = some (.obj a₀ C fs)) (h : Evals c n env (upd ρ x (.fz (.inst C fs))) e d) (ha : atomic d = true := by rfl) : Evals c n env ρ e d := by
  intro A Z U s Q ao ok F hQ
  obtain ⟨a, dx, _, _, _, F'⟩ := F.lendO hx
  exact h A Z _ s Q ao ok F' fun v h' tk g dv => hQ v h' tk g (dv.atom ha)
theorem Tests.lend {x : String} {ds : List D} {e : Expr} {b : Bool} (hx : ρ x = some (.own ds)) (h : Tests c n env (upd ρ x (.fz (.lst ds))) e b) : Tests c n env ρ e b := by
  intro A Z U s Q ao ok F hQ
  obtain ⟨a, _, _, F'⟩ := F.lend hx
  exact h A Z _ s Q ao ok F' hQ
/-- an own list that is written no more -/
theorem Runs.freeze {x : String} {ds : List D} {ss : List Stmt} (hx : ρ x = some (.own ds)) (h : Runs c n env (upd ρ x (.fz (.lst ds))) ss Φ) : Runs c n env ρ ss Φ := by
  intro A h₀ Z U s ao F
  obtain ⟨a, ua, ⟨vs, k, ga⟩, F'⟩ := F.fs.lend hx
  refine wpAny_mono (h A h₀ Z (fun b => U b ∧ b ≠ a) s ao ⟨F', F.ok, F.base, fun b u => F.off b u.1, fun q y k' e => ⟨F.own q y k' e, fun r => ?_⟩⟩) (fun f s' P => ?_) fun _ _ x => x
  · obtain ⟨⟨v, o, ho, hd⟩, _⟩ := F.fs.cell y k' e
    rw [r, ga] at ho; cases ho; cases hd
  · obtain ⟨h', tk, U', out, rfl, g, kb, uu, o, l, p⟩ := P
    exact ⟨h', tk, U', out, rfl, g, fun b o nb e => kb b o (fun q => nb q.1) e, fun b u => (uu b u).imp (·.1) id, o, l, p⟩
/-- a new list -/
noncomputable def EvalsNew (c : Cx) (n : Nat) (env : Env) (ρ : Rho) (e : Expr) (ds : List D) : Prop :=
  ∀ (A : Around) (Z U : AS) (s : Shared) (Q : Value → Shared → Prop), AOk c n A → c.Ok s.heap → FS env Z U s.heap ρ →
    (∀ a vs k h' tk, G s.heap h' → s.heap.get? a = none → h'.get? a = some { cls := .type "list", data := .seq (List.toArray vs) k } → DenL (fun b => Both Z U b ∨ b = a) h' vs ds → Q (.ref a) { s with heap := h', toks := tk }) → wpAny (model c.prog c.w) A (eval e env) Q NE s
theorem denL_away {S : AS} {h h' : Heap} {a : Addr} {vs : List Value} {ds : List D} (d : DenL S h vs ds) (g : G h h') (e : h.get? a = none) : DenL (fun b => S b ∨ b = a) h' vs ds :=
  d.mono fun b o nb eb => ⟨fun q => q.elim nb fun q => (by rw [q, e] at eb; cases eb), g b o eb⟩
theorem EvalsNew.list {es : List Expr} {pos : Pos} {ds : List D} (h : EvalsL c n env ρ es ds) (hz : es.length ≤ sizeLine) (hu : unstarred es = true := by rfl) (hl : es.length = ds.length := by rfl) : EvalsNew c n env ρ (.List es pos) ds := by
  intro A Z U s Q ao ok F hQ
  refine wpAny_List ?_
  rw [backTo_eq pos env es hu]
  refine h A Z U s _ ao ok F fun vs h1 tk1 g1 dl => ⟨by rw [dl.length, ← hl]; exact hz, ?_⟩
  refine hQ _ vs 0 _ _ (g1.trans (G.push _ _)) ?_ (Heap.get?_push_size _ rfl) (denL_away dl (G.push _ _) (get_size _))
  cases q : s.heap.get? h1.objs.size with
  | none => rfl
  | some o => have := g1 _ _ q; rw [get_size] at this; cases this

/-- x = a new list -/
theorem FW.storeNew {A : Around} {h₀ : Heap} {Z U : AS} {s : Shared} {x : String} {ds : List D} {a : Addr} {vs : List Value} {k : Nat} {h₁ : Heap} {tk₁ : Nat} {Q : Unit → Shared → Prop} (F : FW c h₀ env Z U s.heap ρ) (g : G s.heap h₁) (st : Stores env x)
    (ha : s.heap.get? a = none) (e : h₁.get? a = some { cls := .type "list", data := .seq (List.toArray vs) k }) (dl : DenL (fun b => Both Z U b ∨ b = a) h₁ vs ds)
    (hQ : ∀ h' tk, FW c h₀ env Z (fun b => U b ∨ b = a) h' (upd ρ x (.own ds)) → KB U s.heap h' → Q () { s with heap := h', toks := tk }) : wpAny (model c.prog c.w) A (storeName env (Str.ofString x) (.ref a)) Q NE { s with heap := h₁, toks := tk₁ } := by
  have F1 : FW c h₀ env Z (fun b => U b ∨ b = a) h₁ ρ := F.extend (N := fun b => b = a) g fun b q => by subst q; exact ⟨ha, _, e⟩
  refine F1.storeSl (s := { s with heap := h₁, toks := tk₁ }) (sl := .own ds) st ⟨a, vs, k, rfl, .inr rfl, e, dl.mono fun b o nb eb => ⟨fun q => nb (by
    rcases q with q | q | q
    · exact .inl (.inl q)
    · exact .inl (.inr q)
    · exact .inr q), eb⟩⟩ (fun m hm ds' y dy e1 ny ey H => ?_) (fun _ _ _ e1 => by cases e1) fun h' tk F' kb _ => hQ h' tk F' fun b o nb eb => kb b o (fun q => ?_) (g b o eb)
  · obtain ⟨m', hm', hv, _⟩ := F.fs.vars
    obtain ⟨v', H', a', vs', n', rfl, ua', g', dl'⟩ := hv y _ ey
    have := (H'.g g).unique G.rfl (show Has env h₁ m' _ (.ref a) from (hm.eq_nsMap.trans (hm'.keeps g).eq_nsMap.symm) ▸ H)
    cases this
    rw [ha] at g'; cases g'
  · rcases q with q | q
    · exact nb q
    · rw [q, ha] at eb; cases eb
theorem Run1.assignNew {x : String} {e : Expr} {px pos : Pos} {ds : List D} (st : Stores env x) (h : EvalsNew c n env ρ e ds) (p : Φ (.next (upd ρ x (.own ds))))
    (hs : swapsWith e (some (.Name (Str.ofString x) px)) pos.line env = pure false := by rfl) : Run1 c n env ρ (.Assign [.Name (Str.ofString x) px] e pos) Φ := by
  intro A h₀ Z U s ao F
  refine wpAny_Assign_Name (h A Z U s _ ao F.okh F.fs fun a vs k h' tk g ha ea dl => F.storeNew g st ha ea dl fun h2 tk2 F2 kb => ?_) hs
  exact ⟨h2, tk2, _, .next _, rfl, F2.base, kb, fun b u => u.imp id fun q => (by rw [q]; exact ha), F2.off, F2, p⟩

/-- one own object changes, that of x -/
theorem FW.put {h₀ h h' : Heap} {Z U : AS} {x : String} {sl sl' : Sl} {a : Addr} {o : Obj} (F : FW c h₀ env Z U h ρ) (e : ρ x = some sl) (ua : U a) (La : env.locals ≠ a) (g : h.get? a = some o) (nc : (o.data.ctorIdx == (Data.cell none).ctorIdx) = false)
    (hs : Heap.SameBut a h h') (ex : ∃ o, h'.get? a = some o) (same : (sl'.ctorIdx == sl.ctorIdx) = true)
    (hx : ∀ m v, h.Ns env.locals m → Has env h m (Str.ofString x) v → SlD env.locals Z U h' v sl')
    (hy : ∀ m y s2 v, y ≠ x → ρ y = some s2 → h.Ns env.locals m → Has env h m (Str.ofString y) v → SlD env.locals Z U h v s2 → SlD env.locals Z U h' v s2) : FW c h₀ env Z U h' (upd ρ x sl') ∧ KB U h h' := by
  have so : ∀ ds, sl' = .own ds → ∃ ds', sl = .own ds' := fun ds q => by subst q; cases sl with | own d => exact ⟨d, rfl⟩ | _ => cases same
  have sb : ∀ a C fs, sl' = .obj a C fs → ∃ a C fs, sl = .obj a C fs := fun a C fs q => by subst q; cases sl with | obj a C d => exact ⟨a, C, d, rfl⟩ | _ => cases same
  have ca := F.fs.cne g nc
  have kk : ∀ b o, b ≠ a → h.get? b = some o → h'.get? b = some o := fun b o nb e => (hs.2 b nb).trans e
  have hc : ∀ {m x v}, Has env h m x v ↔ Has env h' m x v := fun {m x v} => Has.iff rfl fun k hk => hs.2 k (ca _ _ hk)
  obtain ⟨m, hm, hv, hi⟩ := F.fs.vars
  refine ⟨⟨⟨F.fs.kind, F.fs.glob, F.fs.blt, F.fs.loc, fun b s => ?_, F.fs.disj, ⟨m, hm.sameBut hs La, fun y s2 e2 => ?_, fun y z dy dz b e1 e2 h1 h2 => ?_⟩, fun y z a1 b1 C D fs gs e1 e2 => ?_, fun y k ey => ?_⟩, F.ok, fun b o eb => kk b o (fun q => ?_) (F.base b o eb), F.off, F.own⟩, fun b o nb eb => kk b o (fun q => nb (q ▸ ua)) eb⟩
  · by_cases q : b = a
    · exact q ▸ ex
    · obtain ⟨o, eo⟩ := F.fs.live b s; exact ⟨o, kk b o q eo⟩
  · rcases upd_cases e2 with ⟨rfl, rfl⟩ | ⟨q, e3⟩
    · obtain ⟨v, H, d⟩ := hv y _ e
      exact ⟨v, hc.mp H, hx m v hm H⟩
    · obtain ⟨v, H, d⟩ := hv y _ e3
      exact ⟨v, hc.mp H, hy m y s2 v q e3 hm H d⟩
  · have un : ∀ y dy, upd ρ x sl' y = some (.own dy) → ∃ dy', ρ y = some (.own dy') := fun y dy ey => by
      rcases upd_cases ey with ⟨q, r⟩ | ⟨_, q⟩
      · obtain ⟨d, r⟩ := so dy r; exact ⟨d, q ▸ r ▸ e⟩
      · exact ⟨_, q⟩
    obtain ⟨_, e3⟩ := un y dy e1
    obtain ⟨_, e4⟩ := un z dz e2
    exact hi y z _ _ _ e3 e4 (hc.mpr h1) (hc.mpr h2)
  · have un : ∀ y a C fs, upd ρ x sl' y = some (.obj a C fs) → ∃ a C fs, ρ y = some (.obj a C fs) := fun y a C fs ey => by
      rcases upd_cases ey with ⟨q, r⟩ | ⟨_, q⟩
      · obtain ⟨a, C, d, r⟩ := sb _ _ _ r; exact ⟨a, C, d, q ▸ r ▸ e⟩
      · exact ⟨_, _, _, q⟩
    obtain ⟨_, _, _, e3⟩ := un y _ _ _ e1
    obtain ⟨_, _, _, e4⟩ := un z _ _ _ e2
    exact F.fs.one y z _ _ _ _ _ _ e3 e4
  · obtain ⟨⟨v, o, ho, hd⟩, j⟩ := F.fs.cell y k ey
    exact ⟨⟨v, o, kk _ _ (ca y k ey) ho, hd⟩, j⟩
  · rw [q, F.off _ ua] at eb; cases eb
/-- the list of an own name changes -/
theorem FW.ownPut {h₀ h h' : Heap} {Z U : AS} {x : String} {ds ds' : List D} {a : Addr} {vs' : List Value} {k' : Nat} (F : FW c h₀ env Z U h ρ) (e : ρ x = some (.own ds)) (ha : ∃ m, h.Ns env.locals m ∧ Has env h m (Str.ofString x) (.ref a))
    (hs : Heap.SameBut a h h') (e' : h'.get? a = some { cls := .type "list", data := .seq (List.toArray vs') k' }) (dl' : DenL (Both Z U) h vs' ds') : FW c h₀ env Z U h' (upd ρ x (.own ds')) ∧ KB U h h' := by
  obtain ⟨m, hm, hv, hi⟩ := F.fs.vars
  obtain ⟨m1, hm1, Ha⟩ := ha
  have one : ∀ m', h.Ns env.locals m' → m' = m := fun m' x => x.eq_nsMap.trans hm.eq_nsMap.symm
  cases one m1 hm1
  obtain ⟨v, H, a1, vs, n1, rfl, ua, g, dl⟩ := hv x _ e
  cases Ha.unique G.rfl H
  have kk : ∀ b o, b ≠ a → h.get? b = some o → h'.get? b = some o := fun b o nb e => (hs.2 b nb).trans e
  have kb : ∀ b o, ¬ Both Z U b → h.get? b = some o → ¬ Both Z U b ∧ h'.get? b = some o := fun b o nb e => ⟨nb, kk b o (fun q => nb (q ▸ .inr ua)) e⟩
  refine F.put e ua (F.fs.lne g rfl) g rfl hs ⟨_, e'⟩ rfl (fun m' v' hm' H' => ?_) fun m' y s2 v' q e2 hm' H' sd => ?_
  · cases one m' hm'
    cases H'.unique G.rfl H
    exact ⟨a, vs', k', rfl, ua, e', dl'.mono kb⟩
  · cases one m' hm'
    cases s2 with
    | fz d => exact Den.mono kb sd
    | own ds' =>
      obtain ⟨a', vs', n', rfl, ua', g', dl'⟩ := sd
      exact ⟨a', vs', n', rfl, ua', kk _ _ (fun r => q (hi y x _ _ _ e2 e H' (r ▸ H))) g', dl'.mono kb⟩
    | obj a2 C fs =>
      obtain ⟨a', dx, es, n', rfl, ua', ud, nl, g1, g2, df, r⟩ := sd
      refine ⟨a', dx, es, n', rfl, ua', ud, nl, kk _ _ (fun r => ?_) g1, kk _ _ (fun r => ?_) g2, df.mono kb, r⟩
      · exact apart g (r ▸ g1) rfl
      · exact apart g (r ▸ g2) rfl

/-- an own name is read -/
theorem FW.ownRead {A : Around} {h₀ : Heap} {Z U : AS} {s : Shared} {x : String} {px : Pos} {ds : List D} {Q : Value → Shared → Prop} (F : FW c h₀ env Z U s.heap ρ) (e : ρ x = some (.own ds))
    (hQ : ∀ a vs k, U a → (∃ m, s.heap.Ns env.locals m ∧ Has env s.heap m (Str.ofString x) (.ref a)) → s.heap.get? a = some { cls := .type "list", data := .seq (List.toArray vs) k } → DenL (Both Z U) s.heap vs ds → Q (.ref a) s)
    (hd : (Str.ofString x == ("__debug__" : Str)) = false := by decide) (hc : (Str.ofString x == ("__classdict__" : Str)) = false := by decide) : wpAny (model c.prog c.w) A (eval (.Name (Str.ofString x) px) env) Q NE s := by
  obtain ⟨m, hm, hv, _⟩ := F.fs.vars
  obtain ⟨v, H, a, vs, k, rfl, ua, g, dl⟩ := hv x _ e
  have go := hQ a vs k ua ⟨m, hm, H⟩ g dl
  refine wpAny_Name ?_ hd
  rcases H with ⟨p, b⟩ | ⟨p | p, q, hk, ik⟩
  · exact wpAny_loadName_local F.fs.kind p hm b go
  · exact wpAny_loadName_cell F.fs.kind p hk ik go
  · exact wpAny_loadName_free F.fs.kind p hk ik go hc
theorem has_g {h h' : Heap} {L : Addr} {x : Str} {v : Value} (g : G h h') (H : ∃ m, h.Ns L m ∧ Has env h m x v) : ∃ m, h'.Ns L m ∧ Has env h' m x v := let ⟨m, a, b⟩ := H; ⟨m, a.keeps g, b.g g⟩

/-- x.append(e) -/
theorem Run1.append {x : String} {e : Expr} {px apos cpos pos : Pos} {ds : List D} {d : D} (hx : ρ x = some (.own ds)) (h : Evals c n env ρ e d) (hz : ds.length ≤ 1000000) (p : Φ (.next (upd ρ x (.own (ds ++ [d])))))
    (hu : unstarred [e] = true := by rfl) (hb : attributeBase (.Name (Str.ofString x) px) (Str.ofString "append") env (eval (.Name (Str.ofString x) px) env) = eval (.Name (Str.ofString x) px) env := by rfl)
    (hline : (apos.endLine == cpos.line) = true := by rfl)
    (hfew : ((backTo cpos (starEach [e] env)).all (fun x => !x.1) && (backToKw cpos (keywordEach [] env)).all (fun x => x.1.isSome) && decide ([e].length + ([] : List Keyword).length + (if ([] : List Keyword).isEmpty then 0 else 1) < 30)) = true := by rfl)
    (hi : interactive env = false := by rfl) (hd : (Str.ofString x == ("__debug__" : Str)) = false := by decide) (hc : (Str.ofString x == ("__classdict__" : Str)) = false := by decide) :
    Run1 c n env ρ (.Expr (.Call (.Attribute (.Name (Str.ofString x) px) (Str.ofString "append") apos) [e] [] cpos) pos) Φ := by
  intro A h₀ Z U s ao F
  refine wpAny_Expr_any ?_ hi rfl
  refine wpAny_Call_method_lateS hb hfew hline (F.ownRead hx (fun a vs k ua Ha ea dl => ?_) hd hc)
  refine ⟨"list", "list.append", PySem.F.plainAttrs_list, PySem.slot_list_append, PySem.F.type_list_append, ⟨_, ea, rfl⟩, fun b eb => by cases eb; exact ⟨_, ea, rfl⟩, ?_⟩
  rw [backTo_eq cpos env [e] hu]
  refine callWith_of (P := fun _ => True) (by simp) (fun h _ => ⟨.machine, .inr (.inl rfl), Looks.of_pure rfl⟩) (evalArgs_plain (spliced_cons (h A Z U s _ ao F.okh F.fs fun v h1 tk1 g1 dv => spliced_nil ⟨trivial, ?_⟩)))
  refine wpAny_list_append_plain (hsz := by rw [List.size_toArray, dl.length, sizeLine_eq]; omega) ⟨k, g1 _ _ ea⟩ fun h2 hl2 hs2 => ?_
  obtain ⟨k2, e2⟩ := hl2
  rw [List.push_toArray] at e2
  obtain ⟨F2, kb⟩ := (F.g g1).ownPut (k' := k2) (vs' := vs ++ [v]) (ds' := ds ++ [d]) hx (has_g g1 Ha) hs2 e2 ((dl.g g1).append (.cons dv .nil))
  exact ⟨h2, tk1, U, .next _, rfl, F2.base, fun b o nb e => kb b o nb (g1 b o e), fun _ q => .inl q, F2.off, F2, p⟩

/-- x[i] = e -/
theorem Run1.setItem {x : String} {i e : Expr} {px spos pos : Pos} {ds : List D} {d : D} {k : Nat} (hx : ρ x = some (.own ds)) (h : Evals c n env ρ e d) (h2 : Evals c n env ρ i (.int k)) (hk : k < ds.length) (hk2 : k < 1000000) (p : Φ (.next (upd ρ x (.own (ds.set k d)))))
    (hs : swapsWith e (some (.Subscript (.Name (Str.ofString x) px) i spos)) pos.line env = pure false := by rfl)
    (hd : (Str.ofString x == ("__debug__" : Str)) = false := by decide) (hc : (Str.ofString x == ("__classdict__" : Str)) = false := by decide) :
    Run1 c n env ρ (.Assign [.Subscript (.Name (Str.ofString x) px) i spos] e pos) Φ := by
  intro A h₀ Z U s ao F
  refine wpAny_Assign_Subscript (h A Z U s _ ao F.okh F.fs fun v h1 tk1 g1 dv => ?_) hs
  refine (F.g g1).ownRead (s := { s with heap := h1, toks := tk1 }) hx (fun a vs m ua Ha ea dl => ?_) hd hc
  refine h2 A Z U _ _ ao (F.g g1).okh (F.g g1).fs fun iv h3 tk3 g3 di => ?_
  cases di
  refine ki_setAt (g3 _ _ ea) (by omega) (by omega) (by rw [List.size_toArray, dl.length]; omega) ?_
  have e2 : (h3.update a (Obj.mapSeq (·.setIfInBounds ((k : Int)).toNat v))).get? a = some { cls := .type "list", data := .seq (vs.set k v).toArray m } := by
    rw [Heap.get?_update_self _ (g3 _ _ ea) rfl]
    simp [Obj.mapSeq]
  obtain ⟨F2, kb⟩ := (F.g (g1.trans g3)).ownPut (ds' := ds.set k d) hx (has_g g3 Ha) (Heap.SameBut.update ..) e2 (DenL.set (dv.g g3) (dl.g g3) k)
  exact ⟨_, tk3, U, .next _, rfl, F2.base, fun b o nb e => kb b o nb (g3 b o (g1 b o e)), fun _ q => .inl q, F2.off, F2, p⟩
end
end Mine
end
section
open PySem PySem.W PyProof.Rows PySem.Calls
set_option autoImplicit false
namespace Mine

/-- an expression gives some list (own or not) of these things -/
noncomputable def EvSeq (c : Cx) (n : Nat) (env : Env) (ρ : Rho) (e : Expr) (ds : List D) : Prop :=
  ∀ (A : Around) (Z U : AS) (s : Shared) (Q : Value → Shared → Prop), AOk c n A → c.Ok s.heap → FS env Z U s.heap ρ →
    (∀ a vs k h' tk, G s.heap h' → h'.get? a = some { cls := .type "list", data := .seq (List.toArray vs) k } → DenL (Both Z U) h' vs ds → Q (.ref a) { s with heap := h', toks := tk }) → wpAny (model c.prog c.w) A (eval e env) Q NE s

section
variable {c : Cx} {n : Nat} {env : Env} {ρ : Rho} {Φ Ψ : Out → Prop}
theorem EvSeq.own {x : String} {px : Pos} {ds : List D} (e : ρ x = some (.own ds)) (hd : (Str.ofString x == ("__debug__" : Str)) = false := by decide) (hc : (Str.ofString x == ("__classdict__" : Str)) = false := by decide) :
    EvSeq c n env ρ (.Name (Str.ofString x) px) ds := by
  intro A Z U s Q ao ok F hQ
  obtain ⟨m, hm, hv, _⟩ := F.vars
  obtain ⟨v, H, a, vs, k, rfl, ua, g, dl⟩ := hv x _ e
  have go := hQ a vs k s.heap s.toks G.rfl g dl
  refine wpAny_Name ?_ hd
  rcases H with ⟨p, b⟩ | ⟨p | p, q, hk, ik⟩
  · exact wpAny_loadName_local F.kind p hm b go
  · exact wpAny_loadName_cell F.kind p hk ik go
  · exact wpAny_loadName_free F.kind p hk ik go hc
theorem EvSeq.fz {e : Expr} {ds : List D} (h : Evals c n env ρ e (.lst ds)) : EvSeq c n env ρ e ds := by
  intro A Z U s Q ao ok F hQ
  refine h A Z U s _ ao ok F fun v h' tk g dv => ?_
  cases dv with | lst ns e dl => exact hQ _ _ _ h' tk g e dl
theorem EvSeq.new {e : Expr} {ds : List D} (h : EvalsNew c n env ρ e ds) : EvSeq c n env ρ e ds := by
  intro A Z U s Q ao ok F hQ
  exact h A Z U s _ ao ok F fun a vs k h' tk g _ ea dl => hQ a vs k h' tk g ea (dl.mono fun b o nb eb => ⟨fun q => nb (.inl q), eb⟩)
theorem Evals.ofNew {e : Expr} {ds : List D} (h : EvalsNew c n env ρ e ds) : Evals c n env ρ e (.lst ds) := by
  intro A Z U s Q ao ok F hQ
  exact h A Z U s _ ao ok F fun a vs k h' tk g na ea dl => hQ _ h' tk g (.lst (F.fresh na) ea (dl.mono fun b o nb eb => ⟨fun q => nb (.inl q), eb⟩))
theorem fresh_g {h h' : Heap} (g : G h h') : h.get? h'.objs.size = none := by
  cases q : h.get? h'.objs.size with
  | none => rfl
  | some o => have := g _ _ q; rw [get_size] at this; cases this
theorem EvalsNew.add {l r : Expr} {pos : Pos} {d1 d2 : List D} (h1 : EvSeq c n env ρ l d1) (h2 : EvSeq c n env ρ r d2) (hz : d1.length + d2.length ≤ 16777216) : EvalsNew c n env ρ (.BinOp l .Add r pos) (d1 ++ d2) := by
  intro A Z U s Q ao ok F hQ
  refine wpAny_BinOp (h1 A Z U s _ ao ok F fun a vs k h1 tk1 g1 e1 dl1 => h2 A Z U _ _ ao (ok.g g1) (F.g g1) fun b ws m h2 tk2 g2 e2 dl2 => ?_)
  refine P.add_list (g2 _ _ e1) e2 ?_ (by rw [List.size_toArray, List.size_toArray, dl1.length, dl2.length, sizeLine_eq]; exact hz)
  have g := g1.trans g2
  refine hQ _ (vs ++ ws) 0 _ _ (g.trans (G.push _ _)) (fresh_g g) ?_ (denL_away ((dl1.g g2).append dl2) (G.push _ _) (get_size _))
  rw [List.append_toArray]
  exact Heap.get?_push_size _ rfl
theorem foldl_rep (vs : List Value) : ∀ (k : Nat) (acc : Array Value), List.foldl (fun x1 x2 => x1 ++ x2) acc (List.replicate k vs.toArray) = acc ++ (List.replicate k vs).flatten.toArray
  | 0, acc => by simp
  | k + 1, acc => by
    rw [List.replicate_succ, List.foldl_cons, foldl_rep vs k, List.replicate_succ, List.flatten_cons, ← List.append_toArray, Array.append_assoc]
theorem DenL.rep {S : AS} {h : Heap} {vs : List Value} {ds : List D} (d : DenL S h vs ds) : ∀ k, DenL S h (List.replicate k vs).flatten (List.replicate k ds).flatten
  | 0 => .nil
  | k + 1 => by rw [List.replicate_succ, List.replicate_succ, List.flatten_cons, List.flatten_cons]; exact d.append (DenL.rep d k)
theorem EvalsNew.mul {l r : Expr} {pos : Pos} {ds : List D} {i : Int} (h1 : EvSeq c n env ρ l ds) (h2 : Evals c n env ρ r (.int i)) (hi : -1000000 ≤ i) (hi2 : i ≤ 1000000) (hl : ds.length ≤ 4) : EvalsNew c n env ρ (.BinOp l .Mult r pos) (List.replicate i.toNat ds).flatten := by
  intro A Z U s Q ao ok F hQ
  refine wpAny_BinOp (h1 A Z U s _ ao ok F fun a vs k h1 tk1 g1 e1 dl1 => h2 A Z U _ _ ao (ok.g g1) (F.g g1) fun b h2 tk2 g2 d2 => ?_)
  cases d2 with | int _ u =>
  have hl1 := g2 _ _ e1
  have hsz : vs.toArray.size = ds.length := by rw [List.size_toArray, dl1.length]
  have hm : vs.toArray.size * i.toNat ≤ 2 ^ 24 := by
    rw [hsz]
    calc ds.length * i.toNat ≤ 4 * 1000000 := Nat.mul_le_mul hl (by omega)
      _ ≤ 2 ^ 24 := by decide
  refine wpAny_binaryOp_repeat_ref (T := "list") (U := "int") (by decide) ⟨_, hl1, rfl⟩ (fun s' => typeIs_int s' i u) noFill_list_mul PySem.F.fills_int_mul PySem.F.slot_int_rmul repeat_list PySem.F.slot_int_index.lookup
    (call_meets PySem.F.slot_int_rmul (typeIs_int _ i u) PySem.F.entry_int_rmul (PySem.F.args_int_rmul_2 _ _) (int___rmul___int_list i u a vs.toArray k)
      ⟨hl1, rfl, ⟨_, hl1, rfl⟩, call_meets PySem.F.slot_list_mul ⟨_, hl1, rfl⟩ PySem.F.entry_list_mul (PySem.F.args_list_mul_2 _ _)
        (AutoListH.list___mul___list_int_3 a vs.toArray k i u (by simp [Builtin.List.listFitsIndex]; omega) (by omega) (by simp [Builtin.List.listTooLong, sizeLine] at hm ⊢; omega))
        ⟨hl1, ?_⟩⟩)
  have g := g1.trans g2
  refine hQ _ (List.replicate i.toNat vs).flatten 0 _ _ (g.trans (G.push _ _)) (fresh_g g) ?_ (denL_away ((dl1.g g2).rep _) (G.push _ _) (get_size _))
  refine (Heap.get?_push_size _ rfl).trans ?_
  congr 3
  rw [foldl_rep]
  cases vs with
  | nil => simp
  | cons v r => simp

theorem Fun.tuple_lst {ds : List D} (hx : ds.length ≤ 16777216) : Fun c n (.type "tuple") [.lst ds] (.tup ds) := fun A S s Q vs ao ok l dl hQ => by
      obtain ⟨_, _, rfl, d, r⟩ := dl.inv
      obtain rfl := r.inv
      obtain ⟨_, _, _, rfl, ns, e, dl⟩ := d.inv
      refine call_tuple_list (isList_of e) (fun h' k => ?_) (by rw [List.size_toArray, dl.length, sizeLine_eq]; exact hx)
      have k : G s.heap h' := k
      exact hQ _ _ _ (k.trans (G.push _ _)) (Den.newTup (live_g l k) (dl.g k))
theorem Fun.range2 {a b : Int} : Fun c n (.type "range") [.int a, .int b] (.rng a b) := fun A S s Q vs ao ok l dl hQ => by
    obtain ⟨_, _, rfl, d, r⟩ := dl.inv
    obtain ⟨_, _, rfl, d2, r⟩ := r.inv
    obtain rfl := r.inv
    obtain ⟨_, rfl⟩ := d.inv
    obtain ⟨_, rfl⟩ := d2.inv
    exact call_range_2 (hQ _ _ _ (G.push _ _) (.rng (fresh_of l (get_size _)) (IsRange.new _ _ _ _ _ _ _)))
theorem Fun.range1 {b : Int} : Fun c n (.type "range") [.int b] (.rng 0 b) := fun A S s Q vs ao ok l dl hQ => by
    obtain ⟨_, _, rfl, d, r⟩ := dl.inv
    obtain rfl := r.inv
    obtain ⟨_, rfl⟩ := d.inv
    exact call_range_1 (hQ _ _ _ (G.push _ _) (.rng (fresh_of l (get_size _)) (IsRange.new _ _ _ _ _ _ _)))
theorem preSum_eq (l : List Int) : ∀ k, k ≤ l.length → preSum (fun j => l.getD j 0) k = (l.take k).sum
  | 0, _ => by simp [preSum]
  | k + 1, h => by
    rw [preSum, preSum_eq l k (by omega), List.take_succ_eq_append_getElem (by omega), List.sum_append]
    simp [List.getD_eq_getElem?_getD, List.getElem?_eq_getElem (show k < l.length by omega)]
theorem Fun.sum {l : List Int} : Fun c n (.builtin "sum") [.lst (l.map D.int)] (.int l.sum) := fun A S s Q vs ao ok lv dl hQ => by
  cases dl with | cons d r =>
    cases r
    have hi := Iters.lst (c := c) (ds := l.map D.int)
    refine call_sum_walkG (wpAny_mono (hi A.in1 S s _ _ ao.handled lv d fun I h' tk fp P St W g hI hfp st hSt hP => ?_) (fun _ _ x => x) fun _ _ x => x.elim)
    refine ⟨I, fp, [I], _, P, St, fun j => l.getD j 0, rfl, W, st, fun b hb => ?_, fun i v hv => ?_, fun h'' tk' t' k => ?_⟩
    · rcases hfp b hb with rfl | ⟨_, o, e⟩
      · obtain ⟨o, _, e, _⟩ := hSt _ _ st; exact Heap.lt_size e
      · exact Heap.lt_size (g _ _ e)
    · obtain ⟨d, hd, dv⟩ := hP i v hv
      rw [List.getElem?_map] at hd
      cases q : l[i]? with
      | none => rw [q] at hd; cases hd
      | some x =>
        rw [q] at hd; cases hd
        cases dv with | int _ t =>
        refine ⟨t, ?_⟩
        simp [List.getD_eq_getElem?_getD, q]
    · rw [preSum_eq l _ (by simp)]
      rw [show (l.map D.int).length = l.length by simp, List.take_length]
      refine hQ _ h'' tk' (fun b o e => k b o ?_ (g b o e)) (.int _ _)
      simp only [List.mem_singleton]
      rintro rfl
      rw [hI] at e; cases e
theorem strs_of {S : AS} {h : Heap} : ∀ {ys : List Str} {vs : List Value}, DenL S h vs (ys.map D.str) → StrsAre vs ys
  | [], vs, x => by
    obtain rfl : vs = [] := x.inv
    exact .nil
  | y :: ys, vs, x => by
    obtain ⟨v, ws, rfl, d, l⟩ : ∃ v ws, vs = v :: ws ∧ Den S h v (.str y) ∧ DenL S h ws (ys.map D.str) := x.inv
    obtain ⟨t, rfl⟩ : ∃ t, v = .str y t := d.inv
    exact .cons _ _ (strs_of l)
theorem Fun.join {x : Str} {ys : List Str} (hok : (ys.map (·.length)).sum + ys.length * x.length ≤ 16777216) : Fun c n (.builtin "str.join") [.str x, .lst (ys.map D.str)] (.str (Txt.join x ys)) := fun A S s Q vs ao ok l dl hQ => by
    obtain ⟨_, _, rfl, d, r⟩ := dl.inv
    obtain ⟨_, _, rfl, d2, r⟩ := r.inv
    obtain rfl := r.inv
    obtain ⟨t, rfl⟩ := d.inv
    obtain ⟨a, vs, m, rfl, ns, e, dl⟩ := d2.inv
    exact join_list (isList_of e) (by simpa using strs_of dl) hok fun t' k => hQ _ s.heap k G.rfl (.str _ _)
end
end Mine
end
section
open PySem PySem.W PyProof.Rows PySem.Calls
set_option autoImplicit false
namespace Mine
/-- a text of signs -/
noncomputable def S (l : List Nat) : Str := ⟨l.toArray⟩
theorem S_cps (l : List Nat) : (S l).cps = l.toArray := rfl
theorem S_toList (l : List Nat) : (S l).cps.toList = l := by simp [S]
theorem S_len (l : List Nat) : (S l).length = l.length := by simp [S, Str.length]
theorem S_app (a b : List Nat) : S a ++ S b = S (a ++ b) := Str.ext' (by rw [Str.cps_append, S_cps, S_cps, S_cps, List.append_toArray])
theorem S_eq (a b : List Nat) : (S a == S b) = decide (a = b) := by
  by_cases h : a = b
  · subst h; simp
  · rw [decide_eq_false h]
    have : S a ≠ S b := fun e => h (by have := congrArg (fun x : Str => x.cps.toList) e; simpa [S] using this)
    simpa using this
theorem S_ne (a b : List Nat) : (S a != S b) = decide (a ≠ b) := by
  show (!(S a == S b)) = _
  rw [S_eq]
  by_cases h : a = b <;> simp [h]
noncomputable def cl (n : Nat) (i : Int) : Nat := clipAt n i
noncomputable def sl (l : List Nat) (lo hi : Option Int) : List Nat := (l.drop (lo.elim 0 (clipAt l.length))).take (hi.elim l.length (clipAt l.length) - lo.elim 0 (clipAt l.length))
theorem S_slice (l : List Nat) (lo hi : Option Int) : Txt.slice (S l) lo hi = S (sl l lo hi) := by
  have hb : ∀ i, clipAt l.length i ≤ l.length := fun i => by
    have h := clipAt_cast l.length i
    omega
  have key : Builtin.Str.strSliceIndices lo hi 1 (S l).length = sliceRange ((lo.elim 0 (clipAt l.length) : Nat) : Int) ((hi.elim l.length (clipAt l.length) : Nat) : Int) 1 := by
    unfold Builtin.Str.strSliceIndices
    rw [S_len]
    cases lo <;> cases hi <;> simp [clipAt_cast]
  have h2 : (sliceRange ((lo.elim 0 (clipAt l.length) : Nat) : Int) ((hi.elim l.length (clipAt l.length) : Nat) : Int) 1).filterMap ((S l).cps[·]?) = sl l lo hi := by
    rw [sliceRange_one]
    have := pick_run (S l).cps (lo.elim 0 (clipAt l.length)) (hi.elim l.length (clipAt l.length) - lo.elim 0 (clipAt l.length))
    rw [S_toList] at this
    exact this
  unfold Txt.slice
  rw [key, h2]
  split
  · rename_i h
    have hlen : (sliceRange ((lo.elim 0 (clipAt l.length) : Nat) : Int) ((hi.elim l.length (clipAt l.length) : Nat) : Int) 1).length = l.length := by
      have := (Bool.and_eq_true_iff.mp h).2
      rw [S_len] at this
      simpa using this
    rw [sliceRange_one, List.length_map, List.length_range] at hlen
    have ha : lo.elim 0 (clipAt l.length) = 0 ∨ l.length = 0 := by
      have h1 : hi.elim l.length (clipAt l.length) ≤ l.length := by cases hi with | none => exact Nat.le_refl _ | some i => exact hb i
      omega
    unfold sl
    rcases ha with ha | ha
    · rw [ha, List.drop_zero, List.take_of_length_le]
      rw [ha] at hlen; omega
    · have : l = [] := List.length_eq_zero_iff.mp ha
      subst this; simp
  · rfl
theorem S_charAt {l : List Nat} {k : Int} {x : Nat} (h0 : 0 ≤ k) (h : l[k.toNat]? = some x) : Txt.charAt (S l) k = some x := by
  unfold Txt.charAt seqIndex?
  have hlt : k.toNat < l.length := (List.getElem?_eq_some_iff.mp h).1
  simp only [if_neg (show ¬ k < 0 by omega), S_len]
  rw [if_pos (by simp; omega)]
  simpa [S] using h
theorem S_item {l : List Nat} {k : Int} {x : Nat} (h0 : 0 ≤ k) (h : l[k.toNat]? = some x) : Txt.item (S l) k = S [x] := by
  unfold Txt.item
  rw [S_charAt h0 h]
  rfl
theorem S_starts (a b : List Nat) : Txt.startswith (S a) (S b) = b.isPrefixOf a := by
  unfold Txt.startswith
  rw [StrLaws.subAt_eq, S_len, S_len, S_toList, S_toList, List.drop_zero]
  by_cases h : b <+: a
  · rw [List.isPrefixOf_iff_prefix.mpr h]
    obtain ⟨t, rfl⟩ := h
    simp
  · have h1 : b.isPrefixOf a = false := by
      cases q : b.isPrefixOf a with
      | false => rfl
      | true => exact absurd (List.isPrefixOf_iff_prefix.mp q) h
    rw [h1, Bool.and_eq_false_iff]
    right
    simp only [beq_eq_false_iff_ne]
    intro e
    exact h ⟨a.drop b.length, by have q := List.take_append_drop b.length a; rw [e] at q; exact q⟩
theorem S_ends (a b : List Nat) : Txt.endswith (S a) (S b) = b.isSuffixOf a := by
  unfold Txt.endswith
  rw [StrLaws.subAt_eq, S_len, S_len, S_toList, S_toList]
  by_cases h : b <:+ a
  · rw [List.isSuffixOf_iff_suffix.mpr h]
    obtain ⟨t, rfl⟩ := h
    simp
  · have h1 : b.isSuffixOf a = false := by
      cases q : b.isSuffixOf a with
      | false => rfl
      | true => exact absurd (List.isSuffixOf_iff_suffix.mp q) h
    rw [h1, Bool.and_eq_false_iff]
    by_cases hl : b.length ≤ a.length
    · right
      simp only [beq_eq_false_iff_ne]
      intro e
      refine h ⟨a.take (a.length - b.length), ?_⟩
      rw [List.take_of_length_le (by rw [List.length_drop]; omega)] at e
      have q := List.take_append_drop (a.length - b.length) a
      rw [e] at q; exact q
    · left
      simp; omega
end Mine
end
section
open PySem PySem.W PyProof.Rows PySem.Calls
set_option autoImplicit false
namespace Mine
section
variable {c : Cx} {n : Nat} {env : Env} {ρ : Rho}
theorem Evals.strS {x : Str} {l : List Nat} {k : Nat} {pos : Pos} (h : x = S l) : Evals c n env ρ (.Constant (.str x) k pos) (.str (S l)) := h ▸ Evals.strc
theorem Op2.addS {a b : List Nat} (hz : a.length + b.length ≤ 16777216) : Op2 c n (binaryOp .Add) (.str (S a)) (.str (S b)) (.str (S (a ++ b))) := by
  rw [← S_app]; exact Op2.adds (by rw [S_len, S_len, sizeLine_eq]; exact hz)
theorem Op2.eqS {a b : List Nat} : Op2 c n (compareOp .Eq) (.str (S a)) (.str (S b)) (.bool (decide (a = b))) := by
  rw [← S_eq]; exact Op2.eqs
theorem Op2.neS {a b : List Nat} : Op2 c n (compareOp .NotEq) (.str (S a)) (.str (S b)) (.bool (decide (a ≠ b))) := by
  rw [← S_ne]; exact Op2.nes
theorem EvPart.nn : EvPart c n env ρ none none := trivial
theorem EvPart.s {e : Expr} {i : Int} (h : Evals c n env ρ e (.int i)) : EvPart c n env ρ (some e) (some i) := h
theorem Evals.sliceS {value : Expr} {l u : Option Expr} {p pos : Pos} {k1 k2 : Option Int} {x : List Nat} (hv : Evals c n env ρ value (.str (S x))) (hl : EvPart c n env ρ l k1) (hu : EvPart c n env ρ u k2) (hz : x.length ≤ 16777216) :
    Evals c n env ρ (.Subscript value (.Slice l u none p) pos) (.str (S (sl x k1 k2))) := by
  rw [← S_slice]; exact Evals.slice_str hv hl hu (by rw [S_len, sizeLine_eq]; exact hz)
theorem Evals.itemS {value slice : Expr} {pos : Pos} {l : List Nat} {k : Int} {x : Nat} (hv : Evals c n env ρ value (.str (S l))) (hi : Evals c n env ρ slice (.int k)) (h0 : 0 ≤ k) (hk : k < 2 ^ 62) (h : l[k.toNat]? = some x)
    (hs : ∀ o i, subscripted slice false o i = operate [o, i] (getItem o i) := by intros; rfl) : Evals c n env ρ (.Subscript value slice pos) (.str (S [x])) := by
  rw [← S_item h0 h]
  refine hv.index hi (Op2.item_str ?_ ?_) trivial hs
  · unfold fitsSsize
    rw [Bool.not_eq_true', Bool.or_eq_false_iff]
    exact ⟨decide_eq_false (by omega), decide_eq_false (by omega)⟩
  · rw [S_charAt h0 h]; rfl
theorem Fun.lenS {l : List Nat} (hx : l.length ≤ 16777216) : Fun c n (.builtin "len") [.str (S l)] (.int l.length) := by
  have := Fun.len_str (c := c) (n := n) (x := S l) (by rw [S_len]; omega)
  rw [S_len] at this
  exact this
theorem rep_foldl (vs : Array Nat) : ∀ (k : Nat) (acc : Array Nat), List.foldl (fun x1 x2 => x1 ++ x2) acc (List.replicate k vs) = acc ++ (List.replicate k vs.toList).flatten.toArray
  | 0, acc => by simp
  | k + 1, acc => by
    rw [List.replicate_succ, List.foldl_cons, rep_foldl vs k, List.replicate_succ, List.flatten_cons, ← List.append_toArray, Array.append_assoc]
theorem Op2.mulS {l : List Nat} {i : Int} (hi : -1000000 ≤ i) (hi2 : i ≤ 1000000) (hl : l.length ≤ 4) : Op2 c n (binaryOp .Mult) (.str (S l)) (.int i) (.str (S (List.replicate i.toNat l).flatten)) := fun _ _ s Q _ _ _ _ _ e1 e2 hQ => by
  cases e1 with | str _ t => cases e2 with | int _ u =>
  have hm : l.length * i.toNat ≤ 2 ^ 24 := by
    calc l.length * i.toNat ≤ 4 * 1000000 := Nat.mul_le_mul hl (by omega)
      _ ≤ 2 ^ 24 := by decide
  have fin : ∀ t k, Q (.str (S (List.replicate i.toNat l).flatten) t) { s with toks := k } := fun t k => hQ _ s.heap k G.rfl (.str _ _)
  refine P.mul_str (by rw [Bool.or_eq_false_iff]; exact ⟨decide_eq_false (by omega), decide_eq_false (by omega)⟩) (fun h1 _ => ?_) (fun _ _ => ?_) ?_
  · rw [S_len]
    have : (4 : Int) ≤ (2 ^ 63 - 1) / i := by
      rw [Int.le_ediv_iff_mul_le (by omega)]; omega
    omega
  · rw [S_len]; unfold Builtin.Str.tooLong sizeLine; exact decide_eq_false (by omega)
  · by_cases h1 : i < 1
    · rw [if_pos h1]
      have e : S (List.replicate i.toNat l).flatten = Str.empty := by
        rw [show i.toNat = 0 by omega]; rfl
      rw [e] at fin
      exact ⟨by decide, fin _ _⟩
    · rw [if_neg h1]
      by_cases h2 : (i == 1 || (S l).length == 0) = true
      · rw [if_pos h2]
        have e : S (List.replicate i.toNat l).flatten = S l := by
          rcases Bool.or_eq_true_iff.mp h2 with q | q
          · have : i = 1 := by simpa using q
            subst this; simp
          · have : l = [] := by rw [S_len] at q; simpa using q
            subst this; simp
        rw [e] at fin
        exact fin _ _
      · rw [if_neg h2]
        have e : (⟨(List.replicate i.toNat (S l).cps).foldl (· ++ ·) #[]⟩ : Str) = S (List.replicate i.toNat l).flatten := by
          rw [rep_foldl]
          simp [S]
        rw [e]
        refine ⟨?_, fin _ _⟩
        rw [S_len, List.length_flatten]
        simp
        rw [sizeLine_eq]
        have : l.length * i.toNat = i.toNat * l.length := Nat.mul_comm _ _
        omega
end
end Mine
end
section
open PySem PySem.W PyProof.Rows PySem.Calls
set_option autoImplicit false
namespace Mine

theorem DenL.eraseIdx {S : AS} {h : Heap} {vs : List Value} {ds : List D} (x : DenL S h vs ds) (k : Nat) : DenL S h (vs.eraseIdx k) (ds.eraseIdx k) := by
  induction ds generalizing vs k with
  | nil => obtain rfl : vs = [] := x.inv; exact .nil
  | cons d ds ih =>
    obtain ⟨v, ws, rfl, dv, l⟩ := x.inv
    cases k with
    | zero => exact l
    | succ k => exact .cons dv (ih l k)

section
variable {c : Cx} {n : Nat} {env : Env} {ρ : Rho} {Φ Ψ : Out → Prop}
/-- del x[i] -/
theorem Run1.del {x : String} {i : Expr} {px spos pos : Pos} {ds : List D} {k : Int} {j : Nat} (hx : ρ x = some (.own ds)) (h2 : Evals c n env ρ i (.int k)) (hj : seqIndex? k ds.length = some j) (hk : -1000000 ≤ k) (hk2 : k ≤ 1000000) (hl : ds.length ≤ 1000000) (p : Φ (.next (upd ρ x (.own (ds.eraseIdx j)))))
    (hd : (Str.ofString x == ("__debug__" : Str)) = false := by decide) (hc : (Str.ofString x == ("__classdict__" : Str)) = false := by decide) :
    Run1 c n env ρ (.Delete [.Subscript (.Name (Str.ofString x) px) i spos] pos) Φ := by
  intro A h₀ Z U s ao F
  refine wpAny_Delete (wpAny_deleteEach_cons (wpAny_delete_Subscript (F.ownRead hx (fun a vs m ua Ha ea dl => ?_) hd hc)))
  refine h2 A Z U _ _ ao F.okh F.fs fun iv h3 tk3 g3 di => ?_
  cases di
  have hs : vs.toArray.size = ds.length := by rw [List.size_toArray, dl.length]
  refine delItem_at (k := j) (g3 _ _ ea) (by simp [Builtin.List.listFitsIndex]; omega) (by rw [hs]; exact hj) (fun h4 hs4 e4 => wpAny_deleteEach_nil ?_) (by rw [hs, sizeLine_eq]; omega)
  obtain ⟨F2, kb⟩ := (F.g g3).ownPut (ds' := ds.eraseIdx j) hx (has_g g3 Ha) hs4 e4 ((dl.g g3).eraseIdx j)
  exact ⟨_, tk3, U, .next _, rfl, F2.base, fun b o nb e => kb b o nb (g3 b o e), fun _ q => .inl q, F2.off, F2, p⟩

/-- a, b = e: the plain road -/
theorem Run1.assignT {elts : List Expr} {k : Nat} {tpos pos : Pos} {e : Expr} {d : D} (h : Evals c n env ρ e d) (t : Asg c n env (.Tuple elts k tpos) ρ d fun ρ' => Φ (.next ρ'))
    (hs : swapsWithSole [.Tuple elts k tpos] e pos.line env = pure false := by rfl) (hw : swappedStores [.Tuple elts k tpos] e env = pure none := by rfl) : Run1 c n env ρ (.Assign [.Tuple elts k tpos] e pos) Φ := by
  intro A h₀ Z U s ao F
  obtain ⟨ρ', p, t⟩ := t
  refine Assign_Tuple (h A Z U s _ ao F.okh F.fs fun v h' tk g dv => t A h₀ Z U _ _ v ao (F.g g) dv fun h2 tk2 F2 kb => ?_) hs hw
  exact ⟨h2, tk2, U, .next _, rfl, F2.base, fun b o nb e => kb b o nb (g b o e), fun _ q => .inl q, F.off, F2, p⟩

/-- names take things, one by one -/
noncomputable def AsgN (c : Cx) (env : Env) (names : List Str) (ρ : Rho) (ds : List D) (K : Rho → Prop) : Prop :=
  ∃ ρ', K ρ' ∧ ∀ (A : Around) (h₀ : Heap) (Z U : AS) (s : Shared) (Q : Unit → Shared → Prop) (vs : List Value), FW c h₀ env Z U s.heap ρ → DenL (Both Z U) s.heap vs ds →
    (∀ h' tk, FW c h₀ env Z U h' ρ' → KB U s.heap h' → Q () { s with heap := h', toks := tk }) → wpAny (model c.prog c.w) A (assignInOrder (names.map fun x => bindName env x) vs) Q NE s
theorem AsgN.nil {K : Rho → Prop} (k : K ρ) : AsgN c env [] ρ [] K := ⟨_, k, fun _ _ _ _ s _ _ F dl hQ => by
  cases dl; exact wpAny_pure (hQ s.heap s.toks F fun _ _ _ e => e)⟩
theorem AsgN.cons {x : String} {xs : List Str} {d : D} {ds : List D} {K : Rho → Prop} (st : Stores env x) (h : AsgN c env xs (upd ρ x (.fz d)) ds K) : AsgN c env (Str.ofString x :: xs) ρ (d :: ds) K := by
  obtain ⟨ρ2, k, h2⟩ := h
  refine ⟨ρ2, k, fun A h₀ Z U s Q vs F dl hQ => ?_⟩
  cases dl with | cons dv dl =>
  show wpAny _ A (do holding _ (bindName env _ _); assignInOrder _ _) _ _ _
  refine wpAny_bind (wpAny_holding (wpAny_bindName (F.store st dv fun h' tk F' kb _ => ?_)))
  exact h2 A h₀ Z U _ _ _ F' (dl.kb (KB.both kb)) fun h2 tk2 F2 kb2 => hQ h2 tk2 F2 fun b o nb e => kb2 b o nb (kb b o nb e)
/-- a, b = e, f: the swapped road -/
theorem Run1.assignS {elts es : List Expr} {k k2 : Nat} {tpos epos pos : Pos} {names : List Str} {ds : List D} (h : EvalsL c n env ρ es ds) (t : AsgN c env names.reverse ρ ds.reverse fun ρ' => Φ (.next ρ'))
    (hw : swappedStores [.Tuple elts k tpos] (.Tuple es k2 epos) env = pure (some names) := by rfl) (hn : names.length = ds.length := by rfl) (hz : es.length ≤ sizeLine) (hu : unstarred es = true := by rfl) (hl : es.length = ds.length := by rfl)
    (hs : swapsWithSole [.Tuple elts k tpos] (.Tuple es k2 epos) pos.line env = pure false := by rfl) : Run1 c n env ρ (.Assign [.Tuple elts k tpos] (.Tuple es k2 epos) pos) Φ := by
  intro A h₀ Z U s ao F
  obtain ⟨ρ', p, t⟩ := t
  refine Assign_Tuple_swapped (names := names) ((Evals.tuple h hz hu hl) A Z U s _ ao F.okh F.fs fun v h' tk g dv => ?_) hs hw
  obtain ⟨_, _, _, rfl, ns, e, dl⟩ := dv.inv
  rename_i a vs m
  have ht : IsTup h' a vs.toArray := isTup_of e
  have hm : names.length = vs.toArray.size := by rw [hn, List.size_toArray, dl.length]
  rw [hm]
  refine unpackItems_tuple ao.handled ht fun h2 he => ?_
  have g2 : G h' h2 := fun b o e => he b o (Nat.ne_of_lt (Heap.lt_size e)) e
  refine t A h₀ Z U { s with heap := h2, toks := tk } _ _ (F.g (g.trans g2)) ((dl.g g2).reverse) fun h3 tk3 F3 kb => ?_
  exact ⟨h3, tk3, U, .next _, rfl, F3.base, fun b o nb e => kb b o nb (g2 b o (g b o e)), fun _ q => .inl q, F.off, F3, p⟩

/-- a = b = c = e -/
theorem Run1.assign3 {t1 t2 t3 e : Expr} {pos : Pos} {d : D} (h : Evals c n env ρ e d) (t : Asg c n env t1 ρ d fun ρ1 => Asg c n env t2 ρ1 d fun ρ2 => Asg c n env t3 ρ2 d fun ρ3 => Φ (.next ρ3)) (ha : atomic d = true := by rfl)
    (he : (assignEach [t1, t2, t3] env).map (·.2) = [PySem.assign t1 env, PySem.assign t2 env, PySem.assign t3 env] := by rfl) (hw : swappedStores [t1, t2, t3] e env = pure none := by rfl) : Run1 c n env ρ (.Assign [t1, t2, t3] e pos) Φ := by
  intro A h₀ Z U s ao F
  obtain ⟨ρ1, ⟨ρ2, ⟨ρ3, p, a3⟩, a2⟩, a1⟩ := t
  refine wpAny_Assign_three (h A Z U s _ ao F.okh F.fs fun v h' tk g dv => a1 A h₀ Z U _ _ v ao (F.g g) dv fun h1 tk1 F1 kb1 => a2 A h₀ Z U _ _ v ao F1 (dv.atom ha) fun h2 tk2 F2 kb2 => a3 A h₀ Z U _ _ v ao F2 (dv.atom ha) fun h3 tk3 F3 kb3 => ?_) he hw
  exact ⟨h3, tk3, U, .next _, rfl, F3.base, fun b o nb e => kb3 b o nb (kb2 b o nb (kb1 b o nb (g b o e))), fun _ q => .inl q, F.off, F3, p⟩

noncomputable def compOk (scope : Scope) : Bool := scope.names.all fun y => decide (y.2 ≠ .cell) && (decide (y.2 ≠ .local) || decide (scope.names.lookup y.1 = some .local))
theorem compOk_of {scope : Scope} (h : compOk scope = true) : (∀ y ∈ scope.names, y.2 ≠ .cell) ∧ ∀ y ∈ scope.names, y.2 = .local → scope.names.lookup y.1 = some .local := by
  have k := List.all_eq_true.mp h
  refine ⟨fun y hy => of_decide_eq_true (Bool.and_eq_true_iff.mp (k y hy)).1, fun y hy e => ?_⟩
  rcases Bool.or_eq_true_iff.mp (Bool.and_eq_true_iff.mp (k y hy)).2 with q | q
  · exact absurd e (of_decide_eq_true q)
  · exact of_decide_eq_true q
/-- [e for t in i if q] -/
theorem Evals.comp {target elt iter : Expr} {ifs : List Expr} {scope : Scope} {cl : List (Str × Addr)} {pos : Pos} {d : D} {ds : List D} {ρ₀ : Rho} (f : D → Option D)
    (hit : Evals c n env ρ iter d) (hi : Iters c d ds) (hin : Inner env scope cl ρ ρ₀)
    (turn : ∀ (C : Addr) (k : Nat) (d : D), ds[k]? = some d → Asg c n (compEnvC scope cl C env) target ρ₀ d fun ρ' => (∀ x sl, ρ₀ x = some sl → ρ' x = some sl) ∧
      ∃ b, TestsIf c n (compEnvC scope cl C env) ρ' ifs b ∧ (b = false → f d = none) ∧ (b = true → ∃ e, Evals c n (compEnvC scope cl C env) ρ' elt e ∧ f d = some e))
    (hlen : ds.length ≤ sizeLine) (hclos : closureFor scope env = pure cl := by rfl) (hok : compOk scope = true := by decide +kernel) (hkind : scope.kind = .function := by rfl)
    (hcl : SubCl env cl)
    (hs : ∀ x, foldedSetIterable iter env x = pure x := by intro _; rfl) : Evals c n env ρ (.ListComp elt [⟨target, iter, ifs, 0⟩] scope pos) (.lst (ds.filterMap f)) := by
  obtain ⟨hcell, hnames⟩ := compOk_of hok
  intro A Z U s Q ao ok F hQ
  rw [eval_ListComp]
  refine comp_core f hit hi hin hclos hcell hkind hnames hcl turn hlen hs ao ok F fun Dr C h' tk m' ys hD hC hDC g hn hp dl => ⟨m', hn, fun h'' hs'' => ?_⟩
  obtain ⟨k, e⟩ := hp
  have kk : ∀ b o, b ≠ C → h'.get? b = some o → h''.get? b = some o := fun b o nb e => (hs''.2 b nb).trans e
  refine hQ _ h'' tk (fun b o e => kk b o (by rintro rfl; rw [hC] at e; cases e) (g b o e)) ?_
  refine .lst (vs := ys.toList) (n := k) (F.fresh hD) (by simpa using kk _ _ hDC e) (dl.mono fun b o nb eb => ⟨fun q => nb (.inl q), kk b o (fun q => nb (.inr (.inr q))) eb⟩)
/-- x = [e for t in i if q] -/
theorem Run1.assignComp {x : String} {px spos : Pos} {target elt iter : Expr} {ifs : List Expr} {scope : Scope} {cl : List (Str × Addr)} {pos : Pos} {d : D} {ds : List D} {ρ₀ : Rho} (f : D → Option D)
    (st : Stores env x) (hit : Evals c n env ρ iter d) (hi : Iters c d ds) (hin : Inner env scope cl ρ ρ₀)
    (turn : ∀ (C : Addr) (k : Nat) (d : D), ds[k]? = some d → Asg c n (compEnvC scope cl C env) target ρ₀ d fun ρ' => (∀ x sl, ρ₀ x = some sl → ρ' x = some sl) ∧
      ∃ b, TestsIf c n (compEnvC scope cl C env) ρ' ifs b ∧ (b = false → f d = none) ∧ (b = true → ∃ e, Evals c n (compEnvC scope cl C env) ρ' elt e ∧ f d = some e))
    (p : Φ (.next (upd ρ x (.fz (.lst (ds.filterMap f))))))
    (hlen : ds.length ≤ sizeLine) (hsw : swapsWith (.ListComp elt [⟨target, iter, ifs, 0⟩] scope pos) (some (.Name (Str.ofString x) px)) spos.line env = pure true := by rfl)
    (hclos : closureFor scope env = pure cl := by rfl) (hok : compOk scope = true := by decide +kernel) (hkind : scope.kind = .function := by rfl)
    (hcl : SubCl env cl)
    (hs : ∀ x, foldedSetIterable iter env x = pure x := by intro _; rfl) : Run1 c n env ρ (.Assign [.Name (Str.ofString x) px] (.ListComp elt [⟨target, iter, ifs, 0⟩] scope pos) spos) Φ := by
  obtain ⟨hcell, hnames⟩ := compOk_of hok
  intro A h₀ Z U s ao F
  rw [exec_Assign_Name_used _ _ _ _ hsw]
  refine wpAny_bind (wpAny_standAt (wpAny_bind ?_))
  show wpAny _ A (do let _ ← comprehension (.ListComp elt [⟨target, iter, ifs, 0⟩] scope pos) scope env _ (newList []) false (eval iter env) (some (PySem.assign (.Name (Str.ofString x) px) env))) _ _ s
  refine wpAny_bind (wpAny_mono (Q := fun _ s' => Post c h₀ env Z U s Φ .next s') ?_ (fun _ s' hq => wpAny_pure (wpAny_pure hq)) fun _ _ e => e)
  have core := fun sp hh => comp_core (spos := sp) (pos := pos) (A := A) (Z := Z) (U := U) (s := s) f (use := some (PySem.assign (.Name (Str.ofString x) px) env)) (Q := fun _ s' => Post c h₀ env Z U s Φ .next s') hit hi hin hclos hcell hkind hnames hcl turn hlen hs ao F.okh F.fs hh
  refine core _ fun Dr C h' tk m' ys hD hC hDC g hn hp dl => ?_
  obtain ⟨k, e⟩ := hp
  have LC : env.locals ≠ C := by
    obtain ⟨m, hm, _⟩ := F.fs.vars
    rintro q
    obtain ⟨o, _, _, ho, _⟩ := hm
    rw [q, hC] at ho; cases ho
  have nU : ∀ b, Both Z U b → b ≠ C := fun b u q => F.fs.fresh hC (q ▸ u)
  have F1 : FW c h₀ env (fun b => Z b ∨ b = C) U h' ρ := F.zadd g hC (by obtain ⟨o, _, _, e, _⟩ := hn; exact ⟨o, e⟩)
  have dv : Den (Both (fun b => Z b ∨ b = C) U) h' (.ref Dr) (.lst (ds.filterMap f)) := by
    refine .lst (vs := ys.toList) (n := k) (fun q => ?_) (by simpa using e) (dl.mono fun b o nb eb => ⟨fun q => ?_, eb⟩)
    · rcases q with (q | q) | q
      · exact F.fs.fresh hD (.inl q)
      · exact hDC q
      · exact F.fs.fresh hD (.inr q)
    · rcases q with (q | q) | q
      · exact nb (.inl (.inl q))
      · exact nb (.inr (.inr q))
      · exact nb (.inl (.inr q))
  show wpAny _ A (PySem.assign (.Name (Str.ofString x) px) env (.ref Dr)) _ _ _
  refine wpAny_assign_Name (F1.store (s := { s with heap := h', toks := tk }) st dv fun h2 tk2 F2 kb _ => ?_)
  have hn2 : h2.Ns C m' := hn.at' fun o e => kb _ o (fun u => nU C (.inr u) rfl) e
  refine ⟨m', hn2, fun h3 hs3 => ?_⟩
  have kk : ∀ b o, b ≠ C → h2.get? b = some o → h3.get? b = some o := fun b o nb e => (hs3.2 b nb).trans e
  have F3 : FW c h₀ env Z U h3 (upd ρ x (.fz (.lst (ds.filterMap f)))) := F2.zmove (fun b => b = C) (fun _ e => .inr e) (fun y q ey r => by
    obtain ⟨⟨v, o, ho, _⟩, _⟩ := F.fs.cell y q ey
    rw [r, hC] at ho; cases ho) (fun _ z => .inl z) kk (fun b z => by
      obtain ⟨o, e⟩ := F2.fs.live b (.inl (.inl z))
      exact ⟨o, kk b o (nU b (.inl z)) e⟩) fun b o e => kk b o (by
        rintro rfl
        have := F.base b o e
        rw [hC] at this; cases this) (F2.base b o e)
  refine ⟨h3, tk2, U, .next _, rfl, F3.base, fun b o nb e => kk b o (by rintro rfl; rw [hC] at e; cases e) (kb b o nb (g b o e)), fun _ q => .inl q, F3.off, F3, p⟩
end
end Mine
end
section
open PySem PySem.W PyProof.Rows PySem.Calls
set_option autoImplicit false
namespace Mine
section
variable {c : Cx} {n : Nat} {env : Env} {ρ : Rho} {Φ Ψ : Out → Prop} {rest : List Stmt}
theorem Tests.conv {e : Expr} {b b' : Bool} (h : Tests c n env ρ e b) (q : b = b') : Tests c n env ρ e b' := q ▸ h
theorem Evals.conv {e : Expr} {d d' : D} (h : Evals c n env ρ e d) (q : d = d') : Evals c n env ρ e d' := q ▸ h
theorem Runs.assign {x : String} {e : Expr} {px pos : Pos} {d : D} (st : Stores env x) (h : Evals c n env ρ e d) (p : Runs c n env (upd ρ x (.fz d)) rest Φ)
    (hs : swapsWith e (some (.Name (Str.ofString x) px)) pos.line env = pure false := by rfl) : Runs c n env ρ (.Assign [.Name (Str.ofString x) px] e pos :: rest) Φ := Runs.cons (Run1.assign st h p hs)
theorem Runs.aug {x : String} {op : Operator} {e : Expr} {px pos : Pos} {d0 d1 d : D} (st : Stores env x) (h0 : ρ x = some (.fz d0)) (h : Evals c n env ρ e d1) (o : Op2 c n (inplaceOp op) d0 d1 d) (p : Runs c n env (upd ρ x (.fz d)) rest Φ)
    (hl : env.kindOf (Str.ofString x) = some .local := by rfl) : Runs c n env ρ (.AugAssign (.Name (Str.ofString x) px) op e pos :: rest) Φ := Runs.cons (Run1.aug st h0 h o p hl)
theorem Runs.ifF {test : Expr} {body orelse : List Stmt} {pos : Pos} (ht : Tests c n env ρ test false) (k : Runs c n env ρ orelse (Then c n env rest Φ)) : Runs c n env ρ (.If test body orelse pos :: rest) Φ :=
  Runs.cons (Run1.ite ht (fun e => by cases e) fun _ => k)
theorem Runs.ifN {test : Expr} {body : List Stmt} {pos : Pos} (ht : Tests c n env ρ test false) (k : Runs c n env ρ rest Φ) : Runs c n env ρ (.If test body [] pos :: rest) Φ :=
  Runs.ifF ht (Runs.nil k)
theorem Runs.ifT {test : Expr} {body orelse : List Stmt} {pos : Pos} (ht : Tests c n env ρ test true) (k : Runs c n env ρ body (Then c n env rest Φ)) : Runs c n env ρ (.If test body orelse pos :: rest) Φ :=
  Runs.cons (Run1.ite ht (fun _ => k) fun e => by cases e)
theorem Runs.ret {e : Expr} {pos : Pos} {d : D} (h : Evals c n env ρ e d) (p : Φ (.ret d)) : Runs c n env ρ (.Return (some e) pos :: rest) Φ := Runs.cons (Run1.ret h p)
theorem Runs.brk {pos : Pos} (p : Φ (.brk ρ)) : Runs c n env ρ (.Break pos :: rest) Φ := Runs.cons (Run1.brk p)
theorem Runs.assert {e : Expr} {msg : Option Expr} {pos : Pos} (h : Tests c n env ρ e true) (p : Runs c n env ρ rest Φ) : Runs c n env ρ (.Assert e msg pos :: rest) Φ := Runs.cons (Run1.assert h p)
theorem Runs.while {test : Expr} {body : List Stmt} {pos : Pos} (Inv : Nat → Rho → Prop) {n0 : Nat} (h0 : Inv n0 ρ)
    (turn : ∀ k ρ', Inv k ρ' → ∃ b, Tests c n env ρ' test b ∧
      (b = true → Runs c n env ρ' body (fun o => match o with | .next ρ'' => ∃ k', k' < k ∧ Inv k' ρ'' | .brk ρ'' => Runs c n env ρ'' rest Φ | .ret d => Φ (.ret d))) ∧ (b = false → Runs c n env ρ' rest Φ)) :
    Runs c n env ρ (.While test body [] pos :: rest) Φ := Runs.cons (Run1.while Inv h0 turn)
theorem Runs.for {target iter : Expr} {body : List Stmt} {pos : Pos} {d : D} {ds : List D} (hit : Evals c n env ρ iter d) (hi : Iters c d ds) (Inv : Nat → Rho → Prop) (h0 : Inv 0 ρ)
    (turn : ∀ k d ρ', ds[k]? = some d → Inv k ρ' → Asg c n env target ρ' d fun ρ'' => Runs c n env ρ'' body fun o => match o with | .next ρ₂ => Inv (k + 1) ρ₂ | .brk ρ₂ => Runs c n env ρ₂ rest Φ | .ret d => Φ (.ret d))
    (done : ∀ ρ', Inv ds.length ρ' → Runs c n env ρ' rest Φ) (hs : ∀ x, foldedSetIterable iter env x = pure x := by intro _; rfl) : Runs c n env ρ (.For target iter body [] pos :: rest) Φ := Runs.cons (Run1.for hit hi Inv h0 turn done hs)
theorem Runs.assignNew {x : String} {e : Expr} {px pos : Pos} {ds : List D} (st : Stores env x) (h : EvalsNew c n env ρ e ds) (p : Runs c n env (upd ρ x (.own ds)) rest Φ)
    (hs : swapsWith e (some (.Name (Str.ofString x) px)) pos.line env = pure false := by rfl) : Runs c n env ρ (.Assign [.Name (Str.ofString x) px] e pos :: rest) Φ := Runs.cons (Run1.assignNew st h p hs)
theorem Runs.del {x : String} {i : Expr} {px spos pos : Pos} {ds : List D} {k : Int} {j : Nat} (hx : ρ x = some (.own ds)) (h2 : Evals c n env ρ i (.int k)) (hj : seqIndex? k ds.length = some j) (hk : -1000000 ≤ k) (hk2 : k ≤ 1000000) (hl : ds.length ≤ 1000000) (p : Runs c n env (upd ρ x (.own (ds.eraseIdx j))) rest Φ)
    (hd : (Str.ofString x == ("__debug__" : Str)) = false := by decide) (hc : (Str.ofString x == ("__classdict__" : Str)) = false := by decide) :
    Runs c n env ρ (.Delete [.Subscript (.Name (Str.ofString x) px) i spos] pos :: rest) Φ := Runs.cons (Run1.del hx h2 hj hk hk2 hl p hd hc)
theorem Runs.assignT {elts : List Expr} {k : Nat} {tpos pos : Pos} {e : Expr} {d : D} (h : Evals c n env ρ e d) (t : Asg c n env (.Tuple elts k tpos) ρ d fun ρ' => Runs c n env ρ' rest Φ)
    (hs : swapsWithSole [.Tuple elts k tpos] e pos.line env = pure false := by rfl) (hw : swappedStores [.Tuple elts k tpos] e env = pure none := by rfl) : Runs c n env ρ (.Assign [.Tuple elts k tpos] e pos :: rest) Φ := Runs.cons (Run1.assignT h t hs hw)
theorem Runs.assignS {elts es : List Expr} {k k2 : Nat} {tpos epos pos : Pos} {names : List Str} {ds : List D} (h : EvalsL c n env ρ es ds) (t : AsgN c env names.reverse ρ ds.reverse fun ρ' => Runs c n env ρ' rest Φ)
    (hw : swappedStores [.Tuple elts k tpos] (.Tuple es k2 epos) env = pure (some names) := by rfl) (hn : names.length = ds.length := by rfl) (hz : es.length ≤ sizeLine) (hu : unstarred es = true := by rfl) (hl : es.length = ds.length := by rfl)
    (hs : swapsWithSole [.Tuple elts k tpos] (.Tuple es k2 epos) pos.line env = pure false := by rfl) : Runs c n env ρ (.Assign [.Tuple elts k tpos] (.Tuple es k2 epos) pos :: rest) Φ := Runs.cons (Run1.assignS h t hw hn hz hu hl hs)
theorem Runs.append {x : String} {e : Expr} {px apos cpos pos : Pos} {ds : List D} {d : D} (hx : ρ x = some (.own ds)) (h : Evals c n env ρ e d) (hz : ds.length ≤ 1000000) (p : Runs c n env (upd ρ x (.own (ds ++ [d]))) rest Φ)
    (hu : unstarred [e] = true := by rfl) (hb : attributeBase (.Name (Str.ofString x) px) (Str.ofString "append") env (eval (.Name (Str.ofString x) px) env) = eval (.Name (Str.ofString x) px) env := by rfl)
    (hline : (apos.endLine == cpos.line) = true := by rfl)
    (hfew : ((backTo cpos (starEach [e] env)).all (fun x => !x.1) && (backToKw cpos (keywordEach [] env)).all (fun x => x.1.isSome) && decide ([e].length + ([] : List Keyword).length + (if ([] : List Keyword).isEmpty then 0 else 1) < 30)) = true := by rfl)
    (hi : interactive env = false := by rfl) (hd : (Str.ofString x == ("__debug__" : Str)) = false := by decide) (hc : (Str.ofString x == ("__classdict__" : Str)) = false := by decide) :
    Runs c n env ρ (.Expr (.Call (.Attribute (.Name (Str.ofString x) px) (Str.ofString "append") apos) [e] [] cpos) pos :: rest) Φ := Runs.cons (Run1.append hx h hz p hu hb hline hfew hi hd hc)
theorem Runs.setItem {x : String} {i e : Expr} {px spos pos : Pos} {ds : List D} {d : D} {k : Nat} (hx : ρ x = some (.own ds)) (h : Evals c n env ρ e d) (h2 : Evals c n env ρ i (.int k)) (hk : k < ds.length) (hk2 : k < 1000000) (p : Runs c n env (upd ρ x (.own (ds.set k d))) rest Φ)
    (hs : swapsWith e (some (.Subscript (.Name (Str.ofString x) px) i spos)) pos.line env = pure false := by rfl)
    (hd : (Str.ofString x == ("__debug__" : Str)) = false := by decide) (hc : (Str.ofString x == ("__classdict__" : Str)) = false := by decide) :
    Runs c n env ρ (.Assign [.Subscript (.Name (Str.ofString x) px) i spos] e pos :: rest) Φ := Runs.cons (Run1.setItem hx h h2 hk hk2 p hs hd hc)
theorem Runs.assign3 {t1 t2 t3 e : Expr} {pos : Pos} {d : D} (h : Evals c n env ρ e d) (t : Asg c n env t1 ρ d fun ρ1 => Asg c n env t2 ρ1 d fun ρ2 => Asg c n env t3 ρ2 d fun ρ3 => Runs c n env ρ3 rest Φ) (ha : atomic d = true := by rfl)
    (he : (assignEach [t1, t2, t3] env).map (·.2) = [PySem.assign t1 env, PySem.assign t2 env, PySem.assign t3 env] := by rfl) (hw : swappedStores [t1, t2, t3] e env = pure none := by rfl) : Runs c n env ρ (.Assign [t1, t2, t3] e pos :: rest) Φ := Runs.cons (Run1.assign3 h t ha he hw)
end
/-- any way out of a call -/
noncomputable abbrev Ends (d : D) : Out → Prop := fun o => o = .ret d ∨ (d = .none ∧ ∃ ρ, o = .next ρ)
end Mine
end
section
open PySem PySem.W PyProof.Rows PySem.Calls
open Builtin Builtin.Str StrLaws
set_option autoImplicit false
namespace Mine
noncomputable abbrev dots : List Nat := [46, 46, 46]
theorem at_iff (g w : List Nat) (hi k : Nat) : At (S g) (S w) hi k ↔ k + w.length ≤ hi ∧ w.isPrefixOf (g.drop k) = true := by
  unfold At
  rw [subAt_eq, S_len, S_toList, S_toList]
  constructor
  · rintro ⟨a, b⟩
    refine ⟨a, List.isPrefixOf_iff_prefix.mpr ?_⟩
    rw [beq_iff_eq] at b
    exact ⟨(g.drop k).drop w.length, by
      have := List.take_append_drop w.length (g.drop k)
      rw [b] at this
      exact this⟩
  · rintro ⟨a, b⟩
    refine ⟨a, ?_⟩
    obtain ⟨t, e⟩ := List.isPrefixOf_iff_prefix.mp b
    rw [← e]
    simp

/-- the first place from i on where w stands in g, ending by j -/
noncomputable def findAt (g w : List Nat) (i j : Nat) : Option Nat := (List.range' i (j + 1 - i)).find? (fun k => decide (k + w.length ≤ j) && w.isPrefixOf (g.drop k))

theorem occ_findAt (g w : List Nat) (i j : Nat) : occurrences (S g) (S w) i j 1 = (match findAt g w i j with | some k => k :: (occurrences (S g) (S w) i j 1).tail | none => []) := by
  rw [occ_eq]
  have p : ∀ k, (decide (k + w.length ≤ j) && w.isPrefixOf (g.drop k)) = true ↔ At (S g) (S w) j k := fun k => by rw [at_iff]; simp
  rcases occ_first (S g) (S w) j 1 (Nat.le_refl 1) (List.range' i (j + 1 - i)) i (fun k hk => by have := List.mem_range'_1.mp hk; omega) with ⟨h0, hn⟩ | ⟨pre, a, post, e, h0, ha, hn⟩
  · have : findAt g w i j = none := by
      unfold findAt
      rw [List.find?_eq_none]
      intro k hk
      rw [p]
      exact hn k hk
    rw [this, h0]
  · have : findAt g w i j = some a := by
      unfold findAt
      rw [e, List.find?_append]
      have h1 : pre.find? (fun k => decide (k + w.length ≤ j) && w.isPrefixOf (g.drop k)) = none := by
        rw [List.find?_eq_none]
        intro k hk
        rw [p]
        exact hn k hk
      rw [h1, List.find?_cons, (p a).mpr ha]
      rfl
    rw [this]
    dsimp only
    generalize (forIn (List.range' i (j + 1 - i)) ((#[] : Array Nat), i) (occBody (S g) (S w) j 1)).run.fst = arr at h0
    have h1 : arr.toList[0]? = some a := by simpa using h0
    cases hL : arr.toList with
    | nil => rw [hL] at h1; cases h1
    | cons b t => rw [hL] at h1; simp at h1; rw [h1]; rfl
theorem find4_S {g w : List Nat} {i j : Int} (hi : 0 ≤ i) (hj : 0 ≤ j) (hj2 : j ≤ g.length) : find4 (S g) (S w) i j = (match findAt g w i.toNat j.toNat with | some k => (k : Int) | none => -1) := by
  unfold find4
  have e1 : fromIndex (S g).length i = i.toNat := by
    unfold fromIndex
    rw [if_neg (by omega)]
    omega
  have e2 : min (fromIndex (S g).length j) (S g).length = j.toNat := by
    unfold fromIndex
    rw [if_neg (by omega), S_len]
    omega
  rw [e1, e2, occ_findAt]
  cases findAt g w i.toNat j.toNat <;> rfl

theorem contains_S (g w : List Nat) : Txt.contains (S g) (S w) = (findAt g w 0 g.length).isSome := by
  unfold Txt.contains
  rw [S_len, occ_findAt]
  cases findAt g w 0 g.length <;> rfl

/-- pieces with dots between -/
noncomputable def joinD : List (List Nat) → List Nat
  | [] => []
  | [p] => p
  | p :: q :: r => p ++ dots ++ joinD (q :: r)

theorem at_piece {pre p t : List Nat} {hi k : Nat} (hp : 46 ∉ p) (h1 : pre.length ≤ k) (h2 : k < pre.length + p.length) : ¬ At (S (pre ++ (p ++ t))) (S dots) hi k := by
  rw [at_iff]
  rintro ⟨_, b⟩
  obtain ⟨u, e⟩ := List.isPrefixOf_iff_prefix.mp b
  have e1 : (pre ++ (p ++ t))[k]? = some 46 := by
    have := congrArg (fun l => l[0]?) e
    simp only [List.getElem?_drop] at this
    simpa using this.symm
  rw [List.getElem?_append_right h1, List.getElem?_append_left (by omega)] at e1
  exact hp (List.mem_of_getElem? e1)

theorem parts_join : ∀ (ps : List (List Nat)) (pre : List Nat) (cuts : List Nat) (f : Nat), ps ≠ [] → (∀ p ∈ ps, 46 ∉ p) → ChainG (S (pre ++ joinD ps)) (S dots) (S (pre ++ joinD ps)).length pre.length cuts f →
    (∀ k, f ≤ k → ¬ At (S (pre ++ joinD ps)) (S dots) (S (pre ++ joinD ps)).length k) → partsFrom (S (pre ++ joinD ps)) 3 pre.length cuts = ps.map S
  | [], _, _, _, h, _, _, _ => absurd rfl h
  | [p], pre, cuts, f, _, hp, hc, ht => by
    have hp := hp p (.head _)
    cases cuts with
    | nil =>
      show [strSub (S (pre ++ p)) pre.length (S (pre ++ p)).length] = [S p]
      congr 1
      apply Str.ext'
      apply Array.toList_inj.mp
      rw [strSub_toList, S_toList, S_toList, S_len]
      simp
    | cons a r =>
      exfalso
      obtain ⟨h1, h2, _, _⟩ := hc
      have h2' := h2.1
      rw [S_len, S_len] at h2'
      simp [joinD] at h2'
      refine at_piece (t := []) hp h1 (by omega) ?_ (hi := (S (pre ++ p)).length) (k := a)
      simpa [joinD] using h2
  | p :: q :: r, pre, cuts, f, _, hp, hc, ht => by
    have hp0 := hp p (.head _)
    have ej : pre ++ joinD (p :: q :: r) = pre ++ (p ++ (dots ++ joinD (q :: r))) := by simp [joinD]
    have here : At (S (pre ++ joinD (p :: q :: r))) (S dots) (S (pre ++ joinD (p :: q :: r))).length (pre.length + p.length) := by
      rw [at_iff, S_len, ej]
      refine ⟨by simp; omega, ?_⟩
      rw [List.drop_append, List.drop_eq_nil_of_le (by omega)]
      simp
    have none : ∀ k, pre.length ≤ k → k < pre.length + p.length → ¬ At (S (pre ++ joinD (p :: q :: r))) (S dots) (S (pre ++ joinD (p :: q :: r))).length k := fun k h1 h2 => by
      have := at_piece (t := dots ++ joinD (q :: r)) (hi := (S (pre ++ joinD (p :: q :: r))).length) hp0 h1 h2
      rwa [← ej] at this
    cases cuts with
    | nil =>
      have hf : f = pre.length := hc
      exact absurd here (ht _ (by omega))
    | cons a t =>
      obtain ⟨h1, h2, h3, h4⟩ := hc
      have ha : a = pre.length + p.length := by
        rcases Nat.lt_trichotomy a (pre.length + p.length) with h | h | h
        · exact absurd h2 (none a h1 h)
        · exact h
        · exact absurd here (h3 _ (by omega) h)
      subst ha
      have e2 : pre ++ joinD (p :: q :: r) = (pre ++ p ++ dots) ++ joinD (q :: r) := by rw [ej]; simp
      have hl : (pre ++ p ++ dots).length = pre.length + p.length + 3 := by simp [dots]; omega
      have ih := parts_join (q :: r) (pre ++ p ++ dots) t f (by simp) (fun x hx => hp x (.tail _ hx))
      rw [← e2, hl] at ih
      have := ih h4 ht
      show strSub _ pre.length (pre.length + p.length) :: partsFrom _ 3 (pre.length + p.length + 3) t = S p :: (q :: r).map S
      rw [this]
      congr 1
      apply Str.ext'
      apply Array.toList_inj.mp
      rw [strSub_toList, S_toList, S_toList, ej]
      simp

theorem has_dots {ps : List (List Nat)} (h : 2 ≤ ps.length) : ∃ p q r, ps = p :: q :: r ∧ At (S (joinD ps)) (S dots) (S (joinD ps)).length p.length := by
  match ps, h with
  | p :: q :: r, _ =>
    refine ⟨p, q, r, rfl, ?_⟩
    rw [at_iff, S_len]
    have ej : joinD (p :: q :: r) = p ++ (dots ++ joinD (q :: r)) := by simp [joinD]
    rw [ej]
    refine ⟨by simp, ?_⟩
    simp
theorem contains_join {ps : List (List Nat)} (h : 2 ≤ ps.length) : Txt.contains (S (joinD ps)) (S dots) = true := by
  obtain ⟨p, q, r, _, e⟩ := has_dots h
  exact (found_iff _ _).mpr ⟨_, e⟩
theorem split_join {ps : List (List Nat)} (h : 2 ≤ ps.length) (hp : ∀ p ∈ ps, 46 ∉ p) : Txt.split (S (joinD ps)) (S dots) = ps.map S := by
  obtain ⟨p, q, r, hps, hat⟩ := has_dots h
  have h3 : 3 ≤ (S (joinD ps)).length := by
    have := hat.1
    rw [S_len] at this
    have e : (dots).length = 3 := rfl
    omega
  unfold Txt.split
  rw [if_neg]
  · obtain ⟨f, hc, ht⟩ := occ_tight (S (joinD ps)) (S dots) (by rw [S_len]; decide)
    rw [if_neg]
    · rw [partsBetween_eq]
      have := parts_join ps [] _ f (by rw [hps]; simp) hp hc ht
      exact this
    · intro he
      have : occurrences (S (joinD ps)) (S dots) 0 (S (joinD ps)).length ((S (joinD ps)).length + 1) = [] := by simpa using he
      rw [this] at hc
      have hf : f = 0 := hc
      exact ht p.length (by omega) hat
  · have k1 : strKind (S dots) = 1 := by decide +kernel
    have k2 : 1 ≤ Str.strKind (S (joinD ps)) := by unfold Str.strKind; split <;> (try split) <;> decide
    rw [k1]
    simp only [Bool.or_eq_true, decide_eq_true_eq, not_or]
    rw [show (S dots).length = 3 from rfl]
    omega

section
variable {c : Cx} {n : Nat} {env : Env} {ρ : Rho}
theorem Fun.startsS {a b : List Nat} : Fun c n (.builtin "str.startswith") [.str (S a), .str (S b)] (.bool (b.isPrefixOf a)) := by rw [← S_starts]; exact Fun.startswith
theorem Fun.endsS {a b : List Nat} : Fun c n (.builtin "str.endswith") [.str (S a), .str (S b)] (.bool (b.isSuffixOf a)) := by rw [← S_ends]; exact Fun.endswith
theorem Fun.findS {g w : List Nat} {i j : Int} (hi : 0 ≤ i) (hj : 0 ≤ j) (hj2 : j ≤ g.length) : Fun c n (.builtin "str.find") [.str (S g), .str (S w), .int i, .int j] (.int (match findAt g w i.toNat j.toNat with | some k => (k : Int) | none => -1)) := by
  rw [← find4_S hi hj hj2]; exact Fun.find4
theorem Fun.lenL {ds : List D} {m : Nat} (h : ds.length = m) (hx : m ≤ 16777216) : Fun c n (.builtin "len") [.lst ds] (.int m) := by
  subst h; exact Fun.len_lst (by omega)
theorem cnt_count (k : Nat) : ∀ l : List Nat, cnt k l = (l.count k : Nat)
  | [] => rfl
  | x :: r => by
    rw [cnt_cons, cnt_count k r, List.count_cons]
    by_cases h : x = k <;> simp [h] <;> omega
theorem Fun.countS {l : List Nat} {k : Nat} : Fun c n (.builtin "str.count") [.str (S l), .str (S [k])] (.int (l.count k : Nat)) := by
  have h := Fun.count (c := c) (n := n) (x := S l) (y := S [k])
  have e : Txt.count (S l) (S [k]) = (l.count k : Nat) := by
    rw [← cnt_count]
    have := count_is (S l) k
    rw [S_toList] at this
    exact this
  rwa [e] at h
end
end Mine
end
section
open PySem PySem.W PyProof.Rows PySem.Calls
set_option autoImplicit false
namespace Mine
section
variable {c : Cx} {n : Nat} {env : Env} {ρ : Rho} {Φ Ψ : Out → Prop} {rest : List Stmt}
theorem Op2.iadd {a b : Int} : Op2 c n (inplaceOp .Add) (.int a) (.int b) (.int (a + b)) := fun _ _ _ _ _ _ _ _ _ e1 e2 hQ => by
  obtain ⟨_, rfl⟩ := e1.inv; obtain ⟨_, rfl⟩ := e2.inv; exact AutoIntOps.iadd_0 (hQ _ _ _ G.rfl (.int _ _))
theorem Op2.isub {a b : Int} : Op2 c n (inplaceOp .Sub) (.int a) (.int b) (.int (a - b)) := fun _ _ _ _ _ _ _ _ _ e1 e2 hQ => by
  obtain ⟨_, rfl⟩ := e1.inv; obtain ⟨_, rfl⟩ := e2.inv; exact AutoIntOps.isub_0 (hQ _ _ _ G.rfl (.int _ _))
theorem Run1.mono {st : Stmt} (h : Run1 c n env ρ st Φ) (i : ∀ o, Φ o → Ψ o) : Run1 c n env ρ st Ψ := fun A h₀ Z U s ao F => wpAny_mono (h A h₀ Z U s ao F) (fun _ _ P => P.mono i) fun _ _ x => x
theorem Runs.cut {st : Stmt} (Mid : Out → Prop) (h : Run1 c n env ρ st Mid) (k : ∀ o, Mid o → Then c n env rest Φ o) : Runs c n env ρ (st :: rest) Φ := Runs.cons (h.mono k)

/-- a call that gives a new list -/
noncomputable def FunNew (c : Cx) (n : Nat) (f : Value) (ds rs : List D) : Prop :=
  ∀ (A : Around) (S : AS) (s : Shared) (Q : Value → Shared → Prop) (vs : List Value), AOk c n A → c.Ok s.heap → (∀ a, S a → ∃ o, s.heap.get? a = some o) → DenL S s.heap vs ds →
    (∀ a ws k h' tk, G s.heap h' → s.heap.get? a = none → h'.get? a = some { cls := .type "list", data := .seq (List.toArray ws) k } → DenL (fun b => S b ∨ b = a) h' ws rs → Q (.ref a) { s with heap := h', toks := tk }) → wpAny (model c.prog c.w) A (call f vs) Q NE s
theorem FunNew.split {x y : Str} (hy : (y.length == 0) = false) (hx : x.length + 2 ≤ sizeLine) : FunNew c n (.builtin "str.split") [.str x, .str y] ((Txt.split x y).map D.str) := fun A S s Q vs ao ok l dl hQ => by
  cases dl with | cons d r => cases r with | cons d2 r =>
    cases r; cases d with | str _ t => cases d2 with | str _ u =>
    have fin : ∀ (ll : List (Str × Tok)) tk, ll.map (·.1) = Txt.split x y → Q (.ref s.heap.objs.size) { s with heap := s.heap.push { cls := .type "list", data := .seq (strValues ll).toArray }, toks := tk } := fun ll tk e =>
      hQ _ (strValues ll) 0 _ tk (G.push _ _) (get_size _) (Heap.get?_push_size _ rfl) (by rw [← e]; exact denL_strs ll)
    cases h1 : (decide (x.length < y.length) || decide (Builtin.Str.strKind x < Builtin.Str.strKind y))
    · cases hf : (Builtin.Str.occurrences x y 0 x.length (x.length + 1)).isEmpty
      · have hp : (Builtin.Str.partsBetween x (Builtin.Str.occurrences x y 0 x.length (x.length + 1)) y.length).length ≤ sizeLine := by
          have e1 := StrLaws.occ_length_le x y 0 x.length (x.length + 1)
          rw [length_partsBetween]
          omega
        refine call_meets PySem.F.slot_str_split (typeIs_str _ _ _) PySem.F.entry_str_split (PySem.F.args_str_split_2 _ _) (meets_str_split_sep x y t u h1 hy hf (by omega) hp) ?_
        show Q _ { s with toks := _, heap := s.heap.push { cls := .type "list", data := .seq (strsFrom s.toks (Builtin.Str.partsBetween x (Builtin.Str.occurrences x y 0 x.length (x.length + 1)) y.length)).toArray } }
        rw [strsFrom_eq]
        exact fin (numbered s.toks _) _ ((numbered_texts _ _).trans ((if_neg (ne_true_of_eq_false h1)).trans (if_neg (ne_true_of_eq_false hf))).symm)
      · exact call_meets PySem.F.slot_str_split (typeIs_str _ _ _) PySem.F.entry_str_split (PySem.F.args_str_split_2 _ _) (meets_str_split_not_found x y t u h1 hy hf)
          (fin [(x, t)] s.toks ((if_neg (ne_true_of_eq_false h1)).trans (if_pos hf)).symm)
    · exact call_meets PySem.F.slot_str_split (typeIs_str _ _ _) PySem.F.entry_str_split (PySem.F.args_str_split_2 _ _) (meets_str_split_cannot_occur x y t u h1)
        (fin [(x, t)] s.toks (if_pos h1).symm)
theorem EvalsNew.meth {o : Expr} {name : Str} {apos pos : Pos} {es : List Expr} {id : String} {x : Str} {ds rs : List D} (ho : Evals c n env ρ o (.str x)) (hl : EvalsL c n env ρ es ds) (hf : FunNew c n (.builtin id) (.str x :: ds) rs)
    (slot : Slot "str" name id) (ty : typeOf (.builtin id) = pure (.type "method_descriptor")) (he : es ≠ [] := by exact List.cons_ne_nil _ _) (hu : unstarred es = true := by rfl)
    (hbase : attributeBase o name env (eval o env) = eval o env := by rfl)
    (hfew : ((backTo pos (starEach es env)).all (fun x => !x.1) && (backToKw pos (keywordEach [] env)).all (fun x => x.1.isSome) && decide (es.length + ([] : List Keyword).length + (if ([] : List Keyword).isEmpty then 0 else 1) < 30)) = true := by rfl)
    (hline : (apos.endLine == pos.line) = true := by rfl) : EvalsNew c n env ρ (.Call (.Attribute o name apos) es [] pos) rs := by
  intro A Z U s Q ao ok F hQ
  refine wpAny_Call_method_lateS hbase hfew hline (ho A Z U s _ ao ok F fun v h1 tk1 g1 dv => ?_)
  obtain ⟨_, rfl⟩ := dv.inv
  refine ⟨"str", id, PySem.F.plainAttrs_str, slot, ty, typeIs_str _ _ _, (fun _ e => nomatch e), ?_⟩
  rw [backTo_eq pos env es hu]
  refine callWith_of (P := fun _ => True) (by simp) (fun h _ => ⟨.machine, .inr (.inl rfl), Looks.of_pure rfl⟩) ?_
  cases es with
  | nil => exact absurd rfl he
  | cons e r =>
    refine evalArgs_plain ?_
    refine hl A Z U _ _ ao (ok.g g1) (F.g g1) fun vs h2 tk2 g2 dl => ⟨trivial, ?_⟩
    refine hf A (Both Z U) _ _ _ ao (ok.g (g1.trans g2)) (F.g (g1.trans g2)).live (.cons (.str _ _) dl) fun a ws k h3 tk3 g3 na ea de => hQ a ws k h3 tk3 (g1.trans (g2.trans g3)) ?_ ea de
    cases q : s.heap.get? a with
    | none => rfl
    | some o => have := g2 _ _ (g1 _ _ q); rw [na] at this; cases this
end
end Mine
end
section
open PySem PySem.W PyProof.Rows PySem.Calls
set_option autoImplicit false
namespace Mine

theorem isStr_ofString (x y : Str) (t : Tok) : (Value.str x t).isStr y = (x == y) := rfl
theorem getL_self (x : Str) (hsh : Int) (t : Tok) (v : Value) : ∀ es : List DictEntry, getL x (putL x hsh (.str x t) v es) = some (some v)
  | [] => by simp [putL, getL, isStr_ofString]
  | e :: r => by
    unfold putL
    by_cases h : e.key.isStr x = true
    · rw [if_pos h]
      simp [getL, h]
    · rw [if_neg h]
      have ih := getL_self x hsh t v r
      have h' : e.key.isStr x = false := by simpa using h
      have hf : (putL x hsh (.str x t) v r).find? (·.key.isStr x) ≠ none := by
        intro q
        unfold getL at ih
        rw [q] at ih
        dsimp only at ih
        split at ih <;> cases ih
      unfold getL at ih ⊢
      rw [List.find?_cons, h']
      dsimp only
      cases q : (putL x hsh (.str x t) v r).find? (·.key.isStr x) with
      | none => exact absurd q hf
      | some e' => rw [q] at ih; exact ih
theorem putL_ref (x : Str) (hsh : Int) (t : Tok) (v : Value) : ∀ es : List DictEntry, (putL x hsh (.str x t) v es).any (·.refKey) = es.any (·.refKey)
  | [] => rfl
  | e :: r => by
    unfold putL
    by_cases h : e.key.isStr x = true
    · rw [if_pos h]; rfl
    · rw [if_neg h]
      simp only [List.any_cons, putL_ref x hsh t v r]
theorem putL_find_ne {x y : Str} (hsh : Int) (t : Tok) (v : Value) (h : y ≠ x) : ∀ es : List DictEntry, ((putL x hsh (.str x t) v es).find? (·.key.isStr y)).map (·.val) = (es.find? (·.key.isStr y)).map (·.val)
  | [] => by
    have : (x == y) = false := by simpa using fun q => h q.symm
    simp [putL, isStr_ofString, this]
  | e :: r => by
    unfold putL
    by_cases hx : e.key.isStr x = true
    · rw [if_pos hx]
      have hy : e.key.isStr y = false := by
        cases hy : e.key.isStr y with
        | false => rfl
        | true => exact absurd (Value.isStr_inj _ _ _ hy hx) h
      simp [hy]
    · rw [if_neg hx, List.find?_cons, List.find?_cons]
      cases e.key.isStr y with
      | true => rfl
      | false => exact putL_find_ne hsh t v h r
theorem getL_ne {x y : Str} (hsh : Int) (t : Tok) (v : Value) (h : y ≠ x) (es : List DictEntry) : getL y (putL x hsh (.str x t) v es) = getL y es := by
  have h1 := putL_find_ne hsh t v h es
  have h2 := putL_ref x hsh t v es
  unfold getL
  rw [h2]
  cases q : (putL x hsh (.str x t) v es).find? (·.key.isStr y) with
  | none =>
    rw [q] at h1
    cases q2 : es.find? (·.key.isStr y) with
    | none => rfl
    | some e => rw [q2] at h1; cases h1
  | some e =>
    rw [q] at h1
    cases q2 : es.find? (·.key.isStr y) with
    | none => rw [q2] at h1; cases h1
    | some e' => rw [q2] at h1; simpa using h1
theorem putL_len (x : Str) (hsh : Int) (k v : Value) : ∀ es : List DictEntry, (putL x hsh k v es).length ≤ es.length + 1
  | [] => Nat.le_refl _
  | e :: r => by
    unfold putL
    by_cases h : e.key.isStr x = true
    · rw [if_pos h]; simp
    · rw [if_neg h]; have := putL_len x hsh k v r; simp; omega

theorem inst_at {S : AS} {h : Heap} {v : Value} {C : Addr} {fs : List (String × D)} (d : Den S h v (.inst C fs)) : ∃ a dx es n, v = .ref a ∧ InstAt h a (instObj C dx) C (some (dictOf es n)) ∧ DenF S h es fs ∧ ClosedF es (fs.map (·.1)) := by
  cases d with | inst n1 n2 e1 e2 f cl => exact ⟨_, _, _, _, rfl, ⟨e1, rfl, rfl, e2⟩, f, cl⟩
theorem handed {S : AS} {h : Heap} {v : Value} {d : D} (x : Den S h v d) : handedIn v = true := by cases x <;> rfl

/-- self.x = v, self's dict alone is written -/
theorem osa_own {prog : Program} {w : World} {A : Around} {R : Result → Shared → Prop} {s : Shared} {K : Frag} {x C dx : Addr} {es : List DictEntry} {n : Nat} {name : Str} {tk : Tok} {v : Value} (X : K.In s.heap) (I : InstAt s.heap x (instObj C dx) C (some (dictOf es n)))
    (hp : plainOver K C = true) (ht : takerIn K C name = some none) (hh : hasDictIn K C = true) (hl : (getL name es).isSome = true) (hz : es.length + 1 ≤ 1000)
    (h : ∀ h' hsh t m, Heap.SameBut dx s.heap h' → h'.get? dx = some (dictOf (putL name hsh (.str name t) v es) m) → R (.ok (.ret .none)) { s with heap := h', toks := s.toks + 1 }) :
    codeAny (model prog w) A (.call (.builtin "object.__setattr__") ⟨[.ref x, .str name tk, v], []⟩) R s := by
  refine osa_open X I hp ht fun b => ?_
  obtain ⟨cd, hc, hd'⟩ := any_some hh
  obtain ⟨hx, hcl, hn, Dd⟩ := I
  refine wpAny_bind (wpAny_pure (wpAny_bind (wpAny_bind (wpAny_loadPart hx (wpAny_bind ((looks_clsIn X hc).here ?_))))))
  rw [hd']
  refine wpAny_pure (a := some dx) (wpAny_bind (wpAny_pure (wpAny_bind ?_)))
  unfold nsSet
  refine wpAny_bind (wpAny_bind (wpAny_askSetting (wpAny_pure (wpAny_bind (wpAny_mkText (wpAny_bind (wpAny_loadPart Dd ?_)))))))
  dsimp only
  have c : (!es.toArray.any (·.key.isStr name) && es.toArray.any (·.refKey)) = false := by
    rw [← Array.any_toList, ← Array.any_toList]
    unfold getL at hl
    dsimp only
    split at hl
    · rename_i en he
      rw [List.any_eq_true.mpr ⟨en, List.mem_of_find?_eq_some he, List.find?_some he⟩]; rfl
    · split at hl
      · cases hl
      · rename_i z; rw [Bool.not_eq_true] at z; rw [z, Bool.and_false]
  rw [aRefKeyMayBeTheName_at, c]
  have D' : (s.heap.update dx (Obj.putName name (PyData.keyHash w.params name) (.str name s.toks) v)).get? dx = some (dictOf (putL name (PyData.keyHash w.params name) (.str name s.toks) v es) (putN name es n)) := by
    rw [Heap.get?_update_self _ Dd (by rw [putName_dict]; rfl), putName_dict]
  refine wpAny_updatePart Dd ?_
  refine wpAny_bind (wpAny_lookBehind D' (by
    have := putL_len name (PyData.keyHash w.params name) (.str name s.toks) v es
    exact pastItsLine_dict (by rw [List.size_toArray, sizeLine_eq]; omega)) ?_)
  exact wpAny_pure (h _ _ _ _ (Heap.SameBut.update ..) D')
theorem setAttr_own {prog : Program} {w : World} {A : Around} {E : Value → Shared → Prop} {s : Shared} {K : Frag} {x C dx : Addr} {es : List DictEntry} {n : Nat} {name : Str} {v : Value} {Q : Unit → Shared → Prop} (X : K.In s.heap) (I : InstAt s.heap x (instObj C dx) C (some (dictOf es n)))
    (hs : findIn K (.ref C) "__setattr__" = some (some (.builtin "object.__setattr__"))) (hp : plainOver K C = true) (ht : takerIn K C name = some none) (hh : hasDictIn K C = true) (hl : (getL name es).isSome = true) (hz : es.length + 1 ≤ 1000)
    (h : ∀ h' hsh t m, Heap.SameBut dx s.heap h' → h'.get? dx = some (dictOf (putL name hsh (.str name t) v es) m) → Q () { s with heap := h', toks := s.toks + 2 }) : wpAny (model prog w) A (setAttr (.ref x) name v) Q E s :=
  set_plain X I hs (osa_own (s := { s with toks := s.toks + 1 }) X I hp ht hh hl hz fun h' hsh t m hs e => h h' hsh t m hs e)

section
variable {c : Cx} {n : Nat} {env : Env} {ρ : Rho} {Φ Ψ : Out → Prop} {rest : List Stmt}
/-- what the class must say for its things to be read plainly -/
structure PlainC (c : Cx) (C : Addr) : Prop where
  get : plainGet c.K C "" = true
  dict : hasDictIn c.K C = true
/-- x.name -/
theorem Evals.attr {x : String} {px pos : Pos} {C : Addr} {fs : List (String × D)} {name : String} {d : D} {attr : Option Value} (hx : Evals c n env ρ (.Name (Str.ofString x) px) (.inst C fs)) (hf : fs.lookup name = some d) (P : PlainC c C)
    (ha : findIn c.K (.ref C) (Str.ofString name) = some attr) (hn : noGet c.K attr = true) : Evals c n env ρ (.Attribute (.Name (Str.ofString x) px) (Str.ofString name) pos) d := by
  intro A Z U s Q ao ok F hQ
  rw [arm_eval_Attribute]
  have e1 : attributeBase (.Name (Str.ofString x) px) (Str.ofString name) env (eval (.Name (Str.ofString x) px) env) = eval (.Name (Str.ofString x) px) env := rfl
  rw [e1]
  refine wpAny_bind (hx A Z U s _ ao ok F fun v h' tk g dv => wpAny_bind (wpAny_standAt (wpAny_bind (wpAny_holding ?_))))
  obtain ⟨a, dx, es, m, rfl, I, df, cl⟩ := inst_at dv
  obtain ⟨v, hv, dv'⟩ := df.get hf
  refine get_value (s := { s with heap := h', toks := tk }) (ok.g g).1 I (plainGet_of P.get).1 (findObj_own P.dict ha hn hv) (handed dv') ?_
  have e2 : letTemporaryGo (.Name (Str.ofString x) px) (.ref a) v = pure () := rfl
  rw [e2]
  exact wpAny_bind (wpAny_pure (wpAny_pure (hQ v h' _ g dv')))
/-- C.name, C a class -/
theorem Evals.cattr {x : Str} {np pos : Pos} {C : Addr} {mc v : Value} {name : Str} {d : D} (hc : Callee c env (.Name x np) (.ref C)) (hr : readsIn c.K C mc = true) (e : findCls c.K (.ref C) mc name = some (.val v)) (hv : ∀ S h, Den S h v d) (hh : handedIn v = true) :
    Evals c n env ρ (.Attribute (.Name x np) name pos) d := by
  intro A Z U s Q ao ok F hQ
  rw [arm_eval_Attribute]
  have e1 : attributeBase (.Name x np) name env (eval (.Name x np) env) = eval (.Name x np) env := rfl
  rw [e1]
  refine wpAny_bind (hc A Z U s ρ _ ok F (wpAny_bind (wpAny_standAt (wpAny_bind (wpAny_holding ?_)))))
  refine cls_value ok.1 hr e hh ?_
  have e2 : letTemporaryGo (.Name x np) (.ref C) v = pure () := rfl
  rw [e2]
  exact wpAny_bind (wpAny_pure (wpAny_pure (hQ v s.heap _ G.rfl (hv _ _))))
/-- x.name(e ..), name a function of x's class -/
theorem meth_core {o : Expr} {apos pos : Pos} {es : List Expr} {C f : Addr} {fs : List (String × D)} {name : String} (ho : Evals c n env ρ o (.inst C fs)) (P : PlainC c C)
    (hf : findIn c.K (.ref C) (Str.ofString name) = some (some (.ref f))) (ht : isFn c.K (.ref f) = true) (hno : ¬ name ∈ fs.map (·.1)) (hu : unstarred es = true)
    {pl : Sem Bool} (he : eval (.Call (.Attribute o (Str.ofString name) apos) es [] pos) env = (do
      let ov ← eval o env
      standAt apos.atName
      let (f, first) ← holding [ov] (getMethod ov (Str.ofString name) pl)
      callWith pos f first (backTo pos (starEach es env)) (backToKw pos (keywordEach [] env))))
    {A : Around} {Z U : AS} {s : Shared} {Q : Value → Shared → Prop} (ao : AOk c n A) (ok : c.Ok s.heap) (F : FS env Z U s.heap ρ)
    (h : ∀ v h' tk, G s.heap h' → Den (Both Z U) h' v (.inst C fs) → wpAny (model c.prog c.w) A (callWith pos (.ref f) [v] (es.map fun e => (false, eval e env)) []) Q NE { s with heap := h', toks := tk }) :
    wpAny (model c.prog c.w) A (eval (.Call (.Attribute o (Str.ofString name) apos) es [] pos) env) Q NE s := by
  refine methodCall_KW (pl := pl) (ho A Z U s _ ao ok F fun v h' tk g dv => ?_) he
  have go := h v h' tk g dv
  obtain ⟨a, dx, ens, m, rfl, I, df, cl⟩ := inst_at dv
  refine method_fn (s := { s with heap := h', toks := tk }) (ok.g g).1 I (plainGet_of P.get).1 (plainGet_of P.get).2 hf (beq_iff_eq.mp ht) (by show (lookIn (Str.ofString name) (dictOf ens m)).map _ = _; rw [lookIn_dict, cl _ hno]; rfl) ?_
  rw [backTo_eq pos env es hu]
  exact go
theorem Evals.methI {o : Expr} {apos pos : Pos} {es : List Expr} {C f : Addr} {fs : List (String × D)} {name : String} {ds : List D} {d : D} (ho : Evals c n env ρ o (.inst C fs)) (hl : EvalsL c n env ρ es ds) (hfun : Fun c n (.ref f) (.inst C fs :: ds) d) (P : PlainC c C)
    (hf : findIn c.K (.ref C) (Str.ofString name) = some (some (.ref f))) (ht : isFn c.K (.ref f) = true) (hk : KeepOk c (.ref f)) (hno : ¬ name ∈ fs.map (·.1)) (hne : es ≠ [] := by exact List.cons_ne_nil _ _) (hu : unstarred es = true := by rfl)
    {pl : Sem Bool} (he : eval (.Call (.Attribute o (Str.ofString name) apos) es [] pos) env = (do
      let ov ← eval o env
      standAt apos.atName
      let (f, first) ← holding [ov] (getMethod ov (Str.ofString name) pl)
      callWith pos f first (backTo pos (starEach es env)) (backToKw pos (keywordEach [] env))) := by rfl) : Evals c n env ρ (.Call (.Attribute o (Str.ofString name) apos) es [] pos) d := by
  intro A Z U s Q ao ok F hQ
  refine meth_core ho P hf ht hno hu he ao ok F fun v h' tk g dv => ?_
  exact callWith_ev (ds0 := [.inst C fs]) hk hne ao (ok.g g) (F.g g) (.cons dv .nil) hl hfun fun v h2 tk2 g2 dv2 => hQ v h2 tk2 (g.trans g2) dv2
theorem Evals.methI0 {o : Expr} {apos pos : Pos} {C f : Addr} {fs : List (String × D)} {name : String} {d : D} (ho : Evals c n env ρ o (.inst C fs)) (hfun : Fun c n (.ref f) [.inst C fs] d) (P : PlainC c C)
    (hf : findIn c.K (.ref C) (Str.ofString name) = some (some (.ref f))) (ht : isFn c.K (.ref f) = true) (hk : KeepOk c (.ref f)) (hno : ¬ name ∈ fs.map (·.1))
    {pl : Sem Bool} (he : eval (.Call (.Attribute o (Str.ofString name) apos) [] [] pos) env = (do
      let ov ← eval o env
      standAt apos.atName
      let (f, first) ← holding [ov] (getMethod ov (Str.ofString name) pl)
      callWith pos f first (backTo pos (starEach [] env)) (backToKw pos (keywordEach [] env))) := by rfl) : Evals c n env ρ (.Call (.Attribute o (Str.ofString name) apos) [] [] pos) d := by
  intro A Z U s Q ao ok F hQ
  refine meth_core ho P hf ht hno rfl he ao ok F fun v h' tk g dv => ?_
  exact callWith_ev0 (ds0 := [.inst C fs]) hk ao (ok.g g) (F.g g) (.cons dv .nil) hfun fun v h2 tk2 g2 dv2 => hQ v h2 tk2 (g.trans g2) dv2

theorem DenF.put_ne {S : AS} {h : Heap} {x : String} {v : Value} {hsh : Int} {t : Tok} {es : List DictEntry} {fs : List (String × D)} (r : DenF S h es fs) (hx : ¬ x ∈ fs.map (·.1)) : DenF S h (putL (Str.ofString x) hsh (.str (Str.ofString x) t) v es) fs := by
  induction fs with
  | nil => exact .nil
  | cons p fs ih =>
    obtain ⟨w, g, d, l⟩ := r.inv
    exact .cons ((getL_ne _ _ _ (fun q => hx (by rw [← ofString_inj q]; exact .head _)) _).trans g) d (ih l fun q => hx (.tail _ q))
theorem DenF.put {S : AS} {h : Heap} {x : String} {v : Value} {d : D} {hsh : Int} {t : Tok} {es : List DictEntry} {fs : List (String × D)} (f : DenF S h es fs) (dv : Den S h v d) (hx : ¬ x ∈ fs.map (·.1)) : DenF S h (putL (Str.ofString x) hsh (.str (Str.ofString x) t) v es) ((x, d) :: fs) :=
  .cons (getL_self _ _ _ _ _) dv (f.put_ne hx)

/-- the dict of an own object grows -/
theorem FW.objPut {h₀ h h' : Heap} {Z U : AS} {x name : String} {C a dx : Addr} {fs : List (String × D)} {d : D} {es : List DictEntry} {k m : Nat} {v : Value} {hsh : Int} {t : Tok} (F : FW c h₀ env Z U h ρ) (e : ρ x = some (.obj a C fs)) (ha : ∃ m, h.Ns env.locals m ∧ Has env h m (Str.ofString x) (.ref a))
    (ua : U a) (ud : U dx) (nl : dx ≠ env.locals) (g1 : h.get? a = some (instObj C dx)) (g2 : h.get? dx = some (dictOf es k)) (df : DenF (Both Z U) h es fs) (cl : ClosedF es (fs.map (·.1))) (le : es.length ≤ fs.length) (hno : ¬ name ∈ fs.map (·.1)) (dv : Den (Both Z U) h v d)
    (hs : Heap.SameBut dx h h') (e' : h'.get? dx = some (dictOf (putL (Str.ofString name) hsh (.str (Str.ofString name) t) v es) m)) : FW c h₀ env Z U h' (upd ρ x (.obj a C ((name, d) :: fs))) ∧ KB U h h' := by
  obtain ⟨m1, hm1, Ha⟩ := ha
  have kk : ∀ b o, b ≠ dx → h.get? b = some o → h'.get? b = some o := fun b o nb e => (hs.2 b nb).trans e
  have kb : ∀ b o, ¬ Both Z U b → h.get? b = some o → ¬ Both Z U b ∧ h'.get? b = some o := fun b o nb e => ⟨nb, kk b o (fun q => nb (q ▸ .inr ud)) e⟩
  have nad : a ≠ dx := fun q => apart g2 (q ▸ g1) rfl
  refine F.put e ud nl.symm g2 rfl hs ⟨_, e'⟩ rfl (fun m' v' hm' H' => ?_) fun m' y s2 v' q e2 hm' H' sd => ?_
  · cases hm'.eq_nsMap.trans hm1.eq_nsMap.symm
    cases H'.unique G.rfl Ha
    refine ⟨a, dx, _, _, rfl, ua, ud, nl, kk _ _ nad g1, e', (df.put dv hno).mono kb, fun z hz => ?_, ?_, rfl⟩
    · rw [getL_ne _ _ _ (fun r => hz (by rw [ofString_inj r]; exact .head _))]
      exact cl z fun w => hz (.tail _ w)
    · exact Nat.le_trans (putL_len _ _ _ _ _) (Nat.succ_le_succ le)
  · cases s2 with
    | fz d => exact Den.mono kb sd
    | own ds' =>
      obtain ⟨a', vs', n', rfl, ua', g', dl'⟩ := sd
      exact ⟨a', vs', n', rfl, ua', kk _ _ (fun r => apart g2 (r ▸ g') rfl) g', dl'.mono kb⟩
    | obj a2 C' fs' => exact absurd (F.fs.one y x _ _ _ _ _ _ e2 e) q
/-- self.name = e -/
theorem Run1.setAttr {x : String} {px apos pos : Pos} {name : String} {e : Expr} {a₀ C : Addr} {fs : List (String × D)} {d : D} (hx : ρ x = some (.obj a₀ C fs)) (h : Evals c n env ρ e d) (P : PlainC c C)
    (hset : findIn c.K (.ref C) "__setattr__" = some (some (.builtin "object.__setattr__"))) (hp : plainOver c.K C = true) (ht : takerIn c.K C (Str.ofString name) = some none) (hno : ¬ name ∈ fs.map (·.1)) (hz : fs.length ≤ 900) (p : Φ (.next (upd ρ x (.obj a₀ C ((name, d) :: fs)))))
    (hs : swapsWith e (some (.Attribute (.Name (Str.ofString x) px) (Str.ofString name) apos)) pos.line env = pure false := by rfl)
    (hd : (Str.ofString x == ("__debug__" : Str)) = false := by decide) (hc : (Str.ofString x == ("__classdict__" : Str)) = false := by decide) : Run1 c n env ρ (.Assign [.Attribute (.Name (Str.ofString x) px) (Str.ofString name) apos] e pos) Φ := by
  intro A h₀ Z U s ao F
  refine plainObj_wpAny_Assign_Attribute (h A Z U s _ ao F.okh F.fs fun v h1 tk1 g1 dv => ?_) hs
  have F1 := F.g g1
  obtain ⟨m, hm, hv, _⟩ := F1.fs.vars
  obtain ⟨v', H, a, dx, es, k, rfl, ua, ud, nl, e1, e2, df, cl, le, rfl⟩ := hv x _ hx
  have go : wpAny (model c.prog c.w) A (PySem.setAttr (.ref a) (Str.ofString name) v) (fun _ => Post c h₀ env Z U s Φ .next) NE { s with heap := h1, toks := tk1 } := by
    refine setAttr_own (s := { s with heap := h1, toks := tk1 }) F1.okh.1 ⟨e1, rfl, rfl, e2⟩ hset hp ht P.dict (by rw [cl _ hno]; rfl) (by omega) fun h2 hsh t m2 hs2 e3 => ?_
    obtain ⟨F2, kb⟩ := F1.objPut hx ⟨m, hm, H⟩ ua ud nl e1 e2 df cl le hno dv hs2 e3
    exact ⟨h2, _, U, .next _, rfl, F2.base, fun b o nb e => kb b o nb (g1 b o e), fun _ q => .inl q, F2.off, F2, p⟩
  refine wpAny_Name ?_ hd
  rcases H with ⟨p, b⟩ | ⟨p | p, q, hk, ik⟩
  · exact wpAny_loadName_local F1.fs.kind p hm b go
  · exact wpAny_loadName_cell F1.fs.kind p hk ik go
  · exact wpAny_loadName_free F1.fs.kind p hk ik go hc
theorem Runs.setAttr {x : String} {px apos pos : Pos} {name : String} {e : Expr} {a₀ C : Addr} {fs : List (String × D)} {d : D} (hx : ρ x = some (.obj a₀ C fs)) (h : Evals c n env ρ e d) (P : PlainC c C)
    (hset : findIn c.K (.ref C) "__setattr__" = some (some (.builtin "object.__setattr__"))) (hp : plainOver c.K C = true) (ht : takerIn c.K C (Str.ofString name) = some none) (hno : ¬ name ∈ fs.map (·.1)) (hz : fs.length ≤ 900) (p : Runs c n env (upd ρ x (.obj a₀ C ((name, d) :: fs))) rest Φ)
    (hs : swapsWith e (some (.Attribute (.Name (Str.ofString x) px) (Str.ofString name) apos)) pos.line env = pure false := by rfl)
    (hd : (Str.ofString x == ("__debug__" : Str)) = false := by decide) (hc : (Str.ofString x == ("__classdict__" : Str)) = false := by decide) : Runs c n env ρ (.Assign [.Attribute (.Name (Str.ofString x) px) (Str.ofString name) apos] e pos :: rest) Φ :=
  Runs.cons (Run1.setAttr hx h P hset hp ht hno hz p hs hd hc)
end
end Mine
end
section
open PySem PySem.W PyProof.Rows PySem.Calls
set_option autoImplicit false
namespace Mine
theorem creation_weight (C : Addr) (rest : List Value) : (Code.builtin "type.__call__" ⟨.ref C :: rest, []⟩).weight = 1 := by
  have h1 : (Code.builtin "type.__call__" ⟨.ref C :: rest, []⟩).isGuard = false := by
    show guardIds.contains "type.__call__" = false
    decide +kernel
  have h2 : (Code.builtin "type.__call__" ⟨.ref C :: rest, []⟩).isCaller = false := rfl
  have h3 : (Code.builtin "type.__call__" ⟨.ref C :: rest, []⟩).isCreation = true := rfl
  unfold Code.weight
  rw [h1, h2, h3]
  rfl
theorem AOk.under {c : Cx} {n : Nat} {A : Around} (a : AOk c (n + 1) A) (hf : ∀ A, c.fr A) (C : Addr) (rest : List Value) : AOk c n (A.under (.builtin "type.__call__" ⟨.ref C :: rest, []⟩)) := by
  obtain ⟨h, d, u, _⟩ := a
  refine ⟨h, ?_, ?_, hf _⟩
  · show A.depth + Code.weight _ + n < recursionLimit
    rw [creation_weight]
    omega
  · have : (A.under (.builtin "type.__call__" ⟨.ref C :: rest, []⟩)).units = A.units + 1 := by
      first | rfl | simp [Around.under, Code.cUnits, Code.frames, Code.isFrame]
    rw [this]
    omega

section
variable {c : Cx} {n : Nat}
theorem Fun.cls {C fI : Addr} {names : List String} {self : String} {ds : List D} {fs : List (String × D)} {name qual : Str} {params : Arguments} {body : List Stmt} {scope : Scope} {dV kV doc pm cdv ct oc : Value} {an od : Option Addr} {osl : Array (Option Value)}
    (hm : makesIn c.K C = true) (hi : findIn c.K (.ref C) "__init__" = some (some (.ref fI))) (hf : typeIn c.K (.ref fI) = some (.type "function"))
    (ho : c.K.lookup fI = some ⟨oc, od, .func (fnX name qual params body scope [] dV kV doc pm an cdv ct), osl⟩) (hcd : codeIn c.K cdv qual = true)
    (hbind : ∀ (x : Value) (vs : List Value), vs.length = names.length → bindArgs (fnX name qual params body scope [] dV kV doc pm an cdv ct) ⟨x :: vs, []⟩ = pure ((Str.ofString self :: names.map Str.ofString).zip (x :: vs)))
    (hloc : ∀ x ∈ self :: names, scope.names.lookup (Str.ofString x) = some .local) (hnd : ¬ self ∈ names) (hl : names.length = ds.length)
    (run : ∀ L X, Runs c n (envX qual scope L fI cdv []) (bindD names ds (upd (fun _ => none) self (.obj X C []))) body (fun o => ∃ ρ, o = .next ρ ∧ ρ self = some (.obj X C fs)))
    (hcell : ∀ x ∈ scope.names, x.2 ≠ .cell) (hfr : ∀ A, c.fr A := by intro _; trivial) (hco : scope.isCoroutine = false := by rfl) (hgen : scope.isGenerator = false := by rfl) (hk : scope.kind = .function := by rfl) : Fun c (n + 2) (.ref C) ds (.inst C fs) := by
  intro A S s Q vs ao ok live dl hQ
  have hvl : vs.length = names.length := by rw [dl.length, hl]
  obtain ⟨hh, gg, dd, tt, os⟩ := s
  dsimp only at ok live dl hQ ⊢
  refine wpAny_call (make_core (makes_of ok.1 hm) (looks_findIn ok.1 hi) (fun x => bind_fn ok.1 x hf) (.inl rfl) ?_)
  have ed : hh.get? hh.objs.size = none := get_size _
  have g2 : G hh ((hh.push emptyDict).push (instObj C hh.objs.size)) := (G.push _ _).trans (G.push _ _)
  have ea : hh.get? (hh.objs.size + 1) = none := by
    cases e : hh.get? (hh.objs.size + 1) with
    | none => rfl
    | some o => exact absurd (Heap.lt_size e) (Nat.not_lt.mpr (Nat.le_succ _))
  have e1 : ((hh.push emptyDict).push (instObj C hh.objs.size)).get? (hh.objs.size + 1) = some (instObj C hh.objs.size) := by
    have := Heap.get?_push_size (hh.push emptyDict) (o := instObj C hh.objs.size) rfl
    rwa [Heap.size_push] at this
  have e2 : ((hh.push emptyDict).push (instObj C hh.objs.size)).get? hh.objs.size = some (dictOf [] 0) := Heap.get?_push_of_some _ (Heap.get?_push_size _ rfl)
  generalize hH : (hh.push emptyDict).push (instObj C hh.objs.size) = h2 at g2 e1 e2 ⊢
  generalize hX : hh.objs.size + 1 = X at ea e1 ⊢
  generalize hDX : hh.objs.size = dx at ed e1 e2 ⊢
  have ok2 : c.Ok h2 := ok.g g2
  have aou := ao.under hfr C vs
  refine codeAny_call_def (fd := fnX name qual params body scope [] dV kV doc pm an cdv ct) (body := body) (binds := (Str.ofString self :: names.map Str.ofString).zip (.ref X :: vs)) (by have := aou.depth; omega) (ok2.1 _ _ ho) rfl ok2.2.nolimit (codeRec_of ok2.1 hcd) rfl
    (BindsTo.of_eq (hbind _ vs hvl)) hcell (fun x hx => ?_) (fun h₁ hns hk₁ => ?_) hco hgen hk
  · have := (List.of_mem_zip hx).1
    rcases List.mem_cons.mp this with e | this
    · rw [e]; exact hloc self (.head _)
    · obtain ⟨y, hy, e⟩ := List.mem_map.mp this
      rw [← e]
      exact hloc y (.tail _ hy)
  · dsimp only at hns hk₁ ⊢
    generalize hLL : h2.objs.size = L at hns ⊢
    have hL : h2.get? L = none := by rw [← hLL]; exact get_size _
    have hL0 : hh.get? L = none := by
      cases e : hh.get? L with
      | none => rfl
      | some o => have := g2 _ _ e; rw [hL] at this; cases this
    have nS : ∀ b, hh.get? b = none → ¬ S b := fun b e sb => by obtain ⟨o, q⟩ := live b sb; rw [e] at q; cases q
    have nXL : X ≠ L := by rintro rfl; rw [e1] at hL; cases hL
    have nDL : dx ≠ L := by rintro rfl; rw [e2] at hL; cases hL
    have ρe : ∀ x sl, bindD names ds (upd (fun _ => none) self (.obj X C [])) x = some sl → (x = self ∧ sl = .obj X C [] ∧ (names.zip ds).reverse.lookup x = none) ∨ ∃ d', sl = .fz d' ∧ (names.zip ds).reverse.lookup x = some d' := fun x sl e => by
      rw [bindD_eq] at e
      cases q : (names.zip ds).reverse.lookup x with
      | none =>
        rw [q] at e
        dsimp only at e
        by_cases w : x = self
        · subst w; rw [upd_self] at e; cases e; exact .inl ⟨rfl, rfl, rfl⟩
        · rw [upd_ne _ _ w] at e; cases e
      | some d' => rw [q] at e; cases e; exact .inr ⟨_, rfl, rfl⟩
    have gs1 : ∀ b o, hh.get? b = some o → h₁.get? b = some o := fun b o e => hk₁ _ _ (g2 _ _ e)
    have FS0 : FS (envX qual scope L fI cdv []) S (fun a => a = L ∨ a = X ∨ a = dx) h₁ (bindD names ds (upd (fun _ => none) self (.obj X C []))) := by
      refine ⟨hk, rfl, rfl, .inl rfl, fun a sa => ?_, fun a ua sa => ?_, ⟨_, hns, fun x sl e => ?_, fun x y dx dy a e1 => ?_⟩, fun x y a b C D fs gs e1 e2 => ?_, fun x k e => by simp at e⟩
      · rcases sa with sa | rfl | rfl | rfl
        · obtain ⟨o, e⟩ := live a sa; exact ⟨o, gs1 _ _ e⟩
        · obtain ⟨o, _, _, e, _⟩ := hns; exact ⟨o, e⟩
        · exact ⟨_, hk₁ _ _ e1⟩
        · exact ⟨_, hk₁ _ _ e2⟩
      · rcases ua with rfl | rfl | rfl
        · exact nS _ hL0 sa
        · exact nS _ ea sa
        · exact nS _ ed sa
      · rcases ρe x sl e with ⟨rfl, rfl, q⟩ | ⟨d', rfl, q⟩
        · refine ⟨.ref X, .inl ⟨hloc _ (.head _), ?_⟩, X, dx, [], 0, rfl, .inr (.inl rfl), .inr (.inr rfl), nDL, hk₁ _ _ e1, hk₁ _ _ e2, .nil, fun _ _ => rfl, Nat.le_refl _, rfl⟩
          show (((Str.ofString x :: names.map Str.ofString).zip (Value.ref X :: vs)).reverse).lookup (Str.ofString x) = some (.ref X)
          rw [List.zip_cons_cons, List.reverse_cons, List.lookup_append]
          have : (((names.map Str.ofString).zip vs).reverse).lookup (Str.ofString x) = none := by
            rw [List.lookup_eq_none_iff]
            intro p hp
            have h1 := (List.of_mem_zip (List.mem_reverse.mp hp)).1
            obtain ⟨y, hy, e⟩ := List.mem_map.mp h1
            rw [← e]
            simp only [bne_iff_ne, ne_eq, beq_eq_false_iff_ne]
            intro r
            rw [ofString_inj r] at hnd
            exact hnd hy
          rw [this]
          simp
        · have dl' : DenL (Both S fun a => a = L ∨ a = X ∨ a = dx) h₁ vs ds := dl.mono fun b o nb eb => by
            refine ⟨fun z => ?_, gs1 _ _ eb⟩
            rcases z with z | rfl | rfl | rfl
            · exact nb z
            · rw [hL0] at eb; cases eb
            · rw [ea] at eb; cases eb
            · rw [ed] at eb; cases eb
          obtain ⟨v, hv, dv⟩ := lookup_pairs (zip_rev hl dl') x d' q
          have hm : x ∈ names := by
            have h1 := List.mem_reverse.mp (mem_lookupS q)
            exact (List.of_mem_zip h1).1
          refine ⟨v, .inl ⟨hloc x (.tail _ hm), ?_⟩, dv⟩
          show (((Str.ofString self :: names.map Str.ofString).zip (Value.ref X :: vs)).reverse).lookup (Str.ofString x) = some v
          rw [List.zip_cons_cons, List.reverse_cons, List.lookup_append, hv]
          rfl
      · rcases ρe x _ e1 with ⟨_, e, _⟩ | ⟨_, e, _⟩ <;> cases e
      · rcases ρe x _ e1 with ⟨r1, _, _⟩ | ⟨_, e, _⟩
        · rcases ρe y _ e2 with ⟨r2, _, _⟩ | ⟨_, e, _⟩
          · exact r1.trans r2.symm
          · cases e
        · cases e
    have FW0 : FW c hh (envX qual scope L fI cdv []) S (fun a => a = L ∨ a = X ∨ a = dx) h₁ (bindD names ds (upd (fun _ => none) self (.obj X C []))) :=
      ⟨FS0, ok, gs1, fun a e => (by rcases e with rfl | rfl | rfl; exact hL0; exact ea; exact ed), fun _ x k e => by simp at e⟩
    refine wpAny_mono (run L X ((A.under _).deeper _) hh S _ ⟨h₁, gg, dd, _, os⟩ (aou.deeper hfr _) FW0) (fun fl s' P => ?_) fun _ _ x => x.elim
    obtain ⟨h', tk', U', out, rfl, g, kb, uu, o', l, ρ', rfl, hs'⟩ := P
    cases fl with
    | next =>
      obtain ⟨m, hm, hv, _⟩ := l.fs.vars
      obtain ⟨v, H, a', dx', es, k, rfl, ua, ud, nl, q1, q2, df, cl, le, rfl⟩ := hv _ _ hs'
      refine ⟨rfl, hQ _ h' tk' g (.inst (fun sb => nS _ ea sb) (fun sb => l.fs.disj _ ud sb) q1 q2 (df.mono fun b o nb e => ⟨fun sb => nb (.inl sb), e⟩) cl)⟩
    | _ => exact l.elim
end
end Mine
end
section
open PySem PySem.W PyProof.Rows PySem.Calls
set_option autoImplicit false
namespace Mine
section
variable {c : Cx} {n : Nat} {env : Env} {ρ : Rho} {Φ Ψ : Out → Prop} {rest : List Stmt}
theorem Op2.mulB {a b : Int} (h1 : -1000000000 ≤ a) (h2 : a ≤ 1000000000) : Op2 c n (binaryOp .Mult) (.int a) (.int b) (.int (a * b)) := Op2.mul (IntMulOk.of_left (intBits_le_64 (by omega) (by omega)))
theorem Op2.fdivB {a b : Int} (hb : 0 < b) (h2 : b ≤ 1000000000) : Op2 c n (binaryOp .FloorDiv) (.int a) (.int b) (.int (a / b)) := by
  have : a / b = a.fdiv b := (Int.fdiv_eq_ediv_of_nonneg a (by omega)).symm
  rw [this]
  exact Op2.fdiv (by omega) (PyProof.noPylong_small (by omega))
theorem Op2.fmodB {a b : Int} (hb : 0 < b) : Op2 c n (binaryOp .Mod) (.int a) (.int b) (.int (a % b)) := by
  have : a % b = a.fmod b := (Int.fmod_eq_emod_of_nonneg a (by omega)).symm
  rw [this]
  exact Op2.fmod (by omega)
theorem Fun.lenT {ds : List D} {m : Nat} (h : ds.length = m) (hx : m ≤ 16777216) : Fun c n (.builtin "len") [.tup ds] (.int m) := fun A S s Q vs ao ok l dl hQ => by
  subst h
  obtain ⟨_, _, rfl, d, r⟩ := dl.inv
  obtain rfl := r.inv
  obtain ⟨_, _, _, rfl, ns, e, dl⟩ := d.inv
  have hz := dl.length
  refine len_tuple (isTup_of e) (by rw [List.size_toArray, hz]; omega) ?_
  rw [List.size_toArray, hz]
  exact hQ _ _ _ G.rfl (.int _ _)
end
end Mine
end
section
open PySem PySem.W PyProof.Rows PySem.Calls
set_option autoImplicit false
namespace Mine
section
variable {c : Cx} {n : Nat} {env : Env} {ρ : Rho} {Φ Ψ : Out → Prop} {rest : List Stmt}
end
end Mine
end
section
open PySem PySem.W PyProof.Rows PySem.Calls
set_option autoImplicit false
namespace Mine
section
variable {prog : Program} {w : World} {A : Around} {E : Value → Shared → Prop} {s : Shared} {K : Frag} {e t0 C : Addr} {m : Str} {tk : Tok}
/-- an exception of one text, of a class of the program's own -/
structure OwnExc (s : Shared) (e t0 C : Addr) (m : Str) (tk : Tok) : Prop where
  obj : ∃ o vs, s.heap.get? e = some o ∧ o.cls = .ref C ∧ o.data = .fields vs ∧ vs[0]? = some (.ref t0)
  tup : s.heap.TupAt t0 [.str m tk]
theorem OwnExc.type {M : Model} (x : OwnExc s e t0 C m tk) : Looks M s.heap (typeOf (.ref e)) (.ref C) := by
  obtain ⟨⟨o, vs, ho, hc, _⟩, _⟩ := x
  exact (Looks.ld (part := none) ho).andThen (Looks.of_pure (by rw [hc]))
open Builtin Builtin.Str Builtin.BaseException Builtin.Exceptions in
open Builtin Builtin.Str Builtin.BaseException Builtin.Exceptions in
end
end Mine
end
section
open PySem PySem.W PyProof.Rows PySem.Calls
set_option autoImplicit false
namespace Mine
mutual
noncomputable def py : D → PyData
  | .bool b => .bool b
  | .int i => .int i
  | .str x => .str x
  | .tup ds => .tuple (pys ds)
  | .lst ds => .list (pys ds)
  | _ => .none
noncomputable def pys : List D → List PyData
  | [] => []
  | d :: ds => py d :: pys ds
end
mutual
noncomputable def okD : D → Bool
  | .bool _ | .int _ => true
  | .str x => PyData.strOk x
  | .tup ds | .lst ds => okDs ds
  | _ => false
noncomputable def okDs : List D → Bool
  | [] => true
  | d :: ds => okD d && okDs ds
end
theorem okDs_iff : ∀ ds : List D, okDs ds = true ↔ ∀ d ∈ ds, okD d = true
  | [] => by simp [okDs]
  | d :: ds => by simp [okDs, okDs_iff ds]
mutual
theorem reads_of {S : AS} {h : Heap} {v : Value} : ∀ {d : D}, Den S h v d → okD d = true → ∃ as, Reads h v (py d) as
  | .bool b, x, _ => by obtain rfl : v = .bool b := x.inv; exact ⟨_, .bool b⟩
  | .int i, x, _ => by obtain ⟨t, rfl⟩ : ∃ t, v = .int i t := x.inv; exact ⟨_, .int i t⟩
  | .str y, x, _ => by obtain ⟨t, rfl⟩ : ∃ t, v = .str y t := x.inv; exact ⟨_, .str y t⟩
  | .tup ds, x, k => by
    obtain ⟨a, vs, n, rfl, ns, e, l⟩ := x.inv
    obtain ⟨as, q⟩ := readsAll_of l k
    exact ⟨_, .tuple e rfl rfl q⟩
  | .lst ds, x, k => by
    obtain ⟨a, vs, n, rfl, ns, e, l⟩ := x.inv
    obtain ⟨as, q⟩ := readsAll_of l k
    exact ⟨_, .list e rfl rfl q⟩
  | .none, _, k => by cases k
  | .strT _ _, _, k => by cases k
  | .rng _ _, _, k => by cases k
  | .inst _ _, _, k => by cases k
theorem readsAll_of {S : AS} {h : Heap} : ∀ {ds : List D} {vs : List Value}, DenL S h vs ds → okDs ds = true → ∃ as, ReadsAll h vs (pys ds) as
  | [], vs, x, _ => by obtain rfl : vs = [] := x.inv; exact ⟨_, .nil⟩
  | dd :: dds, vs, x, k => by
    obtain ⟨v, ws, rfl, d, l⟩ := x.inv
    have k : okD dd = true ∧ okDs dds = true := Bool.and_eq_true_iff.mp k
    obtain ⟨as, q⟩ := reads_of d k.1
    obtain ⟨bs, r⟩ := readsAll_of l k.2
    exact ⟨_, .cons q r⟩
end
mutual
theorem lay_of : ∀ d : D, okD d = true → (py d).canLay0 = true
  | .bool _, _ => by simp [py, PyData.canLay0]
  | .int _, _ => by simp [py, PyData.canLay0]
  | .str x, k => by simpa [py, PyData.canLay0, okD] using k
  | .tup ds, k => by simpa [py, PyData.canLay0] using layAll_of ds (by simpa [okD] using k)
  | .lst ds, k => by simpa [py, PyData.canLay0] using layAll_of ds (by simpa [okD] using k)
  | .none, k => by simp [okD] at k
  | .rng _ _, k => by simp [okD] at k
  | .inst _ _, k => by simp [okD] at k
theorem layAll_of : ∀ ds : List D, okDs ds = true → PyData.canLayAll0 (pys ds) = true
  | [], _ => by simp [pys, PyData.canLayAll0]
  | d :: ds, k => by
    have k : okD d = true ∧ okDs ds = true := by simpa [okDs] using k
    simp [pys, PyData.canLayAll0, lay_of d k.1, layAll_of ds k.2]
end
mutual
theorem eqv_refl : ∀ d : D, okD d = true → PyData.eqv (py d) (py d) = true
  | .bool _, _ => by simp [py, PyData.eqv]
  | .int _, _ => by simp [py, PyData.eqv]
  | .str x, _ => by simp [py, PyData.eqv]
  | .tup ds, k => by simpa [py, PyData.eqv] using eqvAll_refl ds (by simpa [okD] using k)
  | .lst ds, k => by simpa [py, PyData.eqv] using eqvAll_refl ds (by simpa [okD] using k)
  | .none, k => by simp [okD] at k
  | .rng _ _, k => by simp [okD] at k
  | .inst _ _, k => by simp [okD] at k
theorem eqvAll_refl : ∀ ds : List D, okDs ds = true → PyData.eqvAll (pys ds) (pys ds) = true
  | [], _ => by simp [pys, PyData.eqvAll]
  | d :: ds, k => by
    have k : okD d = true ∧ okDs ds = true := by simpa [okDs] using k
    simp [pys, PyData.eqvAll, eqv_refl d k.1, eqvAll_refl ds k.2]
end
section
variable {c : Cx} {n : Nat} {env : Env} {ρ : Rho} {Φ Ψ : Out → Prop} {rest : List Stmt}
/-- things that are alike are not unlike -/
theorem Op2.nel {d : D} (k : okD d = true) (hd : (py d).depth ≤ 7) : Op2 c (n + 1) (compareOp .NotEq) d d (.bool false) := fun A S s Q v1 v2 ao ok l e1 e2 hQ => by
  obtain ⟨as, r1⟩ := reads_of e1 k
  obtain ⟨bs, r2⟩ := reads_of e2 k
  refine SeqAt.compareNe_reads r1 r2 (lay_of d k) (lay_of d k) (by have := ao.units; rw [Nat.min_self]; omega) ?_
  rw [eqv_refl d k]
  exact hQ _ s.heap s.toks G.rfl (.bool _)
theorem Op2.isnot {a b : Bool} : Op2 c n (compareOp .IsNot) (.bool a) (.bool b) (.bool (a != b)) := fun A S s Q v1 v2 ao ok l e1 e2 hQ => by
  obtain rfl := e1.inv
  obtain rfl := e2.inv
  refine wpAny_isNot_plain (by cases a <;> cases b <;> rfl) ?_
  have : (!(Value.bool a == Value.bool b)) = (a != b) := by cases a <;> cases b <;> rfl
  rw [this]
  exact hQ _ s.heap s.toks G.rfl (.bool _)
end
end Mine
end
section
open PySem PySem.W PyProof.Rows PySem.Calls
set_option autoImplicit false
namespace Mine
section
variable {prog : Program} {w : World} {A : Around} {E : Value → Shared → Prop} {s : Shared}
end
section
variable {c : Cx} {n : Nat} {env : Env} {ρ : Rho} {Φ Ψ : Out → Prop} {rest : List Stmt}
end
section
variable {A : Around} {h₀ : Heap} {Z : AS} {c : Cx} {n : Nat} {env : Env} {ρ : Rho} {Φ Ψ : Out → Prop} {rest : List Stmt}
end
end Mine
end
section
open PySem PySem.W PyProof.Rows PySem.Calls
set_option autoImplicit false
namespace Mine
section
variable {A : Around} {h₀ : Heap} {Z : AS} {c : Cx} {n : Nat} {env : Env} {ρ : Rho} {Φ Ψ : Out → Prop} {rest : List Stmt}
end
end Mine
end
section
open PySem PySem.W PyProof.Rows
set_option autoImplicit false
namespace Mine
theorem well_ints {P : Params} {S : AS} {h : Heap} {ns : List Int} {vs : List Value} (x : WellAll P h vs (ofPys (ns.map PyData.int))) : DenL S h vs (ns.map D.int) := by
  induction ns generalizing vs with
  | nil => cases x; exact .nil
  | cons n ns ih =>
    cases x with
    | cons d l =>
      have d : Well P h _ (.int n) := d
      cases d
      exact .cons (.int _ _) (ih l)
theorem well_list {P : Params} {S : AS} {h : Heap} {a : Addr} {ns : List Int} (x : Well P h (.ref a) (ofPy (PyData.list (ns.map PyData.int)))) (na : ¬ S a) : Den S h (.ref a) (.lst (ns.map D.int)) := by
  have x : Well P h (.ref a) (.list (ofPys (ns.map PyData.int))) := x
  cases x with
  | list e l => exact .lst na e (well_ints l)
theorem cells_apart (h : Heap) (names : List (Str × NameKind)) : (cellsFrom (h.objs.size + 1) names []).Pairwise fun x y => x.2 ≠ y.2 := by
  have ok := cellsFrom_ok names (h.push { cls := .type "frame", data := .dict #[] }) (h.objs.size + 1) [] ⟨fun _ _ hm => (nomatch hm), List.Pairwise.nil⟩ (by rw [Heap.size_push]; exact Nat.le_refl _)
  rw [Heap.size_push] at ok
  exact ok.apart
theorem cells_hc {cm : Str → Option Value} {cs : List (Str × Addr)} {cells : List (Addr × Obj)} (X : CellsAre cm cs cells) : ∀ y k, cs.lookup y = some k → ∃ o v, (k, o) ∈ cells ∧ o.data = .cell v := by
  induction X with
  | nil => intro y k e; cases e
  | @cons n' c' o cs cells hd _ ih =>
    intro y k e
    rw [List.lookup_cons] at e
    cases hb : y == n' with
    | true => rw [hb] at e; cases e; exact ⟨o, _, .head _, hd⟩
    | false => rw [hb] at e; obtain ⟨o', v, h1, h2⟩ := ih y k e; exact ⟨o', v, .tail _ h1, h2⟩
/-- the law's own frame, as it stands when its body begins -/
theorem FW.enter {c : Cx} {h₀ h₁ : Heap} {name : Str} {scope : Scope} {fa : Addr} {cd : Value} {m : Str → Option Value} {news : List (Addr × Obj)} {x : String} {a : Addr} {ns : List Int}
    (hk : scope.kind = .function) (ok : c.Ok h₀) (F : Fr h₀ h₀.objs.size h₁ m) (N : News h₀ h₀.objs.size h₁ news)
    (hc : ∀ y k, (cellsFrom (h₀.objs.size + 1) scope.names []).lookup y = some k → ∃ o v, (k, o) ∈ news ∧ o.data = .cell v)
    (hx : scope.names.lookup (Str.ofString x) = some .local) (hm : m (Str.ofString x) = some (.ref a)) (hw : Well c.w.params h₀ (.ref a) (ofPy (PyData.list (ns.map PyData.int)))) :
    FW c h₀ (envOfC name scope h₀.objs.size fa cd) (fun _ => False) (fun b => b = h₀.objs.size ∨ ∃ y, (cellsFrom (h₀.objs.size + 1) scope.names []).lookup y = some b) h₁ (upd (fun _ => none) x (.fz (.lst (ns.map D.int)))) := by
  have fresh : ∀ b, (b = h₀.objs.size ∨ ∃ y, (cellsFrom (h₀.objs.size + 1) scope.names []).lookup y = some b) → h₀.get? b = none := by
    rintro b (rfl | ⟨y, hy⟩)
    · exact get_size _
    · obtain ⟨o, v, hmem, _⟩ := hc y b hy
      exact (N _ hmem).2.2
  have none_of : ∀ (y : String) (sl : Sl), upd (fun _ => none) x (.fz (.lst (ns.map D.int))) y = some sl → y = x ∧ sl = .fz (.lst (ns.map D.int)) := by
    intro y sl e
    unfold upd at e
    by_cases q : y = x
    · rw [if_pos q] at e; cases e; exact ⟨q, rfl⟩
    · rw [if_neg q] at e; cases e
  have na : ¬ Both (fun _ => False) (fun b => b = h₀.objs.size ∨ ∃ y, (cellsFrom (h₀.objs.size + 1) scope.names []).lookup y = some b) a := by
    rintro (z | z)
    · exact z
    · have e := fresh a z
      cases hw with
      | list e' _ => rw [e] at e'; cases e'
  refine ⟨⟨hk, rfl, rfl, .inl rfl, ?_, fun _ _ z => z, ⟨m, F.ns, ?_, ?_⟩, ?_, ?_⟩, ok, F.keep, fresh, fun _ y k e => .inr ⟨y, e⟩⟩
  · rintro b (z | rfl | ⟨y, hy⟩)
    · exact z.elim
    · obtain ⟨o, _, _, e, _⟩ := F.ns; exact ⟨o, e⟩
    · obtain ⟨o, v, hmem, _⟩ := hc y b hy
      exact ⟨o, N.get hmem⟩
  · intro y sl e
    obtain ⟨rfl, rfl⟩ := none_of y sl e
    exact ⟨.ref a, .inl ⟨hx, hm⟩, (well_list hw na).g F.keep⟩
  · intro y z dx dy b e1
    obtain ⟨_, e⟩ := none_of y _ e1; cases e
  · intro y z b d C D fs gs e1
    obtain ⟨_, e⟩ := none_of y _ e1; cases e
  · intro y k e
    refine ⟨?_, fun z ez => name_of_addr (cells_apart h₀ scope.names) (mem_of_lookup ez) (mem_of_lookup e)⟩
    obtain ⟨o, v, hmem, hd⟩ := hc y k e
    exact ⟨v, o, N.get hmem, hd⟩
end Mine
end
section
open PySem PySem.W PyProof.Rows PySem.Calls PySem.Builtin PySem.Builtin.Str
set_option autoImplicit false
namespace Mine
noncomputable def tokOf : Value → Nat
  | .str _ t => t
  | _ => 0
/-- marks that are told apart -/
noncomputable def JT (l : List Value) (tk : Nat) : Prop := (∀ v ∈ l, 1 ≤ tokOf v ∧ tokOf v < tk) ∧ (l.map tokOf).Pairwise (· ≠ ·)
theorem JT.zero : ∀ tk, JT [] tk := fun _ => ⟨fun _ h => (nomatch h), .nil⟩
theorem JT.up : ∀ l tk tk', tk ≤ tk' → JT l tk → JT l tk' := fun _ _ _ h j => ⟨fun v hv => ⟨(j.1 v hv).1, Nat.lt_of_lt_of_le (j.1 v hv).2 h⟩, j.2⟩
theorem JT.snoc {l : List Value} {x : Str} {t0 t : Nat} (h0 : t0 ≤ t) (h1 : 1 ≤ t) (j : JT l t0) : JT (l ++ [.str x t]) (t + 1) := by
  refine ⟨fun v hv => ?_, ?_⟩
  · rcases List.mem_append.mp hv with h | h
    · have := j.1 v h; omega
    · cases List.mem_singleton.mp h
      exact ⟨h1, Nat.lt_succ_self _⟩
  · rw [List.map_append, List.pairwise_append]
    refine ⟨j.2, by simp, fun a ha b hb => ?_⟩
    obtain ⟨v, hv, rfl⟩ := List.mem_map.mp ha
    have hb : b = t := by simpa [tokOf] using hb
    have := (j.1 v hv).2
    rw [hb]
    omega
section
variable {c : Cx} {n : Nat} {env : Env} {ρ : Rho}
/-- chr(l + r), with its mark -/
theorem EvalsJ.chr {np bp pos : Pos} {l r : Expr} {a b : Int} (hc : Callee c env (.Name (Str.ofString "chr") np) (.builtin "chr")) (hl : Evals c n env ρ l (.int a)) (hr : Evals c n env ρ r (.int b)) (h0 : 0 ≤ a + b) (h1 : a + b ≤ 0x10FFFF) :
    EvalsJ c n env ρ (.Call (.Name (Str.ofString "chr") np) [.BinOp l .Add r bp] [] pos) (.str ⟨#[(a + b).toNat]⟩) JT := by
  intro A Z U s Q ao ok F hQ
  refine Call_Name (backTo_eq pos env _ rfl) (hc A Z U s ρ _ ok F ?_)
  refine callWith_of (P := c.Ok) (by simp) (keeper_ok (c := c) (f := .builtin "chr") trivial) ?_
  refine evalArgs_plain ?_
  refine spliced_cons (wpAny_up (wpAny_BinOp (hl A Z U s _ ao ok F fun v1 h1 tk1 g1 e1 => hr A Z U _ _ ao (ok.g g1) (F.g g1) fun v2 h2 tk2 g2 e2 => ?_)))
  cases e1 with | int _ t1 =>
  cases e2 with | int _ t2 =>
  refine add_int fun hle => spliced_nil ⟨ok.g (g1.trans g2), ?_⟩
  dsimp only at hle ⊢
  refine P.chr_of_int (by rw [Bool.or_eq_false_iff]; exact ⟨decide_eq_false (by omega), decide_eq_false (by omega)⟩) ?_
  exact hQ _ _ _ (g1.trans g2) (.str _ _) fun l j => JT.snoc (t := tk2 + 1) hle (Nat.succ_le_succ (Nat.zero_le _)) j
theorem Evals.forget {e : Expr} {x : Str} {t : Tok} (h : Evals c n env ρ e (.strT x t)) : Evals c n env ρ e (.str x) := by
  intro A Z U s Q ao ok F hQ
  exact h A Z U s _ ao ok F fun v h' tk g dv => by
    cases dv
    exact hQ _ _ _ g (.str _ _)
theorem toks_of {S : AS} {h : Heap} : ∀ {xs : List Str} {vs : List Value}, DenL S h vs (xs.map D.str) → DenL S h vs (List.zipWith D.strT xs (vs.map tokOf))
  | [], vs, x => by
    obtain rfl : vs = [] := x.inv
    exact .nil
  | y :: ys, vs, x => by
    obtain ⟨v, ws, rfl, d, l⟩ : ∃ v ws, vs = v :: ws ∧ Den S h v (.str y) ∧ DenL S h ws (ys.map D.str) := x.inv
    obtain ⟨t, rfl⟩ : ∃ t, v = .str y t := d.inv
    exact .cons (.strT _ _) (toks_of l)
-- str.replace of one sign by another
theorem map_free (p q : Nat) : ∀ l : List Nat, p ∉ l → l.map (fun x => if x = p then q else x) = l
  | [], _ => rfl
  | k :: r, h => by
    have h1 : ¬ k = p := fun e => h (by rw [e]; exact List.mem_cons_self ..)
    rw [List.map_cons, map_free p q r fun m => h (List.mem_cons_of_mem _ m), if_neg h1]
theorem sub_join (p q : Nat) : ∀ parts : List Str, (∀ a ∈ parts, p ∉ a.cps.toList) → (Str.join ⟨#[p]⟩ parts).cps.toList.map (fun x => if x = p then q else x) = (Str.join ⟨#[q]⟩ parts).cps.toList
  | [], _ => rfl
  | [a], h => map_free p q _ (h a (List.mem_singleton.mpr rfl))
  | a :: b :: r, h => by
    have ih := sub_join p q (b :: r) fun x hx => h x (List.mem_cons_of_mem _ hx)
    show (a ++ ⟨#[p]⟩ ++ Str.join ⟨#[p]⟩ (b :: r)).cps.toList.map (fun x => if x = p then q else x) = (a ++ ⟨#[q]⟩ ++ Str.join ⟨#[q]⟩ (b :: r)).cps.toList
    simp only [Str.cps_append, Array.toList_append, List.map_append]
    rw [ih, map_free p q _ (h a (List.mem_cons_self ..))]
    simp
theorem replace_map (l : List Nat) (p q : Nat) : Txt.replace (S l) (S [p]) (S [q]) = S (l.map fun x => if x = p then q else x) := by
  have e : (Txt.replace (S l) ⟨#[p]⟩ ⟨#[q]⟩).cps.toList = l.map fun x => if x = p then q else x := by
    rw [StrLaws.replace_one, ← sub_join p q _ (StrLaws.split_free (S l) p), StrLaws.join_split, S_toList]
  show Txt.replace (S l) ⟨#[p]⟩ ⟨#[q]⟩ = _
  rw [← e]
  simp [S]
theorem gives_replace_same (x y z : Str) (t u : Tok) (h0 : u ≠ 0) : Gives («str.replace» ⟨[.str x t, .str y u, .str z u], []⟩) (.val (.str x t)) := by
  show Gives (if ((occurrences x y 0 x.length (x.length + 1)).isEmpty || (y.length == 0 && z.length == 0)) = true then (do rule "str.replace.nothing"; ret (.str x t)) else
          (do let same ← isSame (.str y u) (.str z u)
              if same = true then (do rule "str.replace.old-is-new"; ret (.str x t)) else
              if tooLong (x.length + (occurrences x y 0 x.length (x.length + 1)).length * z.length) = true then unsupported "str.replace:memory" else
              retStr (glued z (partsBetween x (occurrences x y 0 x.length (x.length + 1)) y.length)))) _
  cases hc : ((occurrences x y 0 x.length (x.length + 1)).isEmpty || (y.length == 0 && z.length == 0))
  · have e : isSame (.str y u) (.str z u) = pure true := by
      show (if (u == 0 || u == 0) = true then _ else if (u == u) = true then _ else if (!(y == z)) = true then pure false else _ : Sem Bool) = _
      have h0' : (u == 0) = false := by simpa using h0
      rw [h0']
      simp
    rw [e]
    exact .rule (.of_eq rfl)
  · exact .rule (.of_eq rfl)
theorem Fun.replaceS {l : List Nat} {p q : Nat} {u v : Tok} (hl : l.length ≤ 1000) (hu : u ≠ 0) (hv : v ≠ 0) (he : p = q → u = v) (hn : p ≠ q → u ≠ v) :
    Fun c n (.builtin "str.replace") [.str (S l), .strT (S [p]) u, .strT (S [q]) v] (.str (S (l.map fun x => if x = p then q else x))) := fun A S' s Q vs ao ok lv dl hQ => by
  obtain ⟨_, _, rfl, d, r⟩ := dl.inv
  obtain ⟨_, _, rfl, d2, r⟩ := r.inv
  obtain ⟨_, _, rfl, d3, r⟩ := r.inv
  obtain rfl := r.inv
  obtain ⟨t, rfl⟩ := d.inv
  obtain rfl := d2.inv
  obtain rfl := d3.inv
  by_cases e : p = q
  · subst e
    cases he rfl
    refine call_gives F.slot_str_replace (typeIs_str _ _ _) F.entry_str_replace (F.args_str_replace_3 _ _ _) (gives_replace_same _ _ _ _ _ hu) ?_
    have : (l.map fun x => if x = p then p else x) = l := by
      conv => rhs; rw [← List.map_id l]
      exact List.map_congr_left fun x _ => by split <;> simp_all
    rw [this] at hQ
    exact hQ _ s.heap s.toks G.rfl (.str _ _)
  · refine SC.replace hu hv (hn e) ?_ ?_ fun t' k => ?_
    · rw [S_eq]; simp [e]
    · rw [S_len, S_len]; simp; omega
    · rw [replace_map]
      exact hQ _ s.heap k G.rfl (.str _ _)
-- the greater and the lesser of a list of two
theorem two_items {S : AS} {h : Heap} {vs : List Value} {a b : Int} (dl : DenL S h vs [.int a, .int b]) : ∃ t u, vs.toArray = intItems #[(a, t), (b, u)] := by
  obtain ⟨_, _, rfl, d, r⟩ := dl.inv
  obtain ⟨_, _, rfl, d2, r⟩ := r.inv
  obtain rfl := r.inv
  obtain ⟨t, rfl⟩ := d.inv
  obtain ⟨u, rfl⟩ := d2.inv
  exact ⟨t, u, by simp [intItems]⟩
theorem Fun.maxL {a b : Int} : Fun c n (.builtin "max") [.lst [.int a, .int b]] (.int (if b > a then b else a)) := fun A S s Q vs ao ok lv dl hQ => by
  obtain ⟨_, _, rfl, d, r⟩ := dl.inv
  obtain rfl := r.inv
  obtain ⟨_, _, _, rfl, ns, e, dl⟩ := d.inv
  obtain ⟨t, u, hv⟩ := two_items dl
  refine max_intList (xs := #[(a, t), (b, u)]) ao.handled (by rw [← hv]; exact isList_of e) (by simp) fun v h' tk hP g => hQ v h' tk g ?_
  by_cases q : b > a
  · rw [if_pos q]
    simp [argBest, numAt, intItems, q] at hP
    rw [← hP]; exact .int _ _
  · rw [if_neg q]
    simp [argBest, numAt, intItems, q] at hP
    rw [← hP]; exact .int _ _
theorem Fun.minL {a b : Int} : Fun c n (.builtin "min") [.lst [.int a, .int b]] (.int (if b < a then b else a)) := fun A S s Q vs ao ok lv dl hQ => by
  obtain ⟨_, _, rfl, d, r⟩ := dl.inv
  obtain rfl := r.inv
  obtain ⟨_, _, _, rfl, ns, e, dl⟩ := d.inv
  obtain ⟨t, u, hv⟩ := two_items dl
  refine min_intList (xs := #[(a, t), (b, u)]) ao.handled (by rw [← hv]; exact isList_of e) (by simp) fun v h' tk hP g => hQ v h' tk g ?_
  by_cases q : b < a
  · rw [if_pos q]
    simp [argBest, numAt, intItems, q] at hP
    rw [← hP]; exact .int _ _
  · rw [if_neg q]
    simp [argBest, numAt, intItems, q] at hP
    rw [← hP]; exact .int _ _
end
end Mine
end
section
open PySem PySem.W PyProof.Rows PySem.Calls
set_option autoImplicit false
namespace Mine
theorem bindL_get {kd : Str → Option NameKind} {x : Str} (hx : kd x = some .local) : ∀ (bs : List (Str × Value)) (m : Str → Option Value), bindL kd bs m x = (bs.reverse.lookup x).or (m x)
  | [], m => rfl
  | (y, v) :: r, m => by
    show bindL kd r _ x = _
    rw [bindL_get hx r, List.reverse_cons, List.lookup_append]
    cases q : List.lookup x r.reverse with
    | some d => simp
    | none =>
      by_cases e : x = y
      · subst e; simp [hx]
      · have q1 : (x == y) = false := by simpa using e
        split <;> simp [e, List.lookup_cons, q1]
theorem bindC_get {kd : Str → Option NameKind} {x : Str} (hx : kd x = some .cell) : ∀ (bs : List (Str × Value)) (m : Str → Option Value), bindC kd bs m x = (bs.reverse.lookup x).or (m x)
  | [], m => rfl
  | (y, v) :: r, m => by
    show bindC kd r _ x = _
    rw [bindC_get hx r, List.reverse_cons, List.lookup_append]
    cases q : List.lookup x r.reverse with
    | some d => simp
    | none =>
      by_cases e : x = y
      · subst e; simp [hx]
      · have q1 : (x == y) = false := by simpa using e
        split <;> simp [e, List.lookup_cons, q1]
theorem lookup_of_isSome {cs : List (Str × Addr)} {x : Str} (h : (cs.lookup x).isSome = true) : ∃ k, cs.lookup x = some k := Option.isSome_iff_exists.mp h
section
variable {c : Cx} {n : Nat}
/-- a def some of whose parameters are read by a comprehension -/
theorem Fun.defC {f : Addr} {names : List String} {ds : List D} {d : D} {name qual : Str} {params : Arguments} {body : List Stmt} {scope : Scope} {dV kV doc pm cdv ct oc : Value} {an od : Option Addr} {osl : Array (Option Value)}
    (ho : c.K.lookup f = some ⟨oc, od, .func (fnOf name qual params body scope dV kV doc pm an cdv ct), osl⟩) (hcd : codeIn c.K cdv qual = true)
    (hbind : ∀ vs : List Value, vs.length = names.length → bindArgs (fnOf name qual params body scope dV kV doc pm an cdv ct) ⟨vs, []⟩ = pure ((names.map Str.ofString).zip vs))
    (hloc : ∀ x ∈ names, scope.names.lookup (Str.ofString x) = some .local ∨ (scope.names.lookup (Str.ofString x) = some .cell ∧ ((cellsFrom 0 scope.names []).lookup (Str.ofString x)).isSome = true)) (hl : names.length = ds.length)
    (run : ∀ L, Runs c n (envOfC qual scope L f cdv) (bindD names ds fun _ => none) body (fun o => o = .ret d ∨ (d = .none ∧ ∃ ρ, o = .next ρ)))
    (hfr : ∀ A, c.fr A := by intro _; trivial) (hco : scope.isCoroutine = false := by rfl) (hgen : scope.isGenerator = false := by rfl) (hk : scope.kind = .function := by rfl) : Fun c (n + 1) (.ref f) ds d := by
  have run : ∀ L, Runs c n (envOfC qual scope L f cdv) (rho0 names ds) body (fun o => o = .ret d ∨ (d = .none ∧ ∃ ρ, o = .next ρ)) := fun L => by rw [rho0_eq]; exact run L
  have hsome : ∀ (k : Nat) (x : Str), ((cellsFrom 0 scope.names []).lookup x).isSome = true → ((cellsFrom k scope.names []).lookup x).isSome = true := by
    intro k x h
    have e := cellsFrom_names scope.names 0 k [] [] rfl
    have key : ∀ (l : List (Str × Addr)), (l.lookup x).isSome = (l.map (·.1)).contains x := by
      intro l
      induction l with
      | nil => rfl
      | cons p r ih =>
        rw [List.lookup_cons, List.map_cons, List.contains_cons]
        cases q : x == p.1 <;> simp [ih]
    rw [key] at h ⊢
    rw [← e]; exact h
  intro A S s Q vs ao ok live dl hQ
  have hvl : vs.length = names.length := by rw [dl.length, hl]
  have hLn : s.heap.get? s.heap.objs.size = none := get_size _
  refine wpAny_call (codeAny_call_cells (fd := fnOf name qual params body scope dV kV doc pm an cdv ct) (body := body) (binds := (names.map Str.ofString).zip vs) (by have := ao.depth; omega) (ok.1 _ _ ho) rfl ok.2.nolimit (codeRec_of ok.1 hcd) rfl
    (hbind vs hvl) rfl (fun x hx => ?_) (fun s₁ X => ?_) hco hgen hk)
  · have := (List.of_mem_zip hx).1
    obtain ⟨y, hy, e⟩ := List.mem_map.mp this
    rw [← e]
    exact (hloc y hy).imp id fun ⟨a, b⟩ => ⟨a, hsome _ _ b⟩
  · obtain ⟨⟨⟨h₁, tk, rfl⟩, hns, hk₁, hfresh⟩, hcell, hap, hab⟩ := X
    dsimp only at hns hk₁ hcell hap hab
    have nS : ¬ S s.heap.objs.size := fresh_of live hLn
    let U : AS := fun b => b = s.heap.objs.size ∨ ∃ y, (cellsFrom (s.heap.objs.size + 1) scope.names []).lookup y = some b
    have hU : ∀ b, U b → s.heap.get? b = none := by
      rintro b (rfl | ⟨y, hy⟩)
      · exact hLn
      · exact Heap.get?_none_of_le (Nat.le_of_lt (hab y b (mem_of_lookup hy)))
    have FS0 : FS (envOfC qual scope s.heap.objs.size f cdv) S U h₁ (rho0 names ds) := by
      have none_of : ∀ (x : String) (sl : Sl), rho0 names ds x = some sl → ∃ d', sl = .fz d' ∧ (names.zip ds).reverse.lookup x = some d' := fun x sl e => by
        unfold rho0 at e
        cases q : (names.zip ds).reverse.lookup x with
        | none => rw [q] at e; cases e
        | some d' => rw [q] at e; cases e; exact ⟨_, rfl, rfl⟩
      refine ⟨hk, rfl, rfl, .inl rfl, fun a sa => ?_, fun a ua sa => ?_, ⟨_, hns, fun x sl e => ?_, fun x y dx dy a e1 => ?_⟩, fun x y a b C D fs gs e1 => ?_, fun x k e => ?_⟩
      · rcases sa with sa | rfl | ⟨y, hy⟩
        · obtain ⟨o, e⟩ := live a sa; exact ⟨o, hk₁ _ _ e⟩
        · obtain ⟨o, _, _, e, _⟩ := hns; exact ⟨o, e⟩
        · obtain ⟨o, e, _⟩ := hcell y a hy; exact ⟨o, e⟩
      · obtain ⟨o, e⟩ := live a sa
        rw [hU a ua] at e; cases e
      · obtain ⟨d', rfl, q⟩ := none_of x sl e
        have dl' : DenL (Both S U) h₁ vs ds := dl.mono fun b o nb eb => by
          refine ⟨fun z => ?_, hk₁ _ _ eb⟩
          rcases z with z | z
          · exact nb z
          · rw [hU b z] at eb; cases eb
        obtain ⟨v, hv, dv⟩ := lookup_pairs (zip_rev hl dl') x d' q
        have hm : x ∈ names := by
          have h1 := List.mem_reverse.mp (mem_lookupS q)
          exact (List.of_mem_zip h1).1
        rcases hloc x hm with hx | ⟨hx, hs⟩
        · refine ⟨v, .inl ⟨hx, ?_⟩, dv⟩
          rw [bindL_get (show (callEnvC (fnOf name qual params body scope dV kV doc pm an cdv ct) s.heap.objs.size f).kindOf (Str.ofString x) = some .local from hx), hv]
          rfl
        · obtain ⟨k, hk⟩ := lookup_of_isSome (hsome (s.heap.objs.size + 1) _ hs)
          refine ⟨v, .inr ⟨.inl hx, k, hk, ?_⟩, dv⟩
          have := hcell _ k hk
          rw [bindC_get (show (callEnvC (fnOf name qual params body scope dV kV doc pm an cdv ct) s.heap.objs.size f).kindOf (Str.ofString x) = some .cell from hx), hv] at this
          exact this
      · obtain ⟨_, e, _⟩ := none_of x _ e1; cases e
      · obtain ⟨_, e, _⟩ := none_of x _ e1; cases e
      · exact ⟨⟨_, hcell x k e⟩, fun z ez => name_of_addr hap (mem_of_lookup ez) (mem_of_lookup e)⟩
    have FW0 : FW c s.heap (envOfC qual scope s.heap.objs.size f cdv) S U h₁ (rho0 names ds) :=
      ⟨FS0, ok, hk₁, hU, fun _ x k e => .inr ⟨x, e⟩⟩
    refine wpAny_mono (run s.heap.objs.size (A.deeper _) s.heap S U { s with heap := h₁, toks := tk } (ao.deeper hfr _) FW0) (fun fl s' P => ?_) fun _ _ x => x.elim
    obtain ⟨h', tk', U', out, rfl, g, _, _, _, l, p⟩ := P
    rcases p with rfl | ⟨rfl, ρ', rfl⟩
    · cases fl with
      | ret v => exact hQ v h' tk' g (l.mono fun b o nb e => ⟨fun sb => nb (.inl sb), e⟩)
      | _ => exact l.elim
    · cases fl with
      | next => exact hQ .none h' tk' g .none
      | _ => exact l.elim
end
end Mine
end
section
open PySem PySem.W PyProof.Rows PySem.Calls
set_option autoImplicit false
namespace Mine
section
variable {c : Cx} {n : Nat} {env : Env} {ρ : Rho} {Φ : Out → Prop}
/-- x = [e for t in i], with what the new values' marks tell; x is no name of the comprehension's own frame -/
theorem Run1.assignJ {x : String} {px spos : Pos} {target elt iter : Expr} {ifs : List Expr} {scope : Scope} {cl : List (Str × Addr)} {pos : Pos} {d : D} {ds : List D} {ρ₀ : Rho} (f : D → Option D) (J : List Value → Nat → Prop) (hJ0 : ∀ tk, J [] tk) (hJm : ∀ l tk tk', tk ≤ tk' → J l tk → J l tk')
    (st : Stores env x) (hit : Evals c n env ρ iter d) (hi : Iters c d ds) (hin : Inner env scope cl ρ ρ₀)
    (turn : ∀ (C : Addr) (k : Nat) (d : D), ds[k]? = some d → Asg c n (compEnvC scope cl C env) target ρ₀ d fun ρ' => (∀ x sl, ρ₀ x = some sl → ρ' x = some sl) ∧
      ∃ b, TestsIf c n (compEnvC scope cl C env) ρ' ifs b ∧ (b = false → f d = none) ∧ (b = true → ∃ e, EvalsJ c n (compEnvC scope cl C env) ρ' elt e J ∧ f d = some e))
    (p : ∀ (vs : List Value) (tk : Nat), J vs tk → vs.length = (ds.filterMap f).length → ∃ es : List D, (∀ (S : AS) (h : Heap), DenL S h vs (ds.filterMap f) → DenL S h vs es) ∧ Φ (.next (upd ρ x (.fz (.lst es)))))
    (hlen : ds.length ≤ sizeLine) (hsw : swapsWith (.ListComp elt [⟨target, iter, ifs, 0⟩] scope pos) (some (.Name (Str.ofString x) px)) spos.line env = pure false := by rfl)
    (hclos : closureFor scope env = pure cl := by rfl) (hok : compOk scope = true := by decide +kernel) (hkind : scope.kind = .function := by rfl)
    (hcl : SubCl env cl)
    (hs : ∀ x, foldedSetIterable iter env x = pure x := by intro _; rfl) : Run1 c n env ρ (.Assign [.Name (Str.ofString x) px] (.ListComp elt [⟨target, iter, ifs, 0⟩] scope pos) spos) Φ := by
  obtain ⟨hcell, hnames⟩ := compOk_of hok
  intro A h₀ Z U s ao F
  refine wpAny_Assign_Name ?_ hsw
  rw [eval_ListComp]
  refine comp_coreJ f J hJ0 hJm hit hi hin hclos hcell hkind hnames hcl turn hlen hs ao F.okh F.fs fun Dr C h' tk m' ys hD hC hDC g hn hp dl hj => ⟨m', hn, fun h'' hs'' => ?_⟩
  obtain ⟨es, hes, p⟩ := p _ _ hj dl.length
  replace dl := hes _ _ dl
  obtain ⟨k, e⟩ := hp
  have kk : ∀ b o, b ≠ C → h'.get? b = some o → h''.get? b = some o := fun b o nb e => (hs''.2 b nb).trans e
  have g' : G s.heap h'' := fun b o e => kk b o (by rintro rfl; rw [hC] at e; cases e) (g b o e)
  have dv : Den (Both Z U) h'' (.ref Dr) (.lst es) := .lst (vs := ys.toList) (n := k) (F.fs.fresh hD) (by simpa using kk _ _ hDC e) (dl.mono fun b o nb eb => ⟨fun q => nb (.inl q), kk b o (fun q => nb (.inr (.inr q))) eb⟩)
  exact F.stored g' st dv fun h2 tk2 F2 kb => ⟨h2, tk2, U, .next _, rfl, F2.base, kb, fun _ q => .inl q, F.off, F2, p⟩
/-- texts of one sign each, with marks that are told apart -/
structure Told (tk : Nat → Nat) (m : Nat) : Prop where
  pos : ∀ k, k < m → tk k ≠ 0
  ne : ∀ i j, i < m → j < m → i ≠ j → tk i ≠ tk j
noncomputable def signsT (sg : Nat) (tk : Nat → Nat) (m : Nat) : List D := (List.range m).map fun k => D.strT (S [sg + k]) (tk k)
theorem told_of {sg m : Nat} {vs : List Value} {t : Nat} (j : JT vs t) (hl : vs.length = m) : ∃ tk, Told tk m ∧ ∀ (Z : AS) (h : Heap), DenL Z h vs ((List.range m).map fun k => D.str (S [sg + k])) → DenL Z h vs (signsT sg tk m) := by
  refine ⟨fun k => (vs.map tokOf).getD k 0, ⟨fun k hk => ?_, fun i i' hi hi' ne => ?_⟩, fun Z h dl => ?_⟩
  · have hk' : k < vs.length := by omega
    have := (j.1 vs[k] (List.getElem_mem hk')).1
    simp only [List.getD_eq_getElem?_getD, List.getElem?_map, List.getElem?_eq_getElem hk', Option.map_some, Option.getD_some]
    omega
  · have h1 : i < (vs.map tokOf).length := by simp; omega
    have h2 : i' < (vs.map tokOf).length := by simp; omega
    show (vs.map tokOf).getD i 0 ≠ (vs.map tokOf).getD i' 0
    rw [List.getD_eq_getElem?_getD, List.getD_eq_getElem?_getD, List.getElem?_eq_getElem h1, List.getElem?_eq_getElem h2]
    have pw := List.pairwise_iff_getElem.mp j.2
    rcases Nat.lt_or_gt_of_ne ne with q | q
    · exact pw i i' h1 h2 q
    · exact (pw i' i h2 h1 q).symm
  · have e : ((List.range m).map fun k => D.str (S [sg + k])) = ((List.range m).map fun k => S [sg + k]).map D.str := by rw [List.map_map]; rfl
    rw [e] at dl
    have := toks_of dl
    have e2 : List.zipWith D.strT ((List.range m).map fun k => S [sg + k]) (vs.map tokOf) = signsT sg (fun k => (vs.map tokOf).getD k 0) m := by
      apply List.ext_getElem
      · simp [signsT, hl]
      · intro i h1 h2
        simp only [signsT, List.getElem_zipWith, List.getElem_map, List.getElem_range]
        congr 1
        rw [List.getD_eq_getElem?_getD, List.getElem?_eq_getElem (by simpa using by simp at h1; omega)]
        simp
    rw [e2] at this
    exact this
end
end Mine
end
section
open PySem PySem.W PyProof.Rows
set_option autoImplicit false
namespace Mine
theorem k_257 : Str.ofString "257" = S [50, 53, 55] := by decide +kernel
theorem k_sq : Str.ofString " \"" = S [32, 34] := by decide +kernel
theorem k_q : Str.ofString "\"" = S [34] := by decide +kernel
theorem k_e : Str.ofString "" = S [] := by decide +kernel
theorem k_dots : Str.ofString "..." = S [46, 46, 46] := by decide +kernel
theorem k_sp : Str.ofString " " = S [32] := by decide +kernel
theorem k_tab : Str.ofString "\t" = S [9] := by decide +kernel
theorem k_257q : Str.ofString "257 \"" = S [50, 53, 55, 32, 34] := by decide +kernel
theorem k_made : Str.ofString "\" made" = S [34, 32, 109, 97, 100, 101] := by decide +kernel
theorem k_nl : Str.ofString "\"\n\"b\" \"" = S [34, 10, 34, 98, 34, 32, 34] := by decide +kernel
theorem clip_nat {n k : Nat} (h : k ≤ n) : clipAt n (k : Int) = k := by
  have := clipAt_cast n (k : Int)
  omega
theorem clip_neg1 (n : Nat) : clipAt n (-1) = n - 1 := by
  have := clipAt_cast n (-1)
  omega
theorem sl_to (l : List Nat) (k : Nat) (h : k ≤ l.length) : sl l none (some (k : Int)) = l.take k := by
  unfold sl
  simp only [Option.elim, clip_nat h, List.drop_zero, Nat.sub_zero]
theorem sl_mid (l : List Nat) (a k : Nat) (h : k ≤ l.length) (ha : a ≤ k) : sl l (some (a : Int)) (some (k : Int)) = (l.drop a).take (k - a) := by
  unfold sl
  simp only [Option.elim, clip_nat h, clip_nat (Nat.le_trans ha h)]
theorem sl_from' (l : List Nat) (i : Int) (k : Nat) (e : i = k) (h : k ≤ l.length) : sl l (some i) none = l.drop k := by
  subst e
  unfold sl
  simp only [Option.elim, clip_nat h]
  exact List.take_of_length_le (by rw [List.length_drop]; exact Nat.le_refl _)
theorem dslice_from (L : List D) (k : Nat) (h : k ≤ L.length) : dslice L (some k) none = L.drop k := by
  unfold dslice
  simp only [Option.elim, clip_nat h]
  exact List.take_of_length_le (by rw [List.length_drop]; exact Nat.le_refl _)
theorem hv1 (a b : Nat) : (if ((b : Nat) : Int) < (a : Nat) then ((b : Nat) : Int) else (a : Nat)) = ((min a b : Nat) : Int) := by split <;> omega
theorem hv2 (a b : Nat) : (if ((b : Nat) : Int) > (a : Nat) then ((b : Nat) : Int) else (a : Nat)) - (if ((b : Nat) : Int) < (a : Nat) then ((b : Nat) : Int) else (a : Nat)) = ((max a b - min a b : Nat) : Int) := by split <;> split <;> omega
theorem hv3 {x y n : Nat} (hx : x ≤ n) (hy : y ≤ n) : max x y - min x y ≤ n := by omega
theorem szs {n : Nat} (h : Nat.ble n 16777216 = true) : n ≤ sizeLine := by rw [sizeLine_eq]; exact Nat.le_of_ble_eq_true h
theorem vs1 {vs : List Value} (h : vs.length = 1) : ∃ a, vs = [a] := by
  cases vs with
  | nil => cases h
  | cons a r => cases r with
    | nil => exact ⟨a, rfl⟩
    | cons _ _ => cases h
theorem vs2 {vs : List Value} (h : vs.length = 2) : ∃ a b, vs = [a, b] := by
  cases vs with
  | nil => cases h
  | cons a r => obtain ⟨b, rfl⟩ := vs1 (vs := r) (Nat.succ.inj h); exact ⟨a, b, rfl⟩
theorem vs4 {vs : List Value} (h : vs.length = 4) : ∃ a b c d, vs = [a, b, c, d] := by
  cases vs with
  | nil => cases h
  | cons a r => cases r with
    | nil => cases h
    | cons b r => obtain ⟨c, d, rfl⟩ := vs2 (vs := r) (Nat.succ.inj (Nat.succ.inj h)); exact ⟨a, b, c, d, rfl⟩
end Mine
end
section
open PySem PySem.W PyProof.Rows PySem.Calls
set_option autoImplicit false
namespace Mine
set_option maxRecDepth 100000
section
variable {w : World} {mg mb : Str → Option Value}
noncomputable abbrev c2 (w : World) (mg mb : Str → Option Value) : Cx := ⟨PySem.Challenge.pw_tl0020_02, w, Mine.hd2.heap_39 w.params, Mine.hd2.view_39, looseW Mine.hd2.view_39 [Str.ofString "Whitespace"], mg, mb, fun _ => True⟩
theorem g_len : nsIn (Mine.hd2.heap_39 w.params) mainGlobals (Str.ofString "len") = some none := by rfl
theorem g_marker : ∃ t, nsIn (Mine.hd2.heap_39 w.params) mainGlobals (Str.ofString "ELLIPSIS_MARKER") = some (some (.str (S dots) t)) := by rw [← k_dots]; exact ⟨_, rfl⟩
theorem g_parse : nsIn (Mine.hd2.heap_39 w.params) mainGlobals (Str.ofString "parse257") = some (some (.ref 126)) := by rfl
theorem g_tuple : nsIn (Mine.hd2.heap_39 w.params) mainGlobals (Str.ofString "tuple") = some none := by rfl
theorem g_ws : nsIn (Mine.hd2.heap_39 w.params) mainGlobals (Str.ofString "Whitespace") = some (some (.ref 83)) := by rfl
theorem q_make : makesIn (Mine.hd2.heap_39 w.params) 83 = true := by rfl
theorem q_init : findIn (Mine.hd2.heap_39 w.params) (.ref 83) "__init__" = some (some (.ref 38)) := by rfl
theorem q_fn : typeIn (Mine.hd2.heap_39 w.params) (.ref 38) = some (.type "function") := by rfl
theorem q_plain : PlainC (c2 w mg mb) 83 := ⟨by rfl, by rfl⟩
theorem q_set : findIn (Mine.hd2.heap_39 w.params) (.ref 83) "__setattr__" = some (some (.builtin "object.__setattr__")) := by rfl
theorem q_over : plainOver (Mine.hd2.heap_39 w.params) 83 = true := by rfl
theorem q_t1 : takerIn (Mine.hd2.heap_39 w.params) 83 (Str.ofString "raw") = some none := by rfl
theorem q_t2 : takerIn (Mine.hd2.heap_39 w.params) 83 (Str.ofString "n") = some none := by rfl
theorem q_t3 : takerIn (Mine.hd2.heap_39 w.params) 83 (Str.ofString "nt") = some none := by rfl
theorem q_t4 : takerIn (Mine.hd2.heap_39 w.params) 83 (Str.ofString "norm") = some none := by rfl
theorem q_t5 : takerIn (Mine.hd2.heap_39 w.params) 83 (Str.ofString "is_simple") = some none := by rfl
theorem q_f1 : findIn (Mine.hd2.heap_39 w.params) (.ref 83) (Str.ofString "raw") = some none := by rfl
theorem q_read : readsIn (Mine.hd2.heap_39 w.params) 83 (.type "type") = true := by rfl
theorem q_S : ∃ t, findCls (Mine.hd2.heap_39 w.params) (.ref 83) (.type "type") (Str.ofString "S") = some (.val (.str (S [32]) t)) := by rw [← k_sp]; exact ⟨_, rfl⟩
theorem q_T : ∃ t, findCls (Mine.hd2.heap_39 w.params) (.ref 83) (.type "type") (Str.ofString "T") = some (.val (.str (S [9]) t)) := by rw [← k_tab]; exact ⟨_, rfl⟩
theorem g_range : nsIn (Mine.hd2.heap_39 w.params) mainGlobals (Str.ofString "range") = some none := by rfl
theorem q_f2 : findIn (Mine.hd2.heap_39 w.params) (.ref 83) (Str.ofString "norm") = some none := by rfl
theorem q_f3 : findIn (Mine.hd2.heap_39 w.params) (.ref 83) (Str.ofString "nt") = some none := by rfl
end
end Mine
end
section
open PySem PySem.W PyProof.Rows PySem.Calls
namespace Mine
section
local macro_rules | `(tactic| walk_at "look") => `(tactic| first | with_reducible assumption | with_reducible exact upd_self _ _ _ | ((with_reducible refine' (upd_ne _ _ ?h).trans ?t); (case h => decide); (case t => walk_at "look")) | exact upd_self _ _ _ | assumption)
local macro_rules | `(tactic| walk_at "num") => `(tactic| first | omega | assumption | (simp; omega) | (simp; done) | decide)
local macro_rules | `(tactic| walk_at "op") => `(tactic| first | with_reducible (first | exact Op2.add | exact Op2.sub | exact Op2.eqS | exact Op2.neS | exact Op2.lt | exact Op2.ge | exact Op2.gt | exact Op2.le | exact Op2.eq | exact Op2.ne) | ((with_reducible refine' Op2.addS ?h); (case h => walk_at "num")) | ((with_reducible refine' Op2.mulS ?a ?b ?h); (case a => omega); (case b => omega); (case h => simp)) | ((with_reducible refine' Op2.fmodB ?a); (case a => omega)))
local macro_rules | `(tactic| walk_at "part") => `(tactic| first | with_reducible exact EvPart.nn | ((with_reducible refine' EvPart.s ?h); (case h => walk_at "ev")))
local macro_rules | `(tactic| walk_at "evs") => `(tactic| first | with_reducible exact EvalsL.nil | ((with_reducible refine' EvalsL.cons ?h ?t); (case h => walk_at "ev"); (case t => walk_at "evs")))
local macro_rules | `(tactic| walk_at "ev") => `(tactic| first
  | with_reducible (first | exact Evals.int | exact Evals.boolc)
  | ((with_reducible refine' Evals.strS ?h); (case h => with_reducible first | exact k_257 | exact k_sq | exact k_q | exact k_e | exact k_dots | exact k_sp | exact k_tab | exact k_257q | exact k_made | exact k_nl))
  | ((with_reducible refine' Evals.name ?h ?a ?b); (case h => walk_at "look"); (case a => decide); (case b => decide))
  | ((with_reducible refine' Evals.bin ?l ?r ?o); (case l => walk_at "ev"); (case r => walk_at "ev"); (case o => walk_at "op"))
  | ((with_reducible refine' Evals.un ?l Op1.neg); (case l => walk_at "ev"))
  | ((with_reducible refine' Evals.sliceS ?v ?l ?u ?z); (case v => walk_at "ev"); (case l => walk_at "part"); (case u => walk_at "part"); (case z => walk_at "num"))
  | ((with_reducible refine' Evals.itemS ?v ?i ?a ?b ?c ?hs); (case v => walk_at "ev"); (case i => walk_at "ev"); (case a => walk_at "num"); (case b => walk_at "num"); (case c => first | assumption | (simp; done)); (case hs => intros; rfl))
  | ((refine' Evals.call (f := .builtin "len") (Callee.blt g_len (by rfl)) trivial ?a ?f); (case a => walk_at "evs"); (case f => first | ((refine' Fun.lenS ?b); (case b => walk_at "num")) | ((first | refine' Fun.lenL ?e ?b | refine' Fun.lenT ?e ?b); (case e => first | exact List.length_map _ | rfl); (case b => walk_at "num")))))
section
open PySem PySem.W PyProof.Rows PySem.Calls
set_option autoImplicit false
set_option maxRecDepth 100000

section
variable {w : World} {mg mb : Str → Option Value}



/-- what the loop still tells -/
noncomputable def go257 : List Nat → List Nat
  | [] => []
  | x :: r => if x = 34 then (match r with | y :: r' => if y = 34 then 34 :: go257 r' else [] | [] => []) else x :: go257 r

theorem go_other {x : Nat} {r : List Nat} (h : x ≠ 34) : go257 (x :: r) = x :: go257 r := by rw [go257.eq_def]; simp [h]
theorem go_end {y : Nat} {r : List Nat} (h : y ≠ 34) : go257 (34 :: y :: r) = [] := by rw [go257.eq_def]; simp [h]
theorem go_two {r : List Nat} : go257 (34 :: 34 :: r) = 34 :: go257 r := by rw [go257.eq_def]; simp
theorem go_last : go257 [34] = [] := by decide
theorem drop_cons {r : List Nat} {i x : Nat} (h : r[i]? = some x) : r.drop i = x :: r.drop (i + 1) := by
  obtain ⟨hl, e⟩ := List.getElem?_eq_some_iff.mp h
  rw [List.drop_eq_getElem_cons hl, e]
noncomputable def PInv (r : List Nat) (k : Nat) (ρ : Rho) : Prop := ∃ i acc, k = r.length - i ∧ i ≤ r.length ∧ acc.length ≤ i ∧ acc ++ go257 (r.drop i) = go257 (r.drop 5) ∧ ρ "resp" = some (.fz (.str (S r))) ∧ ρ "i" = some (.fz (.int (i : Nat))) ∧ ρ "n" = some (.fz (.int r.length)) ∧ ρ "dirname" = some (.fz (.str (S acc)))
theorem parse_ok {n : Nat} {r : List Nat} (hr : r.length ≤ 1000000) (h1 : r.take 5 = [50, 53, 55, 32, 34]) : Fun (c2 w mg mb) (n + 1) (.ref 126) [.str (S r)] (.str (S (go257 (r.drop 5)))) := by
  have hlen : 5 ≤ r.length := by
    have := congrArg List.length h1
    rw [List.length_take] at this
    simp at this; omega
  refine' Fun.defC (names := ["resp"]) (ho := rfl) (hcd := by exact rfl) (hbind := ?hbind) (hloc := by decide +kernel) (hl := rfl) (run := ?run)
  case hbind => intro vs h; obtain ⟨a, rfl⟩ := vs1 h; rfl
  intro L
  dsimp only [bindD]
  refine Runs.ifN (Tests.conv (Tests.cmp (by walk_at "ev") (by walk_at "ev") (by walk_at "op") (by with_unfolding_all rfl)) ?_) ?_
  · rw [show sl r none (some 3) = r.take 3 from sl_to r 3 (by omega)]
    have : r.take 3 = [50, 53, 55] := by
      have := congrArg (List.take 3) h1
      rw [List.take_take] at this
      exact this
    rw [this]; decide
  refine Runs.ifN (Tests.conv (Tests.cmp (by walk_at "ev") (by walk_at "ev") (by walk_at "op") (by with_unfolding_all rfl)) ?_) ?_
  · rw [show sl r (some 3) (some 5) = (r.drop 3).take 2 from sl_mid r 3 5 (by omega) (by omega)]
    have : (r.drop 3).take 2 = [32, 34] := by
      have := congrArg (List.drop 3) h1
      rw [List.drop_take] at this
      exact this
    rw [this]; decide
  refine Runs.assign (.inl rfl) (by walk_at "ev") ?_
  refine Runs.assign (.inl rfl) (by walk_at "ev") ?_
  refine Runs.assign (.inl rfl) (by walk_at "ev") ?_
  refine Runs.while (PInv r) (n0 := r.length - 5) ⟨5, [], rfl, by omega, by simp, by simp, by walk_at "look", by walk_at "look", by walk_at "look", by walk_at "look"⟩ ?_
  rintro k ρ ⟨i, acc, rfl, hi, hac, he, hr1, hr2, hr3, hr4⟩
  refine ⟨_, Tests.cmp (by walk_at "ev") (by walk_at "ev") (by walk_at "op") (by with_unfolding_all rfl), fun hb => ?_, fun hb => ?_⟩
  · have hlt : i < r.length := by simpa using hb
    obtain ⟨x, hx⟩ : ∃ x, r[i]? = some x := ⟨_, List.getElem?_eq_getElem hlt⟩
    have hx' : r[((i : Nat) : Int).toNat]? = some x := by simpa using hx
    have hd := drop_cons hx
    refine Runs.assign (.inl rfl) (by walk_at "ev") ?_
    refine Runs.assign (.inl rfl) (by walk_at "ev") ?_
    refine Runs.cons (Run1.ite (Tests.cmp (by walk_at "ev") (by walk_at "ev") (by walk_at "op") (by with_unfolding_all rfl)) (fun q => ?_) fun q => ?_)
    · have q : x = 34 := by simpa using q
      subst q
      by_cases hlt2 : i + 1 < r.length
      · obtain ⟨y, hy⟩ : ∃ y, r[i + 1]? = some y := ⟨_, List.getElem?_eq_getElem hlt2⟩
        have hy' : r[(((i : Nat) : Int) + 1).toNat]? = some y := by rw [show (((i : Nat) : Int) + 1).toNat = i + 1 by omega]; exact hy
        by_cases hq : y = 34
        · subst hq
          refine Runs.ifN (Tests.conv (Tests.or2 (Tests.cmp (by walk_at "ev") (by walk_at "ev") (by walk_at "op") (by with_unfolding_all rfl)) fun _ => Tests.cmp (by walk_at "ev") (by walk_at "ev") (by walk_at "op") (by with_unfolding_all rfl)) ?_) ?_
          · simp; omega
          refine Runs.assign (.inl rfl) (by walk_at "ev") (Runs.nil ?_)
          refine Runs.assign (.inl rfl) (by walk_at "ev") (Runs.nil ?_)
          refine ⟨_, ?_, i + 2, acc ++ [34], rfl, by omega, by simp; omega, ?_, by walk_at "look", (by walk_at "look"), by walk_at "look", by walk_at "look"⟩
          · omega
          · rw [← he, hd, drop_cons hy, go_two]
            simp
        · refine Runs.ifT (Tests.conv (Tests.or2 (Tests.cmp (by walk_at "ev") (by walk_at "ev") (by walk_at "op") (by with_unfolding_all rfl)) fun _ => Tests.cmp (by walk_at "ev") (by walk_at "ev") (by walk_at "op") (by with_unfolding_all rfl)) ?_) ?_
          · simp [hq]
          refine Runs.brk ?_
          refine Runs.ret (by walk_at "ev") (.inl ?_)
          rw [← he, hd, drop_cons hy, go_end hq]
          simp
      · refine Runs.ifT (Tests.conv (Tests.or2 (Tests.cmp (by walk_at "ev") (by walk_at "ev") (by walk_at "op") (by with_unfolding_all rfl)) (b := true) fun e => ?_) ?_) ?_
        · exact absurd e (by simp; omega)
        · simp
        refine Runs.brk ?_
        refine Runs.ret (by walk_at "ev") (.inl ?_)
        have hd2 : r.drop (i + 1) = [] := List.drop_eq_nil_of_le (by omega)
        rw [← he, hd, hd2, go_last]
        simp
    · have q : x ≠ 34 := by simpa using q
      refine Runs.nil ?_
      refine Runs.assign (.inl rfl) (by walk_at "ev") (Runs.nil ?_)
      refine ⟨_, ?_, i + 1, acc ++ [x], rfl, by omega, by simp; omega, ?_, by walk_at "look", (by walk_at "look"), by walk_at "look", by walk_at "look"⟩
      · omega
      · rw [← he, hd, go_other q]
        simp
  · have hge : i = r.length := by
      have : ¬ i < r.length := by simpa using hb
      omega
    refine Runs.ret (by walk_at "ev") (.inl ?_)
    rw [← he, hge]
    simp [go257]
end
end
section
open PySem PySem.W PyProof.Rows PySem.Calls
set_option autoImplicit false
set_option maxRecDepth 100000
section
variable {w : World} {mg mb : Str → Option Value}




noncomputable def loopF (g : List Nat) : List (List Nat) → Nat → Nat → Bool
  | [], _, _ => true
  | w :: r, s, e => match findAt g w s e with
    | none => false
    | some k => loopF g r (k + w.length) e
noncomputable def st1 (ws : List (List Nat)) (g : List Nat) : Option (Nat × List (List Nat)) := if ws.headD [] = [] then some (0, ws) else if (ws.headD []).isPrefixOf g = true then some ((ws.headD []).length, ws.tail) else none
noncomputable def st2 (ws : List (List Nat)) (g : List Nat) : Option (Nat × List (List Nat)) := if ws.getLastD [] = [] then some (g.length, ws) else if (ws.getLastD []).isSuffixOf g = true then some (g.length - (ws.getLastD []).length, ws.dropLast) else none
noncomputable def ellM (ws : List (List Nat)) (g : List Nat) : Bool := match st1 ws g with
  | none => false
  | some (s, ws1) => match st2 ws1 g with
    | none => false
    | some (e, ws2) => if e < s then false else loopF g ws2 s e
noncomputable def DS (l : List Nat) : D := .str (S l)

theorem joinD_le {p : List Nat} : ∀ {ps : List (List Nat)}, p ∈ ps → p.length ≤ (joinD ps).length
  | [q], h => by simp at h; subst h; exact Nat.le_refl _
  | q :: r :: t, h => by
    rcases List.mem_cons.mp h with rfl | h
    · simp [joinD]
    · have := joinD_le h
      simp [joinD]; omega
theorem joinD_len : ∀ {ps : List (List Nat)}, ps.length ≤ (joinD ps).length + 1
  | [] => by simp
  | [q] => by simp
  | q :: r :: t => by
    have := joinD_len (ps := r :: t)
    simp [joinD] at this ⊢; omega
noncomputable def Cut1 (ws : List (List Nat)) (g : List Nat) (o : Out) : Prop := (st1 ws g = none ∧ o = .ret (.bool false)) ∨ ∃ (s1 : Nat) (ws1 : List (List Nat)) (ρ' : Rho), st1 ws g = some (s1, ws1) ∧ o = .next ρ' ∧ ρ' "got" = some (.fz (.str (S g))) ∧ ρ' "ws" = some (.own (ws1.map DS)) ∧ ρ' "startpos" = some (.fz (.int (s1 : Nat))) ∧ ρ' "endpos" = some (.fz (.int g.length))
noncomputable def Cut2 (ws : List (List Nat)) (g : List Nat) (s1 : Nat) (o : Out) : Prop := (st2 ws g = none ∧ o = .ret (.bool false)) ∨ ∃ (e2 : Nat) (ws2 : List (List Nat)) (ρ' : Rho), st2 ws g = some (e2, ws2) ∧ o = .next ρ' ∧ ρ' "got" = some (.fz (.str (S g))) ∧ ρ' "ws" = some (.own (ws2.map DS)) ∧ ρ' "startpos" = some (.fz (.int (s1 : Nat))) ∧ ρ' "endpos" = some (.fz (.int (e2 : Nat)))
theorem ell_ok {n : Nat} {ps : List (List Nat)} {g : List Nat} (h2 : 2 ≤ ps.length) (hp : ∀ p ∈ ps, 46 ∉ p) (hz : (joinD ps).length ≤ 900000) (hg : g.length ≤ 1000000) : Fun (c2 w mg mb) (n + 1) (.ref 94) [.str (S (joinD ps)), .str (S g)] (.bool (ellM ps g)) := by
  refine' Fun.defC (names := ["want", "got"]) (ho := rfl) (hcd := by exact rfl) (hbind := ?hbind) (hloc := by decide +kernel) (hl := rfl) (run := ?run)
  case hbind => intro vs h; obtain ⟨a, b, rfl⟩ := vs2 h; rfl
  intro L
  dsimp only [bindD]
  obtain ⟨tm, hm⟩ := g_marker (w := w)
  have hds : (Txt.split (S (joinD ps)) (S dots)).map D.str = ps.map DS := by rw [split_join h2 hp, List.map_map]; rfl
  have hlen : ∀ p ∈ ps, p.length ≤ 1000000 := fun p hpp => Nat.le_trans (joinD_le hpp) (by omega)
  refine Runs.ifN (Tests.conv (Tests.cmp (Evals.globStr hm) (by walk_at "ev") Op2.notins) (by rw [contains_join h2]; rfl)) ?_
  refine Runs.assignNew (.inl rfl) (EvalsNew.meth (by walk_at "ev") (EvalsL.cons (Evals.globStr hm) EvalsL.nil) (FunNew.split (by rw [S_len]; rfl) (by rw [S_len, sizeLine_eq]; omega)) PySem.F.slot_str_split PySem.F.type_str_split) ?_
  rw [hds]
  have hpl : ps.length ≤ 1000000 := by have := joinD_len (ps := ps); omega
  refine Runs.assert (Tests.lend (x := "ws") (by walk_at "look") (Tests.conv (Tests.cmp (Evals.call (f := .builtin "len") (Callee.blt g_len (by rfl)) trivial (EvalsL.cons (by walk_at "ev") EvalsL.nil) (Fun.len_lst (by rw [List.length_map]; omega))) (by walk_at "ev") (by walk_at "op")) (by simp; omega))) ?_
  refine Runs.assignS (names := [Str.ofString "startpos", Str.ofString "endpos"]) (by walk_at "evs") (AsgN.cons (.inl rfl) (AsgN.cons (.inl rfl) (AsgN.nil ?_))) (hz := by decide)
  obtain ⟨p0, q0, r0, rfl⟩ : ∃ p q r, ps = p :: q :: r := by
    match ps, h2 with
    | p :: q :: r, _ => exact ⟨_, _, _, rfl⟩
  have hp0 := hlen p0 (.head _)
  refine Runs.assign (.inl rfl) (d := .str (S p0)) (Evals.lend (x := "ws") (by walk_at "look") (Evals.index (by walk_at "ev") (by walk_at "ev") (Op2.item_lst (by decide) (by decide) rfl) trivial)) ?_
  -- the beginning
  refine Runs.cut (Cut1 (p0 :: q0 :: r0) g) ?_ ?_
  · by_cases h0 : p0 = []
    · subst h0
      refine Run1.ite (Tests.conv (b' := false) (Tests.str (by walk_at "ev") (by decide)) (by decide)) (fun e => by cases e) fun _ => Runs.nil (.inr ⟨0, _, _, rfl, rfl, by walk_at "look", by walk_at "look", by walk_at "look", by walk_at "look"⟩)
    · refine Run1.ite (Tests.conv (b' := true) (Tests.str (by walk_at "ev") (by rw [S_len]; omega)) (by rw [S_len]; simp [h0])) (fun _ => ?_) fun e => by cases e
      refine Runs.cons (Run1.ite (Tests.val (Evals.meth (by walk_at "ev") (by walk_at "evs") Fun.startsS PySem.F.slot_str_startswith PySem.F.type_str_startswith)) (fun e => ?_) fun e => ?_)
      · refine Runs.assign (.inl rfl) (by walk_at "ev") ?_
        refine Runs.del (k := 0) (j := 0) (by walk_at "look") (by walk_at "ev") (by simp [seqIndex?]; omega) (by decide) (by decide) (by rw [List.length_map]; omega) (Runs.nil (Runs.nil (.inr ⟨p0.length, q0 :: r0, _, ?_, rfl, by walk_at "look", by walk_at "look", by walk_at "look", by walk_at "look"⟩)))
        unfold st1
        rw [if_neg (by simpa using h0), if_pos (by simpa using e)]
        rfl
      · refine Runs.ret (by walk_at "ev") (.inl ⟨?_, rfl⟩)
        unfold st1
        rw [if_neg (by simpa using h0), if_neg (show ¬ ((p0 :: q0 :: r0).headD []).isPrefixOf g = true from ne_true_of_eq_false e)]
  rintro o (⟨e1, rfl⟩ | ⟨s1, ws1, ρ1, e1, rfl, hgot, hws, hsp, hep⟩)
  · exact .inl (by unfold ellM; rw [e1])
  have hw1 : 1 ≤ ws1.length ∧ ws1.length ≤ 1000000 ∧ (∀ p ∈ ws1, p.length ≤ 1000000) ∧ s1 ≤ 1000000 := by
    unfold st1 at e1
    split at e1
    · cases e1; exact ⟨by simp, hpl, hlen, by omega⟩
    · split at e1
      · cases e1
        exact ⟨by simp, by simp at hpl ⊢; omega, fun p hp => hlen p (.tail _ hp), hp0⟩
      · cases e1
  have hne : ws1 ≠ [] := by intro e; rw [e] at hw1; simp at hw1
  obtain ⟨ini, w9, rfl⟩ : ∃ ini w9, ws1 = ini ++ [w9] := ⟨_, _, (List.dropLast_concat_getLast hne).symm⟩
  have h9 : w9.length ≤ 1000000 := hw1.2.2.1 w9 (by simp)
  have hl9 : ((ini ++ [w9]).map DS).length = ini.length + 1 := by simp
  refine Runs.assign (.inl rfl) (d := .str (S w9)) (Evals.lend (x := "ws") (by walk_at "look") (Evals.index (by walk_at "ev") (by walk_at "ev") (Op2.item_lst_neg (by decide) (by rw [hl9]; omega) (by decide) (by rw [hl9]; rw [show ((-1 : Int) + ((ini.length + 1 : Nat) : Int)).toNat = ini.length by omega]; simp [DS])) trivial)) ?_
  refine Runs.cut (Cut2 (ini ++ [w9]) g s1) ?_ ?_
  · have hgl : (ini ++ [w9]).getLastD [] = w9 := by simp
    by_cases h0 : w9 = []
    · subst h0
      refine Run1.ite (Tests.conv (b' := false) (Tests.str (by walk_at "ev") (by decide)) (by decide)) (fun e => by cases e) fun _ => Runs.nil (.inr ⟨g.length, _, _, ?_, rfl, by walk_at "look", by walk_at "look", by walk_at "look", by walk_at "look"⟩)
      unfold st2
      rw [hgl, if_pos rfl]
    · refine Run1.ite (Tests.conv (b' := true) (Tests.str (by walk_at "ev") (by rw [S_len]; omega)) (by rw [S_len]; simp [h0])) (fun _ => ?_) fun e => by cases e
      refine Runs.cons (Run1.ite (Tests.val (Evals.meth (by walk_at "ev") (by walk_at "evs") Fun.endsS PySem.F.slot_str_endswith PySem.F.type_str_endswith)) (fun e => ?_) fun e => ?_)
      · have hsl : w9.length ≤ g.length := List.IsSuffix.length_le (List.isSuffixOf_iff_suffix.mp e)
        refine Runs.aug (.inl rfl) (by walk_at "look") (by walk_at "ev") Op2.isub ?_
        refine Runs.del (k := -1) (j := ini.length) (by walk_at "look") (by walk_at "ev") (by rw [hl9]; simp [seqIndex?]; omega) (by decide) (by decide) (by rw [List.length_map]; omega) (Runs.nil (Runs.nil (.inr ⟨g.length - w9.length, ini, _, ?_, rfl, by walk_at "look", ?_, by walk_at "look", ?_⟩)))
        · unfold st2
          rw [hgl, if_neg h0, if_pos e]
          simp
        · rw [upd_self]
          rw [show ((ini ++ [w9]).map DS).eraseIdx ini.length = ini.map DS by
            rw [List.map_append, List.eraseIdx_append_of_length_le (by simp)]
            simp]
        · rw [upd_ne _ _ (by decide), upd_self]
          rw [show ((g.length : Int) - (w9.length : Int)) = ((g.length - w9.length : Nat) : Int) by omega]
      · refine Runs.ret (by walk_at "ev") (.inl ⟨?_, rfl⟩)
        unfold st2
        rw [hgl, if_neg h0, if_neg (ne_true_of_eq_false e)]
  rintro o (⟨e2, rfl⟩ | ⟨en, ws2, ρ2, e2, rfl, hgot, hws, hsp, hep⟩)
  · exact .inl (by unfold ellM; rw [e1]; dsimp only; rw [e2])
  have hw2 : en ≤ g.length ∧ ws2.length ≤ 1000000 ∧ ∀ p ∈ ws2, p.length ≤ 1000000 := by
    unfold st2 at e2
    split at e2
    · cases e2; exact ⟨Nat.le_refl _, hw1.2.1, hw1.2.2.1⟩
    · split at e2
      · cases e2
        refine ⟨Nat.sub_le _ _, by simp at hw1 ⊢; omega, fun p hp => hw1.2.2.1 p (by simp at hp ⊢; exact .inl hp)⟩
      · cases e2
  have hell : ellM (p0 :: q0 :: r0) g = if en < s1 then false else loopF g ws2 s1 en := by unfold ellM; rw [e1]; dsimp only; rw [e2]
  rw [hell]
  by_cases hlt : en < s1
  · rw [if_pos hlt]
    exact Runs.ifT (Tests.conv (Tests.cmp (by walk_at "ev") (by walk_at "ev") (by walk_at "op") (by with_unfolding_all rfl)) (by simp; omega)) (Runs.ret (by walk_at "ev") (.inl rfl))
  rw [if_neg hlt]
  refine Runs.ifN (Tests.conv (Tests.cmp (by walk_at "ev") (by walk_at "ev") (by walk_at "op") (by with_unfolding_all rfl)) (by simp; omega)) ?_
  refine Runs.freeze hws ?_
  refine Runs.for (d := .lst (ws2.map DS)) (ds := ws2.map DS) (by walk_at "ev") Iters.lst (fun k ρ => ∃ s : Nat, loopF g (ws2.drop k) s en = loopF g ws2 s1 en ∧ s ≤ 1000000 ∧ ρ "got" = some (.fz (.str (S g))) ∧ ρ "startpos" = some (.fz (.int s)) ∧ ρ "endpos" = some (.fz (.int (en : Nat)))) ⟨s1, by simp, hw1.2.2.2, by walk_at "look", by walk_at "look", by walk_at "look"⟩ ?_ ?_
  · rintro k d ρ3 hk ⟨s, hl, hs, hg3, hs3, he3⟩
    rw [List.getElem?_map] at hk
    cases hx : ws2[k]? with
    | none => rw [hx] at hk; cases hk
    | some x =>
    rw [hx] at hk; cases hk
    have hxl : x.length ≤ 1000000 := hw2.2.2 x (List.mem_of_getElem? hx)
    have hdrop : ws2.drop k = x :: ws2.drop (k + 1) := by
      obtain ⟨hl, e⟩ := List.getElem?_eq_some_iff.mp hx
      rw [List.drop_eq_getElem_cons hl, e]
    refine Asg.name (.inl rfl) ?_
    refine Runs.assign (.inl rfl) (Evals.meth (by walk_at "ev") (EvalsL.cons (Evals.name (d := .str (S x)) (by walk_at "look")) (EvalsL.cons (by walk_at "ev") (EvalsL.cons (by walk_at "ev") EvalsL.nil))) (Fun.findS (by omega) (by omega) (by omega)) PySem.F.slot_str_find PySem.F.type_str_find) ?_
    rw [show ((s : Nat) : Int).toNat = s by omega, show ((en : Nat) : Int).toNat = en by omega]
    rw [hdrop] at hl
    rw [show loopF g (x :: ws2.drop (k + 1)) s en = (match findAt g x s en with | none => false | some j => loopF g (ws2.drop (k + 1)) (j + x.length) en) from rfl] at hl
    cases hf : findAt g x s en with
    | none =>
      rw [hf] at hl
      exact Runs.ifT (Tests.conv (Tests.cmp (by walk_at "ev") (by walk_at "ev") (by walk_at "op") (by with_unfolding_all rfl)) (by decide)) (Runs.ret (by walk_at "ev") (.inl (by rw [← hl])))
    | some j =>
      rw [hf] at hl
      dsimp only at hl
      have hj : j + x.length ≤ en := by
        unfold findAt at hf
        have := List.find?_some hf
        simp at this
        exact this.1
      refine Runs.ifN (Tests.conv (Tests.cmp (by walk_at "ev") (by walk_at "ev") (by walk_at "op") (by with_unfolding_all rfl)) (by first | (simp; done) | (simp; omega) | decide)) ?_
      refine Runs.aug (.inl rfl) (by walk_at "look") (Evals.call (f := .builtin "len") (Callee.blt g_len (by rfl)) trivial (EvalsL.cons (Evals.name (d := .str (S x)) (by walk_at "look")) EvalsL.nil) (Fun.lenS (by omega))) Op2.iadd (Runs.nil ?_)
      exact ⟨j + x.length, hl, by omega, by walk_at "look", by walk_at "look", by walk_at "look"⟩
  · rintro ρ4 ⟨s, hl, hs, _⟩
    refine Runs.ret (by walk_at "ev") (.inl ?_)
    rw [List.length_map, List.drop_length] at hl
    rw [← hl]; rfl
end
end
section
open PySem PySem.W PyProof.Rows PySem.Calls
set_option autoImplicit false
set_option maxRecDepth 100000
section
variable {w : World} {mg mb : Str → Option Value}



/-- what Whitespace counts: the tab counts, the run at hand, n, nt -/
structure WSt where
  cnt : List Int
  b : Nat
  n : Nat
  nt : Nat
noncomputable def ext (cnt : List Int) (b : Nat) : List Int := if cnt.length ≤ b then cnt ++ (List.replicate (b - cnt.length + 1) [(0 : Int)]).flatten else cnt
noncomputable def bump (cnt : List Int) (b : Nat) : List Int := (ext cnt b).set b ((ext cnt b).getD b 0 + 1)
theorem ext_len (cnt : List Int) (b : Nat) : b < (ext cnt b).length ∧ ∀ m, cnt.length ≤ m → b + 1 ≤ m → (ext cnt b).length ≤ m := by
  unfold ext
  split
  · rename_i h
    have e : (cnt ++ (List.replicate (b - cnt.length + 1) [(0 : Int)]).flatten).length = b + 1 := by simp; omega
    rw [e]
    exact ⟨Nat.lt_succ_self _, fun m _ h => h⟩
  · rename_i h
    exact ⟨Nat.lt_of_not_le h, fun m h _ => h⟩
noncomputable def wsRun : List Nat → WSt → WSt
  | [], s => s
  | x :: r, s => if x = 32 then wsRun r ⟨s.cnt, s.b + 1, s.n + 1, s.nt⟩ else if x = 9 then wsRun r ⟨bump s.cnt s.b, 0, s.n + 1, s.nt + 1⟩ else s
noncomputable def DI (i : Int) : D := .int i
noncomputable def wsD (l : List Nat) (s : WSt) : List (String × D) := [("is_simple", .bool (decide ((s.cnt.length : Int) ≤ 1))), ("norm", .tup [.tup (s.cnt.map DI), .int s.b]), ("nt", .int s.nt), ("n", .int s.n), ("raw", .str (S l))]

noncomputable def WsP (X : Addr) (l : List Nat) (st : WSt) (ρ : Rho) : Prop :=
  ρ "self" = some (.obj X 83 [("raw", .str (S l))]) ∧ ρ "S" = some (.fz (.str (S [32]))) ∧ ρ "T" = some (.fz (.str (S [9]))) ∧ ρ "count" = some (.own (st.cnt.map DI)) ∧ ρ "b" = some (.fz (.int st.b)) ∧ ρ "n" = some (.fz (.int st.n)) ∧ ρ "nt" = some (.fz (.int st.nt))
theorem chars_S (l : List Nat) : chars (S l) = l.map fun k => D.str (S [k]) := by unfold chars; rw [S_toList]; rfl
theorem wsRun_len (m : Nat) : ∀ (l : List Nat) (st : WSt), st.cnt.length ≤ m → st.b + l.length ≤ m → (wsRun l st).cnt.length ≤ m
  | [], st, h, _ => h
  | x :: r, st, h, h2 => by
    rw [List.length_cons] at h2
    unfold wsRun
    split
    · exact wsRun_len m r ⟨st.cnt, st.b + 1, st.n + 1, st.nt⟩ h (by rw [Nat.add_right_comm]; exact h2)
    · split
      · refine wsRun_len m r ⟨bump st.cnt st.b, 0, st.n + 1, st.nt + 1⟩ ?_ (by rw [Nat.zero_add]; omega)
        show (bump st.cnt st.b).length ≤ m
        unfold bump
        rw [List.length_set]
        exact (ext_len st.cnt st.b).2 m h (by omega)
      · exact h
theorem init_ok {n : Nat} {l : List Nat} (hl : l.length ≤ 100) : Fun (c2 w mg mb) (n + 2) (.ref 83) [.str (S l)] (.inst 83 (wsD l (wsRun l ⟨[], 0, 0, 0⟩))) := by
  refine' Fun.cls (fI := 38) (names := ["ws"]) (self := "self") (hm := q_make) (hi := q_init) (hf := q_fn) (ho := rfl) (hcd := by exact rfl) (hbind := ?hbind) (hloc := by decide +kernel) (hnd := by decide) (hl := rfl) (run := ?run) (hcell := by decide +kernel)
  case hbind => intro x vs h; obtain ⟨a, rfl⟩ := vs1 h; rfl
  intro L X
  dsimp only [bindD]
  refine Runs.setAttr (by walk_at "look") (by walk_at "ev") q_plain q_set q_over q_t1 (by simp) (by simp) ?_
  obtain ⟨tS, hS⟩ := q_S (w := w)
  obtain ⟨tT, hT⟩ := q_T (w := w)
  refine Runs.assignS (names := [Str.ofString "S", Str.ofString "T"]) (EvalsL.cons (Evals.cattr (Callee.glob g_ws) q_read hS (fun _ _ => .str _ _) rfl) (EvalsL.cons (Evals.cattr (Callee.glob g_ws) q_read hT (fun _ _ => .str _ _) rfl) EvalsL.nil)) (AsgN.cons (.inl rfl) (AsgN.cons (.inl rfl) (AsgN.nil ?_))) (hz := by decide)
  refine Runs.assignNew (.inl rfl) (EvalsNew.list EvalsL.nil (by decide)) ?_
  refine Runs.assign3 (by walk_at "ev") (Asg.name (.inl rfl) (Asg.name (.inl rfl) (Asg.name (.inl rfl) ?_))) rfl
  refine Runs.cut (fun o => ∃ ρ', o = .next ρ' ∧ WsP X l (wsRun l ⟨[], 0, 0, 0⟩) ρ') ?_ ?_
  · refine Run1.for (d := .str (S l)) (ds := chars (S l)) (Evals.lendO (x := "self") (by walk_at "look") (Evals.attr (name := "raw") (by walk_at "ev") rfl q_plain q_f1 rfl)) Iters.str
      (fun k ρ => ∃ st, wsRun (l.drop k) st = wsRun l ⟨[], 0, 0, 0⟩ ∧ st.b ≤ k ∧ st.cnt.length ≤ k ∧ WsP X l st ρ) ⟨⟨[], 0, 0, 0⟩, rfl, by simp, by simp, by walk_at "look", by walk_at "look", by walk_at "look", by walk_at "look", by walk_at "look", by walk_at "look", by walk_at "look"⟩ ?_ ?_
    · rintro k d ρ hk ⟨st, hr, hb, hc, h1, h2, h3, h4, h5, h6, h7⟩
      rw [chars_S, List.getElem?_map] at hk
      cases hx : l[k]? with
      | none => rw [hx] at hk; cases hk
      | some x =>
      rw [hx] at hk; cases hk
      have hkl : k < l.length := (List.getElem?_eq_some_iff.mp hx).1
      have hd : l.drop k = x :: l.drop (k + 1) := by
        obtain ⟨hl, e⟩ := List.getElem?_eq_some_iff.mp hx
        rw [List.drop_eq_getElem_cons hl, e]
      rw [hd] at hr
      rw [show wsRun (x :: l.drop (k + 1)) st = (if x = 32 then wsRun (l.drop (k + 1)) ⟨st.cnt, st.b + 1, st.n + 1, st.nt⟩ else if x = 9 then wsRun (l.drop (k + 1)) ⟨bump st.cnt st.b, 0, st.n + 1, st.nt + 1⟩ else st) from rfl] at hr
      refine Asg.name (.inl rfl) ?_
      by_cases hs : x = 32
      · rw [if_pos hs] at hr
        refine Runs.ifT (Tests.conv (Tests.cmp (by walk_at "ev") (by walk_at "ev") (by walk_at "op") (by with_unfolding_all rfl)) (by simp [hs])) ?_
        refine Runs.assign (.inl rfl) (by walk_at "ev") ?_
        refine Runs.assign (.inl rfl) (by walk_at "ev") (Runs.nil (Runs.nil ?_))
        exact ⟨_, hr, by simp; omega, by simp; omega, by walk_at "look", by walk_at "look", by walk_at "look", by walk_at "look", by walk_at "look", by walk_at "look", by walk_at "look"⟩
      rw [if_neg hs] at hr
      refine Runs.ifF (Tests.conv (Tests.cmp (by walk_at "ev") (by walk_at "ev") (by walk_at "op") (by with_unfolding_all rfl)) (by simp [hs])) ?_
      by_cases ht : x = 9
      · rw [if_pos ht] at hr
        refine Runs.ifT (Tests.conv (Tests.cmp (by walk_at "ev") (by walk_at "ev") (by walk_at "op") (by with_unfolding_all rfl)) (by simp [ht])) ?_
        refine Runs.assign (.inl rfl) (by walk_at "ev") ?_
        refine Runs.assign (.inl rfl) (by walk_at "ev") ?_
        refine Runs.cut (fun o => ∃ ρ', o = .next ρ' ∧ WsP X l ⟨ext st.cnt st.b, st.b, st.n + 1, st.nt + 1⟩ ρ') ?_ ?_
        · refine Run1.ite (b := decide ((st.cnt.length : Int) ≤ st.b)) (Tests.lend (x := "count") (by walk_at "look") (Tests.cmp (by walk_at "ev") (by walk_at "ev") Op2.ge)) (fun e => ?_) fun e => ?_
          · have e : (st.cnt.length : Int) ≤ st.b := by simpa using e
            refine Runs.assignNew (.inl rfl) (EvalsNew.add (EvSeq.own (by walk_at "look")) (EvSeq.new (EvalsNew.mul (ds := [.int 0]) (i := (st.b : Int) - st.cnt.length + 1) (EvSeq.new (EvalsNew.list (by walk_at "evs") (by decide))) (Evals.bin (Evals.bin (by walk_at "ev") (Evals.lend (x := "count") (by walk_at "look") (by walk_at "ev")) Op2.sub) (by walk_at "ev") Op2.add) (by omega) (by omega) (by decide))) ?_) (Runs.nil ⟨_, rfl, by walk_at "look", by walk_at "look", by walk_at "look", ?_, by walk_at "look", by walk_at "look", by walk_at "look"⟩)
            · simp; omega
            · rw [upd_self]
              unfold ext
              rw [if_pos (by omega), show ((st.b : Int) - st.cnt.length + 1).toNat = st.b - st.cnt.length + 1 by omega]
              simp [DI]
          · have e : ¬ (st.cnt.length : Int) ≤ st.b := by simpa using e
            refine Runs.nil ⟨_, rfl, by walk_at "look", by walk_at "look", by walk_at "look", ?_, by walk_at "look", by walk_at "look", by walk_at "look"⟩
            unfold ext
            rw [if_neg (by omega)]
            walk_at "look"
        · rintro o ⟨ρ2, rfl, h1, h2, h3, h4, h5, h6, h7⟩
          obtain ⟨el, el2⟩ := ext_len st.cnt st.b
          have el2 := el2 (k + 1) (by omega) (by omega)
          dsimp only at h4 h5 h6 h7
          refine Runs.setItem (k := st.b) (by walk_at "look") (Evals.bin (Evals.lend (x := "count") (by walk_at "look") (Evals.index (by walk_at "ev") (by walk_at "ev") (Op2.item_lst (d := .int ((ext st.cnt st.b).getD st.b 0)) (by omega) (by omega) ?_) trivial)) (by walk_at "ev") Op2.add) (by walk_at "ev") (by simpa using el) (by omega) ?_
          · rw [show ((st.b : Nat) : Int).toNat = st.b by omega, List.getElem?_map, List.getElem?_eq_getElem el]
            simp [DI, List.getD_eq_getElem?_getD, List.getElem?_eq_getElem el]
          refine Runs.assign (.inl rfl) (by walk_at "ev") (Runs.nil (Runs.nil (Runs.nil ⟨_, hr, by simp, ?_, by walk_at "look", by walk_at "look", by walk_at "look", ?_, by walk_at "look", by walk_at "look", by walk_at "look"⟩)))
          · simp only [bump, List.length_set]; omega
          · rw [upd_ne _ _ (by decide), upd_self]
            simp only [bump]
            rw [List.map_set]
            rfl
      · rw [if_neg ht] at hr
        refine Runs.ifF (Tests.conv (Tests.cmp (by walk_at "ev") (by walk_at "ev") (by walk_at "op") (by with_unfolding_all rfl)) (by simp [ht])) ?_
        refine Runs.brk ?_
        refine ⟨_, rfl, ?_⟩
        rw [← hr]
        exact ⟨by walk_at "look", by walk_at "look", by walk_at "look", by walk_at "look", by walk_at "look", by walk_at "look", by walk_at "look"⟩
    · rintro ρ ⟨st, hr, _, _, hp⟩
      rw [chars_S, List.length_map, List.drop_length] at hr
      exact ⟨ρ, rfl, hr ▸ hp⟩
  rintro o ⟨ρ, rfl, h1, h2, h3, h4, h5, h6, h7⟩
  have hlen : (wsRun l ⟨[], 0, 0, 0⟩).cnt.length ≤ 100 := by
    exact wsRun_len 100 l ⟨[], 0, 0, 0⟩ (Nat.zero_le _) (by rw [Nat.zero_add]; exact hl)
  generalize wsRun l ⟨[], 0, 0, 0⟩ = st at h4 h5 h6 h7 hlen ⊢
  refine Runs.setAttr h1 (by walk_at "ev") q_plain q_set q_over q_t2 (by simp) (by simp) ?_
  refine Runs.setAttr (by walk_at "look") (by walk_at "ev") q_plain q_set q_over q_t3 (by simp) (by simp) ?_
  refine Runs.freeze (x := "count") (by walk_at "look") ?_
  refine Runs.setAttr (by walk_at "look") (Evals.tuple (EvalsL.cons (Evals.call (f := .type "tuple") (Callee.blt g_tuple (by rfl)) trivial (by walk_at "evs") (Fun.tuple_lst (by simp; omega))) (by walk_at "evs")) (by decide)) q_plain q_set q_over q_t4 (by simp) (by simp) ?_
  refine Runs.setAttr (by walk_at "look") (Evals.cmp (by walk_at "ev") (by walk_at "ev") (by walk_at "op")) q_plain q_set q_over q_t5 (by simp) (by simp) ?_
  exact Runs.nil ⟨_, rfl, upd_self _ _ _⟩
end
end
section
open PySem PySem.W PyProof.Rows PySem.Calls
set_option autoImplicit false
set_option maxRecDepth 100000
section
variable {w : World} {mg mb : Str → Option Value}

/-- what the tabs' counts come to -/
noncomputable def ilsum (ts : Nat) (cnt : List Int) : Nat → Int
  | 0 => 0
  | k + 1 => ilsum ts cnt k + ((ts + k : Nat) : Int) / ts * cnt.getD (ts + k) 0
noncomputable def indent (st : WSt) (ts : Nat) : Int := st.b + ts * (ilsum ts st.cnt (st.cnt.length - ts) + st.nt)

theorem ind_ok {n : Nat} {l : List Nat} {st : WSt} {ts : Nat} (h0 : 1 ≤ ts) (h1 : ts ≤ 1000) (hc : st.cnt.length ≤ 1000) : Fun (c2 w mg mb) (n + 1) (.ref 52) [.inst 83 (wsD l st), .int ts] (.int (indent st ts)) := by
  refine' Fun.defC (names := ["self", "tabsize"]) (ho := rfl) (hcd := by exact rfl) (hbind := ?hbind) (hloc := by decide +kernel) (hl := rfl) (run := ?run)
  case hbind => intro vs h; obtain ⟨a, b, rfl⟩ := vs2 h; rfl
  intro L
  dsimp only [bindD]
  refine Runs.assignT (Evals.attr (name := "norm") (d := .tup [.tup (st.cnt.map DI), .int st.b]) (by walk_at "ev") rfl q_plain q_f2 rfl) (Asg.tuple (AsgL.cons (Asg.name (.inl rfl) (AsgL.cons (Asg.name (.inl rfl) (AsgL.nil ?_)))))) 
  refine Runs.assign (.inl rfl) (by walk_at "ev") ?_
  have hln : (intsD ts st.cnt.length).length = st.cnt.length - ts := by unfold intsD; first | (simp; done) | (simp; omega)
  refine Runs.for (d := .rng ts st.cnt.length) (ds := intsD ts st.cnt.length) (Evals.call (f := .type "range") (Callee.blt g_range (by rfl)) trivial (by walk_at "evs") Fun.range2) (Iters.rng (by omega) (by omega) (by omega) (by omega))
    (fun k ρ => ρ "self" = some (.fz (.inst 83 (wsD l st))) ∧ ρ "tabsize" = some (.fz (.int ts)) ∧ ρ "count" = some (.fz (.tup (st.cnt.map DI))) ∧ ρ "trailing" = some (.fz (.int st.b)) ∧ ρ "il" = some (.fz (.int (ilsum ts st.cnt k))))
    ⟨by walk_at "look", by walk_at "look", by walk_at "look", by walk_at "look", by walk_at "look"⟩ ?_ ?_
  · rintro k d ρ hk ⟨h2, h3, h4, h5, h6⟩
    have hkl : k < st.cnt.length - ts := by rw [← hln]; exact (List.getElem?_eq_some_iff.mp hk).1
    have hd : d = .int ((ts + k : Nat) : Int) := by
      unfold intsD at hk
      rw [List.getElem?_map, List.getElem?_range (by omega)] at hk
      cases hk
      rfl
    subst hd
    refine Asg.name (.inl rfl) ?_
    refine Runs.assign (.inl rfl) (Evals.bin (by walk_at "ev") (Evals.bin (Evals.bin (by walk_at "ev") (by walk_at "ev") (Op2.fdivB (by omega) (by omega))) (Evals.index (by walk_at "ev") (by walk_at "ev") (Op2.item_tup (d := .int (st.cnt.getD (ts + k) 0)) (by omega) (by omega) ?_) trivial) (Op2.mulB ?_ ?_)) Op2.add) (Runs.nil ⟨by walk_at "look", by walk_at "look", by walk_at "look", by walk_at "look", by walk_at "look"⟩)
    · rw [show (((ts + k : Nat) : Int)).toNat = ts + k by omega, List.getElem?_map, List.getElem?_eq_getElem (by omega)]
      simp [DI, List.getD_eq_getElem?_getD, List.getElem?_eq_getElem (show ts + k < st.cnt.length by omega)]
    · have := Int.ediv_nonneg (a := ((ts + k : Nat) : Int)) (b := ts) (by omega) (by omega)
      omega
    · have := Int.ediv_le_self (a := ((ts + k : Nat) : Int)) (b := (ts : Int)) (by omega)
      omega
  · rintro ρ ⟨h2, h3, h4, h5, h6⟩
    rw [hln] at h6
    exact Runs.ret (Evals.bin (by walk_at "ev") (Evals.bin (by walk_at "ev") (Evals.bin (by walk_at "ev") (Evals.attr (name := "nt") (by walk_at "ev") rfl q_plain q_f3 rfl) Op2.add) (Op2.mulB (by omega) (by omega))) Op2.add) (.inl rfl)
end
end
section
open PySem PySem.W PyProof.Rows PySem.Calls
set_option autoImplicit false
set_option maxRecDepth 100000
section
variable {w : World} {mg mb : Str → Option Value}
theorem g_max : nsIn (Mine.hd2.heap_39 w.params) mainGlobals (Str.ofString "max") = some none := by rfl
theorem g_min : nsIn (Mine.hd2.heap_39 w.params) mainGlobals (Str.ofString "min") = some none := by rfl
theorem q_long : findIn (Mine.hd2.heap_39 w.params) (.ref 83) (Str.ofString "longest_run_of_spaces") = some (some (.ref 45)) := by rfl
theorem q_ind : findIn (Mine.hd2.heap_39 w.params) (.ref 83) (Str.ofString "indent_level") = some (some (.ref 52)) := by rfl
theorem q_wit : findIn (Mine.hd2.heap_39 w.params) (.ref 83) (Str.ofString "not_equal_witness") = some (some (.ref 66)) := by rfl
noncomputable def imax (a b : Int) : Int := if b > a then b else a
noncomputable def longI (st : WSt) : Int := imax ((st.cnt.length : Int) - 1) st.b
noncomputable def witD (s1 s2 : WSt) (k : Nat) : List D := (List.range k).filterMap fun i => if indent s1 (i + 1) ≠ indent s2 (i + 1) then some (.tup [.int ((i + 1 : Nat) : Int), .int (indent s1 (i + 1)), .int (indent s2 (i + 1))]) else none
theorem long_ok {n : Nat} {l : List Nat} {st : WSt} (hc : st.cnt.length ≤ 1000) : Fun (c2 w mg mb) (n + 1) (.ref 45) [.inst 83 (wsD l st)] (.int (longI st)) := by
  refine' Fun.defC (names := ["self"]) (ho := rfl) (hcd := by exact rfl) (hbind := ?hbind) (hloc := by decide +kernel) (hl := rfl) (run := ?run)
  case hbind => intro vs h; obtain ⟨a, rfl⟩ := vs1 h; rfl
  intro L
  dsimp only [bindD]
  refine Runs.assignT (Evals.attr (name := "norm") (d := .tup [.tup (st.cnt.map DI), .int st.b]) (by walk_at "ev") rfl q_plain q_f2 rfl) (Asg.tuple (AsgL.cons (Asg.name (.inl rfl) (AsgL.cons (Asg.name (.inl rfl) (AsgL.nil ?_)))))) 
  exact Runs.ret (Evals.call (f := .builtin "max") (Callee.blt g_max (by rfl)) trivial (EvalsL.cons (by walk_at "ev") (EvalsL.cons (by walk_at "ev") EvalsL.nil)) Fun.max2) (.inl rfl)
theorem wit_ok {n : Nat} {l1 l2 : List Nat} {s1 s2 : WSt} (h1 : s1.cnt.length ≤ 100) (h2 : s2.cnt.length ≤ 100) (b1 : s1.b ≤ 100) (b2 : s2.b ≤ 100) :
    Fun (c2 w mg mb) (n + 2) (.ref 66) [.inst 83 (wsD l1 s1), .inst 83 (wsD l2 s2)] (.lst (witD s1 s2 (imax (longI s1) (longI s2) + 1).toNat)) := by
  refine' Fun.defC (names := ["self", "other"]) (ho := rfl) (hcd := by exact rfl) (hbind := ?hbind) (hloc := by decide +kernel) (hl := rfl) (run := ?run)
  case hbind => intro vs h; obtain ⟨a, b, rfl⟩ := vs2 h; rfl
  intro L
  dsimp only [bindD]
  have hN : 1 ≤ imax (longI s1) (longI s2) + 1 ∧ imax (longI s1) (longI s2) + 1 ≤ 101 := by
    unfold imax longI imax
    split <;> split <;> (try split) <;> omega
  refine Runs.assign (.inl rfl) (d := .int (imax (longI s1) (longI s2) + 1)) (Evals.bin (Evals.call (f := .builtin "max") (Callee.blt g_max (by rfl)) trivial (EvalsL.cons (Evals.methI0 (name := "longest_run_of_spaces") (by walk_at "ev") (long_ok (by omega)) q_plain q_long (by rfl) (by rfl) (by simp [wsD])) (EvalsL.cons (Evals.methI0 (name := "longest_run_of_spaces") (by walk_at "ev") (long_ok (by omega)) q_plain q_long (by rfl) (by rfl) (by simp [wsD])) EvalsL.nil)) Fun.max2) (by walk_at "ev") Op2.add) ?_
  generalize imax (longI s1) (longI s2) + 1 = N at hN ⊢
  refine Runs.assignNew (.inl rfl) (EvalsNew.list EvalsL.nil (by decide)) ?_
  have hln : (intsD 1 (N + 1)).length = N.toNat := by unfold intsD; simp
  refine Runs.for (d := .rng 1 (N + 1)) (ds := intsD 1 (N + 1)) (Evals.call (f := .type "range") (Callee.blt g_range (by rfl)) trivial (by walk_at "evs") Fun.range2) (Iters.rng (by omega) (by omega) (by omega) (by omega))
    (fun k ρ => ρ "self" = some (.fz (.inst 83 (wsD l1 s1))) ∧ ρ "other" = some (.fz (.inst 83 (wsD l2 s2))) ∧ ρ "a" = some (.own (witD s1 s2 k)))
    ⟨by walk_at "look", by walk_at "look", by walk_at "look"⟩ ?_ ?_
  · rintro k d ρ hk ⟨r1, r2, r3⟩
    have hkl : k < N.toNat := by rw [← hln]; exact (List.getElem?_eq_some_iff.mp hk).1
    have hd : d = .int ((k + 1 : Nat) : Int) := by
      unfold intsD at hk
      rw [List.getElem?_map, List.getElem?_range (by omega)] at hk
      cases hk
      exact congrArg D.int (by omega)
    subst hd
    have hw : witD s1 s2 (k + 1) = witD s1 s2 k ++ (if indent s1 (k + 1) ≠ indent s2 (k + 1) then [.tup [.int ((k + 1 : Nat) : Int), .int (indent s1 (k + 1)), .int (indent s2 (k + 1))]] else []) := by
      unfold witD
      rw [List.range_succ, List.filterMap_append]
      congr 1
      by_cases q : indent s1 (k + 1) = indent s2 (k + 1) <;> simp [q]
    have hwl : (witD s1 s2 k).length ≤ 1000000 := by
      unfold witD
      have := List.length_filterMap_le (fun i => if indent s1 (i + 1) ≠ indent s2 (i + 1) then some (D.tup [.int ((i + 1 : Nat) : Int), .int (indent s1 (i + 1)), .int (indent s2 (i + 1))]) else none) (List.range k)
      rw [List.length_range] at this
      omega
    refine Asg.name (.inl rfl) ?_
    refine Runs.cons (Run1.ite (b := indent s1 (k + 1) != indent s2 (k + 1)) (Tests.cmp (Evals.methI (name := "indent_level") (by walk_at "ev") (by walk_at "evs") (ind_ok (ts := k + 1) (by omega) (by omega) (by omega)) q_plain q_ind (by rfl) (by rfl) (by simp [wsD])) (Evals.methI (name := "indent_level") (by walk_at "ev") (by walk_at "evs") (ind_ok (ts := k + 1) (by omega) (by omega) (by omega)) q_plain q_ind (by rfl) (by rfl) (by simp [wsD])) Op2.ne (by with_unfolding_all rfl)) (fun q => ?_) fun q => ?_)
    · replace q : indent s1 (k + 1) ≠ indent s2 (k + 1) := by simpa using q
      refine Runs.append (by walk_at "look") (Evals.tuple (EvalsL.cons (by walk_at "ev") (EvalsL.cons (Evals.methI (name := "indent_level") (by walk_at "ev") (by walk_at "evs") (ind_ok (ts := k + 1) (by omega) (by omega) (by omega)) q_plain q_ind (by rfl) (by rfl) (by simp [wsD])) (EvalsL.cons (Evals.methI (name := "indent_level") (by walk_at "ev") (by walk_at "evs") (ind_ok (ts := k + 1) (by omega) (by omega) (by omega)) q_plain q_ind (by rfl) (by rfl) (by simp [wsD])) EvalsL.nil))) (by decide)) hwl (Runs.nil (Runs.nil ⟨by walk_at "look", by walk_at "look", ?_⟩))
      rw [hw, if_pos q]
      walk_at "look"
    · replace q : ¬ indent s1 (k + 1) ≠ indent s2 (k + 1) := by simpa using q
      refine Runs.nil (Runs.nil ⟨by walk_at "look", by walk_at "look", ?_⟩)
      rw [hw, if_neg q, List.append_nil]
      walk_at "look"
  · rintro ρ ⟨r1, r2, r3⟩
    rw [hln] at r3
    refine Runs.freeze (x := "a") (by walk_at "look") ?_
    exact Runs.ret (by walk_at "ev") (.inl rfl)
end
end
section
open PySem PySem.W PyProof.Rows PySem.Calls
set_option autoImplicit false
set_option maxRecDepth 100000
section
variable {w : World} {mg mb : Str → Option Value}
/-- n marks' name -/
noncomputable def nm (n s2 : Nat) : List Nat := List.replicate (n / 2) 34 ++ (if n % 2 = 1 then [] else [s2])
theorem go_nm {s2 : Nat} {e : List Nat} (hs : s2 ≠ 34) (he : go257 e = []) : ∀ n, go257 (List.replicate n 34 ++ (s2 :: e)) = nm n s2
  | 0 => by rw [List.replicate_zero, List.nil_append, go_other hs, he]; rfl
  | 1 => by rw [show List.replicate 1 34 ++ (s2 :: e) = 34 :: s2 :: e from rfl, go_end hs]; rfl
  | n + 2 => by
    rw [show List.replicate (n + 2) 34 ++ (s2 :: e) = 34 :: 34 :: (List.replicate n 34 ++ (s2 :: e)) from rfl, go_two, go_nm hs he n]
    unfold nm
    rw [show (n + 2) / 2 = n / 2 + 1 by omega, show (n + 2) % 2 = n % 2 by omega]
    rfl
theorem nm_count {n s2 : Nat} (hs : s2 ≠ 34) : (nm n s2).count 34 = n / 2 := by
  unfold nm
  have : List.count 34 (if n % 2 = 1 then [] else [s2]) = 0 := by split <;> simp [hs]
  rw [List.count_append, List.count_replicate, this]
  simp
theorem nm_last {n s2 : Nat} (hs : s2 ≠ 34) : (sl (nm n s2) (some (-1)) none = [s2]) ↔ n % 2 = 0 := by
  have key : ∀ l : List Nat, sl l (some (-1)) none = l.drop (l.length - 1) := fun l => by
    unfold sl
    simp only [Option.elim, clip_neg1]
    exact List.take_of_length_le (by rw [List.length_drop]; exact Nat.le_refl _)
  rw [key]
  unfold nm
  by_cases h : n % 2 = 1
  · rw [if_pos h, List.append_nil, List.length_replicate, List.drop_replicate]
    constructor
    · intro e
      have : s2 ∈ List.replicate (n / 2 - (n / 2 - 1)) 34 := by rw [e]; simp
      exact absurd (List.eq_of_mem_replicate this) hs
    · intro e; omega
  · rw [if_neg h, List.length_append, List.length_replicate]
    simp
    omega
theorem nm_len (n s2 : Nat) : (nm n s2).length ≤ n + 1 := by
  unfold nm
  rw [List.length_append, List.length_replicate]
  split <;> simp <;> omega
noncomputable abbrev NI (k : Nat) : D := .int ((k : Nat) : Int)
/-- the halving hand -/
noncomputable def halves : Nat → Nat → Nat → Nat → Nat
  | 0, _, _, _ => 0
  | k + 1, a, b, t => if a = b then a * t else if a % 2 = 0 ∧ b % 2 = 0 then halves k (a / 2) (b / 2) (2 * t) else if a % 2 = 0 then halves k (a / 2) b t else if b % 2 = 0 then halves k a (b / 2) t else halves k (min a b) (max (a / 2) (b / 2) - min (a / 2) (b / 2)) t
noncomputable def HInv (a0 b0 s2 : Nat) (e : List Nat) (k : Nat) (ρ : Rho) : Prop := ∃ a b t : Nat, halves (9 - k) a b t = halves 9 a0 b0 1 ∧ a ≤ 100 ∧ b ≤ 100 ∧ t ≤ 2 ^ k ∧ ρ "a" = some (.fz (NI a)) ∧ ρ "b" = some (.fz (NI b)) ∧ ρ "sign" = some (.fz (.str (S [s2]))) ∧ ρ "end" = some (.fz (.str (S e))) ∧ ρ "twos" = some (.fz (NI t))
set_option maxHeartbeats 4000000 in
theorem halves_ok {n a0 b0 s2 : Nat} {e : List Nat} (ha0 : a0 ≤ 100) (hb0 : b0 ≤ 100) (hs : s2 ≠ 34) (he : go257 e = []) (hel : e.length ≤ 100) :
    Fun (c2 w mg mb) (n + 2) (.ref 131) [NI a0, NI b0, .str (S [s2]), .str (S e)] (NI (halves 9 a0 b0 1)) := by
  refine' Fun.defC (names := ["a", "b", "sign", "end"]) (ho := rfl) (hcd := by exact rfl) (hbind := ?hbind) (hloc := by decide +kernel) (hl := rfl) (run := ?run)
  case hbind => intro vs h; obtain ⟨a, b, c, d, rfl⟩ := vs4 h; rfl
  intro L
  dsimp only [bindD]
  refine Runs.assign (.inl rfl) (by walk_at "ev") ?_
  refine Runs.for (d := .rng 0 9) (ds := intsD 0 9) (Evals.call (f := .type "range") (Callee.blt g_range (by rfl)) trivial (by walk_at "evs") Fun.range1) (Iters.rng (by omega) (by omega) (by omega) (by omega))
    (HInv a0 b0 s2 e)
    ⟨a0, b0, 1, rfl, ha0, hb0, by decide, by walk_at "look", by walk_at "look", by walk_at "look", by walk_at "look", by walk_at "look"⟩ ?_ ?_
  · rintro k d ρ hk ⟨a, b, t, hh, ha, hb, ht, r1, r2, r3, r4, r5⟩
    have hk9 : k < 9 := (List.getElem?_eq_some_iff.mp hk).1
    obtain ⟨m, hm⟩ : ∃ m, 9 - k = m + 1 := ⟨8 - k, by omega⟩
    have hm' : 9 - (k + 1) = m := by omega
    rw [hm, halves] at hh
    have ht9 : t ≤ 512 := Nat.le_trans ht (Nat.le_trans (Nat.pow_le_pow_right (by decide) (Nat.le_of_lt hk9)) (by decide))
    have ht2 : t ≤ 2 ^ (k + 1) := by rw [Nat.pow_succ]; omega
    have ht3 : 2 * t ≤ 2 ^ (k + 1) := by rw [Nat.pow_succ]; omega
    obtain ⟨dd, rfl⟩ : ∃ i : Int, d = .int i := by
      unfold intsD at hk
      rw [List.getElem?_map] at hk
      obtain ⟨y, _, rfl⟩ := Option.map_eq_some_iff.mp hk
      exact ⟨_, rfl⟩
    refine Asg.name (.inl rfl) ?_
    refine Runs.cons (Run1.ite (b := decide (a = b)) (Tests.conv (Tests.cmp (by walk_at "ev") (by walk_at "ev") Op2.eq (by with_unfolding_all rfl)) ?_) (fun q => ?_) fun q => ?_)
    · show decide _ = _
      exact decide_eq_decide.mpr (by omega)
    · replace q : a = b := by simpa using q
      refine Runs.ret (Evals.conv (Evals.bin (by walk_at "ev") (by walk_at "ev") (Op2.mulB (by omega) (by omega))) ?_) (.inl rfl)
      rw [if_pos q] at hh
      rw [← hh]
      exact congrArg D.int (by push_cast; rfl)
    replace q : ¬ a = b := by simpa using q
    rw [if_neg q] at hh
    refine Runs.nil ?_
    refine Runs.cons (Run1.assignComp (cl := [(Str.ofString "sign", _), (Str.ofString "end", _)]) (ρ₀ := upd (upd (fun _ => none) "sign" (.fz (.str (S [s2])))) "end" (.fz (.str (S e)))) (fun d => match d with | .int x => some (.str (S (nm x.toNat s2))) | _ => none) (.inl rfl) (Evals.list (ds := [NI a, NI b]) (by walk_at "evs") (by first | exact szs rfl | (rw [sizeLine_eq]; simp))) Iters.lst (Inner.upd (Inner.upd Inner.none (by walk_at "look") rfl rfl rfl rfl) (by walk_at "look") rfl rfl rfl rfl) ?_ ?_ ?_ (hcl := ⟨rfl, rfl, trivial⟩))
    · intro C j d hj
      obtain ⟨x, rfl, hx⟩ : ∃ x : Nat, d = NI x ∧ x ≤ 100 := by
        match j, hj with
        | 0, hj => cases hj; exact ⟨a, rfl, ha⟩
        | 1, hj => cases hj; exact ⟨b, rfl, hb⟩
      refine Asg.name (.inl rfl) ?_
      refine ⟨sub_upd (fun _ _ e => e) rfl, true, rfl, by simp, fun _ => ⟨.str (S (nm x s2)), Evals.conv (Evals.call (f := .ref 126) (Callee.glob g_parse) (by rfl) (EvalsL.cons (Evals.bin (Evals.bin (Evals.bin (by walk_at "ev") (Evals.bin (by walk_at "ev") (by walk_at "ev") (by walk_at "op")) (Op2.addS ?_)) (by walk_at "ev") (Op2.addS ?_)) (by walk_at "ev") (Op2.addS ?_)) EvalsL.nil) (parse_ok ?_ ?_)) ?_, rfl⟩⟩
      · simp; omega
      · simp; omega
      · simp; omega
      · simp; omega
      · simp
      · rw [show ((x : Nat) : Int).toNat = x by omega]
        rw [show List.drop 5 ((([50, 53, 55, 32, 34] ++ (List.replicate x [34]).flatten) ++ [s2]) ++ e : List Nat) = List.replicate x 34 ++ (s2 :: e) by simp]
        rw [go_nm hs he]
    · rw [show List.filterMap (fun d : D => match d with | .int x => some (D.str (S (nm x.toNat s2))) | _ => none) [NI a, NI b] = [.str (S (nm a s2)), .str (S (nm b s2))] from rfl]
      refine Runs.cons (Run1.assignComp (cl := []) (ρ₀ := fun _ => none) (fun d => match d with | .str x => some (NI (x.cps.toList.count 34)) | _ => none) (.inl rfl) (by walk_at "ev") Iters.lst Inner.none ?_ ?_ ?_ (hcl := trivial))
      · intro C j d hj
        obtain ⟨l, rfl⟩ : ∃ l, d = .str (S l) := by
          match j, hj with
          | 0, hj => cases hj; exact ⟨_, rfl⟩
          | 1, hj => cases hj; exact ⟨_, rfl⟩
        refine Asg.name (.inl rfl) ?_
        refine ⟨sub_upd (fun _ _ e => e) rfl, true, rfl, by simp, fun _ => ⟨_, Evals.meth (by walk_at "ev") (by walk_at "evs") Fun.countS PySem.F.slot_str_count PySem.F.type_str_count, ?_⟩⟩
        dsimp only
        rw [S_toList]
      · rw [show List.filterMap (fun d : D => match d with | .str x => some (NI (x.cps.toList.count 34)) | _ => none) [.str (S (nm a s2)), .str (S (nm b s2))] = [NI (a / 2), NI (b / 2)] by
          show [NI ((S (nm a s2)).cps.toList.count 34), NI ((S (nm b s2)).cps.toList.count 34)] = _
          rw [S_toList, S_toList, nm_count hs, nm_count hs]]
        refine Runs.cons (Run1.assignComp (cl := [(Str.ofString "sign", _)]) (ρ₀ := upd (fun _ => none) "sign" (.fz (.str (S [s2])))) (fun d => match d with | .str x => some (.bool (decide (sl x.cps.toList (some (-1)) none = [s2]))) | _ => none) (.inl rfl) (by walk_at "ev") Iters.lst (Inner.upd Inner.none (by walk_at "look") rfl rfl rfl rfl) ?_ ?_ ?_ (hcl := ⟨rfl, trivial⟩))
        · intro C j d hj
          obtain ⟨l, rfl, hl⟩ : ∃ l, d = .str (S l) ∧ l.length ≤ 1000 := by
            have h1 := nm_len a s2
            have h2 := nm_len b s2
            match j, hj with
            | 0, hj => cases hj; exact ⟨_, rfl, by omega⟩
            | 1, hj => cases hj; exact ⟨_, rfl, by omega⟩
          refine Asg.name (.inl rfl) ?_
          refine ⟨sub_upd (fun _ _ e => e) rfl, true, rfl, by simp, fun _ => ⟨_, Evals.cmp (by walk_at "ev") (by walk_at "ev") Op2.eqS, ?_⟩⟩
          dsimp only
          rw [S_toList]
        · rw [show List.filterMap (fun d : D => match d with | .str x => some (D.bool (decide (sl x.cps.toList (some (-1)) none = [s2]))) | _ => none) [.str (S (nm a s2)), .str (S (nm b s2))] = [.bool (decide (a % 2 = 0)), .bool (decide (b % 2 = 0))] by
            show [D.bool (decide (sl (S (nm a s2)).cps.toList (some (-1)) none = [s2])), D.bool (decide (sl (S (nm b s2)).cps.toList (some (-1)) none = [s2]))] = _
            rw [S_toList, S_toList, decide_eq_decide.mpr (nm_last hs), decide_eq_decide.mpr (nm_last hs)]]
          refine Runs.cons (Run1.ite (Tests.and2 (a := decide (a % 2 = 0)) (b := decide (b % 2 = 0)) (Tests.val (Evals.index (by walk_at "ev") (by walk_at "ev") (Op2.item_lst (by decide) (by decide) rfl) trivial)) fun _ => Tests.val (Evals.index (by walk_at "ev") (by walk_at "ev") (Op2.item_lst (by decide) (by decide) rfl) trivial)) (fun p => ?_) fun p => ?_)
          · replace p : a % 2 = 0 ∧ b % 2 = 0 := by simpa using p
            rw [if_pos p] at hh
            refine Runs.assignS (names := [Str.ofString "a", Str.ofString "b", Str.ofString "twos"]) (EvalsL.cons (Evals.index (by walk_at "ev") (by walk_at "ev") (Op2.item_lst (d := NI (a / 2)) (by decide) (by decide) rfl) trivial) (EvalsL.cons (Evals.index (by walk_at "ev") (by walk_at "ev") (Op2.item_lst (d := NI (b / 2)) (by decide) (by decide) rfl) trivial) (EvalsL.cons (Evals.conv (d' := NI (2 * t)) (Evals.bin (by walk_at "ev") (by walk_at "ev") (Op2.mulB (by omega) (by omega))) (congrArg D.int (by push_cast; rfl))) EvalsL.nil))) (AsgN.cons (.inl rfl) (AsgN.cons (.inl rfl) (AsgN.cons (.inl rfl) (AsgN.nil ?_)))) (hz := by decide)
            refine Runs.nil (Runs.nil ⟨a / 2, b / 2, 2 * t, by rw [hm']; exact hh, Nat.le_trans (Nat.div_le_self _ _) ha, Nat.le_trans (Nat.div_le_self _ _) hb, ht3, by walk_at "look", by walk_at "look", by walk_at "look", by walk_at "look", by walk_at "look"⟩)
          replace p : ¬ (a % 2 = 0 ∧ b % 2 = 0) := by simpa using p
          rw [if_neg p] at hh
          refine Runs.cons (Run1.ite (b := decide (a % 2 = 0)) (Tests.val (Evals.index (by walk_at "ev") (by walk_at "ev") (Op2.item_lst (by decide) (by decide) rfl) trivial)) (fun p1 => ?_) fun p1 => ?_)
          · replace p1 : a % 2 = 0 := by simpa using p1
            rw [if_pos p1] at hh
            refine Runs.assign (.inl rfl) (Evals.index (by walk_at "ev") (by walk_at "ev") (Op2.item_lst (d := NI (a / 2)) (by decide) (by decide) rfl) trivial) ?_
            refine Runs.nil (Runs.nil (Runs.nil ⟨a / 2, b, t, by rw [hm']; exact hh, Nat.le_trans (Nat.div_le_self _ _) ha, hb, ht2, by walk_at "look", by walk_at "look", by walk_at "look", by walk_at "look", by walk_at "look"⟩))
          replace p1 : ¬ a % 2 = 0 := by simpa using p1
          rw [if_neg p1] at hh
          refine Runs.cons (Run1.ite (b := decide (b % 2 = 0)) (Tests.val (Evals.index (by walk_at "ev") (by walk_at "ev") (Op2.item_lst (by decide) (by decide) rfl) trivial)) (fun p2 => ?_) fun p2 => ?_)
          · replace p2 : b % 2 = 0 := by simpa using p2
            rw [if_pos p2] at hh
            refine Runs.assign (.inl rfl) (Evals.index (by walk_at "ev") (by walk_at "ev") (Op2.item_lst (d := NI (b / 2)) (by decide) (by decide) rfl) trivial) ?_
            refine Runs.nil (Runs.nil (Runs.nil (Runs.nil ⟨a, b / 2, t, by rw [hm']; exact hh, ha, Nat.le_trans (Nat.div_le_self _ _) hb, ht2, by walk_at "look", by walk_at "look", by walk_at "look", by walk_at "look", by walk_at "look"⟩)))
          replace p2 : ¬ b % 2 = 0 := by simpa using p2
          rw [if_neg p2] at hh
          refine Runs.assignS (names := [Str.ofString "a", Str.ofString "b"]) (EvalsL.cons (Evals.conv (d' := NI (min a b)) (Evals.call (f := .builtin "min") (Callee.blt g_min (by rfl)) trivial (by walk_at "evs") Fun.min2) ?_) (EvalsL.cons (Evals.conv (d' := NI (max (a / 2) (b / 2) - min (a / 2) (b / 2))) (Evals.bin (Evals.call (f := .builtin "max") (Callee.blt g_max (by rfl)) trivial (by walk_at "evs") Fun.maxL) (Evals.call (f := .builtin "min") (Callee.blt g_min (by rfl)) trivial (by walk_at "evs") Fun.minL) Op2.sub) ?_) EvalsL.nil)) (AsgN.cons (.inl rfl) (AsgN.cons (.inl rfl) (AsgN.nil ?_))) (hz := by decide)
          · exact congrArg D.int (hv1 a b)
          · exact congrArg D.int (hv2 (a / 2) (b / 2))
          refine Runs.nil (Runs.nil (Runs.nil (Runs.nil ⟨min a b, max (a / 2) (b / 2) - min (a / 2) (b / 2), t, by rw [hm']; exact hh, Nat.le_trans (Nat.min_le_left _ _) ha, hv3 (Nat.le_trans (Nat.div_le_self _ _) ha) (Nat.le_trans (Nat.div_le_self _ _) hb), ht2, by walk_at "look", by walk_at "look", by walk_at "look", by walk_at "look", by walk_at "look"⟩)))
        · first | exact szs rfl | (rw [sizeLine_eq]; simp)
      · first | exact szs rfl | (rw [sizeLine_eq]; simp)
    · first | exact szs rfl | (rw [sizeLine_eq]; simp)
  · rintro ρ ⟨a, b, t, hh, _⟩
    refine Runs.ret (by walk_at "ev") (.inl ?_)
    rw [← hh]
    rfl
end
end
section
open PySem PySem.W PyProof.Rows PySem.Calls
set_option autoImplicit false
set_option maxRecDepth 100000
section
variable {w : World} {mg mb : Str → Option Value}
noncomputable def partsN (a b s : Nat) : Nat := (if a % s = 0 then 1 else 0) + (if b % s = 0 then 1 else 0)
noncomputable def colN (a b s : Nat) : Nat := s * (a / s + b / s + 2)
noncomputable def stopsD (a b k : Nat) : List D := (List.range k).filterMap fun i => if 0 < partsN a b (i + 1) then some (.tup [NI (i + 1), NI (colN a b (i + 1)), .int ((colN a b (i + 1) : Nat) - (partsN a b (i + 1) : Nat) * ((i + 1 : Nat) : Int))]) else none
set_option maxHeartbeats 4000000 in
theorem stops_ok {n a b : Nat} (ha : a ≤ 100) (hb : b ≤ 100) : Fun (c2 w mg mb) (n + 1) (.ref 136) [NI a, NI b] (.lst (stopsD a b (imax a b).toNat)) := by
  refine' Fun.defC (names := ["a", "b"]) (ho := rfl) (hcd := by exact rfl) (hbind := ?hbind) (hloc := by decide +kernel) (hl := rfl) (run := ?run)
  case hbind => intro vs h; obtain ⟨a, b, rfl⟩ := vs2 h; rfl
  intro L
  dsimp only [bindD]
  have hN : 0 ≤ imax a b ∧ imax a b ≤ 100 := by unfold imax; split <;> omega
  refine Runs.assignNew (.inl rfl) (EvalsNew.list EvalsL.nil (by decide)) ?_
  have hln : (intsD 1 (imax a b + 1)).length = (imax a b).toNat := by unfold intsD; simp
  refine Runs.for (d := .rng 1 (imax a b + 1)) (ds := intsD 1 (imax a b + 1)) (Evals.call (f := .type "range") (Callee.blt g_range (by rfl)) trivial (EvalsL.cons (by walk_at "ev") (EvalsL.cons (Evals.bin (Evals.call (f := .builtin "max") (Callee.blt g_max (by rfl)) trivial (by walk_at "evs") Fun.max2) (by walk_at "ev") Op2.add) EvalsL.nil)) Fun.range2) (Iters.rng (by omega) (by omega) (by omega) (by omega))
    (fun k ρ => ρ "a" = some (.fz (NI a)) ∧ ρ "b" = some (.fz (NI b)) ∧ ρ "rows" = some (.own (stopsD a b k)))
    ⟨by walk_at "look", by walk_at "look", by walk_at "look"⟩ ?_ ?_
  · rintro k d ρ hk ⟨r1, r2, r3⟩
    have hkl : k < (imax a b).toNat := by rw [← hln]; exact (List.getElem?_eq_some_iff.mp hk).1
    have hd : d = NI (k + 1) := by
      unfold intsD at hk
      rw [List.getElem?_map, List.getElem?_range (by omega)] at hk
      cases hk
      exact congrArg D.int (by omega)
    subst hd
    have hw : stopsD a b (k + 1) = stopsD a b k ++ (if 0 < partsN a b (k + 1) then [.tup [NI (k + 1), NI (colN a b (k + 1)), .int ((colN a b (k + 1) : Nat) - (partsN a b (k + 1) : Nat) * ((k + 1 : Nat) : Int))]] else []) := by
      unfold stopsD
      rw [List.range_succ, List.filterMap_append]
      congr 1
      by_cases q : 0 < partsN a b (k + 1) <;> simp [q]
    have hwl : (stopsD a b k).length ≤ 1000000 := by
      unfold stopsD
      refine Nat.le_trans (List.length_filterMap_le _ _) ?_
      rw [List.length_range]
      omega
    have hpl : partsN a b (k + 1) ≤ 2 := by unfold partsN; split <;> split <;> omega
    have hdiv : ((a : Nat) : Int) / ((k + 1 : Nat) : Int) = ((a / (k + 1) : Nat) : Int) ∧ ((b : Nat) : Int) / ((k + 1 : Nat) : Int) = ((b / (k + 1) : Nat) : Int) := ⟨by push_cast; rfl, by push_cast; rfl⟩
    have hda : a / (k + 1) ≤ 100 := Nat.le_trans (Nat.div_le_self _ _) ha
    have hdb : b / (k + 1) ≤ 100 := Nat.le_trans (Nat.div_le_self _ _) hb
    refine Asg.name (.inr ⟨_, rfl, rfl, by intro h; cases h⟩) ?_
    refine Runs.assignS (names := [Str.ofString "parts", Str.ofString "column"]) (EvalsL.cons (Evals.call (f := .builtin "len") (Callee.blt g_len (by rfl)) trivial (EvalsL.cons (Evals.comp (cl := [(Str.ofString "size", _)]) (ρ₀ := upd (fun _ => none) "size" (.fz (NI (k + 1)))) (fun d => match d with | .int x => if x % ((k + 1 : Nat) : Int) = 0 then some (.int x) else none | _ => none) (Evals.list (ds := [NI a, NI b]) (by walk_at "evs") (by first | exact szs rfl | (rw [sizeLine_eq]; simp))) Iters.lst (Inner.upd Inner.none (by walk_at "look") rfl rfl rfl rfl) ?_ ?_ (hcl := ⟨rfl, trivial⟩)) EvalsL.nil) (Fun.lenL (m := partsN a b (k + 1)) ?_ (by omega)))
      (EvalsL.cons (Evals.conv (d' := NI (colN a b (k + 1))) (Evals.bin (by walk_at "ev") (Evals.bin (Evals.bin (Evals.bin (by walk_at "ev") (by walk_at "ev") (Op2.fdivB (by omega) (by omega))) (Evals.bin (by walk_at "ev") (by walk_at "ev") (Op2.fdivB (by omega) (by omega))) Op2.add) (by walk_at "ev") Op2.add) (Op2.mulB (by omega) (by omega))) ?_) EvalsL.nil)) (AsgN.cons (.inl rfl) (AsgN.cons (.inl rfl) (AsgN.nil ?_))) (hz := by decide)
    · intro C j d hj
      obtain ⟨x, rfl⟩ : ∃ x : Nat, d = NI x := by
        match j, hj with
        | 0, hj => cases hj; exact ⟨a, rfl⟩
        | 1, hj => cases hj; exact ⟨b, rfl⟩
      refine Asg.name (.inl rfl) ?_
      refine ⟨sub_upd (fun _ _ e => e) rfl, decide (((x : Nat) : Int) % ((k + 1 : Nat) : Int) = 0), Tests.conv (Tests.cmp (Evals.bin (by walk_at "ev") (by walk_at "ev") (Op2.fmodB (by omega))) (by walk_at "ev") Op2.eq (by with_unfolding_all rfl)) ?_, fun q => ?_, fun q => ⟨_, by walk_at "ev", ?_⟩⟩
      · rfl
      · exact if_neg (by simpa using q)
      · exact if_pos (by simpa using q)
    · first | exact szs rfl | (rw [sizeLine_eq]; simp)
    · have e1 : (((a : Nat) : Int) % ((k + 1 : Nat) : Int) = 0) ↔ a % (k + 1) = 0 := by omega
      have e2 : (((b : Nat) : Int) % ((k + 1 : Nat) : Int) = 0) ↔ b % (k + 1) = 0 := by omega
      unfold partsN
      simp only [List.filterMap_cons, List.filterMap_nil, e1, e2]
      by_cases q1 : a % (k + 1) = 0 <;> by_cases q2 : b % (k + 1) = 0 <;> simp [q1, q2]
    · rw [hdiv.1, hdiv.2]
      unfold colN
      exact congrArg D.int (by push_cast; rfl)
    refine Runs.cons (Run1.ite (b := decide (0 < partsN a b (k + 1))) (Tests.conv (Tests.cmp (by walk_at "ev") (by walk_at "ev") Op2.gt (by with_unfolding_all rfl)) (decide_eq_decide.mpr (by omega))) (fun q => ?_) fun q => ?_)
    · replace q : 0 < partsN a b (k + 1) := by simpa using q
      refine Runs.append (by walk_at "look") (Evals.tuple (EvalsL.cons (by walk_at "ev") (EvalsL.cons (by walk_at "ev") (EvalsL.cons (Evals.bin (by walk_at "ev") (Evals.bin (by walk_at "ev") (by walk_at "ev") (Op2.mulB (by omega) (by omega))) Op2.sub) EvalsL.nil))) (by decide)) hwl (Runs.nil (Runs.nil ⟨by walk_at "look", by walk_at "look", ?_⟩))
      rw [hw, if_pos q]
      walk_at "look"
    · replace q : ¬ 0 < partsN a b (k + 1) := by simpa using q
      refine Runs.nil (Runs.nil ⟨by walk_at "look", by walk_at "look", ?_⟩)
      rw [hw, if_neg q, List.append_nil]
      walk_at "look"
  · rintro ρ ⟨r1, r2, r3⟩
    rw [hln] at r3
    refine Runs.freeze (x := "rows") (by walk_at "look") ?_
    exact Runs.ret (by walk_at "ev") (.inl rfl)
end
end
section
open PySem PySem.W PyProof.Rows PySem.Calls
set_option autoImplicit false
set_option maxRecDepth 100000
-- the leads
theorem wsRun_blanks (r : List Nat) : ∀ (m : Nat) (cnt : List Int) (b k nt : Nat), wsRun (List.replicate m 32 ++ (9 :: r)) ⟨cnt, b, k, nt⟩ = wsRun r ⟨bump cnt (b + m), 0, k + m + 1, nt + 1⟩
  | 0, cnt, b, k, nt => by simp [wsRun]
  | m + 1, cnt, b, k, nt => by
    rw [List.replicate_succ, List.cons_append, wsRun, if_pos rfl]
    dsimp only
    rw [wsRun_blanks r m cnt (b + 1) (k + 1) nt]
    congr 2
    · congr 1; omega
    · omega
theorem wsRun_stop (x : Nat) (r : List Nat) (st : WSt) (h1 : x ≠ 32) (h2 : x ≠ 9) : wsRun (x :: r) st = st := by rw [wsRun, if_neg h1, if_neg h2]
theorem wsRun_sps (x : Nat) (r : List Nat) (h1 : x ≠ 32) (h2 : x ≠ 9) : ∀ (m b k : Nat), wsRun (List.replicate m 32 ++ (x :: r)) ⟨[], b, k, 0⟩ = ⟨[], b + m, k + m, 0⟩
  | 0, b, k => by simp [wsRun, h1, h2]
  | m + 1, b, k => by
    rw [List.replicate_succ, List.cons_append, wsRun, if_pos rfl]
    dsimp only
    rw [wsRun_sps x r h1 h2 m (b + 1) (k + 1)]
    congr 1 <;> omega
noncomputable def stU (a b : Nat) : WSt := ⟨bump (bump [] a) b, 0, a + b + 2, 2⟩
noncomputable def stT : WSt := ⟨bump [] 0, 0, 1, 1⟩
noncomputable def stB (a : Nat) : WSt := ⟨[], a, a, 0⟩
theorem wsRun_lead (a b x : Nat) (r : List Nat) (h1 : x ≠ 32) (h2 : x ≠ 9) : wsRun (List.replicate a 32 ++ (9 :: (List.replicate b 32 ++ (9 :: x :: r)))) ⟨[], 0, 0, 0⟩ = stU a b := by
  rw [wsRun_blanks, wsRun_blanks, wsRun_stop _ _ _ h1 h2]
  unfold stU
  simp
  omega
theorem wsRun_tab (x : Nat) (r : List Nat) (h1 : x ≠ 32) (h2 : x ≠ 9) : wsRun (9 :: x :: r) ⟨[], 0, 0, 0⟩ = stT := by
  have := wsRun_blanks (x :: r) 0 [] 0 0 0
  rw [List.replicate_zero, List.nil_append] at this
  rw [this, wsRun_stop _ _ _ h1 h2]
  rfl
theorem wsRun_bl (a x : Nat) (r : List Nat) (h1 : x ≠ 32) (h2 : x ≠ 9) : wsRun (List.replicate a 32 ++ (x :: r)) ⟨[], 0, 0, 0⟩ = stB a := by
  rw [wsRun_sps x r h1 h2]
  unfold stB
  simp

-- what the witnesses tell
noncomputable abbrev Tri := Nat × Int × Int
noncomputable def tri (t : Tri) : D := .tup [NI t.1, .int t.2.1, .int t.2.2]
noncomputable def witT (s1 s2 : WSt) (k : Nat) : List Tri := (List.range k).filterMap fun i => if indent s1 (i + 1) ≠ indent s2 (i + 1) then some (i + 1, indent s1 (i + 1), indent s2 (i + 1)) else none
noncomputable def stopsT (a b k : Nat) : List Tri := (List.range k).filterMap fun i => if 0 < partsN a b (i + 1) then some (i + 1, (colN a b (i + 1) : Nat), (colN a b (i + 1) : Nat) - (partsN a b (i + 1) : Nat) * ((i + 1 : Nat) : Int)) else none
theorem witD_eq (s1 s2 : WSt) (k : Nat) : witD s1 s2 k = (witT s1 s2 k).map tri := by
  unfold witD witT
  rw [List.map_filterMap]
  congr 1
  funext i
  by_cases q : indent s1 (i + 1) = indent s2 (i + 1) <;> simp [q, tri, NI]
theorem stopsD_eq (a b k : Nat) : stopsD a b k = (stopsT a b k).map tri := by
  unfold stopsD stopsT
  rw [List.map_filterMap]
  congr 1
  funext i
  by_cases q : 0 < partsN a b (i + 1) <;> simp [q, tri]
noncomputable def witN (s1 s2 : WSt) : Nat := (imax (longI s1) (longI s2) + 1).toNat
noncomputable def rowT (f : Nat → Tri) (a k : Nat) : List Tri := (List.range k).filterMap fun i => if i + 1 ≠ a then some (f (i + 1)) else none
/-- all that the leads tell -/
noncomputable def leadsOk (a b : Nat) : Bool :=
  decide (witT (stU a b) (stU (a - 1) (b - 1)) (witN (stU a b) (stU (a - 1) (b - 1))) = stopsT a b (imax a b).toNat) &&
  decide (witT (stU (a - 1) (b - 1)) (stU (b - 1) (a - 1)) (witN (stU (a - 1) (b - 1)) (stU (b - 1) (a - 1))) = []) &&
  decide (witT stT (stB a) (witN stT (stB a)) = rowT (fun n => (n, (n : Int), (a : Int))) a (a + 1)) &&
  decide (witT (stB b) stT (witN (stB b) stT) = rowT (fun n => (n, (b : Int), (n : Int))) b (b + 1)) &&
  decide (((stopsT a b (imax a b).toNat).filterMap fun t => if t.2.1 - t.2.2 = 2 * (t.1 : Int) then some t.1 else none).getLast? = some (Nat.gcd a b)) &&
  decide (halves 9 a b 1 = Nat.gcd a b)
-- words
noncomputable def kindsI (w : List Nat) : List Nat := (List.range 10).filter fun k => w.contains k
noncomputable def oneI (a : Nat) (w : List Nat) : List Nat := (kindsI w).filter fun s => ((w ++ [s]).drop a).isPrefixOf (w ++ [s])
noncomputable def otherI (b size : Nat) (w : List Nat) : List Nat := (kindsI w).filter fun s => ((w ++ [s]).take (size + 1 - b)).isSuffixOf (w ++ [s])
noncomputable def stepOk (a b m size : Nat) (w : List Nat) : Bool :=
  decide (((kindsI w).length : Int) = if ((m : Nat) : Int) > (a : Int) + b - size then (m : Int) else (a : Int) + b - size) && ((w.drop m).isPrefixOf w == decide ((a : Int) + b - m ≤ size)) && ((w.take (size - m)).isSuffixOf w == decide ((a : Int) + b - m ≤ size))
theorem step1 {a b m size : Nat} {w : List Nat} (h : stepOk a b m size w = true) : ((kindsI w).length : Int) = if ((m : Nat) : Int) > (a : Int) + b - size then (m : Int) else (a : Int) + b - size := by
  unfold stepOk at h
  simp only [Bool.and_eq_true, decide_eq_true_eq] at h
  exact h.1.1
theorem step2 {a b m size : Nat} {w : List Nat} (h : stepOk a b m size w = true) : (w.drop m).isPrefixOf w = decide ((a : Int) + b - m ≤ size) := by
  unfold stepOk at h
  simp only [Bool.and_eq_true, beq_iff_eq] at h
  exact h.1.2
theorem step3 {a b m size : Nat} {w : List Nat} (h : stepOk a b m size w = true) : (w.take (size - m)).isSuffixOf w = decide ((a : Int) + b - m ≤ size) := by
  unfold stepOk at h
  simp only [Bool.and_eq_true, beq_iff_eq] at h
  exact h.2
noncomputable def nextI (p q : Nat) (w : List Nat) : List Nat := (w.map fun x => if x = p then q else x) ++ [q]
noncomputable def two : List Nat → List Nat → Option (Nat × Nat)
  | [p], [q] => some (p, q)
  | _, _ => none
theorem two_some {l m : List Nat} {x : Nat × Nat} (h : two l m = some x) : l = [x.1] ∧ m = [x.2] := by
  unfold two at h
  split at h
  · cases h; exact ⟨rfl, rfl⟩
  · cases h
noncomputable def runI (a b m : Nat) : Nat → Nat → List Nat → Option (List Nat)
  | 0, _, w => some w
  | k + 1, size, w => if stepOk a b m size w = true then (two (oneI a w) (otherI b size w)).bind fun x => runI a b m k (size + 1) (nextI x.1 x.2 w) else none
theorem run_step {a b m k size : Nat} {w wf : List Nat} (h : runI a b m (k + 1) size w = some wf) : stepOk a b m size w = true ∧ ∃ p q, oneI a w = [p] ∧ otherI b size w = [q] ∧ runI a b m k (size + 1) (nextI p q w) = some wf := by
  rw [runI] at h
  by_cases so : stepOk a b m size w = true
  · rw [if_pos so] at h
    obtain ⟨x, hx, h⟩ := Option.bind_eq_some_iff.mp h
    obtain ⟨h1, h2⟩ := two_some hx
    exact ⟨so, x.1, x.2, h1, h2, h⟩
  · rw [if_neg so] at h; cases h
noncomputable def endOk (a b m : Nat) (w : List Nat) : Bool :=
  ((List.range w.length).all fun n => n == 0 || ((w.drop n).isPrefixOf w == decide (n % m = 0))) &&
  (ellM [w.take m, w.drop (m - 1)] w == false) && (ellM [w.take m, w.drop m] w == true) && (ellM [w.take m, w.drop (m + 1)] w == true) &&
  (ellM ([] :: (List.replicate ((a + b + 1) / m) [w.headD 0] ++ [[]])) w == true) && (ellM ([] :: (List.replicate ((a + b + 1) / m + 1) [w.headD 0] ++ [[]])) w == false)
theorem end1 {a b m : Nat} {w : List Nat} (h : endOk a b m w = true) {n : Nat} (h1 : 1 ≤ n) (h2 : n < w.length) : (w.drop n).isPrefixOf w = decide (n % m = 0) := by
  unfold endOk at h
  simp only [Bool.and_eq_true] at h
  have := List.all_eq_true.mp h.1.1.1.1.1 n (List.mem_range.mpr h2)
  rcases Bool.or_eq_true_iff.mp this with q | q
  · have : n = 0 := by simpa using q
    omega
  · simpa using q
noncomputable def MidOk (m n : Nat) (w : List Nat) : Prop := ellM [w.take m, w.drop n] w = decide (m ≤ n)
noncomputable def ManyOk (n t : Nat) (w : List Nat) : Prop := ellM ([] :: (List.replicate n [w.headD 0] ++ [[]])) w = decide (n = t)
theorem end2 {a b m : Nat} {w : List Nat} (hm : 1 ≤ m) (h : endOk a b m w = true) : MidOk m (m - 1) w ∧ MidOk m m w ∧ MidOk m (m + 1) w := by
  unfold endOk at h
  simp only [Bool.and_eq_true, beq_iff_eq] at h
  obtain ⟨⟨⟨⟨⟨_, e2⟩, e3⟩, e4⟩, _⟩, _⟩ := h
  exact ⟨e2.trans (decide_eq_false (by omega)).symm, e3.trans (decide_eq_true (by omega)).symm, e4.trans (decide_eq_true (by omega)).symm⟩
theorem end3 {a b m t : Nat} {w : List Nat} (ht : (a + b + 1) / m = t) (h : endOk a b m w = true) : ManyOk t t w ∧ ManyOk (t + 1) t w := by
  unfold endOk at h
  simp only [Bool.and_eq_true, beq_iff_eq, ht] at h
  obtain ⟨⟨_, e5⟩, e6⟩ := h
  exact ⟨e5.trans (decide_eq_true rfl).symm, e6.trans (decide_eq_false (by omega)).symm⟩
noncomputable def word0 (a b : Nat) : List Nat := (List.range (max a b)).map (· % min a b)
noncomputable def wordsOk (a b : Nat) : Bool := match runI a b (Nat.gcd a b) (a + b - Nat.gcd a b + 2 - max a b) (max a b) (word0 a b) with
  | some w => endOk a b (Nat.gcd a b) w
  | none => false
set_option maxHeartbeats 4000000
theorem leads_all : ∀ a < 10, ∀ b < 10, leadsOk (a + 1) (b + 1) = true := by decide +kernel
theorem lt_more {P : Nat → Prop} {n : Nat} (h : ∀ a < n, P a) (hn : P n) : ∀ a < n + 1, P a := fun a ha => (Nat.lt_succ_iff_lt_or_eq.mp ha).elim (h a) fun e => e ▸ hn
theorem words_0 : ∀ b < 10, wordsOk (0 + 1) (b + 1) = true := by decide +kernel
theorem words_1 : ∀ b < 10, wordsOk (1 + 1) (b + 1) = true := by decide +kernel
theorem words_2 : ∀ b < 10, wordsOk (2 + 1) (b + 1) = true := by decide +kernel
theorem words_3 : ∀ b < 10, wordsOk (3 + 1) (b + 1) = true := by decide +kernel
theorem words_4 : ∀ b < 10, wordsOk (4 + 1) (b + 1) = true := by decide +kernel
theorem words_5 : ∀ b < 10, wordsOk (5 + 1) (b + 1) = true := by decide +kernel
theorem words_6 : ∀ b < 10, wordsOk (6 + 1) (b + 1) = true := by decide +kernel
theorem words_7 : ∀ b < 10, wordsOk (7 + 1) (b + 1) = true := by decide +kernel
theorem words_8 : ∀ b < 10, wordsOk (8 + 1) (b + 1) = true := by decide +kernel
theorem words_9 : ∀ b < 10, wordsOk (9 + 1) (b + 1) = true := by decide +kernel
theorem words_all : ∀ a < 10, ∀ b < 10, wordsOk (a + 1) (b + 1) = true :=
  @lt_more (fun a => ∀ b < 10, wordsOk (a + 1) (b + 1) = true) 9 (lt_more (lt_more (lt_more (lt_more (lt_more (lt_more (lt_more (lt_more (lt_more (fun _ h => absurd h (Nat.not_lt_zero _)) words_0) words_1) words_2) words_3) words_4) words_5) words_6) words_7) words_8) words_9
end
section
open PySem PySem.W PyProof.Rows PySem.Calls
set_option autoImplicit false
-- one sign in a text
theorem contains_one (g : List Nat) (c : Nat) : Txt.contains (S g) (S [c]) = g.contains c := by
  rw [contains_S]
  unfold findAt
  by_cases h : c ∈ g
  · obtain ⟨k, hk, e⟩ := List.mem_iff_getElem.mp h
    have h1 : ((List.range' 0 (g.length + 1 - 0)).find? fun k => decide (k + [c].length ≤ g.length) && [c].isPrefixOf (g.drop k)).isSome = true := by
      rw [List.find?_isSome]
      refine ⟨k, by simp; omega, ?_⟩
      rw [List.drop_eq_getElem_cons hk, e]
      simp
      omega
    rw [h1]
    simp [h]
  · have h1 : ((List.range' 0 (g.length + 1 - 0)).find? fun k => decide (k + [c].length ≤ g.length) && [c].isPrefixOf (g.drop k)) = none := by
      rw [List.find?_eq_none]
      intro k hk
      cases hd : g.drop k with
      | nil => simp
      | cons y r =>
        have : y ∈ g := List.mem_of_mem_drop (i := k) (by rw [hd]; exact List.mem_cons_self ..)
        simp only [List.isPrefixOf, Bool.and_true, Bool.and_eq_true, beq_iff_eq, not_and]
        rintro - rfl
        exact h this
    rw [h1]
    simp [h]
-- the questions
theorem findAt_nil (g : List Nat) (i j : Nat) (h : i ≤ j) : findAt g [] i j = some i := by
  unfold findAt
  rw [show j + 1 - i = (j - i) + 1 by omega, List.range'_succ]
  rw [List.find?_cons_of_pos]
  simp [h]
theorem ell_preM (X g : List Nat) : ellM [X, []] g = X.isPrefixOf g := by
  by_cases h0 : X = []
  · subst h0
    simp [ellM, st1, st2, loopF, findAt_nil]
  · by_cases h1 : X.isPrefixOf g = true
    · have hl : X.length ≤ g.length := List.IsPrefix.length_le (List.isPrefixOf_iff_prefix.mp h1)
      have e1 : st1 [X, []] g = some (X.length, [[]]) := by simp [st1, h0, h1]
      have e2 : st2 [[]] g = some (g.length, [[]]) := by simp [st2]
      unfold ellM
      rw [e1]
      dsimp only
      rw [e2]
      dsimp only
      rw [if_neg (by omega), h1]
      simp [loopF, findAt_nil _ _ _ hl]
    · have e1 : st1 [X, []] g = none := by simp [st1, h0, h1]
      unfold ellM
      rw [e1]
      simp [h1]
theorem ell_sufM (X g : List Nat) : ellM [[], X] g = X.isSuffixOf g := by
  have e1 : st1 [[], X] g = some (0, [[], X]) := by simp [st1]
  by_cases h0 : X = []
  · subst h0
    simp [ellM, st1, st2, loopF, findAt_nil, List.isSuffixOf]
  · by_cases h1 : X.isSuffixOf g = true
    · have e2 : st2 [[], X] g = some (g.length - X.length, [[]]) := by simp [st2, h0, h1]
      unfold ellM
      rw [e1]
      dsimp only
      rw [e2]
      dsimp only
      rw [if_neg (by omega), h1]
      simp [loopF, findAt_nil]
    · have e2 : st2 [[], X] g = none := by simp [st2, h0, h1]
      unfold ellM
      rw [e1]
      dsimp only
      rw [e2]
      simp [h1]
section
variable {f : Nat → Nat} (hf : ∀ x y, f x = f y → x = y)
include hf
theorem pre_map : ∀ a b : List Nat, (a.map f).isPrefixOf (b.map f) = a.isPrefixOf b
  | [], _ => by simp
  | _ :: _, [] => by simp
  | x :: a, y :: b => by
    simp only [List.map_cons, List.isPrefixOf]
    rw [pre_map a b]
    congr 1
    by_cases h : x = y
    · simp [h]
    · have : f x ≠ f y := fun e => h (hf _ _ e)
      exact (beq_eq_false_iff_ne.mpr this).trans (beq_eq_false_iff_ne.mpr h).symm
theorem suf_map (a b : List Nat) : (a.map f).isSuffixOf (b.map f) = a.isSuffixOf b := by
  unfold List.isSuffixOf
  rw [← List.map_reverse, ← List.map_reverse, pre_map hf]
theorem findAt_map (g x : List Nat) (i j : Nat) : findAt (g.map f) (x.map f) i j = findAt g x i j := by
  unfold findAt
  congr 1
  funext k
  rw [List.length_map, ← List.map_drop, pre_map hf]
theorem loopF_map (g : List Nat) : ∀ (ws : List (List Nat)) (s e : Nat), loopF (g.map f) (ws.map (List.map f)) s e = loopF g ws s e
  | [], _, _ => rfl
  | x :: r, s, e => by
    rw [List.map_cons, loopF, loopF, findAt_map hf]
    cases findAt g x s e with
    | none => rfl
    | some k => dsimp only; rw [List.length_map, loopF_map g r]
omit hf in
theorem map_nil_iff (l : List Nat) : l.map f = [] ↔ l = [] := by simp
theorem st1_map (ws : List (List Nat)) (g : List Nat) : st1 (ws.map (List.map f)) (g.map f) = (st1 ws g).map fun p => (p.1, p.2.map (List.map f)) := by
  unfold st1
  have e : (ws.map (List.map f)).headD [] = (ws.headD []).map f := by cases ws <;> simp
  rw [e, pre_map hf]
  by_cases h : ws.headD [] = []
  · rw [if_pos h, if_pos (by rw [h]; rfl)]; first | rfl | simp
  · rw [if_neg h, if_neg (by rw [map_nil_iff]; exact h)]
    split
    · rw [List.length_map, ← List.map_tail]; first | rfl | simp
    · rfl
theorem st2_map (ws : List (List Nat)) (g : List Nat) : st2 (ws.map (List.map f)) (g.map f) = (st2 ws g).map fun p => (p.1, p.2.map (List.map f)) := by
  unfold st2
  have e : (ws.map (List.map f)).getLastD [] = (ws.getLastD []).map f := by
    rw [List.getLastD_eq_getLast?, List.getLastD_eq_getLast?, List.getLast?_map]
    cases ws.getLast? <;> simp
  rw [e, suf_map hf]
  by_cases h : ws.getLastD [] = []
  · rw [if_pos h, if_pos (by rw [h]; rfl)]; first | rfl | simp
  · rw [if_neg h, if_neg (by rw [map_nil_iff]; exact h)]
    split
    · rw [List.length_map, List.length_map, ← List.map_dropLast]; first | rfl | simp
    · rfl
theorem ellM_map (ws : List (List Nat)) (g : List Nat) : ellM (ws.map (List.map f)) (g.map f) = ellM ws g := by
  unfold ellM
  rw [st1_map hf]
  cases st1 ws g with
  | none => rfl
  | some p =>
    obtain ⟨s, w1⟩ := p
    simp only [Option.map_some]
    rw [st2_map hf]
    cases st2 w1 g with
    | none => rfl
    | some p =>
      obtain ⟨e, w2⟩ := p
      simp only [Option.map_some]
      rw [loopF_map hf]
end
noncomputable abbrev up (sg : Nat) (l : List Nat) : List Nat := l.map (sg + ·)
theorem up_inj (sg : Nat) : ∀ x y, sg + x = sg + y → x = y := fun _ _ h => by omega
theorem joinD_many (c : Nat) : ∀ n, joinD ([] :: (List.replicate n [c] ++ [[]])) = dots ++ (List.replicate n ([c] ++ dots)).flatten := by
  intro n
  have key : ∀ n, joinD (List.replicate n [c] ++ [[]]) = (List.replicate n ([c] ++ dots)).flatten := by
    intro n
    induction n with
    | zero => rfl
    | succ n ih =>
      rw [List.replicate_succ, List.cons_append, List.replicate_succ, List.flatten_cons, ← ih]
      cases n with
      | zero => rfl
      | succ n => rfl
  rw [← key]
  cases n with
  | zero => rfl
  | succ n => rfl
section
variable {w : World} {mg mb : Str → Option Value} {n : Nat}
theorem ell_pre {X g : List Nat} {b : Bool} (h : 46 ∉ X) (hX : X.length ≤ 1000) (hg : g.length ≤ 1000) (hb : X.isPrefixOf g = b) : Fun (c2 w mg mb) (n + 1) (.ref 94) [.str (S (X ++ dots)), .str (S g)] (.bool b) := by
  have := ell_ok (w := w) (mg := mg) (mb := mb) (n := n) (ps := [X, []]) (g := g) (by simp) (by simpa using h) (by simp [joinD]; omega) (by omega)
  rw [ell_preM, hb] at this
  simpa [joinD] using this
theorem ell_suf {X g : List Nat} {b : Bool} (h : 46 ∉ X) (hX : X.length ≤ 1000) (hg : g.length ≤ 1000) (hb : X.isSuffixOf g = b) : Fun (c2 w mg mb) (n + 1) (.ref 94) [.str (S (dots ++ X)), .str (S g)] (.bool b) := by
  have := ell_ok (w := w) (mg := mg) (mb := mb) (n := n) (ps := [[], X]) (g := g) (by simp) (by simpa using h) (by simp [joinD]; omega) (by omega)
  rw [ell_sufM, hb] at this
  simpa [joinD] using this
theorem ell_mid {X Y g : List Nat} {b : Bool} (h : 46 ∉ X) (h2 : 46 ∉ Y) (hX : X.length ≤ 1000) (hY : Y.length ≤ 1000) (hg : g.length ≤ 1000) (hb : ellM [X, Y] g = b) : Fun (c2 w mg mb) (n + 1) (.ref 94) [.str (S ((X ++ dots) ++ Y)), .str (S g)] (.bool b) := by
  have := ell_ok (w := w) (mg := mg) (mb := mb) (n := n) (ps := [X, Y]) (g := g) (by simp) (by simpa using ⟨h, h2⟩) (by simp [joinD]; omega) (by omega)
  rw [hb] at this
  simpa [joinD] using this
theorem ell_many {c k : Nat} {g : List Nat} {b : Bool} (h : 46 ≠ c) (hk : k ≤ 1000) (hg : g.length ≤ 1000) (hb : ellM ([] :: (List.replicate k [c] ++ [[]])) g = b) : Fun (c2 w mg mb) (n + 1) (.ref 94) [.str (S (dots ++ (List.replicate k ([c] ++ dots)).flatten)), .str (S g)] (.bool b) := by
  have hl : (joinD ([] :: (List.replicate k [c] ++ [[]]))).length ≤ 900000 := by
    rw [joinD_many, List.length_append]
    have : (List.replicate k ([c] ++ dots)).flatten.length = k * 4 := by
      rw [List.length_flatten, List.map_replicate, List.sum_replicate_nat]
      simp
    rw [this]
    simp
    omega
  have := ell_ok (w := w) (mg := mg) (mb := mb) (n := n) (ps := [] :: (List.replicate k [c] ++ [[]])) (g := g) (by simp) (fun p hp => ?_) hl (by omega)
  · rw [hb, joinD_many] at this
    exact this
  · rcases List.mem_cons.mp hp with rfl | hp
    · simp
    · rcases List.mem_append.mp hp with hp | hp
      · rw [List.eq_of_mem_replicate hp]; simpa using h
      · cases List.mem_singleton.mp hp; simp
end
theorem up_46 {sg : Nat} (h : 97 ≤ sg) (l : List Nat) : 46 ∉ up sg l := by
  intro m
  obtain ⟨x, _, e⟩ := List.mem_map.mp m
  omega
theorem next_up (sg p q : Nat) (l : List Nat) : ((up sg l).map fun x => if x = sg + p then sg + q else x) ++ [sg + q] = up sg (nextI p q l) := by
  unfold nextI up
  rw [List.map_append, List.map_map, List.map_map]
  congr 1
  refine List.map_congr_left fun x _ => ?_
  show (if sg + x = sg + p then sg + q else sg + x) = sg + (if x = p then q else x)
  by_cases h : x = p
  · rw [if_pos h, if_pos (by omega)]
  · rw [if_neg h, if_neg (by omega)]
theorem words_at {a b : Nat} (ha : 1 ≤ a ∧ a ≤ 10) (hb : 1 ≤ b ∧ b ≤ 10) : ∃ wf, runI a b (Nat.gcd a b) (a + b - Nat.gcd a b + 2 - max a b) (max a b) (word0 a b) = some wf ∧ endOk a b (Nat.gcd a b) wf = true := by
  have h := words_all (a - 1) (by omega) (b - 1) (by omega)
  rw [show a - 1 + 1 = a by omega, show b - 1 + 1 = b by omega] at h
  unfold wordsOk at h
  split at h
  · rename_i wf e
    exact ⟨wf, e, h⟩
  · cases h
theorem nums {a b m : Nat} (ha : 1 ≤ a ∧ a ≤ 10) (hb : 1 ≤ b ∧ b ≤ 10) (hm1 : 1 ≤ m) (hma : m ≤ a) (hmb : m ≤ b) :
    ∃ mx cnt : Nat, max a b = mx ∧ a + b - m + 2 - max a b = cnt ∧ cnt + mx + m = a + b + 2 ∧ a ≤ mx ∧ b ≤ mx ∧ mx ≤ 10 ∧ (if ((b : Nat) : Int) > (a : Nat) then ((b : Nat) : Int) else (a : Nat)) = (mx : Nat) :=
  ⟨max a b, _, rfl, rfl, by omega, by omega, by omega, by omega, by split <;> omega⟩
theorem len_ok {a b m n : Nat} (ha : a ≤ 10) (hb : b ≤ 10) (hm1 : 1 ≤ m) (hma : m ≤ a) (hmb : m ≤ b) (hl : n = a + b - m + 2) : 2 ≤ n ∧ n ≤ 21 ∧ m ≤ n ∧ m + 1 ≤ n := by
  obtain ⟨k, hk⟩ : ∃ k, a + b = m + k := ⟨a + b - m, by omega⟩
  have : n = k + 2 := by omega
  clear hl
  omega
theorem sl_len (l : List Nat) (i j : Option Int) : (sl l i j).length ≤ l.length := by
  unfold sl
  rw [List.length_take, List.length_drop]
  omega
theorem ltake {l : List Nat} {k n : Nat} (h : l.length ≤ n) : (l.take k).length ≤ n := by rw [List.length_take]; omega
theorem ldrop {l : List Nat} {k n : Nat} (h : l.length ≤ n) : (l.drop k).length ≤ n := by rw [List.length_drop]; omega
theorem lnS {l y : List Nat} {i j : Option Int} (h : l.length ≤ 100) (hy : y.length ≤ 100) : (sl l i j).length + y.length ≤ 16777216 := by
  have := sl_len l i j
  omega
theorem lnT {l x : List Nat} {i j : Option Int} (h : l.length ≤ 100) (hx : x.length ≤ 100) : x.length + (sl l i j).length ≤ 16777216 := by
  have := sl_len l i j
  omega
theorem lnU {l : List Nat} {i j i' j' : Option Int} (h : l.length ≤ 100) : (sl l i j ++ dots).length + (sl l i' j').length ≤ 16777216 := by
  have := sl_len l i j
  have := sl_len l i' j'
  simp
  omega
theorem lnV {x y : List Nat} (hx : x.length ≤ 100) (hy : y.length ≤ 100) : x.length + y.length ≤ 16777216 := by omega
theorem l1000 {x : List Nat} (hx : x.length ≤ 100) : x.length ≤ 1000 := by omega
end
section
open PySem PySem.W PyProof.Rows PySem.Calls
set_option autoImplicit false
set_option maxRecDepth 100000
section
variable {w : World} {mg mb : Str → Option Value}
theorem g_sum : nsIn (Mine.hd2.heap_39 w.params) mainGlobals (Str.ofString "sum") = some none := by rfl
theorem g_chr : nsIn (Mine.hd2.heap_39 w.params) mainGlobals (Str.ofString "chr") = some none := by rfl
theorem ao_of (env : Env) : AOk (c2 w mg mb) 8 (callerA.deeper env) := ⟨rfl, by rw [depth_deeper, depth_caller]; decide, by rw [Around.deeper_units]; decide, trivial⟩
noncomputable def drN (ns : List Int) : List Nat := (ns.take 2).map (fun x => (x % 1000000).toNat) ++ ([9, 5] : List Nat).drop (ns.take 2).length
theorem drN_two (ns : List Int) : ∃ x y, drN ns = [x, y] ∧ x < 1000000 ∧ y < 1000000 := by
  have lt : ∀ z : Int, (z % 1000000).toNat < 1000000 := fun z => by omega
  match ns with
  | [] => exact ⟨9, 5, rfl, by decide, by decide⟩
  | [a] => exact ⟨_, 5, rfl, lt a, by decide⟩
  | a :: b :: r => exact ⟨_, _, rfl, lt a, lt b⟩
/-- what stands in the frame when the signs stand -/
structure Mid (ρ : Rho) (a b sg tot : Nat) (tk : Nat → Nat) : Prop where
  ha : 1 ≤ a ∧ a ≤ 10
  hb : 1 ≤ b ∧ b ≤ 10
  hs : 97 ≤ sg ∧ sg ≤ 50096
  ht : tot ≤ 2000000
  tt : Told tk 10
  v1 : ρ "a" = some (.fz (NI a))
  v2 : ρ "b" = some (.fz (NI b))
  v3 : ρ "total" = some (.fz (NI tot))
  v4 : ρ "signs" = some (.fz (.lst (signsT sg tk 10)))
theorem g_stops : nsIn (Mine.hd2.heap_39 w.params) mainGlobals (Str.ofString "_law_stops") = some (some (.ref 136)) := by rfl
theorem g_halves : nsIn (Mine.hd2.heap_39 w.params) mainGlobals (Str.ofString "_law_halves") = some (some (.ref 131)) := by rfl
theorem sign_at (sg : Nat) (tk : Nat → Nat) (k : Nat) (h : k < 10) : (signsT sg tk 10)[k]? = some (.strT (S [sg + k]) (tk k)) := by
  unfold signsT
  rw [List.getElem?_map, List.getElem?_range h]; rfl
theorem sign_at' (sg : Nat) (tk : Nat → Nat) (i : Int) (k : Nat) (e : i = k) (h : k < 10) : (signsT sg tk 10)[i.toNat]? = some (.strT (S [sg + k]) (tk k)) := by
  rw [show i.toNat = k by omega]; exact sign_at sg tk k h
section
variable {c : Cx} {n : Nat} {env : Env} {ρ : Rho}
theorem Evals.blanks {e : Expr} {i : Int} {m k1 : Nat} {p1 p2 : Pos} (h : Evals c n env ρ e (.int i)) (hi : i = m) (hm : m ≤ 100) : Evals c n env ρ (.BinOp (.Constant (.str (Str.ofString " ")) k1 p1) .Mult e p2) (.str (S (List.replicate m 32))) := by
  refine Evals.conv (Evals.bin (Evals.strS k_sp) h (Op2.mulS (by omega) (by omega) (by simp))) ?_
  rw [show i.toNat = m by omega]
  simp
noncomputable abbrev lead5 (m1 m2 x : Nat) (r : List Nat) : List Nat := List.replicate m1 32 ++ (9 :: (List.replicate m2 32 ++ (9 :: x :: r)))
theorem Evals.lead5 {ea eb es : Expr} {ia ib : Int} {m1 m2 x k1 k2 k3 k4 : Nat} {p1 p2 p3 p4 p5 p6 p7 p8 p9 p10 : Pos} (ha : Evals c n env ρ ea (.int ia)) (h1 : ia = m1) (b1 : m1 ≤ 100) (hb : Evals c n env ρ eb (.int ib)) (h2 : ib = m2) (b2 : m2 ≤ 100) (hs : Evals c n env ρ es (.str (S [x]))) :
    Evals c n env ρ (.BinOp (.BinOp (.BinOp (.BinOp (.BinOp (.Constant (.str (Str.ofString " ")) k1 p1) .Mult ea p2) .Add (.Constant (.str (Str.ofString "\t")) k2 p3) p4) .Add (.BinOp (.Constant (.str (Str.ofString " ")) k3 p5) .Mult eb p6) p7) .Add (.Constant (.str (Str.ofString "\t")) k4 p8) p9) .Add es p10) (.str (S (Mine.lead5 m1 m2 x []))) := by
  refine Evals.conv (d := .str (S ((((List.replicate m1 32 ++ [9]) ++ List.replicate m2 32) ++ [9]) ++ [x]))) (Evals.bin (Evals.bin (Evals.bin (Evals.bin (Evals.blanks ha h1 b1) (Evals.strS k_tab) (Op2.addS ?_)) (Evals.blanks hb h2 b2) (Op2.addS ?_)) (Evals.strS k_tab) (Op2.addS ?_)) hs (Op2.addS ?_)) ?_
  · simp; omega
  · simp; omega
  · simp; omega
  · simp; omega
  · unfold Mine.lead5; simp
end
theorem ws_ev {n : Nat} {env : Env} {ρ : Rho} {e : Expr} {l : List Nat} {st : WSt} {np pos : Pos} (hc : Callee (c2 w mg mb) env (.Name (Str.ofString "Whitespace") np) (.ref 83)) (he : Evals (c2 w mg mb) (n + 2) env ρ e (.str (S l))) (hl : l.length ≤ 100) (hr : wsRun l ⟨[], 0, 0, 0⟩ = st) (hu : unstarred [e] = true := by rfl) :
    Evals (c2 w mg mb) (n + 2) env ρ (.Call (.Name (Str.ofString "Whitespace") np) [e] [] pos) (.inst 83 (wsD l st)) := by
  subst hr
  exact Evals.call hc (by rfl) (EvalsL.cons he EvalsL.nil) (init_ok hl) (List.cons_ne_nil _ _) hu
theorem stU_len {a b : Nat} (ha : a ≤ 10) (hb : b ≤ 10) : (stU a b).cnt.length ≤ 100 := by
  show (bump (bump [] a) b).length ≤ 100
  unfold bump
  rw [List.length_set]
  refine (ext_len _ b).2 100 ?_ (by omega)
  rw [List.length_set]
  exact (ext_len [] a).2 100 (Nat.zero_le _) (by omega)
theorem okD_tri (ts : List Tri) : okD (.lst (ts.map tri)) = true := by
  rw [okD, okDs_iff]
  intro d hd
  obtain ⟨t, _, rfl⟩ := List.mem_map.mp hd
  simp [tri, okD, okDs]
theorem depth_tri (ts : List Tri) : (py (.lst (ts.map tri))).depth ≤ 7 := by
  have : PyData.depthAll (pys (ts.map tri)) ≤ 1 := by
    induction ts with
    | nil => simp [pys, PyData.depthAll]
    | cons t r ih =>
      rw [List.map_cons, pys, PyData.depthAll]
      refine Nat.max_le.mpr ⟨?_, ih⟩
      simp [tri, py, pys, PyData.depth, PyData.depthAll]
  rw [py, PyData.depth]
  omega
theorem row_of (f : Nat → Tri) (g : D → Option D) (a k : Nat) (hg : ∀ i : Nat, g (NI i) = if i ≠ a then some (tri (f i)) else none) (b : Int) (hb : b = k + 1) : (intsD 1 b).filterMap g = (rowT f a k).map tri := by
  unfold intsD rowT
  subst hb
  rw [show ((k : Int) + 1 - 1).toNat = k by omega, List.filterMap_map, List.map_filterMap]
  congr 1
  funext i
  show g (.int (1 + (i : Int))) = _
  rw [show (1 + (i : Int)) = ((i + 1 : Nat) : Int) by omega, hg]
  by_cases q : i + 1 = a <;> simp [q]
noncomputable def fM : D → Option D
  | .tup [.int s, .int m, .int l] => if m - l = 2 * s then some (.int s) else none
  | _ => none
theorem last_of (ts : List Tri) (m : Nat) (h : (ts.filterMap fun t => if t.2.1 - t.2.2 = 2 * (t.1 : Int) then some t.1 else none).getLast? = some m) (g : D → Option D) (hg : ∀ t : Tri, g (tri t) = if t.2.1 - t.2.2 = 2 * (t.1 : Int) then some (NI t.1) else none) :
    ∃ L : List Nat, (ts.map tri).filterMap g = L.map NI ∧ 1 ≤ L.length ∧ L[L.length - 1]? = some m := by
  refine ⟨ts.filterMap fun t => if t.2.1 - t.2.2 = 2 * (t.1 : Int) then some t.1 else none, ?_, ?_, ?_⟩
  · rw [List.filterMap_map, List.map_filterMap]
    congr 1
    funext t
    show g (tri t) = _
    rw [hg]
    by_cases q : t.2.1 - t.2.2 = 2 * (t.1 : Int) <;> simp [q]
  · cases hL : (ts.filterMap fun t => if t.2.1 - t.2.2 = 2 * (t.1 : Int) then some t.1 else none) with
    | nil => rw [hL] at h; cases h
    | cons x r => simp
  · rw [← List.getLast?_eq_getElem?]; exact h
noncomputable def endOf (k : Nat) : List Nat := ([[], [34], [34, 32, 109, 97, 100, 101], [34, 10, 34, 98, 34, 32, 34]] : List (List Nat)).getD k []
theorem endOf_ok (k : Nat) : go257 (endOf k) = [] ∧ (endOf k).length ≤ 10 := by
  match k with
  | 0 => exact ⟨by rfl, by decide⟩
  | 1 => exact ⟨by rfl, by decide⟩
  | 2 => exact ⟨by rfl, by decide⟩
  | 3 => exact ⟨by rfl, by decide⟩
  | k + 4 => exact ⟨by rfl, by simp [endOf]⟩
theorem join_S (l : List Nat) : Txt.join (S []) (l.map fun k => S [k]) = S l := by
  show Builtin.Str.glued (S []) (l.map fun k => S [k]) = S l
  rw [StrLaws.glued_eq_join]
  exact PyProof.Rows.join_ones l
structure Mid2 (ρ : Rho) (a b sg : Nat) (tk : Nat → Nat) (wd : List Nat) : Prop where
  ha : 1 ≤ a ∧ a ≤ 10
  hb : 1 ≤ b ∧ b ≤ 10
  hs : 97 ≤ sg ∧ sg ≤ 50096
  tt : Told tk 10
  v1 : ρ "a" = some (.fz (NI a))
  v2 : ρ "b" = some (.fz (NI b))
  v4 : ρ "signs" = some (.fz (.lst (signsT sg tk 10)))
  v5 : ρ "measure" = some (.fz (NI (Nat.gcd a b)))
  v6 : ρ "word" = some (.fz (.str (S (wd.map (sg + ·)))))
theorem g_ell : nsIn (Mine.hd2.heap_39 w.params) mainGlobals (Str.ofString "_ellipsis_match") = some (some (.ref 94)) := by rfl
noncomputable def kT (sg : Nat) (tk : Nat → Nat) (l : List Nat) : List D := l.map fun k => D.strT (S [sg + k]) (tk k)
theorem kT_mem {sg : Nat} {tk : Nat → Nat} {l : List Nat} {i : Nat} {d : D} (h : (kT sg tk l)[i]? = some d) : ∃ k, k ∈ l ∧ d = .strT (S [sg + k]) (tk k) := by
  unfold kT at h
  rw [List.getElem?_map] at h
  obtain ⟨k, hk, rfl⟩ := Option.map_eq_some_iff.mp h
  exact ⟨k, List.mem_of_getElem? hk, rfl⟩
theorem kT_filter {sg : Nat} {tk : Nat → Nat} (P : Nat → Bool) (f : D → Option D) (hf : ∀ k, f (.strT (S [sg + k]) (tk k)) = if P k = true then some (.strT (S [sg + k]) (tk k)) else none) : ∀ l : List Nat, (kT sg tk l).filterMap f = kT sg tk (l.filter P)
  | [] => rfl
  | k :: l => by
    have ih := kT_filter P f hf l
    unfold kT at ih ⊢
    rw [List.map_cons, List.filterMap_cons, ih, hf]
    by_cases q : P k = true
    · rw [if_pos q, List.filter_cons_of_pos q]; rfl
    · rw [if_neg q, List.filter_cons_of_neg q]
theorem sl_to' (l : List Nat) (i : Int) (k : Nat) (e : i = k) (h : k ≤ l.length) : sl l none (some i) = l.take k := by subst e; exact sl_to l k h
theorem isnot_self (b b' : Bool) (h : b = b') : (b != b') = false := by subst h; cases b <;> rfl
theorem has_up (sg k : Nat) (wd : List Nat) : (up sg wd).contains (sg + k) = wd.contains k := by
  induction wd with
  | nil => rfl
  | cons y r ih =>
    rw [show up sg (y :: r) = (sg + y) :: up sg r from rfl, List.contains_cons, List.contains_cons, ih]
    congr 1
    by_cases h : k = y
    · subst h; simp
    · rw [beq_eq_false_iff_ne.mpr h, beq_eq_false_iff_ne.mpr (show sg + k ≠ sg + y by omega)]
theorem up_snoc (sg k : Nat) (wd : List Nat) : up sg wd ++ [sg + k] = up sg (wd ++ [k]) := by unfold up; rw [List.map_append]; rfl
theorem one_up (sg a k : Nat) (wd : List Nat) : ((up sg wd ++ [sg + k]).drop a).isPrefixOf (up sg wd ++ [sg + k]) = ((wd ++ [k]).drop a).isPrefixOf (wd ++ [k]) := by
  rw [up_snoc]; unfold up; rw [← List.map_drop, pre_map (up_inj sg)]
theorem other_up (sg j k : Nat) (wd : List Nat) : ((up sg wd ++ [sg + k]).take j).isSuffixOf (up sg wd ++ [sg + k]) = ((wd ++ [k]).take j).isSuffixOf (wd ++ [k]) := by
  rw [up_snoc]; unfold up; rw [← List.map_take, suf_map (up_inj sg)]
theorem kinds_lt {wd : List Nat} {k : Nat} (h : k ∈ kindsI wd) : k < 10 := by
  unfold kindsI at h
  exact List.mem_range.mp (List.mem_filter.mp h).1
noncomputable def fK (W : List Nat) : D → Option D := fun d => match d with | .strT x t => if Txt.contains (S W) x = true then some (.strT x t) else none | _ => none
noncomputable def fO (W : List Nat) (a : Nat) : D → Option D := fun d => match d with | .strT x t => if ((W ++ x.cps.toList).drop a).isPrefixOf (W ++ x.cps.toList) = true then some (.strT x t) else none | _ => none
noncomputable def fP (W : List Nat) (j : Nat) : D → Option D := fun d => match d with | .strT x t => if ((W ++ x.cps.toList).take j).isSuffixOf (W ++ x.cps.toList) = true then some (.strT x t) else none | _ => none
theorem kinds_list (sg : Nat) (tk : Nat → Nat) (wd : List Nat) : (signsT sg tk 10).filterMap (fK (up sg wd)) = kT sg tk (kindsI wd) :=
  kT_filter (fun k => wd.contains k) (fK (up sg wd)) (fun k => by
    show (if Txt.contains (S (up sg wd)) (S [sg + k]) = true then _ else _) = _
    rw [contains_one, has_up]) (List.range 10)
theorem one_list (sg a : Nat) (tk : Nat → Nat) (wd : List Nat) : (kT sg tk (kindsI wd)).filterMap (fO (up sg wd) a) = kT sg tk (oneI a wd) :=
  kT_filter _ (fO (up sg wd) a) (fun k => by
    show (if ((up sg wd ++ (S [sg + k]).cps.toList).drop a).isPrefixOf (up sg wd ++ (S [sg + k]).cps.toList) = true then _ else _) = _
    rw [S_toList, one_up]) (kindsI wd)
theorem other_list (sg b size : Nat) (tk : Nat → Nat) (wd : List Nat) : (kT sg tk (kindsI wd)).filterMap (fP (up sg wd) (size + 1 - b)) = kT sg tk (otherI b size wd) :=
  kT_filter _ (fP (up sg wd) (size + 1 - b)) (fun k => by
    show (if ((up sg wd ++ (S [sg + k]).cps.toList).take (size + 1 - b)).isSuffixOf (up sg wd ++ (S [sg + k]).cps.toList) = true then _ else _) = _
    rw [S_toList, other_up]) (kindsI wd)
noncomputable def InvX (a b sg : Nat) (tk : Nat → Nat) (wf : List Nat) (cnt mx j : Nat) (ρ : Rho) : Prop := ∃ wd, runI a b (Nat.gcd a b) (cnt - j) (mx + j) wd = some wf ∧ wd.length = mx + j ∧ (∀ x ∈ wd, x < 10) ∧ Mid2 ρ a b sg tk wd

set_option maxHeartbeats 20000000 in
theorem law_parts : ∃ (name qual : Str) (params : Arguments) (body : List Stmt) (scope : Scope) (dV kV doc pm cdv ct oc : Value) (an od : Option Addr) (osl : Array (Option Value)),
    (Mine.hd2.heap_39 w.params).lookup 141 = some ⟨oc, od, .func (fnOf name qual params body scope dV kV doc pm an cdv ct), osl⟩ ∧
    (∀ (f : Addr) (cd : Value) (qn : Str) (L : Addr) (ns : List Int), ns.length ≤ 63 →
      (∀ ρ a b sg tot tk, Mid ρ a b sg tot tk → Runs (c2 w mg mb) 8 (envOfC qn scope L f cd) ρ (body.drop 4) (Ends (.bool true))) →
      Runs (c2 w mg mb) 8 (envOfC qn scope L f cd) (upd (fun _ => none) "script" (.fz (.lst (ns.map D.int)))) body (Ends (.bool true))) ∧
    (∀ (f : Addr) (cd : Value) (qn : Str) (L : Addr) ρ a b sg tot tk, Mid ρ a b sg tot tk →
      (∀ ρ', Mid2 ρ' a b sg tk (word0 a b) → Runs (c2 w mg mb) 8 (envOfC qn scope L f cd) ρ' (body.drop 15) (Ends (.bool true))) →
      Runs (c2 w mg mb) 8 (envOfC qn scope L f cd) ρ (body.drop 4) (Ends (.bool true))) ∧
    (∀ (f : Addr) (cd : Value) (qn : Str) (L : Addr) ρ a b sg tk wf, runI a b (Nat.gcd a b) (a + b - Nat.gcd a b + 2 - max a b) (max a b) (word0 a b) = some wf → Mid2 ρ a b sg tk (word0 a b) →
      (∀ ρ', wf.length = a + b - Nat.gcd a b + 2 → Mid2 ρ' a b sg tk wf → Runs (c2 w mg mb) 8 (envOfC qn scope L f cd) ρ' (body.drop 16) (Ends (.bool true))) →
      Runs (c2 w mg mb) 8 (envOfC qn scope L f cd) ρ (body.drop 15) (Ends (.bool true))) ∧
    (∀ (f : Addr) (cd : Value) (qn : Str) (L : Addr) ρ a b sg tk wf, endOk a b (Nat.gcd a b) wf = true → wf.length = a + b - Nat.gcd a b + 2 → Mid2 ρ a b sg tk wf →
      Runs (c2 w mg mb) 8 (envOfC qn scope L f cd) ρ (body.drop 16) (Ends (.bool true))) := by
  refine ⟨_, _, _, _, _, _, _, _, _, _, _, _, _, _, _, rfl, ?_, ?_, ?_, ?_⟩
  · skip
    intro f cd qn L ns hlen KK
    have hsl : dslice (ns.map D.int) none (some 2) = (ns.take 2).map D.int := by
      unfold dslice
      have h8 : clipAt (ns.map D.int).length 2 = min 2 ns.length := by
        have := clipAt_cast (ns.map D.int).length 2
        rw [List.length_map] at this ⊢
        omega
      simp only [Option.elim, h8]
      rw [List.drop_zero, Nat.sub_zero, ← List.map_take]
      congr 1
      exact List.take_eq_take_iff.mpr (by omega)
    refine Runs.cons (Run1.assignComp (cl := []) (ρ₀ := fun _ => none) (fun d => match d with | .int x => some (.int (x % 1000000)) | _ => none) (.inl rfl) (Evals.conv (Evals.slice_lst (by walk_at "ev") (by walk_at "part") (by walk_at "part") (by rw [List.length_map, sizeLine_eq]; omega)) (by rw [hsl])) Iters.lst Inner.none ?_ ?_ ?_ (hcl := trivial))
    · intro C k d hk
      rw [List.getElem?_map] at hk
      obtain ⟨x, hx, rfl⟩ := Option.map_eq_some_iff.mp hk
      refine Asg.name (.inl rfl) ?_
      refine ⟨sub_upd (fun _ _ e => e) rfl, true, rfl, by simp, fun _ => ⟨_, Evals.bin (by walk_at "ev") (Evals.bin (by walk_at "ev") (by walk_at "ev") (Op2.pow (by decide) (by decide) (by decide))) (Op2.fmodB (by decide)), rfl⟩⟩
    · have hfm : List.filterMap (fun d : D => match d with | .int x => some (D.int (x % 1000000)) | _ => none) ((ns.take 2).map D.int) = ((ns.take 2).map fun x => (x % 1000000).toNat).map NI := by
        generalize ns.take 2 = l
        induction l with
        | nil => rfl
        | cons x l ih =>
          have := Int.emod_nonneg x (show (1000000 : Int) ≠ 0 by decide)
          simp only [List.map_cons, List.filterMap_cons, ih, NI]
          rw [show (((x % 1000000).toNat : Nat) : Int) = x % 1000000 by omega]
      rw [hfm]
      have hl8 : (ns.take 2).length ≤ 2 := by rw [List.length_take]; omega
      generalize hA : (ns.take 2).map (fun x => (x % 1000000).toNat) = dA
      have hAl : dA.length ≤ 2 := by rw [← hA, List.length_map]; exact hl8
      refine Runs.assign (.inl rfl) (d := .lst (dA.map NI ++ dslice [.int 9, .int 5] (some dA.length) none)) ?_ ?_
      · refine Evals.ofNew (EvalsNew.add (EvSeq.fz ?_) (EvSeq.fz ?_) ?_)
        · walk_at "ev"
        · refine Evals.slice_lst ?_ ?_ ?_ ?_
          · exact Evals.list (by walk_at "evs") (by first | exact szs rfl | (rw [sizeLine_eq]; simp))
          · exact EvPart.s (Evals.call (f := .builtin "len") (Callee.blt g_len (by rfl)) trivial (by walk_at "evs") (Fun.lenL (by simp) (by omega)))
          · walk_at "part"
          · first | exact szs rfl | (rw [sizeLine_eq]; simp)
        · have : (dslice [.int 9, .int 5] (some (dA.length : Int)) none).length ≤ 2 := by
            unfold dslice
            simp only [List.length_take, List.length_drop]
            simp
          rw [List.length_map]; omega
      rw [dslice_from _ _ (by simpa using hAl)]
      have hdr : dA.map NI ++ [D.int 9, .int 5].drop dA.length = (drN ns).map NI := by
        rw [← hA]
        unfold drN
        rw [List.map_append, List.length_map, List.map_drop]
        rfl
      rw [hdr]
      obtain ⟨d0, d1, he, b0, b1⟩ := drN_two ns
      rw [he]
      clear hdr he hA hsl hfm
      simp only [List.map_cons, List.map_nil]
      generalize ht : d0 + d1 = tot
      generalize ha : 1 + d0 % 10 = a
      generalize hb : 1 + d1 % 10 = b
      have hab : (1 ≤ a ∧ a ≤ 10) ∧ (1 ≤ b ∧ b ≤ 10) ∧ tot ≤ 2000000 := by omega
      refine Runs.assignT (Evals.tuple (EvalsL.cons (Evals.conv (d' := NI a) (Evals.bin (by walk_at "ev") (Evals.bin (Evals.index (by walk_at "ev") (by walk_at "ev") (Op2.item_lst (d := NI d0) (by decide) (by decide) rfl) trivial) (by walk_at "ev") (Op2.fmodB (by decide))) Op2.add) ?_) (EvalsL.cons (Evals.conv (d' := NI b) (Evals.bin (by walk_at "ev") (Evals.bin (Evals.index (by walk_at "ev") (by walk_at "ev") (Op2.item_lst (d := NI d1) (by decide) (by decide) rfl) trivial) (by walk_at "ev") (Op2.fmodB (by decide))) Op2.add) ?_) (EvalsL.cons (Evals.conv (d' := NI tot) (Evals.call (f := .builtin "sum") (Callee.blt g_sum (by rfl)) trivial (EvalsL.cons (by walk_at "ev") EvalsL.nil) (Fun.sum (l := [(d0 : Int), d1]))) ?_) EvalsL.nil))) (by decide))
        (Asg.tuple (AsgL.cons (Asg.name (.inr ⟨_, rfl, rfl, by intro h; cases h⟩) (AsgL.cons (Asg.name (.inr ⟨_, rfl, rfl, by intro h; cases h⟩) (AsgL.cons (Asg.name (.inr ⟨_, rfl, rfl, by intro h; cases h⟩) (AsgL.nil ?_))))))))
      · exact congrArg D.int (by omega)
      · exact congrArg D.int (by omega)
      · exact congrArg D.int (by rw [← ht]; simp)
      generalize hs : 97 + tot % 50000 = sg
      have hsg : 97 ≤ sg ∧ sg ≤ 50096 := by omega
      refine Runs.cons (Run1.assignJ (cl := [(Str.ofString "total", _)]) (ρ₀ := upd (fun _ => none) "total" (.fz (NI tot))) (ds := intsD 0 10) (fun d => match d with | .int x => some (.str (S [(97 + (tot : Int) % 50000 + x).toNat])) | _ => none) JT JT.zero JT.up (.inr ⟨_, rfl, rfl, by intro h; cases h⟩) (Evals.call (f := .type "range") (Callee.blt g_range (by rfl)) trivial (by walk_at "evs") Fun.range1) (Iters.rng (by omega) (by omega) (by omega) (by omega)) (Inner.upd Inner.none (by walk_at "look") rfl rfl rfl rfl) ?_ ?_ ?_ (hcl := ⟨rfl, trivial⟩))
      · intro C k d hk
        obtain ⟨x, rfl, hx⟩ : ∃ x : Nat, d = NI x ∧ x < 10 := by
          have hk10 : k < 10 := (List.getElem?_eq_some_iff.mp hk).1
          unfold intsD at hk
          rw [List.getElem?_map, List.getElem?_range (by simpa using hk10)] at hk
          cases hk
          exact ⟨k, congrArg D.int (by omega), hk10⟩
        refine Asg.name (.inl rfl) ?_
        refine ⟨sub_upd (fun _ _ e => e) rfl, true, rfl, by simp, fun _ => ⟨_, EvalsJ.chr (a := 97 + (tot : Int) % 50000) (b := (x : Nat)) (Callee.blt g_chr (by rfl)) (by walk_at "ev") (by walk_at "ev") (by omega) (by omega), rfl⟩⟩
      · intro vs t j hl
        have hf : List.filterMap (fun d : D => match d with | .int x => some (D.str (S [(97 + (tot : Int) % 50000 + x).toNat])) | _ => none) (intsD 0 10) = (List.range 10).map fun k => D.str (S [sg + k]) := by
          unfold intsD
          rw [show ((10 : Int) - 0).toNat = 10 from rfl, List.filterMap_map]
          have : ∀ l : List Nat, List.filterMap ((fun d : D => match d with | .int x => some (D.str (S [(97 + (tot : Int) % 50000 + x).toNat])) | _ => none) ∘ fun k : Nat => D.int (0 + (k : Int))) l = l.map fun k => D.str (S [sg + k]) := by
            intro l
            induction l with
            | nil => rfl
            | cons y l ih =>
              rw [List.filterMap_cons, ih]
              show D.str (S [(97 + (tot : Int) % 50000 + (0 + (y : Int))).toNat]) :: _ = _
              rw [show (97 + (tot : Int) % 50000 + (0 + (y : Int))).toNat = sg + y by omega]
              rfl
          exact this _
        rw [hf] at hl ⊢
        obtain ⟨tk, ht1, ht2⟩ := told_of (sg := sg) (m := 10) j (by simpa using hl)
        refine ⟨signsT sg tk 10, ht2, ?_⟩
        exact KK _ a b sg tot tk ⟨hab.1, hab.2.1, hsg, hab.2.2, ht1, by walk_at "look", by walk_at "look", by walk_at "look", by walk_at "look"⟩
      · rw [sizeLine_eq]; unfold intsD; simp
    · rw [sizeLine_eq, List.length_map, List.length_take]; omega
  · skip
    intro f cd qn L ρ a b sg tot tk M KK
    obtain ⟨⟨ha1, ha2⟩, ⟨hb1, hb2⟩, ⟨hs1, hs2⟩, ht, tt, v1, v2, v3, v4⟩ := id M
    have LO := leads_all (a - 1) (by omega) (b - 1) (by omega)
    rw [show a - 1 + 1 = a by omega, show b - 1 + 1 = b by omega] at LO
    unfold leadsOk at LO
    simp only [Bool.and_eq_true, decide_eq_true_eq] at LO
    obtain ⟨⟨⟨⟨⟨f1, f2⟩, f3⟩, f4⟩, f5⟩, f6⟩ := LO
    have w1 : wsRun (lead5 a b sg [32]) ⟨[], 0, 0, 0⟩ = stU a b := wsRun_lead a b sg [32] (by omega) (by omega)
    have w2 : wsRun (lead5 (a - 1) (b - 1) (sg + 1) [9]) ⟨[], 0, 0, 0⟩ = stU (a - 1) (b - 1) := wsRun_lead _ _ _ [9] (by omega) (by omega)
    have w3 : wsRun (lead5 (b - 1) (a - 1) (sg + 5) []) ⟨[], 0, 0, 0⟩ = stU (b - 1) (a - 1) := wsRun_lead _ _ _ [] (by omega) (by omega)
    have l1 := stU_len ha2 hb2
    have l2 := stU_len (show a - 1 ≤ 10 by omega) (show b - 1 ≤ 10 by omega)
    have l3 := stU_len (show b - 1 ≤ 10 by omega) (show a - 1 ≤ 10 by omega)
    refine Runs.assign (.inl rfl) (d := .inst 83 (wsD (lead5 a b sg [32]) (stU a b))) (ws_ev (Callee.glob g_ws) (Evals.conv (Evals.bin (Evals.lead5 (m1 := a) (m2 := b) (x := sg) (by walk_at "ev") rfl (by omega) (by walk_at "ev") rfl (by omega) (Evals.forget (Evals.index (by walk_at "ev") (by walk_at "ev") (Op2.item_lst (d := .strT (S [sg + 0]) (tk 0)) (by decide) (by decide) (sign_at' sg tk 0 0 rfl (by decide))) trivial))) (by walk_at "ev") (Op2.addS ?_)) ?_) ?_ w1) ?_
    · simp; omega
    · simp
    · simp; omega
    refine Runs.assign (.inl rfl) (d := .inst 83 (wsD (lead5 (a - 1) (b - 1) (sg + 1) [9]) (stU (a - 1) (b - 1)))) (ws_ev (Callee.glob g_ws) (Evals.conv (Evals.bin (Evals.lead5 (m1 := a - 1) (m2 := b - 1) (x := sg + 1) (Evals.bin (by walk_at "ev") (by walk_at "ev") Op2.sub) (by omega) (by omega) (Evals.bin (by walk_at "ev") (by walk_at "ev") Op2.sub) (by omega) (by omega) (Evals.forget (Evals.index (by walk_at "ev") (by walk_at "ev") (Op2.item_lst (d := .strT (S [sg + 1]) (tk 1)) (by decide) (by decide) (sign_at' sg tk 1 1 rfl (by decide))) trivial))) (by walk_at "ev") (Op2.addS ?_)) ?_) ?_ w2) ?_
    · simp; omega
    · simp
    · simp; omega
    refine Runs.assign (.inl rfl) (d := .lst ((stopsT a b (imax a b).toNat).map tri)) (Evals.conv (Evals.methI (name := "not_equal_witness") (by walk_at "ev") (by walk_at "evs") (wit_ok l1 l2 (by simp [stU]) (by simp [stU])) q_plain q_wit (by rfl) (by rfl) (by simp [wsD])) ?_) ?_
    · rw [witD_eq]
      exact congrArg (fun t => D.lst (List.map tri t)) f1
    refine Runs.ifN (Tests.cmp (by walk_at "ev") (Evals.conv (Evals.call (f := .ref 136) (Callee.glob g_stops) (by rfl) (by walk_at "evs") (stops_ok (by omega) (by omega))) (by rw [stopsD_eq])) (Op2.nel (okD_tri _) (depth_tri _)) (by with_unfolding_all rfl)) ?_
    refine Runs.ifN (Tests.cmp (Evals.conv (d' := .lst (([] : List Tri).map tri)) (Evals.methI (name := "not_equal_witness") (by walk_at "ev") (EvalsL.cons (ws_ev (l := lead5 (b - 1) (a - 1) (sg + 5) []) (Callee.glob g_ws) (Evals.lead5 (m1 := b - 1) (m2 := a - 1) (x := sg + 5) (Evals.bin (by walk_at "ev") (by walk_at "ev") Op2.sub) (by omega) (by omega) (Evals.bin (by walk_at "ev") (by walk_at "ev") Op2.sub) (by omega) (by omega) (Evals.forget (Evals.index (by walk_at "ev") (by walk_at "ev") (Op2.item_lst (d := .strT (S [sg + 5]) (tk 5)) (by decide) (by decide) (sign_at' sg tk 5 5 rfl (by decide))) trivial))) ?_ w3) EvalsL.nil) (wit_ok l2 l3 (by simp [stU]) (by simp [stU])) q_plain q_wit (by rfl) (by rfl) (by simp [wsD])) ?_) (Evals.list (ds := []) (by walk_at "evs") (by first | exact szs rfl | (rw [sizeLine_eq]; simp))) (Op2.nel (okD_tri []) (depth_tri [])) (by with_unfolding_all rfl)) ?_
    · simp; omega
    · rw [witD_eq]
      exact congrArg (fun t => D.lst (List.map tri t)) f2
    have w4 : wsRun [9, sg + 2, 32] ⟨[], 0, 0, 0⟩ = stT := wsRun_tab (sg + 2) [32] (by omega) (by omega)
    have w5 : ∀ (m k : Nat), wsRun (List.replicate m 32 ++ [sg + k, 9]) ⟨[], 0, 0, 0⟩ = stB m := fun m k => wsRun_bl m (sg + k) [9] (by omega) (by omega)
    have lT : stT.cnt.length ≤ 100 := by decide
    refine Runs.assign (.inl rfl) (d := .inst 83 (wsD [9, sg + 2, 32] stT)) (ws_ev (Callee.glob g_ws) (Evals.conv (d := .str (S (([9] ++ [sg + 2]) ++ [32]))) (Evals.bin (Evals.bin (by walk_at "ev") (Evals.forget (Evals.index (by walk_at "ev") (by walk_at "ev") (Op2.item_lst (d := .strT (S [sg + 2]) (tk 2)) (by decide) (by decide) (sign_at' sg tk 2 2 rfl (by decide))) trivial)) (Op2.addS (by simp))) (by walk_at "ev") (Op2.addS (by simp))) rfl) (by simp) w4) ?_
    refine Runs.ifN (Tests.cmp (d1 := .lst ((rowT (fun n => (n, (n : Int), (a : Int))) a (a + 1)).map tri)) (Evals.conv (Evals.methI (name := "not_equal_witness") (by walk_at "ev") (EvalsL.cons (ws_ev (l := List.replicate a 32 ++ [sg + 3, 9]) (Callee.glob g_ws) (Evals.conv (d := .str (S ((List.replicate a 32 ++ [sg + 3]) ++ [9]))) (Evals.bin (Evals.bin (Evals.blanks (by walk_at "ev") rfl (by omega)) (Evals.forget (Evals.index (by walk_at "ev") (by walk_at "ev") (Op2.item_lst (d := .strT (S [sg + 3]) (tk 3)) (by decide) (by decide) (sign_at' sg tk 3 3 rfl (by decide))) trivial)) (Op2.addS ?_)) (by walk_at "ev") (Op2.addS ?_)) ?_) ?_ (w5 a 3)) EvalsL.nil) (wit_ok lT (by simp [stB]) (by decide) (by simp [stB]; omega)) q_plain q_wit (by rfl) (by rfl) (by simp [wsD])) ?_) (Evals.conv (Evals.comp (cl := [(Str.ofString "a", _)]) (ρ₀ := upd (fun _ => none) "a" (.fz (NI a))) (ds := intsD 1 ((a : Int) + 2)) (fun d => match d with | .int x => if x ≠ (a : Nat) then some (.tup [.int x, .int x, NI a]) else none | _ => none) (Evals.call (f := .type "range") (Callee.blt g_range (by rfl)) trivial (EvalsL.cons (by walk_at "ev") (EvalsL.cons (Evals.bin (by walk_at "ev") (by walk_at "ev") Op2.add) EvalsL.nil)) Fun.range2) (Iters.rng (by omega) (by omega) (by omega) (by omega)) (Inner.upd Inner.none (by walk_at "look") rfl rfl rfl rfl) ?_ ?_ (hcl := ⟨rfl, trivial⟩)) ?_) (Op2.nel (okD_tri _) (depth_tri _)) (by with_unfolding_all rfl)) ?_
    · simp; omega
    · simp; omega
    · simp
    · simp; omega
    · rw [witD_eq]
      exact congrArg (fun t => D.lst (List.map tri t)) f3
    · intro C k d hk
      obtain ⟨x, rfl⟩ : ∃ x : Int, d = .int x := by
        unfold intsD at hk
        rw [List.getElem?_map] at hk
        obtain ⟨y, _, rfl⟩ := Option.map_eq_some_iff.mp hk
        exact ⟨_, rfl⟩
      refine Asg.name (.inl rfl) ?_
      refine ⟨sub_upd (fun _ _ e => e) rfl, x != (a : Nat), Tests.cmp (by walk_at "ev") (by walk_at "ev") Op2.ne (by with_unfolding_all rfl), fun q => ?_, fun q => ⟨_, Evals.tuple (by walk_at "evs") (by decide), ?_⟩⟩
      · exact if_neg (by simpa using q)
      · exact if_pos (by simpa using q)
    · rw [sizeLine_eq]; unfold intsD; simp; omega
    · rw [row_of (fun n => (n, (n : Int), (a : Int))) _ a (a + 1) (fun i => ?_) _ (by push_cast; omega)]
      by_cases q : i = a
      · subst q; simp
      · rw [if_pos q]
        exact if_pos (by omega)
    refine Runs.ifN (Tests.cmp (d1 := .lst ((rowT (fun n => (n, (b : Int), (n : Int))) b (b + 1)).map tri)) (Evals.conv (Evals.methI (name := "not_equal_witness") (ws_ev (l := List.replicate b 32 ++ [sg + 4, 9]) (Callee.glob g_ws) (Evals.conv (d := .str (S ((List.replicate b 32 ++ [sg + 4]) ++ [9]))) (Evals.bin (Evals.bin (Evals.blanks (by walk_at "ev") rfl (by omega)) (Evals.forget (Evals.index (by walk_at "ev") (by walk_at "ev") (Op2.item_lst (d := .strT (S [sg + 4]) (tk 4)) (by decide) (by decide) (sign_at' sg tk 4 4 rfl (by decide))) trivial)) (Op2.addS ?_)) (by walk_at "ev") (Op2.addS ?_)) ?_) ?_ (w5 b 4)) (by walk_at "evs") (wit_ok (by simp [stB]) lT (by simp [stB]; omega) (by decide)) q_plain q_wit (by rfl) (by rfl) (by simp [wsD])) ?_) (Evals.conv (Evals.comp (cl := [(Str.ofString "b", _)]) (ρ₀ := upd (fun _ => none) "b" (.fz (NI b))) (ds := intsD 1 ((b : Int) + 2)) (fun d => match d with | .int x => if x ≠ (b : Nat) then some (.tup [.int x, NI b, .int x]) else none | _ => none) (Evals.call (f := .type "range") (Callee.blt g_range (by rfl)) trivial (EvalsL.cons (by walk_at "ev") (EvalsL.cons (Evals.bin (by walk_at "ev") (by walk_at "ev") Op2.add) EvalsL.nil)) Fun.range2) (Iters.rng (by omega) (by omega) (by omega) (by omega)) (Inner.upd Inner.none (by walk_at "look") rfl rfl rfl rfl) ?_ ?_ (hcl := ⟨rfl, trivial⟩)) ?_) (Op2.nel (okD_tri _) (depth_tri _)) (by with_unfolding_all rfl)) ?_
    · simp; omega
    · simp; omega
    · simp
    · simp; omega
    · rw [witD_eq]
      exact congrArg (fun t => D.lst (List.map tri t)) f4
    · intro C k d hk
      obtain ⟨x, rfl⟩ : ∃ x : Int, d = .int x := by
        unfold intsD at hk
        rw [List.getElem?_map] at hk
        obtain ⟨y, _, rfl⟩ := Option.map_eq_some_iff.mp hk
        exact ⟨_, rfl⟩
      refine Asg.name (.inl rfl) ?_
      refine ⟨sub_upd (fun _ _ e => e) rfl, x != (b : Nat), Tests.cmp (by walk_at "ev") (by walk_at "ev") Op2.ne (by with_unfolding_all rfl), fun q => ?_, fun q => ⟨_, Evals.tuple (by walk_at "evs") (by decide), ?_⟩⟩
      · exact if_neg (by simpa using q)
      · exact if_pos (by simpa using q)
    · rw [sizeLine_eq]; unfold intsD; simp; omega
    · rw [row_of (fun n => (n, (b : Int), (n : Int))) _ b (b + 1) (fun i => ?_) _ (by push_cast; omega)]
      by_cases q : i = b
      · subst q; simp
      · rw [if_pos q]
        exact if_pos (by omega)
    obtain ⟨LL, hL1, hL2, hL3⟩ := last_of _ _ f5 fM (fun t => rfl)
    have hLl : LL.length ≤ 100 := by
      have e1 := congrArg List.length hL1
      rw [List.length_map] at e1
      rw [← e1]
      refine Nat.le_trans (List.length_filterMap_le _ _) ?_
      rw [List.length_map]
      unfold stopsT
      refine Nat.le_trans (List.length_filterMap_le _ _) ?_
      rw [List.length_range]
      unfold imax
      split <;> omega
    refine Runs.assign (.inl rfl) (d := NI (Nat.gcd a b)) (Evals.index (Evals.conv (d' := .lst (LL.map NI)) (Evals.comp (cl := []) (ρ₀ := fun _ => none) fM (by walk_at "ev") Iters.lst Inner.none ?_ ?_ (hcl := trivial)) (congrArg D.lst hL1)) (by walk_at "ev") (Op2.item_lst_neg (by decide) (by rw [List.length_map]; omega) (by decide) ?_) trivial) ?_
    · intro C k d hk
      rw [List.getElem?_map] at hk
      obtain ⟨⟨s, m, l⟩, _, rfl⟩ := Option.map_eq_some_iff.mp hk
      refine Asg.tuple (AsgL.cons (Asg.name (.inl rfl) (AsgL.cons (Asg.name (.inl rfl) (AsgL.cons (Asg.name (.inl rfl) (AsgL.nil ?_)))))))
      refine ⟨sub_upd (sub_upd (sub_upd (fun _ _ e => e) rfl) rfl) rfl, (m - l == 2 * (s : Int)), Tests.cmp (Evals.bin (by walk_at "ev") (by walk_at "ev") Op2.sub) (Evals.bin (by walk_at "ev") (by walk_at "ev") (Op2.mulB (by decide) (by decide))) Op2.eq (by with_unfolding_all rfl), fun q => ?_, fun q => ⟨_, by walk_at "ev", ?_⟩⟩
      · exact if_neg (by simpa using q)
      · exact if_pos (by simpa using q)
    · rw [sizeLine_eq, List.length_map]
      unfold stopsT
      refine Nat.le_trans (List.length_filterMap_le _ _) ?_
      rw [List.length_range]
      unfold imax
      split <;> omega
    · rw [List.length_map, show ((-1 : Int) + (LL.length : Int)).toNat = LL.length - 1 by omega, List.getElem?_map, hL3]
      rfl
    obtain ⟨hend, hendl⟩ := endOf_ok (tot % 4)
    refine Runs.ifN (Tests.conv (Tests.cmp (Evals.call (f := .ref 131) (Callee.glob g_halves) (by rfl) (EvalsL.cons (by walk_at "ev") (EvalsL.cons (by walk_at "ev") (EvalsL.cons (Evals.forget (Evals.index (by walk_at "ev") (by walk_at "ev") (Op2.item_lst (d := .strT (S [sg + 0]) (tk 0)) (by decide) (by decide) (sign_at' sg tk 0 0 rfl (by decide))) trivial)) (EvalsL.cons (Evals.index (Evals.list (ds := [.str (S []), .str (S [34]), .str (S [34, 32, 109, 97, 100, 101]), .str (S [34, 10, 34, 98, 34, 32, 34])]) (by walk_at "evs") (by first | exact szs rfl | (rw [sizeLine_eq]; simp))) (Evals.bin (by walk_at "ev") (by walk_at "ev") (Op2.fmodB (by decide))) (Op2.item_lst (d := .str (S (endOf (tot % 4)))) (by omega) (by omega) ?_) trivial) EvalsL.nil)))) (halves_ok (by omega) (by omega) (by omega) hend (by omega))) (by walk_at "ev") Op2.ne (by with_unfolding_all rfl)) ?_) ?_
    · rw [show ((tot : Int) % 4).toNat = tot % 4 by omega]
      have h4 : tot % 4 < 4 := Nat.mod_lt _ (by decide)
      generalize tot % 4 = q at h4
      match q, h4 with
      | 0, _ => rfl
      | 1, _ => rfl
      | 2, _ => rfl
      | 3, _ => rfl
    · rw [f6]; simp
    have hmin : 1 ≤ min a b ∧ min a b ≤ 10 := by omega
    refine Runs.assign (.inr ⟨_, rfl, rfl, by intro h; cases h⟩) (d := .str (S ((word0 a b).map (sg + ·)))) (Evals.conv (Evals.meth (x := S []) (by walk_at "ev") (EvalsL.cons (Evals.conv (d' := .lst (((word0 a b).map fun k => S [sg + k]).map D.str)) (Evals.comp (cl := [(Str.ofString "signs", _), (Str.ofString "b", _), (Str.ofString "a", _)]) (ρ₀ := upd (upd (upd (fun _ => none) "a" (.fz (NI a))) "b" (.fz (NI b))) "signs" (.fz (.lst (signsT sg tk 10)))) (ds := intsD 0 (imax a b)) (fun d => match d with | .int x => some (.str (S [sg + x.toNat % min a b])) | _ => none) (Evals.call (f := .type "range") (Callee.blt g_range (by rfl)) trivial (EvalsL.cons (Evals.call (f := .builtin "max") (Callee.blt g_max (by rfl)) trivial (by walk_at "evs") Fun.max2) EvalsL.nil) Fun.range1) (Iters.rng (by omega) (by omega) ?_ ?_) (Inner.upd (Inner.upd (Inner.upd Inner.none (by walk_at "look") rfl rfl rfl rfl) (by walk_at "look") rfl rfl rfl rfl) (by walk_at "look") rfl rfl rfl rfl) ?_ ?_ (hcl := ⟨rfl, rfl, rfl, trivial⟩)) ?_) EvalsL.nil) (Fun.join ?_) PySem.F.slot_str_join PySem.F.type_str_join) ?_) ?_
    · split <;> omega
    · split <;> omega
    · intro C k d hk
      obtain ⟨x, rfl⟩ : ∃ x : Nat, d = NI x := by
        unfold intsD at hk
        rw [List.getElem?_map] at hk
        obtain ⟨y, _, rfl⟩ := Option.map_eq_some_iff.mp hk
        exact ⟨y, congrArg D.int (by omega)⟩
      refine Asg.name (.inl rfl) ?_
      have hx : x % min a b < 10 := Nat.lt_of_lt_of_le (Nat.mod_lt _ hmin.1) hmin.2
      refine ⟨sub_upd (fun _ _ e => e) rfl, true, rfl, by simp, fun _ => ⟨.str (S [sg + x % min a b]), Evals.forget (t := tk (x % min a b)) (Evals.index (by walk_at "ev") (Evals.conv (d' := NI (x % min a b)) (Evals.bin (by walk_at "ev") (Evals.conv (d' := NI (min a b)) (Evals.call (f := .builtin "min") (Callee.blt g_min (by rfl)) trivial (by walk_at "evs") Fun.min2) ?_) (Op2.fmodB ?_)) ?_) (Op2.item_lst (d := .strT (S [sg + x % min a b]) (tk (x % min a b))) (by omega) (by omega) (sign_at' sg tk _ _ rfl hx)) trivial), rfl⟩⟩
      · exact congrArg D.int (by split <;> omega)
      · omega
      · exact congrArg D.int (by push_cast; rfl)
    · rw [sizeLine_eq]; unfold intsD imax; simp; split <;> omega
    · have e : intsD 0 (imax a b) = (List.range (max a b)).map fun k => NI k := by
        unfold intsD
        rw [show (imax a b - 0).toNat = max a b by unfold imax; split <;> omega]
        exact List.map_congr_left fun k _ => congrArg D.int (by omega)
      rw [e]
      unfold word0
      rw [List.map_map, List.map_map, List.filterMap_map]
      have : ∀ l : List Nat, List.filterMap ((fun d : D => match d with | .int x => some (D.str (S [sg + x.toNat % min a b])) | _ => none) ∘ fun k : Nat => NI k) l = l.map (D.str ∘ ((fun k => S [sg + k]) ∘ (· % min a b))) := by
        intro l
        induction l with
        | nil => rfl
        | cons y l ih =>
          rw [List.filterMap_cons, ih]
          rfl
      exact congrArg D.lst (this _)
    · have e1 : ((word0 a b).map fun k => S [sg + k]).length ≤ 10 := by unfold word0; simp; omega
      have e2 : ((((word0 a b).map fun k => S [sg + k]).map (·.length)).sum) = (word0 a b).length := by
        rw [List.map_map]
        generalize word0 a b = l
        induction l with
        | nil => rfl
        | cons y l ih =>
          rw [List.map_cons, List.sum_cons, ih]
          show 1 + l.length = l.length + 1
          omega
      rw [e2]
      have e3 : (S ([] : List Nat)).length = 0 := rfl
      rw [e3]
      rw [List.length_map] at e1
      omega
    · have := join_S ((word0 a b).map (sg + ·))
      rw [List.map_map] at this
      exact congrArg D.str this
    exact KK _ ⟨⟨ha1, ha2⟩, ⟨hb1, hb2⟩, ⟨hs1, hs2⟩, tt, by walk_at "look", by walk_at "look", by walk_at "look", by walk_at "look", by walk_at "look"⟩
  · skip
    intro f cd qn L ρ a b sg tk wf hrun M KK
    obtain ⟨⟨ha1, ha2⟩, ⟨hb1, hb2⟩, ⟨hs1, hs2⟩, tt, v1, v2, v4, v5, v6⟩ := id M
    have hm1 : 1 ≤ Nat.gcd a b := Nat.gcd_pos_of_pos_left _ ha1
    have hma : Nat.gcd a b ≤ a := Nat.gcd_le_left _ ha1
    have hmb : Nat.gcd a b ≤ b := Nat.gcd_le_right _ hb1
    have hw0 : (word0 a b).length = max a b ∧ ∀ x ∈ word0 a b, x < 10 := by
      unfold word0
      refine ⟨by simp, fun x hx => ?_⟩
      obtain ⟨y, _, rfl⟩ := List.mem_map.mp hx
      exact Nat.lt_of_lt_of_le (Nat.mod_lt _ (by omega)) (by omega)
    obtain ⟨mx, cnt, e1, e2, e3, e4, e5, e6, e7⟩ := nums ⟨ha1, ha2⟩ ⟨hb1, hb2⟩ hm1 hma hmb
    rw [e2, e1] at hrun
    rw [e1] at hw0
    clear e1 e2
    have hcnt : (intsD ((mx : Nat) : Int) ((a : Int) + b - (Nat.gcd a b : Nat) + 2)).length = cnt := by unfold intsD; rw [List.length_map, List.length_range]; omega
    refine Runs.for (d := .rng ((mx : Nat) : Int) ((a : Int) + b - (Nat.gcd a b : Nat) + 2)) (ds := intsD ((mx : Nat) : Int) ((a : Int) + b - (Nat.gcd a b : Nat) + 2)) (Evals.call (f := .type "range") (Callee.blt g_range (by rfl)) trivial (EvalsL.cons (Evals.conv (d' := NI mx) (Evals.call (f := .builtin "max") (Callee.blt g_max (by rfl)) trivial (by walk_at "evs") Fun.max2) (congrArg D.int e7)) (EvalsL.cons (by walk_at "ev") EvalsL.nil)) Fun.range2) (Iters.rng (by omega) (by omega) (by omega) (by omega))
      (fun j ρ => InvX a b sg tk wf cnt mx j ρ) ⟨word0 a b, hrun, hw0.1, hw0.2, M⟩ ?_ ?_
    · rintro j d ρ' hj ⟨wd, hr, hl, h10, M'⟩
      obtain ⟨_, _, _, _, u1, u2, u4, u5, u6⟩ := id M'
      have hjl : j < cnt := by rw [← hcnt]; exact (List.getElem?_eq_some_iff.mp hj).1
      have hd : d = NI (mx + j) := by
        unfold intsD at hj
        rw [List.getElem?_map, List.getElem?_range (by omega)] at hj
        cases hj
        exact congrArg D.int (by omega)
      subst hd
      clear hj
      obtain ⟨k', hk', hk2⟩ : ∃ k', cnt - j = k' + 1 ∧ cnt - (j + 1) = k' := ⟨cnt - j - 1, by omega, by omega⟩
      rw [hk'] at hr
      obtain ⟨so, p, q, hp, hq, hr⟩ := run_step hr
      have hp10 : p < 10 := kinds_lt (List.mem_filter.mp (show p ∈ oneI a wd by rw [hp]; exact List.mem_singleton.mpr rfl)).1
      have hq10 : q < 10 := kinds_lt (List.mem_filter.mp (show q ∈ otherI b (mx + j) wd by rw [hq]; exact List.mem_singleton.mpr rfl)).1
      have hkl : (kindsI wd).length ≤ 10 := by
        unfold kindsI
        refine Nat.le_trans (List.length_filter_le _ _) ?_
        simp
      generalize hsz : mx + j = size at hl hr hq so ⊢
      have hsz1 : a ≤ size ∧ b ≤ size ∧ size ≤ 21 ∧ size + Nat.gcd a b ≤ a + b + 1 := by omega
      have hsz2 : mx + (j + 1) = size + 1 := by omega
      clear hk' hjl hsz e3 e4 e5 e6 e7 hcnt hrun hw0
      have hWl : (up sg wd).length = size := by rw [List.length_map]; exact hl
      have hWl2 : (List.map (fun x => sg + x) wd).length = size := hWl
      have hW : (up sg wd).length ≤ 100 := by omega
      have hsn : ∀ k, (up sg wd ++ [sg + k]).length = size + 1 := fun k => by rw [List.length_append, hWl]; rfl
      have hsnW : ∀ k, (up sg wd ++ [sg + k]).length ≤ 100 := fun k => by rw [hsn]; omega
      have h46 : ∀ k, 46 ∉ up sg wd ++ [sg + k] := fun k => by rw [up_snoc]; exact up_46 hs1 _
      refine Asg.name (.inr ⟨_, rfl, rfl, by intro h; cases h⟩) ?_
      refine Runs.cons (Run1.assignComp (cl := [(Str.ofString "word", _)]) (ρ₀ := upd (fun _ => none) "word" (.fz (.str (S (up sg wd))))) (fK (up sg wd)) (.inl rfl) (by walk_at "ev") Iters.lst (Inner.upd Inner.none (by walk_at "look") rfl rfl rfl rfl) ?_ ?_ ?_ (hcl := ⟨rfl, trivial⟩))
      · intro C i d hi
        obtain ⟨k, _, rfl⟩ := kT_mem (l := List.range 10) hi
        refine Asg.name (.inl rfl) ?_
        refine ⟨sub_upd (fun _ _ e => e) rfl, Txt.contains (S (up sg wd)) (S [sg + k]), Tests.cmp (Evals.forget (t := tk k) (by walk_at "ev")) (by walk_at "ev") Op2.ins (by with_unfolding_all rfl), fun e => ?_, fun e => ⟨_, by walk_at "ev", ?_⟩⟩
        · exact if_neg (by rw [e]; decide)
        · exact if_pos e
      · rw [kinds_list]
        refine Runs.assign (.inl rfl) (d := .bool (decide ((a : Int) + b - (Nat.gcd a b : Nat) ≤ size))) (Evals.cmp (by walk_at "ev") (by walk_at "ev") Op2.ge) ?_
        refine Runs.ifN (Tests.conv (Tests.cmp (Evals.call (f := .builtin "len") (Callee.blt g_len (by rfl)) trivial (by walk_at "evs") (Fun.lenL (m := (kindsI wd).length) (by simp [kT]) (by omega))) (Evals.call (f := .builtin "max") (Callee.blt g_max (by rfl)) trivial (by walk_at "evs") Fun.max2) Op2.ne (by with_unfolding_all rfl)) ?_) ?_
        · rw [← step1 so]; exact bne_self_eq_false _
        refine Runs.ifN (Tests.conv (Tests.cmp (Evals.call (f := .ref 94) (Callee.glob g_ell) (by rfl) (EvalsL.cons (Evals.conv (d' := .str (S ((up sg wd).drop (Nat.gcd a b) ++ dots))) (Evals.bin (by walk_at "ev") (by walk_at "ev") (Op2.addS ?_)) ?_) (by walk_at "evs")) (ell_pre (b := decide ((a : Int) + b - (Nat.gcd a b : Nat) ≤ size)) ?_ ?_ ?_ ?_)) (by walk_at "ev") Op2.isnot (by with_unfolding_all rfl)) ?_) ?_
        · exact lnS hW (by decide)
        · rw [sl_from' _ _ (Nat.gcd a b) rfl (by omega)]
        · exact fun h => up_46 hs1 wd (List.mem_of_mem_drop h)
        · exact l1000 (ldrop hW)
        · exact l1000 hW
        · unfold up; rw [← List.map_drop, pre_map (up_inj sg)]; exact step2 so
        · exact isnot_self _ _ rfl
        refine Runs.ifN (Tests.conv (Tests.cmp (Evals.call (f := .ref 94) (Callee.glob g_ell) (by rfl) (EvalsL.cons (Evals.conv (d' := .str (S (dots ++ (up sg wd).take (size - Nat.gcd a b)))) (Evals.bin (by walk_at "ev") (Evals.sliceS (by walk_at "ev") EvPart.nn (EvPart.s (by walk_at "ev")) (by omega)) (Op2.addS ?_)) ?_) (by walk_at "evs")) (ell_suf (b := decide ((a : Int) + b - (Nat.gcd a b : Nat) ≤ size)) ?_ ?_ ?_ ?_)) (by walk_at "ev") Op2.isnot (by with_unfolding_all rfl)) ?_) ?_
        · exact lnT hW (by decide)
        · rw [sl_to' _ _ (size - Nat.gcd a b) (by omega) (by omega)]
        · exact fun h => up_46 hs1 wd (List.mem_of_mem_take h)
        · exact l1000 (ltake hW)
        · exact l1000 hW
        · unfold up; rw [← List.map_take, suf_map (up_inj sg)]; exact step3 so
        · exact isnot_self _ _ rfl
        refine Runs.cons (Run1.assignComp (cl := [(Str.ofString "word", _), (Str.ofString "a", _)]) (ρ₀ := upd (upd (fun _ => none) "word" (.fz (.str (S (up sg wd))))) "a" (.fz (NI a))) (fO (up sg wd) a) (.inl rfl) (by walk_at "ev") Iters.lst (Inner.upd (Inner.upd Inner.none (by walk_at "look") rfl rfl rfl rfl) (by walk_at "look") rfl rfl rfl rfl) ?_ ?_ ?_ (hcl := ⟨rfl, rfl, trivial⟩))
        · intro C i d hi
          obtain ⟨k, _, rfl⟩ := kT_mem hi
          refine Asg.name (.inl rfl) ?_
          refine ⟨sub_upd (fun _ _ e => e) rfl, ((up sg wd ++ [sg + k]).drop a).isPrefixOf (up sg wd ++ [sg + k]), Tests.val (Evals.call (f := .ref 94) (Callee.glob g_ell) (by rfl) (EvalsL.cons (Evals.conv (d' := .str (S ((up sg wd ++ [sg + k]).drop a ++ dots))) (Evals.bin (Evals.sliceS (Evals.bin (by walk_at "ev") (Evals.forget (x := S [sg + k]) (t := tk k) (by walk_at "ev")) (Op2.addS ?_)) (EvPart.s (by walk_at "ev")) EvPart.nn ?_) (by walk_at "ev") (Op2.addS ?_)) ?_) (EvalsL.cons (Evals.bin (by walk_at "ev") (Evals.forget (x := S [sg + k]) (t := tk k) (by walk_at "ev")) (Op2.addS ?_)) EvalsL.nil)) (ell_pre ?_ ?_ ?_ rfl)), fun e => ?_, fun e => ⟨_, by walk_at "ev", ?_⟩⟩
          · exact lnV hW (by simp)
          · exact Nat.le_trans (hsnW k) (by decide)
          · exact lnS (hsnW k) (by decide)
          · rw [sl_from' _ _ a rfl (by rw [hsn]; omega)]
          · exact lnV hW (by simp)
          · exact fun h => h46 k (List.mem_of_mem_drop h)
          · exact l1000 (ldrop (hsnW k))
          · exact l1000 (hsnW k)
          · show (if ((up sg wd ++ (S [sg + k]).cps.toList).drop a).isPrefixOf (up sg wd ++ (S [sg + k]).cps.toList) = true then _ else _) = _
            rw [S_toList, e]; rfl
          · show (if ((up sg wd ++ (S [sg + k]).cps.toList).drop a).isPrefixOf (up sg wd ++ (S [sg + k]).cps.toList) = true then _ else _) = _
            rw [S_toList, e]; rfl
        · rw [one_list, hp]
          refine Runs.cons (Run1.assignComp (cl := [(Str.ofString "word", _), (Str.ofString "size", _), (Str.ofString "b", _)]) (ρ₀ := upd (upd (upd (fun _ => none) "word" (.fz (.str (S (up sg wd))))) "size" (.fz (NI size))) "b" (.fz (NI b))) (fP (up sg wd) (size + 1 - b)) (.inl rfl) (by walk_at "ev") Iters.lst (Inner.upd (Inner.upd (Inner.upd Inner.none (by walk_at "look") rfl rfl rfl rfl) (by walk_at "look") rfl rfl rfl rfl) (by walk_at "look") rfl rfl rfl rfl) ?_ ?_ ?_ (hcl := ⟨rfl, rfl, rfl, trivial⟩))
          · intro C i d hi
            obtain ⟨k, _, rfl⟩ := kT_mem hi
            refine Asg.name (.inl rfl) ?_
            refine ⟨sub_upd (fun _ _ e => e) rfl, ((up sg wd ++ [sg + k]).take (size + 1 - b)).isSuffixOf (up sg wd ++ [sg + k]), Tests.val (Evals.call (f := .ref 94) (Callee.glob g_ell) (by rfl) (EvalsL.cons (Evals.conv (d' := .str (S (dots ++ (up sg wd ++ [sg + k]).take (size + 1 - b)))) (Evals.bin (by walk_at "ev") (Evals.sliceS (Evals.bin (by walk_at "ev") (Evals.forget (x := S [sg + k]) (t := tk k) (by walk_at "ev")) (Op2.addS ?_)) EvPart.nn (EvPart.s (by walk_at "ev")) ?_) (Op2.addS ?_)) ?_) (EvalsL.cons (Evals.bin (by walk_at "ev") (Evals.forget (x := S [sg + k]) (t := tk k) (by walk_at "ev")) (Op2.addS ?_)) EvalsL.nil)) (ell_suf ?_ ?_ ?_ rfl)), fun e => ?_, fun e => ⟨_, by walk_at "ev", ?_⟩⟩
            · exact lnV hW (by simp)
            · exact Nat.le_trans (hsnW k) (by decide)
            · exact lnT (hsnW k) (by decide)
            · rw [sl_to' _ _ (size + 1 - b) (by omega) (by rw [hsn]; omega)]
            · exact lnV hW (by simp)
            · exact fun h => h46 k (List.mem_of_mem_take h)
            · exact l1000 (ltake (hsnW k))
            · exact l1000 (hsnW k)
            · show (if ((up sg wd ++ (S [sg + k]).cps.toList).take (size + 1 - b)).isSuffixOf (up sg wd ++ (S [sg + k]).cps.toList) = true then _ else _) = _
              rw [S_toList, e]; rfl
            · show (if ((up sg wd ++ (S [sg + k]).cps.toList).take (size + 1 - b)).isSuffixOf (up sg wd ++ (S [sg + k]).cps.toList) = true then _ else _) = _
              rw [S_toList, e]; rfl
          · rw [other_list, hq]
            refine Runs.ifN (Tests.conv (Tests.or2 (a := false) (b := false) (Tests.conv (Tests.cmp (Evals.call (f := .builtin "len") (Callee.blt g_len (by rfl)) trivial (by walk_at "evs") (Fun.lenL (m := 1) rfl (by decide))) (by walk_at "ev") Op2.ne (by with_unfolding_all rfl)) rfl) fun _ => Tests.conv (Tests.cmp (Evals.call (f := .builtin "len") (Callee.blt g_len (by rfl)) trivial (by walk_at "evs") (Fun.lenL (m := 1) rfl (by decide))) (by walk_at "ev") Op2.ne (by with_unfolding_all rfl)) rfl) rfl) ?_
            refine Runs.assign (.inr ⟨_, rfl, rfl, by intro h; cases h⟩) (d := .str (S (up sg (nextI p q wd)))) (Evals.conv (Evals.bin (Evals.meth (x := S (up sg wd)) (by walk_at "ev") (EvalsL.cons (Evals.index (by walk_at "ev") (by walk_at "ev") (Op2.item_lst (k := 0) (d := .strT (S [sg + p]) (tk p)) (by decide) (by decide) rfl) trivial) (EvalsL.cons (Evals.index (by walk_at "ev") (by walk_at "ev") (Op2.item_lst (k := 0) (d := .strT (S [sg + q]) (tk q)) (by decide) (by decide) rfl) trivial) EvalsL.nil)) (Fun.replaceS (by omega) (tt.pos p hp10) (tt.pos q hq10) ?_ ?_) PySem.F.slot_str_replace PySem.F.type_str_replace) (Evals.forget (x := S [sg + q]) (t := tk q) (Evals.index (by walk_at "ev") (by walk_at "ev") (Op2.item_lst (k := 0) (d := .strT (S [sg + q]) (tk q)) (by decide) (by decide) rfl) trivial)) (Op2.addS ?_)) ?_) (Runs.nil ⟨nextI p q wd, ?_, ?_, ?_, ⟨ha1, ha2⟩, ⟨hb1, hb2⟩, ⟨hs1, hs2⟩, tt, by walk_at "look", by walk_at "look", by walk_at "look", by walk_at "look", by walk_at "look"⟩)
            · intro e
              rw [show p = q by omega]
            · intro e
              exact tt.ne p q hp10 hq10 (by omega)
            · exact lnV (by rw [List.length_map]; exact hW) (by simp)
            · rw [next_up]
            · rw [hk2, hsz2]; exact hr
            · unfold nextI; rw [List.length_append, List.length_map, hsz2, hl]; rfl
            · intro x hx
              unfold nextI at hx
              rcases List.mem_append.mp hx with hx | hx
              · obtain ⟨y, hy, rfl⟩ := List.mem_map.mp hx
                split
                · exact hq10
                · exact h10 y hy
              · cases List.mem_singleton.mp hx; exact hq10
          · rw [sizeLine_eq]; unfold kT; rw [List.length_map]; omega
        · rw [sizeLine_eq]; unfold kT; rw [List.length_map]; omega
      · rw [sizeLine_eq]; unfold signsT; simp
    · rintro ρ' ⟨wd, hr, hl, h10, M'⟩
      rw [hcnt] at hr hl
      rw [Nat.sub_self, runI] at hr
      cases hr
      exact KK ρ' (by omega) M'
  · skip
    intro f cd qn L ρ a b sg tk wf hend hl M
    obtain ⟨⟨ha1, ha2⟩, ⟨hb1, hb2⟩, ⟨hs1, hs2⟩, tt, v1, v2, v4, v5, v6⟩ := id M
    have hm1 : 1 ≤ Nat.gcd a b := Nat.gcd_pos_of_pos_left _ ha1
    have hma : Nat.gcd a b ≤ a := Nat.gcd_le_left _ ha1
    have hmb : Nat.gcd a b ≤ b := Nat.gcd_le_right _ hb1
    have hWl : (up sg wf).length = wf.length := by simp [up]
    have hWl2 : (List.map (fun x => sg + x) wf).length = wf.length := hWl
    have hl2 : 2 ≤ wf.length ∧ wf.length ≤ 21 ∧ Nat.gcd a b ≤ wf.length ∧ Nat.gcd a b + 1 ≤ wf.length := len_ok ha2 hb2 hm1 hma hmb hl
    clear hl
    have hW : (up sg wf).length ≤ 100 := by omega
    refine Runs.for (d := .rng 1 (wf.length : Nat)) (ds := intsD 1 (wf.length : Nat)) (Evals.call (f := .type "range") (Callee.blt g_range (by rfl)) trivial (EvalsL.cons (by walk_at "ev") (EvalsL.cons (Evals.conv (d' := NI wf.length) (Evals.call (f := .builtin "len") (Callee.blt g_len (by rfl)) trivial (by walk_at "evs") (Fun.lenS (by omega))) (congrArg D.int (by omega))) EvalsL.nil)) Fun.range2) (Iters.rng (by omega) (by omega) (by omega) (by omega))
      (fun _ ρ => Mid2 ρ a b sg tk wf) M ?_ ?_
    · rintro j d ρ' hj M'
      obtain ⟨_, _, _, _, u1, u2, u4, u5, u6⟩ := id M'
      obtain ⟨n, rfl, hn1, hn2⟩ : ∃ n : Nat, d = NI n ∧ 1 ≤ n ∧ n < wf.length := by
        have hjl := (List.getElem?_eq_some_iff.mp hj).1
        unfold intsD at hj hjl
        rw [List.length_map, List.length_range] at hjl
        rw [List.getElem?_map, List.getElem?_range hjl] at hj
        cases hj
        exact ⟨1 + j, congrArg D.int (by omega), by omega, by omega⟩
      refine Asg.name (.inl rfl) ?_
      refine Runs.ifN (Tests.conv (Tests.cmp (Evals.call (f := .ref 94) (Callee.glob g_ell) (by rfl) (EvalsL.cons (Evals.conv (d' := .str (S ((up sg wf).drop n ++ dots))) (Evals.bin (by walk_at "ev") (by walk_at "ev") (Op2.addS ?_)) ?_) (by walk_at "evs")) (ell_pre (b := decide (n % Nat.gcd a b = 0)) ?_ ?_ ?_ ?_)) (Evals.conv (d' := .bool (decide (n % Nat.gcd a b = 0))) (Evals.cmp (Evals.bin (by walk_at "ev") (by walk_at "ev") (Op2.fmodB (by omega))) (by walk_at "ev") Op2.eq) ?_) Op2.isnot (by with_unfolding_all rfl)) ?_) (Runs.nil ?_)
      · exact lnS hW (by decide)
      · rw [sl_from' _ _ n rfl (by omega)]
      · exact fun h => up_46 hs1 wf (List.mem_of_mem_drop h)
      · exact l1000 (ldrop hW)
      · exact l1000 hW
      · unfold up; rw [← List.map_drop, pre_map (up_inj sg)]; exact end1 hend hn1 hn2
      · rw [show (((n : Nat) : Int) % (Nat.gcd a b : Nat)) = ((n % Nat.gcd a b : Nat) : Int) by push_cast; rfl]
        show D.bool (decide _) = _
        exact congrArg D.bool (decide_eq_decide.mpr (by omega))
      · exact isnot_self _ _ rfl
      exact ⟨⟨ha1, ha2⟩, ⟨hb1, hb2⟩, ⟨hs1, hs2⟩, tt, by walk_at "look", by walk_at "look", by walk_at "look", by walk_at "look", by walk_at "look"⟩
    · rintro ρ1 M1
      obtain ⟨_, _, _, _, u1, u2, u4, u5, u6⟩ := id M1
      refine Runs.for (d := .lst [NI (Nat.gcd a b - 1), NI (Nat.gcd a b), NI (Nat.gcd a b + 1)]) (ds := [NI (Nat.gcd a b - 1), NI (Nat.gcd a b), NI (Nat.gcd a b + 1)]) (Evals.list (EvalsL.cons (Evals.conv (Evals.bin (by walk_at "ev") (by walk_at "ev") Op2.sub) (congrArg D.int (by omega))) (EvalsL.cons (by walk_at "ev") (EvalsL.cons (Evals.conv (Evals.bin (by walk_at "ev") (by walk_at "ev") Op2.add) (congrArg D.int (by omega))) EvalsL.nil))) (by first | exact szs rfl | (rw [sizeLine_eq]; simp))) Iters.lst
        (fun _ ρ => Mid2 ρ a b sg tk wf) M1 ?_ ?_
      · rintro j d ρ' hj M'
        obtain ⟨_, _, _, _, u1, u2, u4, u5, u6⟩ := id M'
        obtain ⟨q1, q2, q3⟩ := end2 hm1 hend
        obtain ⟨n, rfl, hn, q⟩ : ∃ n : Nat, d = NI n ∧ n ≤ Nat.gcd a b + 1 ∧ MidOk (Nat.gcd a b) n wf := by
          match j, hj with
          | 0, hj => cases hj; exact ⟨_, rfl, by omega, q1⟩
          | 1, hj => cases hj; exact ⟨_, rfl, by omega, q2⟩
          | 2, hj => cases hj; exact ⟨_, rfl, by omega, q3⟩
        refine Asg.name (.inl rfl) ?_
        refine Runs.ifN (Tests.conv (Tests.cmp (Evals.call (f := .ref 94) (Callee.glob g_ell) (by rfl) (EvalsL.cons (Evals.conv (d' := .str (S (((up sg wf).take (Nat.gcd a b) ++ dots) ++ (up sg wf).drop n))) (Evals.bin (Evals.bin (by walk_at "ev") (by walk_at "ev") (Op2.addS ?_)) (by walk_at "ev") (Op2.addS ?_)) ?_) (by walk_at "evs")) (ell_mid (b := decide (Nat.gcd a b ≤ n)) ?_ ?_ ?_ ?_ ?_ ?_)) (Evals.conv (d' := .bool (decide (Nat.gcd a b ≤ n))) (Evals.cmp (by walk_at "ev") (by walk_at "ev") Op2.ge) (congrArg D.bool (decide_eq_decide.mpr (by omega)))) Op2.isnot (by with_unfolding_all rfl)) ?_) (Runs.nil ?_)
        · exact lnS hW (by decide)
        · exact lnU hW
        · rw [sl_to' _ _ (Nat.gcd a b) rfl (by omega), sl_from' _ _ n rfl (by omega)]
        · exact fun h => up_46 hs1 wf (List.mem_of_mem_take h)
        · exact fun h => up_46 hs1 wf (List.mem_of_mem_drop h)
        · exact l1000 (ltake hW)
        · exact l1000 (ldrop hW)
        · exact l1000 hW
        · have := ellM_map (up_inj sg) [wf.take (Nat.gcd a b), wf.drop n] wf
          rw [show ellM [wf.take (Nat.gcd a b), wf.drop n] wf = decide (Nat.gcd a b ≤ n) from q, List.map_cons, List.map_cons, List.map_nil, List.map_take, List.map_drop] at this
          exact this
        · exact isnot_self _ _ rfl
        exact ⟨⟨ha1, ha2⟩, ⟨hb1, hb2⟩, ⟨hs1, hs2⟩, tt, by walk_at "look", by walk_at "look", by walk_at "look", by walk_at "look", by walk_at "look"⟩
      · rintro ρ2 M2
        obtain ⟨_, _, _, _, u1, u2, u4, u5, u6⟩ := id M2
        have hT : (a + b + 1) / Nat.gcd a b ≤ 21 := Nat.le_trans (Nat.div_le_self _ _) (by omega)
        refine Runs.assign (.inl rfl) (d := NI ((a + b + 1) / Nat.gcd a b)) (Evals.conv (Evals.bin (by walk_at "ev") (by walk_at "ev") (Op2.fdivB (by omega) (by omega))) (congrArg D.int (by push_cast; rfl))) ?_
        generalize hTT : (a + b + 1) / Nat.gcd a b = T at hT ⊢
        obtain ⟨q5, q6⟩ := end3 hTT hend
        clear hTT
        refine Runs.for (d := .lst [NI T, NI (T + 1)]) (ds := [NI T, NI (T + 1)]) (Evals.list (EvalsL.cons (by walk_at "ev") (EvalsL.cons (Evals.conv (Evals.bin (by walk_at "ev") (by walk_at "ev") Op2.add) (congrArg D.int (by omega))) EvalsL.nil)) (by first | exact szs rfl | (rw [sizeLine_eq]; simp))) Iters.lst
          (fun _ ρ => Mid2 ρ a b sg tk wf ∧ ρ "times" = some (.fz (NI T))) ⟨⟨⟨ha1, ha2⟩, ⟨hb1, hb2⟩, ⟨hs1, hs2⟩, tt, by walk_at "look", by walk_at "look", by walk_at "look", by walk_at "look", by walk_at "look"⟩, by walk_at "look"⟩ ?_ ?_
        · rintro j d ρ' hj ⟨M', ut⟩
          obtain ⟨_, _, _, _, u1, u2, u4, u5, u6⟩ := id M'
          obtain ⟨n, rfl, hn, q⟩ : ∃ n : Nat, d = NI n ∧ n ≤ T + 1 ∧ ManyOk n T wf := by
            match j, hj with
            | 0, hj => cases hj; exact ⟨_, rfl, by omega, q5⟩
            | 1, hj => cases hj; exact ⟨_, rfl, by omega, q6⟩
          have h0 : (up sg wf)[(0 : Int).toNat]? = some (sg + wf.headD 0) := by
            cases wf with
            | nil => simp at hl2
            | cons x r => rfl
          refine Asg.name (.inl rfl) ?_
          refine Runs.ifN (Tests.conv (Tests.cmp (Evals.call (f := .ref 94) (Callee.glob g_ell) (by rfl) (EvalsL.cons (Evals.conv (d' := .str (S (dots ++ (List.replicate n ([sg + wf.headD 0] ++ dots)).flatten))) (Evals.bin (by walk_at "ev") (Evals.bin (Evals.bin (Evals.itemS (k := 0) (x := sg + wf.headD 0) (by walk_at "ev") (by walk_at "ev") (by decide) (by decide) h0 (by intros; rfl)) (by walk_at "ev") (Op2.addS (by simp))) (by walk_at "ev") (Op2.mulS (by omega) (by omega) (by simp))) (Op2.addS ?_)) ?_) (by walk_at "evs")) (ell_many (b := decide (n = T)) ?_ ?_ ?_ ?_)) (Evals.conv (d' := .bool (decide (n = T))) (Evals.cmp (by walk_at "ev") (by walk_at "ev") Op2.eq) ?_) Op2.isnot (by with_unfolding_all rfl)) ?_) (Runs.nil ?_)
          · have : (List.replicate ((n : Nat) : Int).toNat ([sg + wf.headD 0] ++ dots)).flatten.length = n * 4 := by
              rw [List.length_flatten, List.map_replicate, List.sum_replicate_nat]
              simp
            rw [this]
            simp
            omega
          · rw [show ((n : Nat) : Int).toNat = n by omega]
          · omega
          · omega
          · omega
          · have := ellM_map (up_inj sg) ([] :: (List.replicate n [wf.headD 0] ++ [[]])) wf
            rw [show ellM ([] :: (List.replicate n [wf.headD 0] ++ [[]])) wf = decide (n = T) from q, List.map_cons, List.map_append, List.map_replicate] at this
            exact this
          · show D.bool (decide _) = _
            exact congrArg D.bool (decide_eq_decide.mpr (by omega))
          · exact isnot_self _ _ rfl
          exact ⟨⟨⟨ha1, ha2⟩, ⟨hb1, hb2⟩, ⟨hs1, hs2⟩, tt, by walk_at "look", by walk_at "look", by walk_at "look", by walk_at "look", by walk_at "look"⟩, by walk_at "look"⟩
        · rintro ρ3 _
          exact Runs.ret (by walk_at "ev") (.inl rfl)
end
end
end
end Mine
end
end
section
open PySem PySem.W PyProof.Rows PySem.Calls
set_option autoImplicit false
namespace Mine
noncomputable def fdOf (w : World) : FuncData := match (Mine.hd2.heap_39 w.params).lookup 141 with
  | some ⟨_, _, .func fd, _⟩ => fd
  | _ => default
noncomputable def stmtsOf (w : World) : List Stmt := match (fdOf w).body with
  | .stmts b => b
  | _ => []
set_option maxRecDepth 100000
theorem law_all {w : World} {mg mb : Str → Option Value} (f : Addr) (cd : Value) (qn : Str) (L : Addr) (ns : List Int) (hlen : ns.length ≤ 63) :
    Runs (c2 w mg mb) 8 (envOfC qn (fdOf w).scope L f cd) (upd (fun _ => none) "script" (.fz (.lst (ns.map D.int)))) (stmtsOf w) (Ends (.bool true)) := by
  obtain ⟨_, _, _, body, scope, _, _, _, _, _, _, _, _, _, _, e, HA, HB, HC, HD⟩ := law_parts (w := w) (mg := mg) (mb := mb)
  have h1 : (fdOf w).scope = scope ∧ stmtsOf w = body := by unfold stmtsOf fdOf; rw [e]; exact ⟨rfl, rfl⟩
  rw [h1.1, h1.2]
  refine HA f cd qn L ns hlen fun ρ a b sg tot tk M => HB f cd qn L ρ a b sg tot tk M fun ρ' M2 => ?_
  obtain ⟨wf, h1, h2⟩ := words_at M.ha M.hb
  exact HC f cd qn L ρ' a b sg tk wf h1 M2 fun ρ'' hl M3 => HD f cd qn L ρ'' a b sg tk wf h2 hl M3
end Mine
set_option maxRecDepth 100000 in
set_option maxHeartbeats 8000000 in
theorem PySem.Challenge.cw_tl0020_02_holds : PySem.Challenge.rw_tl0020_02.Holds := by
  refine Mine.hd2 ?_
  k_go0
  rename Fr _ _ _ _ => F
  rename News _ _ _ _ => N0
  rename Top _ _ _ _ _ _ => T
  rename Frag.In _ _ => KX
  rename Well _ _ _ _ => W1
  refine wpAny_mono (Mine.law_all _ _ _ _ _ ?_ _ _ (fun _ => False) _ _ (Mine.ao_of _) (Mine.FW.enter rfl ⟨KX, topRead_of T⟩ F N0 ?_ rfl rfl W1)) ?_ ?_
  · rename ¬ _ < _ => hc
    omega
  · rename CellsAre _ _ _ => X0
    exact Mine.cells_hc X0
  · intro f s' P
    obtain ⟨h', tk', U', out, rfl, g, _, _, _, l, p⟩ := P
    rcases p with rfl | ⟨p, _⟩
    · cases f with
      | ret v =>
        cases l
        exact ⟨.inl ⟨_, .bool true, [], rfl, raisesW_false (by wrow_none_raised), .bool true, postW_of (by wrow_shape) (by wtm_val) (by first | rfl | w_fin), unshared_nil⟩, g, rfl, by assumption⟩
      | _ => exact l.elim
    · cases p
  · intro e s' h
    exact h.elim
end
