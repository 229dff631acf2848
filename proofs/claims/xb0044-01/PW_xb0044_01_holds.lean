import PyProof.Rows.All
import Wide.All
import OpenK.AllK
import KE.KxPercentT
import Wide.FinOn
import PySem.Challenge.RW_xb0044_01
open PySem PySem.W PyProof.Rows
set_option Elab.async false
set_option linter.unusedVariables false
set_option linter.unusedSimpArgs false
set_option maxRecDepth 100000
namespace Mine

/-- data -/
inductive D where
  | none
  | bool (b : Bool)
  | int (i : Int)
  | str (s : Str)
  | list (l : List D)
  | tup (l : List D)
  | dict (l : List (Str × Int))
  | comp (l : List D)

noncomputable abbrev Keeps (h h' : Heap) : Prop := ∀ b o, h.get? b = some o → h'.get? b = some o

set_option genInjectivity false in
set_option genSizeOfSpec false in
/-- what the module's names are -/
structure Glo (prog : Program) (w : World) where
  mg : Str → Option Value
  mb : Str → Option Value
  P : Heap → Prop
  C : Addr
  keeps : ∀ {h h' : Heap}, Keeps h h' → P h → P h'
  g : ∀ {h : Heap}, P h → h.Ns mainGlobals mg
  b : ∀ {h : Heap}, P h → h.Ns builtinsNs mb
  lim : ∀ {h : Heap}, P h → h.NoLimit
  bi : ∀ x v, bootBuiltins x = some v → x ≠ "__name__" → mb x = some v
  free : ∀ x ∈ ([Str.ofString "range", Str.ofString "sum", Str.ofString "min", Str.ofString "len", Str.ofString "str", Str.ofString "enumerate", Str.ofString "isinstance", Str.ofString "tuple", Str.ofString "zip"] : List Str), mg x = none

section
variable {prog : Program} {w : World} (G : Glo prog w)

noncomputable def dictAt (_G : Glo prog w) (h : Heap) (a : Addr) (kvs : List (Str × Int)) : Prop :=
  ∃ vals : List (Str × Int × Tok), h.DictOf (strKind prog w) a (intPairs vals) ∧ vals.map (fun x => (x.1, x.2.1)) = kvs ∧ a ≠ sysModules

noncomputable abbrev tupObj (vs : Array Value) : Obj := { cls := .type "tuple", data := .seq vs }

mutual
/-- value v shows d in heap h; no address in X is met (b = false: but for the root) -/
noncomputable def RepF (X : Addr → Prop) (h : Heap) : D → Bool → Value → Prop
  | .none, _, v => v = .none
  | .bool x, _, v => v = .bool x
  | .int i, _, v => ∃ t, v = .int i t
  | .str x, _, v => ∃ t, v = .str x t
  | .list l, b, v => ∃ a vs n, v = .ref a ∧ (b = true → ¬ X a) ∧ IsL h a vs n ∧ RepL X h l vs.toList
  | .tup l, b, v => ∃ a vs, v = .ref a ∧ (b = true → ¬ X a) ∧ h.get? a = some (tupObj vs) ∧ RepL X h l vs.toList
  | .dict kvs, b, v => ∃ a, v = .ref a ∧ (b = true → ¬ X a) ∧ dictAt G h a kvs
  | .comp l, b, v => ∃ a dx hs kt n la vs ln, v = .ref a ∧ (b = true → ¬ X a) ∧ ¬ X dx ∧ ¬ X la ∧ h.get? a = some (instObj G.C dx) ∧ h.get? dx = some (dictOf [⟨hs, .str (Str.ofString "comp_select_list") kt, .ref la⟩] n) ∧
      IsL h la vs ln ∧ RepL X h l vs.toList
noncomputable def RepL (X : Addr → Prop) (h : Heap) : List D → List Value → Prop
  | [], vs => vs = []
  | d :: ds, vs => ∃ v r, vs = v :: r ∧ RepF X h d true v ∧ RepL X h ds r
end
variable {G}

theorem dictAt.at {h h' : Heap} {a : Addr} {kvs : List (Str × Int)} (x : dictAt G h a kvs) (hk : ∀ o, h.get? a = some o → h'.get? a = some o) : dictAt G h' a kvs :=
  let ⟨vals, h1, h2, h3⟩ := x; ⟨vals, h1.at hk, h2, h3⟩
theorem dictAt.get {h : Heap} {a : Addr} {kvs : List (Str × Int)} (x : dictAt G h a kvs) : ∃ o, h.get? a = some o :=
  let ⟨_, ⟨o, _, _, ho, _⟩, _⟩ := x; ⟨o, ho⟩

theorem ne_of_live {X X' : Addr → Prop} {h : Heap} {a : Addr} {o : Obj} (hx : ∀ a, X' a → X a ∨ h.get? a = none) (ho : h.get? a = some o) (hn : ¬ X a) : ¬ X' a :=
  fun q => (hx a q).elim hn fun e => by rw [ho] at e; cases e

mutual
theorem RepF.move {X X' : Addr → Prop} {h h' : Heap} (hk : ∀ a o, ¬ X a → h.get? a = some o → h'.get? a = some o) (hx : ∀ a, X' a → X a ∨ h.get? a = none) :
    ∀ (d : D) (b : Bool) (v : Value), RepF G X h d b v → (b = false → ∀ a o, v = .ref a → h.get? a = some o → h'.get? a = some o) → RepF G X' h' d b v
  | .none, b, v, r, _ => by unfold RepF at *; exact r
  | .bool x, b, v, r, _ => by unfold RepF at *; exact r
  | .int i, b, v, r, _ => by unfold RepF at *; exact r
  | .str x, b, v, r, _ => by unfold RepF at *; exact r
  | .list l, b, v, r, hr => by
    unfold RepF at *
    obtain ⟨a, vs, n, rfl, hb, hl, rl⟩ := r
    refine ⟨a, vs, n, rfl, fun e => ne_of_live hx hl (hb e), ?_, RepL.move hk hx l _ rl⟩
    cases b with
    | true => exact hk _ _ (hb rfl) hl
    | false => exact hr rfl _ _ rfl hl
  | .tup l, b, v, r, hr => by
    unfold RepF at *
    obtain ⟨a, vs, rfl, hb, hl, rl⟩ := r
    refine ⟨a, vs, rfl, fun e => ne_of_live hx hl (hb e), ?_, RepL.move hk hx l _ rl⟩
    cases b with
    | true => exact hk _ _ (hb rfl) hl
    | false => exact hr rfl _ _ rfl hl
  | .dict kvs, b, v, r, hr => by
    unfold RepF at *
    obtain ⟨a, rfl, hb, hd⟩ := r
    obtain ⟨o, ho⟩ := hd.get
    refine ⟨a, rfl, fun e => ne_of_live hx ho (hb e), hd.at fun o' ho' => ?_⟩
    cases b with
    | true => exact hk _ _ (hb rfl) ho'
    | false => exact hr rfl _ _ rfl ho'
  | .comp l, b, v, r, hr => by
    unfold RepF at *
    obtain ⟨a, dx, hs, kt, n, la, vs, ln, rfl, hb, h1, h2, h3, h4, h5, rl⟩ := r
    refine ⟨a, dx, hs, kt, n, la, vs, ln, rfl, fun e => ne_of_live hx h3 (hb e), ne_of_live hx h4 h1, ne_of_live hx h5 h2, ?_, hk _ _ h1 h4, hk _ _ h2 h5, RepL.move hk hx l _ rl⟩
    cases b with
    | true => exact hk _ _ (hb rfl) h3
    | false => exact hr rfl _ _ rfl h3
theorem RepL.move {X X' : Addr → Prop} {h h' : Heap} (hk : ∀ a o, ¬ X a → h.get? a = some o → h'.get? a = some o) (hx : ∀ a, X' a → X a ∨ h.get? a = none) :
    ∀ (l : List D) (vs : List Value), RepL G X h l vs → RepL G X' h' l vs
  | [], vs, r => by unfold RepL at *; exact r
  | d :: ds, vs, r => by
    unfold RepL at *
    obtain ⟨v, r', rfl, r1, r2⟩ := r
    exact ⟨v, r', rfl, RepF.move hk hx d true v r1 (fun e => by cases e), RepL.move hk hx ds r' r2⟩
end

theorem RepF.keep {X : Addr → Prop} {h h' : Heap} {d : D} {b : Bool} {v : Value} (r : RepF G X h d b v) (hk : Keeps h h') : RepF G X h' d b v :=
  RepF.move (fun a o _ e => hk a o e) (fun _ q => .inl q) d b v r fun _ a o _ e => hk a o e
theorem RepL.keep {X : Addr → Prop} {h h' : Heap} {l : List D} {vs : List Value} (r : RepL G X h l vs) (hk : Keeps h h') : RepL G X h' l vs :=
  RepL.move (fun a o _ e => hk a o e) (fun _ q => .inl q) l vs r

theorem RepF.weak {X : Addr → Prop} {h : Heap} {d : D} {b : Bool} {v : Value} (r : RepF G X h d true v) : RepF G X h d b v := by
  cases b with
  | true => exact r
  | false =>
    cases d with
    | list l => unfold RepF at *; obtain ⟨a, vs, n, e, hb, q⟩ := r; exact ⟨a, vs, n, e, fun x => by (cases x), q⟩
    | tup l => unfold RepF at *; obtain ⟨a, vs, e, hb, q⟩ := r; exact ⟨a, vs, e, fun x => by (cases x), q⟩
    | dict l => unfold RepF at *; obtain ⟨a, e, hb, q⟩ := r; exact ⟨a, e, fun x => by (cases x), q⟩
    | comp l => unfold RepF at *; obtain ⟨a, dx, hs, kt, n, la, vs, ln, e, hb, q⟩ := r; exact ⟨a, dx, hs, kt, n, la, vs, ln, e, fun x => by (cases x), q⟩
    | _ => unfold RepF at *; exact r
/-- the root does not lie in X -/
theorem RepF.strong {X : Addr → Prop} {h : Heap} {d : D} {b : Bool} {v : Value} (r : RepF G X h d b v) (hv : ∀ a, v = .ref a → ¬ X a) : RepF G X h d true v := by
  cases d with
  | list l => unfold RepF at *; obtain ⟨a, vs, n, e, hb, q⟩ := r; exact ⟨a, vs, n, e, fun _ => hv _ e, q⟩
  | tup l => unfold RepF at *; obtain ⟨a, vs, e, hb, q⟩ := r; exact ⟨a, vs, e, fun _ => hv _ e, q⟩
  | dict l => unfold RepF at *; obtain ⟨a, e, hb, q⟩ := r; exact ⟨a, e, fun _ => hv _ e, q⟩
  | comp l => unfold RepF at *; obtain ⟨a, dx, hs, kt, n, la, vs, ln, e, hb, q⟩ := r; exact ⟨a, dx, hs, kt, n, la, vs, ln, e, fun _ => hv _ e, q⟩
  | _ => unfold RepF at *; exact r
theorem RepF.live {X : Addr → Prop} {h : Heap} {d : D} {b : Bool} {v : Value} (r : RepF G X h d b v) : ∀ a, v = .ref a → ∃ o, h.get? a = some o := by
  intro a e
  cases d with
  | list l => unfold RepF at r; obtain ⟨a', vs, n, e', hb, q, _⟩ := r; rw [e'] at e; cases e; exact ⟨_, q⟩
  | tup l => unfold RepF at r; obtain ⟨a', vs, e', hb, q, _⟩ := r; rw [e'] at e; cases e; exact ⟨_, q⟩
  | dict l => unfold RepF at r; obtain ⟨a', e', hb, q⟩ := r; rw [e'] at e; cases e; exact q.get
  | comp l => unfold RepF at r; obtain ⟨a', dx, hs, kt, n, la, vs, ln, e', hb, _, _, q, _⟩ := r; rw [e'] at e; cases e; exact ⟨_, q⟩
  | none => unfold RepF at r; rw [r] at e; cases e
  | bool => unfold RepF at r; rw [r] at e; cases e
  | int => unfold RepF at r; obtain ⟨t, r⟩ := r; rw [r] at e; cases e
  | str => unfold RepF at r; obtain ⟨t, r⟩ := r; rw [r] at e; cases e
theorem RepL.length {X : Addr → Prop} {h : Heap} : ∀ {l : List D} {vs : List Value}, RepL G X h l vs → vs.length = l.length
  | [], vs, r => by unfold RepL at r; rw [r]; rfl
  | d :: ds, vs, r => by unfold RepL at r; obtain ⟨v, r', rfl, _, r2⟩ := r; rw [List.length_cons, List.length_cons, RepL.length r2]
theorem RepL.at {X : Addr → Prop} {h : Heap} : ∀ {l : List D} {vs : List Value}, RepL G X h l vs → ∀ {i : Nat} {d : D}, l[i]? = some d → ∃ v, vs[i]? = some v ∧ RepF G X h d true v
  | [], vs, r, i, d, e => by simp at e
  | d₀ :: ds, vs, r, i, d, e => by
    unfold RepL at r; obtain ⟨v, r', rfl, r1, r2⟩ := r
    cases i with
    | zero => simp at e; subst e; exact ⟨v, rfl, r1⟩
    | succ i => simp at e; simpa using RepL.at r2 e
theorem RepL.append {X : Addr → Prop} {h : Heap} : ∀ {l l' : List D} {vs vs' : List Value}, RepL G X h l vs → RepL G X h l' vs' → RepL G X h (l ++ l') (vs ++ vs')
  | [], l', vs, vs', r, r' => by unfold RepL at r; subst r; exact r'
  | d :: ds, l', vs, vs', r, r' => by
    unfold RepL at r; obtain ⟨v, q, rfl, r1, r2⟩ := r
    show RepL G X h (d :: (ds ++ l')) _
    unfold RepL
    exact ⟨v, q ++ vs', rfl, r1, RepL.append r2 r'⟩
theorem RepL.one {X : Addr → Prop} {h : Heap} {d : D} {v : Value} (r : RepF G X h d true v) : RepL G X h [d] [v] := by
  unfold RepL; exact ⟨v, [], rfl, r, by unfold RepL; rfl⟩
theorem RepL.nil {X : Addr → Prop} {h : Heap} : RepL G X h [] [] := by unfold RepL; rfl
theorem RepL.cons {X : Addr → Prop} {h : Heap} {d : D} {v : Value} {l : List D} {vs : List Value} (r : RepF G X h d true v) (q : RepL G X h l vs) : RepL G X h (d :: l) (v :: vs) := by
  unfold RepL; exact ⟨v, vs, rfl, r, q⟩
theorem RepL.set {X : Addr → Prop} {h : Heap} : ∀ {l : List D} {vs : List Value} (_ : RepL G X h l vs) (i : Nat) {d : D} {v : Value}, RepF G X h d true v → RepL G X h (l.set i d) (vs.set i v)
  | [], vs, r, i, d, v, q => by unfold RepL at r; subst r; exact RepL.nil
  | d₀ :: ds, vs, r, i, d, v, q => by
    unfold RepL at r; obtain ⟨v', r', rfl, r1, r2⟩ := r
    cases i with
    | zero => exact RepL.cons q r2
    | succ i => exact RepL.cons r1 (RepL.set r2 i q)
theorem RepL.take {X : Addr → Prop} {h : Heap} : ∀ {l : List D} {vs : List Value} (_ : RepL G X h l vs) (n : Nat), RepL G X h (l.take n) (vs.take n)
  | _, _, _, 0 => RepL.nil
  | [], vs, r, n + 1 => by unfold RepL at r; subst r; exact RepL.nil
  | d :: ds, vs, r, n + 1 => by
    unfold RepL at r; obtain ⟨v', r', rfl, r1, r2⟩ := r
    exact RepL.cons r1 (RepL.take r2 n)
theorem RepL.drop {X : Addr → Prop} {h : Heap} : ∀ {l : List D} {vs : List Value} (_ : RepL G X h l vs) (n : Nat), RepL G X h (l.drop n) (vs.drop n)
  | l, vs, r, 0 => r
  | [], vs, r, n + 1 => by unfold RepL at r; subst r; exact RepL.nil
  | d :: ds, vs, r, n + 1 => by
    unfold RepL at r; obtain ⟨v', r', rfl, r1, r2⟩ := r
    exact RepL.drop r2 n
end

inductive Fl where | full | top | own
  deriving DecidableEq

structure Cx where
  sc : Scope
  own : List Str
  vars : List (Str × Fl × D)

noncomputable def Binds (env : Env) (h : Heap) (x : Str) (v : Value) : Prop :=
  (env.kindOf x = some .local ∧ ∃ m, h.Ns env.locals m ∧ m x = some v) ∨
  ((env.kindOf x = some .cell ∨ env.kindOf x = some .free) ∧ ∃ c, env.cells.lookup x = some c ∧ h.IsCell c (some v))

theorem ns_unique {h : Heap} {a : Addr} {m m' : Str → Option Value} (x : h.Ns a m) (y : h.Ns a m') : m = m' := by
  obtain ⟨o, es, ep, ho, hd, _, hm⟩ := x
  obtain ⟨o', es', ep', ho', hd', _, hm'⟩ := y
  rw [ho] at ho'; cases ho'
  rw [hd] at hd'; cases hd'
  funext n; rw [← hm, ← hm']
theorem cell_unique {h : Heap} {c : Addr} {v v' : Option Value} (x : h.IsCell c v) (y : h.IsCell c v') : v = v' := by
  obtain ⟨o, ho, hd⟩ := x
  obtain ⟨o', ho', hd'⟩ := y
  rw [ho] at ho'; cases ho'
  rw [hd] at hd'; cases hd'; rfl
theorem Binds.keep {env : Env} {h h' : Heap} {x : Str} {v : Value} (b : Binds env h x v) (hk : Keeps h h') : Binds env h' x v := by
  rcases b with ⟨k, m, hn, hm⟩ | ⟨k, c, hc, hv⟩
  · exact .inl ⟨k, m, hn.keeps hk, hm⟩
  · exact .inr ⟨k, c, hc, hv.keeps hk⟩
theorem Binds.unique {env : Env} {h : Heap} {x : Str} {v v' : Value} (b : Binds env h x v) (b' : Binds env h x v') : v = v' := by
  rcases b with ⟨k, m, hn, hm⟩ | ⟨k, c, hc, hv⟩ <;> rcases b' with ⟨k', m', hn', hm'⟩ | ⟨k', c', hc', hv'⟩
  · rw [ns_unique hn hn'] at hm; rw [hm] at hm'; exact Option.some.inj hm'
  · rcases k' with k' | k' <;> (rw [k] at k'; cases k')
  · rcases k with k | k <;> (rw [k] at k'; cases k')
  · rw [hc] at hc'; cases hc'; exact Option.some.inj (cell_unique hv hv')

section
variable {prog : Program} {w : World} (G : Glo prog w)

/-- the frame env, with the names of Γ, in the heap h; h₀: the heap ahead of the frame; X: what may turn; X₀: what of it was there ahead of the frame -/
structure Here (Γ : Cx) (h₀ : Heap) (X₀ X : Addr → Prop) (env : Env) (h : Heap) : Prop where
  scp : env.scope = Γ.sc
  kind : Γ.sc.kind = .function
  glb : env.globals = mainGlobals
  blt : env.builtins = builtinsNs
  gl0 : G.P h₀
  base : Keeps h₀ h
  x0 : ∀ a, X₀ a → X a ∧ h₀.get? a ≠ none
  live : ∀ a, X a → h.get? a ≠ none
  locX : X env.locals
  locN : h₀.get? env.locals = none
  loc : ∃ m, h.Ns env.locals m
  cell : ∀ x, (Γ.sc.names.lookup x = some .cell ∨ Γ.sc.names.lookup x = some .free) → ∃ c v, env.cells.lookup x = some c ∧ h.IsCell c v
  cellX : ∀ x c, env.cells.lookup x = some c → X c ∧ c ≠ env.locals
  cellN : ∀ x ∈ Γ.own, ∀ c, env.cells.lookup x = some c → h₀.get? c = none
  apart : ∀ x y c, env.cells.lookup x = some c → env.cells.lookup y = some c → x = y
  vars : ∀ x fl d, Γ.vars.lookup x = some (fl, d) → ∃ v, Binds env h x v ∧ RepF G X h d (fl == .full) v ∧ (fl ≠ .full → ∀ a, v = .ref a → a ≠ env.locals ∧ (∀ y c, env.cells.lookup y = some c → a ≠ c) ∧ (fl = .top → h₀.get? a ≠ none))
  owns : ∀ x d, Γ.vars.lookup x = some (.own, d) → ∃ a, Binds env h x (.ref a) ∧ X a ∧ h₀.get? a = none
  ownsApart : ∀ x y d d' a, Γ.vars.lookup x = some (.own, d) → Γ.vars.lookup y = some (.own, d') → Binds env h x (.ref a) → Binds env h y (.ref a) → x = y
variable {G}

theorem Here.gl {Γ : Cx} {h₀ : Heap} {X₀ X : Addr → Prop} {env : Env} {h : Heap} (H : Here G Γ h₀ X₀ X env h) : G.P h := G.keeps H.base H.gl0
theorem Here.keep {Γ : Cx} {h₀ : Heap} {X₀ X : Addr → Prop} {env : Env} {h h' : Heap} (H : Here G Γ h₀ X₀ X env h) (hk : Keeps h h') : Here G Γ h₀ X₀ X env h' where
  scp := H.scp
  kind := H.kind
  glb := H.glb
  blt := H.blt
  gl0 := H.gl0
  base := fun b o e => hk b o (H.base b o e)
  x0 := H.x0
  live := fun a q e => by
    cases ho : h.get? a with
    | none => exact H.live a q ho
    | some o => rw [hk a o ho] at e; cases e
  locX := H.locX
  locN := H.locN
  loc := let ⟨m, hm⟩ := H.loc; ⟨m, hm.keeps hk⟩
  cell := fun x q => let ⟨c, v, h1, h2⟩ := H.cell x q; ⟨c, v, h1, h2.keeps hk⟩
  cellX := H.cellX
  cellN := H.cellN
  apart := H.apart
  vars := fun x fl d q => let ⟨v, h1, h2, h3⟩ := H.vars x fl d q; ⟨v, h1.keep hk, h2.keep hk, h3⟩
  owns := fun x d q => let ⟨a, h1, h2⟩ := H.owns x d q; ⟨a, h1.keep hk, h2⟩
  ownsApart := fun x y d d' a q1 q2 b1 b2 => by
    obtain ⟨a1, c1, _⟩ := H.owns x d q1
    obtain ⟨a2, c2, _⟩ := H.owns y d' q2
    have e1 := (c1.keep hk).unique b1
    have e2 := (c2.keep hk).unique b2
    rw [e1] at c1; rw [e2] at c2
    exact H.ownsApart x y d d' a q1 q2 c1 c2

structure Ext (s s' : Shared) : Prop where
  keep : Keeps s.heap s'.heap
  gens : s'.gens = s.gens
  os : s'.os = s.os
theorem Ext.refl (s : Shared) : Ext s s := ⟨fun _ _ e => e, rfl, rfl⟩
theorem Ext.trans {s s' s'' : Shared} (x : Ext s s') (y : Ext s' s'') : Ext s s'' := ⟨fun b o e => y.keep b o (x.keep b o e), y.gens.trans x.gens, y.os.trans x.os⟩
theorem Ext.toks {s s' : Shared} {t : Nat} (x : Ext s s') : Ext s { s' with toks := t } := ⟨x.keep, x.gens, x.os⟩
theorem Ext.tok {s : Shared} {t : Nat} : Ext s { s with toks := t } := ⟨fun _ _ e => e, rfl, rfl⟩
theorem Ext.heap {s : Shared} {h' : Heap} {t : Nat} (hk : Keeps s.heap h') : Ext s { s with heap := h', toks := t } := ⟨hk, rfl, rfl⟩
theorem Keeps.push (h : Heap) (o : Obj) : Keeps h (h.push o) := fun _ _ e => Heap.get?_push_of_some o e
theorem new_none (h : Heap) : h.get? h.objs.size = none := by
  cases e : h.get? h.objs.size with
  | none => rfl
  | some o => exact absurd (Heap.lt_size e) (Nat.lt_irrefl _)

noncomputable def Room (n : Nat) (A : Around) : Prop := A.handled = none ∧ A.depth + n < 900 ∧ A.units + 10 * n < 9000
theorem Room.mono {n m : Nat} {A : Around} (r : Room m A) (h : n ≤ m) : Room n A := ⟨r.1, by have := r.2.1; omega, by have := r.2.2; omega⟩

variable (G)
/-- the expression e yields d, and changes nothing that was there -/
noncomputable def Ex (n : Nat) (Γ : Cx) (b : Bool) (e : Expr) (d : D) : Prop :=
  ∀ {A : Around} {h₀ : Heap} {X₀ X : Addr → Prop} {env : Env} {s : Shared} {Q : Value → Shared → Prop} {E : Value → Shared → Prop}, Room n A → Here G Γ h₀ X₀ X env s.heap →
    (∀ v s', Ext s s' → RepF G X s'.heap d b v → Q v s') → wpAny (model prog w) A (eval e env) Q E s
/-- the test e yields b -/
noncomputable def Tst (n : Nat) (Γ : Cx) (e : Expr) (c : Bool) : Prop :=
  ∀ {A : Around} {h₀ : Heap} {X₀ X : Addr → Prop} {env : Env} {s : Shared} {Q : Bool → Shared → Prop} {E : Value → Shared → Prop}, Room n A → Here G Γ h₀ X₀ X env s.heap →
    (∀ s', Ext s s' → Q c s') → wpAny (model prog w) A (isTrue e env (eval e env)) Q E s
variable {G}

theorem Ex.weak {n : Nat} {Γ : Cx} {b : Bool} {e : Expr} {d : D} (x : Ex G n Γ true e d) : Ex G n Γ b e d :=
  fun r H k => x r H fun v s' h1 h2 => k v s' h1 h2.weak
theorem Ex.more {n m : Nat} {Γ : Cx} {b : Bool} {e : Expr} {d : D} (x : Ex G n Γ b e d) (h : n ≤ m) : Ex G m Γ b e d := fun r H k => x (r.mono h) H k

theorem Ex.name {n : Nat} {Γ : Cx} {x : Str} {pos : Pos} {fl : Fl} {d : D} (hv : Γ.vars.lookup x = some (fl, d)) (hd : (x == ("__debug__" : Str)) = false := by decide) (hc : (x == ("__classdict__" : Str)) = false := by decide) :
    Ex G n Γ (fl == .full) (.Name x pos) d := by
  intro A h₀ X₀ X env s Q E r H k
  obtain ⟨v, hb, hr, _⟩ := H.vars x fl d hv
  refine wpAny_Name ?_ hd
  have hk : env.scope.kind = .function := by rw [H.scp]; exact H.kind
  rcases hb with ⟨hl, m, hn, hm⟩ | ⟨hl | hl, c, hc', hcv⟩
  · exact wpAny_loadName_local hk hl hn hm (k v s (Ext.refl s) hr)
  · exact wpAny_loadName_cell hk hl hc' hcv (k v s (Ext.refl s) hr)
  · exact wpAny_loadName_free hk hl hc' hcv (k v s (Ext.refl s) hr) hc
theorem Ex.nameF {n : Nat} {Γ : Cx} {x : Str} {pos : Pos} {d : D} {b : Bool} (hv : Γ.vars.lookup x = some (.full, d)) (hd : (x == ("__debug__" : Str)) = false := by decide) (hc : (x == ("__classdict__" : Str)) = false := by decide) :
    Ex G n Γ b (.Name x pos) d := Ex.weak (Ex.name (fl := .full) hv hd hc)
theorem Ex.nameT {n : Nat} {Γ : Cx} {x : Str} {pos : Pos} {d : D} {fl : Fl} (hv : Γ.vars.lookup x = some (fl, d)) (hd : (x == ("__debug__" : Str)) = false := by decide) (hc : (x == ("__classdict__" : Str)) = false := by decide) :
    Ex G n Γ false (.Name x pos) d := by
  cases fl with
  | full => exact Ex.weak (Ex.name (fl := .full) hv hd hc)
  | top => exact Ex.name (fl := .top) hv hd hc
  | own => exact Ex.name (fl := .own) hv hd hc

theorem Ex.cint {n : Nat} {Γ : Cx} {b : Bool} {i : Int} {kd : Nat} {pos : Pos} : Ex G n Γ b (.Constant (.int i) kd pos) (.int i) :=
  fun _ _ k => wpAny_Constant_int (k _ _ Ext.tok (by unfold RepF; exact ⟨_, rfl⟩))
theorem Ex.cnone {n : Nat} {Γ : Cx} {b : Bool} {kd : Nat} {pos : Pos} : Ex G n Γ b (.Constant .none kd pos) .none :=
  fun _ _ k => wpAny_Constant_none (k _ _ (Ext.refl _) (by unfold RepF; rfl))
theorem Ex.cbool {n : Nat} {Γ : Cx} {b : Bool} {c : Bool} {kd : Nat} {pos : Pos} : Ex G n Γ b (.Constant (.bool c) kd pos) (.bool c) :=
  fun _ _ k => wpAny_Constant_bool (k _ _ (Ext.refl _) (by unfold RepF; rfl))
theorem Ex.cstr {n : Nat} {Γ : Cx} {b : Bool} {c : Str} {kd : Nat} {pos : Pos} : Ex G n Γ b (.Constant (.str c) kd pos) (.str c) :=
  fun _ _ k => wpAny_Constant_str (k _ _ Ext.tok (by unfold RepF; exact ⟨_, rfl⟩))

/-- a binary operation -/
theorem Ex.bin {n : Nat} {Γ : Cx} {b b1 b2 : Bool} {l r : Expr} {op : Operator} {pos : Pos} {d1 d2 d : D} (h1 : Ex G n Γ b1 l d1) (h2 : Ex G n Γ b2 r d2)
    (hop : ∀ {A : Around} {X : Addr → Prop} {s : Shared} {Q : Value → Shared → Prop} {E : Value → Shared → Prop} {v1 v2 : Value}, Room n A → G.P s.heap → (∀ a, X a → s.heap.get? a ≠ none) → RepF G X s.heap d1 b1 v1 → RepF G X s.heap d2 b2 v2 →
      (∀ v s', Ext s s' → RepF G X s'.heap d b v → Q v s') → wpAny (model prog w) A (binaryOp op v1 v2) Q E s) :
    Ex G n Γ b (.BinOp l op r pos) d := by
  intro A h₀ X₀ X env s Q E rm H k
  refine wpAny_BinOp (h1 rm H fun v1 s1 e1 r1 => h2 rm (H.keep e1.keep) fun v2 s2 e2 r2 => ?_)
  exact hop rm (G.keeps e2.keep (G.keeps e1.keep H.gl)) ((H.keep e1.keep).keep e2.keep).live (r1.keep e2.keep) r2 fun v s' e3 r3 => k v s' (e1.trans (e2.trans e3)) r3

theorem repI {X : Addr → Prop} {h : Heap} {i : Int} {b : Bool} {v : Value} : RepF G X h (.int i) b v ↔ ∃ t, v = .int i t := by unfold RepF; exact Iff.rfl
theorem repS {X : Addr → Prop} {h : Heap} {x : Str} {b : Bool} {v : Value} : RepF G X h (.str x) b v ↔ ∃ t, v = .str x t := by unfold RepF; exact Iff.rfl
theorem repB {X : Addr → Prop} {h : Heap} {x : Bool} {b : Bool} {v : Value} : RepF G X h (.bool x) b v ↔ v = .bool x := by unfold RepF; exact Iff.rfl
theorem repN {X : Addr → Prop} {h : Heap} {b : Bool} {v : Value} : RepF G X h .none b v ↔ v = .none := by unfold RepF; exact Iff.rfl
theorem repL {X : Addr → Prop} {h : Heap} {l : List D} {b : Bool} {v : Value} : RepF G X h (.list l) b v ↔ ∃ a vs n, v = .ref a ∧ (b = true → ¬ X a) ∧ IsL h a vs n ∧ RepL G X h l vs.toList := by unfold RepF; exact Iff.rfl
theorem repT {X : Addr → Prop} {h : Heap} {l : List D} {b : Bool} {v : Value} : RepF G X h (.tup l) b v ↔ ∃ a vs, v = .ref a ∧ (b = true → ¬ X a) ∧ h.get? a = some (tupObj vs) ∧ RepL G X h l vs.toList := by unfold RepF; exact Iff.rfl
theorem repD {X : Addr → Prop} {h : Heap} {l : List (Str × Int)} {b : Bool} {v : Value} : RepF G X h (.dict l) b v ↔ ∃ a, v = .ref a ∧ (b = true → ¬ X a) ∧ dictAt G h a l := by unfold RepF; exact Iff.rfl

section
variable {n : Nat} {Γ : Cx} {b : Bool} {l r : Expr} {pos : Pos} {i j : Int}
theorem Ex.add (h1 : Ex G n Γ true l (.int i)) (h2 : Ex G n Γ true r (.int j)) : Ex G n Γ b (.BinOp l .Add r pos) (.int (i + j)) :=
  Ex.bin h1 h2 fun rm g _ r1 r2 k => by
    obtain ⟨t, rfl⟩ := repI.mp r1; obtain ⟨u, rfl⟩ := repI.mp r2
    exact P.add_int (k _ _ Ext.tok (repI.mpr ⟨_, rfl⟩))
theorem Ex.sub (h1 : Ex G n Γ true l (.int i)) (h2 : Ex G n Γ true r (.int j)) : Ex G n Γ b (.BinOp l .Sub r pos) (.int (i - j)) :=
  Ex.bin h1 h2 fun rm g _ r1 r2 k => by
    obtain ⟨t, rfl⟩ := repI.mp r1; obtain ⟨u, rfl⟩ := repI.mp r2
    exact P.sub_int (k _ _ Ext.tok (repI.mpr ⟨_, rfl⟩))
theorem Ex.mul (h1 : Ex G n Γ true l (.int i)) (h2 : Ex G n Γ true r (.int j)) (hm : IntMulOk i j) : Ex G n Γ b (.BinOp l .Mult r pos) (.int (i * j)) :=
  Ex.bin h1 h2 fun rm g _ r1 r2 k => by
    obtain ⟨t, rfl⟩ := repI.mp r1; obtain ⟨u, rfl⟩ := repI.mp r2
    exact P.mul_int (k _ _ Ext.tok (repI.mpr ⟨_, rfl⟩)) hm
theorem Ex.mod (h1 : Ex G n Γ true l (.int i)) (h2 : Ex G n Γ true r (.int j)) (hj : j ≠ 0) : Ex G n Γ b (.BinOp l .Mod r pos) (.int (i.fmod j)) :=
  Ex.bin h1 h2 fun rm g _ r1 r2 k => by
    obtain ⟨t, rfl⟩ := repI.mp r1; obtain ⟨u, rfl⟩ := repI.mp r2
    exact mod_int' hj (k _ _ Ext.tok (repI.mpr ⟨_, rfl⟩))
theorem Ex.fdiv (h1 : Ex G n Γ true l (.int i)) (h2 : Ex G n Γ true r (.int j)) (hj : j ≠ 0) (hp : Builtin.divisionGoesByPylong i j = false) : Ex G n Γ b (.BinOp l .FloorDiv r pos) (.int (i.fdiv j)) :=
  Ex.bin h1 h2 fun rm g _ r1 r2 k => by
    obtain ⟨t, rfl⟩ := repI.mp r1; obtain ⟨u, rfl⟩ := repI.mp r2
    exact floordiv_int hj (k _ _ Ext.tok (repI.mpr ⟨_, rfl⟩)) (.inl hp)
theorem Ex.pow (h1 : Ex G n Γ true l (.int i)) (h2 : Ex G n Γ true r (.int j)) (hn : 0 ≤ j) (hn2 : j ≤ 1000000) (ha : i.natAbs < 2 ^ 64) : Ex G n Γ b (.BinOp l .Pow r pos) (.int (i ^ j.toNat)) :=
  Ex.bin h1 h2 fun rm g _ r1 r2 k => by
    obtain ⟨t, rfl⟩ := repI.mp r1; obtain ⟨u, rfl⟩ := repI.mp r2
    exact pow_int_small hn hn2 ha (k _ _ Ext.tok (repI.mpr ⟨_, rfl⟩))
theorem Ex.shl (h1 : Ex G n Γ true l (.int i)) (h2 : Ex G n Γ true r (.int j)) (hn : 0 ≤ j) (hn2 : j ≤ 1000000) (ha : i.natAbs < 2 ^ 64) : Ex G n Γ b (.BinOp l .LShift r pos) (.int (i * 2 ^ j.toNat)) :=
  Ex.bin h1 h2 fun rm g _ r1 r2 k => by
    obtain ⟨t, rfl⟩ := repI.mp r1; obtain ⟨u, rfl⟩ := repI.mp r2
    exact lshift_int_small hn hn2 ha (k _ _ Ext.tok (repI.mpr ⟨_, rfl⟩))
theorem Ex.shr (h1 : Ex G n Γ true l (.int i)) (h2 : Ex G n Γ true r (.int j)) (hn : 0 ≤ j) : Ex G n Γ b (.BinOp l .RShift r pos) (.int (i.fdiv (2 ^ j.toNat))) :=
  Ex.bin h1 h2 fun rm g _ r1 r2 k => by
    obtain ⟨t, rfl⟩ := repI.mp r1; obtain ⟨u, rfl⟩ := repI.mp r2
    exact rshift_int hn (k _ _ Ext.tok (repI.mpr ⟨_, rfl⟩))
theorem Ex.and (h1 : Ex G n Γ true l (.int i)) (h2 : Ex G n Γ true r (.int j)) : Ex G n Γ b (.BinOp l .BitAnd r pos) (.int (Builtin.bitAnd i j)) :=
  Ex.bin h1 h2 fun rm g _ r1 r2 k => by
    obtain ⟨t, rfl⟩ := repI.mp r1; obtain ⟨u, rfl⟩ := repI.mp r2
    exact and_int (k _ _ Ext.tok (repI.mpr ⟨_, rfl⟩))
end

end
end Mine

namespace Mine
section
variable {prog : Program} {w : World} {G : Glo prog w} {n : Nat} {Γ : Cx} {b : Bool}

variable (G) in
/-- op of two data is r -/
noncomputable def Cmp (n : Nat) (op : CmpOp) (d1 : D) (b1 : Bool) (d2 : D) (b2 : Bool) (r : Bool) : Prop :=
  ∀ {A : Around} {X : Addr → Prop} {s : Shared} {Q : Value → Shared → Prop} {E : Value → Shared → Prop} {v1 v2 : Value}, Room n A → RepF G X s.heap d1 b1 v1 → RepF G X s.heap d2 b2 v2 →
    (∀ s', Ext s s' → Q (.bool r) s') → wpAny (model prog w) A (compareOp op v1 v2) Q E s

theorem Ex.cmp {l r : Expr} {op : CmpOp} {pos : Pos} {d1 d2 : D} {b1 b2 c : Bool} (h1 : Ex G n Γ b1 l d1) (h2 : Ex G n Γ b2 r d2) (hc : Cmp G n op d1 b1 d2 b2 c)
    (hm : behindInMarks op r = false := by with_unfolding_all rfl) : Ex G n Γ b (.Compare l [op] [r] pos) (.bool c) := by
  intro A h₀ X₀ X env s Q E rm H k
  refine wpAny_Compare1 (h1 rm H fun v1 s1 e1 r1 => h2 rm (H.keep e1.keep) fun v2 s2 e2 r2 => ?_) hm
  exact hc rm (r1.keep e2.keep) r2 fun s' e3 => k _ s' (e1.trans (e2.trans e3)) (repB.mpr rfl)
theorem Tst.cmp {l r : Expr} {op : CmpOp} {pos : Pos} {d1 d2 : D} {b1 b2 c : Bool} (h1 : Ex G n Γ b1 l d1) (h2 : Ex G n Γ b2 r d2) (hc : Cmp G n op d1 b1 d2 b2 c)
    (hm : behindInMarks op r = false := by with_unfolding_all rfl) : Tst G n Γ (.Compare l [op] [r] pos) c := by
  intro A h₀ X₀ X env s Q E rm H k
  refine wpAny_isTrue_Compare1 (h1 rm H fun v1 s1 e1 r1 => h2 rm (H.keep e1.keep) fun v2 s2 e2 r2 => ?_) hm
  exact hc rm (r1.keep e2.keep) r2 fun s' e3 => wpAny_truthy_bool (k s' (e1.trans (e2.trans e3)))
theorem Tst.not {x : Expr} {pos : Pos} {c : Bool} (h : Tst G n Γ x c) : Tst G n Γ (.UnaryOp .Not x pos) (!c) :=
  fun rm H k => wpAny_isTrue_Not (h rm H fun s' e => k s' e)
/-- a value that is an int, as a test -/
theorem Tst.ofInt {e : Expr} {i : Int} (h : Ex G n Γ true e (.int i)) (he : ∀ (env : Env) (whole : Sem Value), isTrue e env whole = (do let v ← whole; standAt e.pos; holding [v] (truthy v)) := by intro _ _; rfl) : Tst G n Γ e (i != 0) := by
  intro A h₀ X₀ X env s Q E rm H k
  refine wpAny_isTrue_value (h rm H fun v s1 e1 r1 => ?_) (he _ _)
  obtain ⟨t, rfl⟩ := repI.mp r1
  exact P.truthy_int (k s1 e1)
theorem Tst.ofBool {e : Expr} {i : Bool} (h : Ex G n Γ true e (.bool i)) (he : ∀ (env : Env) (whole : Sem Value), isTrue e env whole = (do let v ← whole; standAt e.pos; holding [v] (truthy v)) := by intro _ _; rfl) : Tst G n Γ e i := by
  intro A h₀ X₀ X env s Q E rm H k
  refine wpAny_isTrue_value (h rm H fun v s1 e1 r1 => ?_) (he _ _)
  rw [repB.mp r1]
  exact wpAny_truthy_bool (k s1 e1)
theorem Tst.and2 {x y : Expr} {pos : Pos} {c d : Bool} (h1 : Tst G n Γ x c) (h2 : c = true → Tst G n Γ y d) : Tst G n Γ (.BoolOp .And [x, y] pos) (c && d) := by
  intro A h₀ X₀ X env s Q E rm H k
  refine wpAny_isTrue_BoolOp (wpAny_allTrue_And_cons (h1 rm H fun s1 e1 => ?_))
  cases c with
  | false => exact k s1 e1
  | true =>
    refine wpAny_allTrue_And_cons (h2 rfl rm (H.keep e1.keep) fun s2 e2 => ?_)
    cases d with
    | false => exact k s2 (e1.trans e2)
    | true => exact wpAny_allTrue_And_nil (k s2 (e1.trans e2))
theorem Tst.or2 {x y : Expr} {pos : Pos} {c d : Bool} (h1 : Tst G n Γ x c) (h2 : c = false → Tst G n Γ y d) : Tst G n Γ (.BoolOp .Or [x, y] pos) (c || d) := by
  intro A h₀ X₀ X env s Q E rm H k
  refine wpAny_isTrue_BoolOp (wpAny_allTrue_Or_cons (h1 rm H fun s1 e1 => ?_))
  cases c with
  | true => exact k s1 e1
  | false =>
    refine wpAny_allTrue_Or_cons (h2 rfl rm (H.keep e1.keep) fun s2 e2 => ?_)
    cases d with
    | true => exact k s2 (e1.trans e2)
    | false => exact wpAny_allTrue_Or_nil (k s2 (e1.trans e2))
theorem Ex.ife {t x y : Expr} {pos : Pos} {c : Bool} {d : D} (h : Tst G n Γ t c) (h1 : c = true → Ex G n Γ b x d) (h2 : c = false → Ex G n Γ b y d) : Ex G n Γ b (.IfExp t x y pos) d := by
  intro A h₀ X₀ X env s Q E rm H k
  refine wpAny_IfExp (h rm H fun s1 e1 => ?_)
  cases c with
  | true => exact h1 rfl rm (H.keep e1.keep) fun v s' e2 r => k v s' (e1.trans e2) r
  | false => exact h2 rfl rm (H.keep e1.keep) fun v s' e2 r => k v s' (e1.trans e2) r
theorem Ex.neg {x : Expr} {pos : Pos} {i : Int} (h : Ex G n Γ true x (.int i)) : Ex G n Γ b (.UnaryOp .USub x pos) (.int (-i)) := by
  intro A h₀ X₀ X env s Q E rm H k
  refine wpAny_UnaryOp (h rm H fun v s1 e1 r1 => ?_)
  obtain ⟨t, rfl⟩ := repI.mp r1
  exact P.neg_int (k _ _ e1.toks (repI.mpr ⟨_, rfl⟩))

section
variable {i j : Int} {b1 b2 : Bool}
theorem Cmp.lt : Cmp G n .Lt (.int i) b1 (.int j) b2 (decide (i < j)) := fun _ r1 r2 k => by
  obtain ⟨t, rfl⟩ := repI.mp r1; obtain ⟨u, rfl⟩ := repI.mp r2
  exact P.lt_int (k _ (Ext.refl _))
theorem Cmp.gt : Cmp G n .Gt (.int i) b1 (.int j) b2 (decide (i > j)) := fun _ r1 r2 k => by
  obtain ⟨t, rfl⟩ := repI.mp r1; obtain ⟨u, rfl⟩ := repI.mp r2
  exact P.gt_int (k _ (Ext.refl _))
theorem Cmp.eqI : Cmp G n .Eq (.int i) b1 (.int j) b2 (i == j) := fun _ r1 r2 k => by
  obtain ⟨t, rfl⟩ := repI.mp r1; obtain ⟨u, rfl⟩ := repI.mp r2
  exact P.eq_int (k _ (Ext.refl _))
theorem Cmp.neI : Cmp G n .NotEq (.int i) b1 (.int j) b2 (i != j) := fun _ r1 r2 k => by
  obtain ⟨t, rfl⟩ := repI.mp r1; obtain ⟨u, rfl⟩ := repI.mp r2
  exact P.ne_int (k _ (Ext.refl _))
noncomputable def isNone : D → Bool
  | .none => true
  | _ => false
theorem Cmp.isNone {d : D} : Cmp G n .Is d b1 .none b2 (isNone d) := fun _ r1 r2 k => by
  rw [repN.mp r2]
  refine PySem.is_none ?_
  cases d with
  | none => rw [repN.mp r1]; exact k _ (Ext.refl _)
  | bool => rw [repB.mp r1]; exact k _ (Ext.refl _)
  | int => obtain ⟨t, rfl⟩ := repI.mp r1; exact k _ (Ext.refl _)
  | str => obtain ⟨t, rfl⟩ := repS.mp r1; exact k _ (Ext.refl _)
  | list => obtain ⟨_, _, _, rfl, _⟩ := repL.mp r1; exact k _ (Ext.refl _)
  | tup => obtain ⟨_, _, rfl, _⟩ := repT.mp r1; exact k _ (Ext.refl _)
  | dict => obtain ⟨_, rfl, _⟩ := repD.mp r1; exact k _ (Ext.refl _)
  | comp => unfold RepF at r1; obtain ⟨_, _, _, _, _, _, _, _, rfl, _⟩ := r1; exact k _ (Ext.refl _)
end

/-! displays -/
variable (G) in
noncomputable def Exs (n : Nat) (Γ : Cx) (pos : Pos) (es : List Expr) (ds : List D) : Prop :=
  ∀ {A : Around} {h₀ : Heap} {X₀ X : Addr → Prop} {env : Env} {s : Shared} {Q : List Value → Shared → Prop} {E : Value → Shared → Prop}, Room n A → Here G Γ h₀ X₀ X env s.heap →
    (∀ vs s', Ext s s' → RepL G X s'.heap ds vs → Q vs s') → wpAny (model prog w) A (spliced (backTo pos (starEach es env))) Q E s
theorem Exs.nil {pos : Pos} : Exs G n Γ pos [] [] := fun _ _ k => wpAny_items_nil (k _ _ (Ext.refl _) RepL.nil)
theorem Exs.cons {pos : Pos} {e : Expr} {es : List Expr} {d : D} {ds : List D} (h : Ex G n Γ true e d) (hs : Exs G n Γ pos es ds)
    (he : ∀ env : Env, starEach (e :: es) env = (false, eval e env) :: starEach es env := by intro _; rfl) : Exs G n Γ pos (e :: es) (d :: ds) := fun rm H k =>
  wpAny_items_cons (h rm H fun v s1 e1 r1 => hs rm (H.keep e1.keep) fun vs s2 e2 r2 => k _ _ (e1.trans e2) (RepL.cons (r1.keep e2.keep) r2)) (he _)
theorem Exs.length {pos : Pos} {es : List Expr} {ds : List D} {A : Around} {h₀ : Heap} {X₀ X : Addr → Prop} {env : Env} {s : Shared} {vs : List Value} (_ : Exs G n Γ pos es ds) (_ : Room n A) (_ : Here G Γ h₀ X₀ X env s.heap) (r : RepL G X s.heap ds vs) : vs.length = ds.length := r.length

theorem notX_new {X : Addr → Prop} {h : Heap} (live : ∀ a, X a → h.get? a ≠ none) : ¬ X h.objs.size := fun q => live _ q (new_none h)

theorem Ex.list {es : List Expr} {pos : Pos} {ds : List D} (h : Exs G n Γ pos es ds) (hl : ds.length ≤ sizeLine := by (simp only [List.length_cons, List.length_nil]; decide)) : Ex G n Γ b (.List es pos) (.list ds) := by
  intro A h₀ X₀ X env s Q E rm H k
  refine wpAny_List (h rm H fun vs s1 e1 r1 => ⟨by rw [r1.length]; exact hl, ?_⟩)
  have live := (H.keep e1.keep).live
  refine k _ _ ⟨fun b o e => Heap.get?_push_of_some _ (e1.keep b o e), e1.gens, e1.os⟩ (repL.mpr ⟨_, vs.toArray, 0, rfl, fun _ => notX_new live, IsL.new _ _, ?_⟩)
  exact r1.keep (Keeps.push _ _)
theorem Ex.tup {es : List Expr} {kd : Nat} {pos : Pos} {ds : List D} (h : Exs G n Γ pos es ds) (hl : ds.length ≤ sizeLine := by (simp only [List.length_cons, List.length_nil]; decide)) : Ex G n Γ b (.Tuple es kd pos) (.tup ds) := by
  intro A h₀ X₀ X env s Q E rm H k
  refine wpAny_Tuple (h rm H fun vs s1 e1 r1 => ⟨by rw [r1.length]; exact hl, ?_⟩)
  have live := (H.keep e1.keep).live
  refine k _ _ ⟨fun b o e => Heap.get?_push_of_some _ (e1.keep b o e), e1.gens, e1.os⟩ (repT.mpr ⟨_, vs.toArray, rfl, fun _ => notX_new live, Heap.get?_push_size _ rfl, ?_⟩)
  exact r1.keep (Keeps.push _ _)

/-! subscripts -/
theorem seqIndex_nat {i : Int} {m : Nat} (h0 : 0 ≤ i) (h1 : i < m) : seqIndex? i m = some i.toNat := by
  unfold seqIndex?
  simp only [show ¬ i < 0 by omega, if_false]
  rw [if_pos (by simp; omega)]

theorem Ex.item {value slice : Expr} {pos : Pos} {l : List D} {i : Int} {d : D} {b1 : Bool} (h1 : Ex G n Γ b1 value (.list l)) (h2 : Ex G n Γ true slice (.int i)) (h0 : 0 ≤ i) (hf : i < 2 ^ 63) (hi : l[i.toNat]? = some d)
    (hs : ∀ o j, subscripted slice false o j = operate [o, j] (getItem o j) := by intro _ _; rfl) : Ex G n Γ b (.Subscript value slice pos) d := by
  intro A h₀ X₀ X env s Q E rm H k
  refine Subscript_ (h1 rm H fun v1 s1 e1 r1 => h2 rm (H.keep e1.keep) fun v2 s2 e2 r2 => ?_)
  obtain ⟨a, vs, m, rfl, hb, hl, rl⟩ := repL.mp (r1.keep e2.keep)
  obtain ⟨t, rfl⟩ := repI.mp r2
  obtain ⟨v, hv, rv⟩ := rl.at hi
  exact tail_any hl.isList.typeIs slot_list_getitem.lookup (wpAny_getItem_list hl.isList h0 hf (by simpa using hv) (k v s2 (e1.trans e2) rv.weak)) (hs _ _)
theorem Ex.itemT {value slice : Expr} {pos : Pos} {l : List D} {i : Int} {d : D} {b1 : Bool} (h1 : Ex G n Γ b1 value (.tup l)) (h2 : Ex G n Γ true slice (.int i)) (h0 : 0 ≤ i) (hf : i < 2 ^ 63) (hi : l[i.toNat]? = some d)
    (hs : ∀ o j, subscripted slice false o j = operate [o, j] (getItem o j) := by intro _ _; rfl) : Ex G n Γ b (.Subscript value slice pos) d := by
  intro A h₀ X₀ X env s Q E rm H k
  refine Subscript_ (h1 rm H fun v1 s1 e1 r1 => h2 rm (H.keep e1.keep) fun v2 s2 e2 r2 => ?_)
  obtain ⟨a, vs, rfl, hb, hl, rl⟩ := repT.mp (r1.keep e2.keep)
  obtain ⟨t, rfl⟩ := repI.mp r2
  obtain ⟨v, hv, rv⟩ := rl.at hi
  have hlt : i.toNat < vs.size := by
    have := (List.getElem?_eq_some_iff.mp hv).1
    simpa using this
  exact tail_any (T := "tuple") ⟨_, hl, rfl⟩ slot_tuple_getitem.lookup (getItem_tuple (j := i.toNat) ⟨_, hl, rfl, 0, rfl⟩ (by omega) hf (seqIndex_nat h0 (by omega)) (by simpa using hv) (k v s2 (e1.trans e2) rv.weak)) (hs _ _)
end
end Mine

namespace Mine

noncomputable def Cx.set (Γ : Cx) (x : Str) (fl : Fl) (d : D) : Cx := { Γ with vars := (x, fl, d) :: Γ.vars }

structure Chg (h₀ : Heap) (X : Addr → Prop) (s s' : Shared) : Prop where
  keep : ∀ b o, (h₀.get? b ≠ none ∨ ¬ X b) → s.heap.get? b = some o → s'.heap.get? b = some o
  gens : s'.gens = s.gens
  os : s'.os = s.os
structure Grow (s : Shared) (X X' : Addr → Prop) : Prop where
  sub : ∀ a, X a → X' a
  new : ∀ a, X' a → X a ∨ s.heap.get? a = none

theorem Grow.refl (s : Shared) (X : Addr → Prop) : Grow s X X := ⟨fun _ q => q, fun _ q => .inl q⟩
theorem Chg.refl (h₀ : Heap) (X : Addr → Prop) (s : Shared) : Chg h₀ X s s := ⟨fun _ _ _ e => e, rfl, rfl⟩
theorem Chg.of_ext {h₀ : Heap} {X : Addr → Prop} {s s' : Shared} (e : Ext s s') : Chg h₀ X s s' := ⟨fun b o _ q => e.keep b o q, e.gens, e.os⟩
theorem Chg.trans {h₀ : Heap} {X X1 : Addr → Prop} {s s1 s2 : Shared} (c : Chg h₀ X s s1) (g : Grow s X X1) (d : Chg h₀ X1 s1 s2) : Chg h₀ X s s2 :=
  ⟨fun b o hb e => d.keep b o (hb.imp id fun hx q => (g.new b q).elim hx fun q => by rw [e] at q; cases q) (c.keep b o hb e), d.gens.trans c.gens, d.os.trans c.os⟩
theorem Grow.trans {h₀ : Heap} {X X1 X2 : Addr → Prop} {s s1 : Shared} (g : Grow s X X1) (c : Chg h₀ X s s1) (g1 : Grow s1 X1 X2) : Grow s X X2 :=
  ⟨fun a q => g1.sub a (g.sub a q), fun a q => by
    rcases g1.new a q with q | q
    · exact g.new a q
    · cases e : s.heap.get? a with
      | none => exact .inr rfl
      | some o =>
        by_cases hx : X a
        · exact .inl hx
        · rw [c.keep a o (.inr hx) e] at q; cases q⟩
theorem Chg.of_same {h₀ : Heap} {X : Addr → Prop} {s : Shared} {p : Addr} {h' : Heap} {t : Nat} (hs : Heap.SameBut p s.heap h') (hp : X p) (hn : h₀.get? p = none) : Chg h₀ X s { s with heap := h', toks := t } :=
  ⟨fun b o hb e => by
    have hne : b ≠ p := fun q => by subst q; exact hb.elim (fun x => x hn) fun x => x hp
    exact (hs.2 b hne).trans e, rfl, rfl⟩

section
variable {prog : Program} {w : World} {G : Glo prog w} {n : Nat} {Γ : Cx} {b : Bool}

/-- Γ' says all that Γ says -/
structure Sub (Γ Γ' : Cx) : Prop where
  sc : Γ.sc = Γ'.sc
  own : Γ.own = Γ'.own
  vars : ∀ y sl, Γ.vars.lookup y = some sl → Γ'.vars.lookup y = some sl
theorem Sub.refl (Γ : Cx) : Sub Γ Γ := ⟨rfl, rfl, fun _ _ e => e⟩
theorem mem_of_look {α : Type} : ∀ {l : List (Str × α)} {y : Str} {a : α}, l.lookup y = some a → (y, a) ∈ l
  | [], _, _, e => by cases e
  | (k, v) :: r, y, a, e => by
    rw [List.lookup_cons] at e
    cases hb : y == k with
    | true => rw [hb] at e; cases e; rw [beq_iff_eq.mp hb]; exact List.mem_cons_self
    | false => rw [hb] at e; exact List.mem_cons_of_mem _ (mem_of_look e)
theorem Sub.of {Γ Γ' : Cx} (h1 : Γ.sc = Γ'.sc) (h2 : Γ.own = Γ'.own) (h : ∀ p ∈ Γ.vars, Γ'.vars.lookup p.1 = some p.2) : Sub Γ Γ' := ⟨h1, h2, fun y sl e => h (y, sl) (mem_of_look e)⟩
theorem Sub.trans {Γ Γ' Γ'' : Cx} (x : Sub Γ Γ') (y : Sub Γ' Γ'') : Sub Γ Γ'' := ⟨x.sc.trans y.sc, x.own.trans y.own, fun z sl e => y.vars z sl (x.vars z sl e)⟩

theorem Here.sub {Γ' : Cx} {h₀ : Heap} {X₀ X : Addr → Prop} {env : Env} {h : Heap} (H : Here G Γ' h₀ X₀ X env h) (x : Sub Γ Γ') : Here G Γ h₀ X₀ X env h where
  scp := H.scp.trans x.sc.symm
  kind := by rw [x.sc]; exact H.kind
  glb := H.glb
  blt := H.blt
  gl0 := H.gl0
  base := H.base
  x0 := H.x0
  live := H.live
  locX := H.locX
  locN := H.locN
  loc := H.loc
  cell := fun y q => H.cell y (by rw [← x.sc]; exact q)
  cellX := H.cellX
  cellN := fun y q => H.cellN y (by rw [← x.own]; exact q)
  apart := H.apart
  vars := fun y fl d q => H.vars y fl d (x.vars _ _ q)
  owns := fun y d q => H.owns y d (x.vars _ _ q)
  ownsApart := fun y z d d' a q1 q2 => H.ownsApart y z d d' a (x.vars _ _ q1) (x.vars _ _ q2)

/-- more may turn -/
theorem Here.grow {h₀ : Heap} {X₀ X X' : Addr → Prop} {env : Env} {h h' : Heap} (H : Here G Γ h₀ X₀ X env h) (hk : Keeps h h') (hs : ∀ a, X a → X' a) (hx : ∀ a, X' a → X a ∨ (h.get? a = none ∧ h'.get? a ≠ none)) : Here G Γ h₀ X₀ X' env h' :=
  have H' := H.keep hk
  { scp := H'.scp
    kind := H'.kind
    glb := H'.glb
    blt := H'.blt
    gl0 := H'.gl0
    base := H'.base
    x0 := fun a q => ⟨hs a (H'.x0 a q).1, (H'.x0 a q).2⟩
    live := fun a q => (hx a q).elim (H'.live a) fun q => q.2
    locX := hs _ H'.locX
    locN := H'.locN
    loc := H'.loc
    cell := H'.cell
    cellX := fun x c q => ⟨hs _ (H'.cellX x c q).1, (H'.cellX x c q).2⟩
    cellN := H'.cellN
    apart := H'.apart
    vars := fun x fl d q => by
      obtain ⟨v, h1, h2, h3⟩ := H.vars x fl d q
      exact ⟨v, h1.keep hk, RepF.move (fun a o _ e => hk a o e) (fun a q => (hx a q).imp id fun q => q.1) d _ v h2 fun _ a o _ e => hk a o e, h3⟩
    owns := fun x d q => let ⟨a, h1, h2, h3⟩ := H'.owns x d q; ⟨a, h1, hs _ h2, h3⟩
    ownsApart := H'.ownsApart }

/-- what a slot wants -/
structure SlotOk (G : Glo prog w) (Γ : Cx) (h₀ : Heap) (X : Addr → Prop) (env : Env) (h : Heap) (fl : Fl) (d : D) (v : Value) : Prop where
  rep : RepF G X h d (fl == .full) v
  self : fl ≠ .full → ∀ a, v = .ref a → a ≠ env.locals ∧ (∀ y c, env.cells.lookup y = some c → a ≠ c) ∧ (fl = .top → h₀.get? a ≠ none)
  own : fl = .own → ∃ a, v = .ref a ∧ X a ∧ h₀.get? a = none ∧ ∀ y d', Γ.vars.lookup y = some (.own, d') → ¬ Binds env h y (.ref a)
theorem SlotOk.full {h₀ : Heap} {X : Addr → Prop} {env : Env} {h : Heap} {d : D} {v : Value} (r : RepF G X h d true v) : SlotOk G Γ h₀ X env h .full d v :=
  ⟨r, fun q => absurd rfl q, fun q => by cases q⟩

/-- the heap turns at p alone, which is the frame's names or a cell of its own -/
theorem Here.bindAt {h₀ : Heap} {X₀ X : Addr → Prop} {env : Env} {h h' : Heap} {p : Addr} {x : Str} {v : Value} {fl : Fl} {d : D} (H : Here G Γ h₀ X₀ X env h) (hs : Heap.SameBut p h h') (hp : X p) (hn : h₀.get? p = none) (hl : h'.get? p ≠ none)
    (hpp : p = env.locals ∨ ∃ y, env.cells.lookup y = some p)
    (hloc : ∃ m, h'.Ns env.locals m) (hcell : ∀ y c u, env.cells.lookup y = some c → h.IsCell c u → ∃ u', h'.IsCell c u')
    (hb : Binds env h' x v) (hoth : ∀ y u, y ≠ x → Binds env h y u → Binds env h' y u) (S : SlotOk G Γ h₀ X env h fl d v) : Here G (Γ.set x fl d) h₀ X₀ X env h' := by
  have hk : ∀ a o, a ≠ p → h.get? a = some o → h'.get? a = some o := fun a o q e => (hs.2 a q).trans e
  have hkX : ∀ a o, ¬ X a → h.get? a = some o → h'.get? a = some o := fun a o q e => hk a o (fun z => q (z ▸ hp)) e
  have selfP : ∀ (fl' : Fl) (u : Value), (fl' ≠ .full → ∀ a, u = .ref a → a ≠ env.locals ∧ (∀ y c, env.cells.lookup y = some c → a ≠ c) ∧ (fl' = .top → h₀.get? a ≠ none)) → ∀ d', RepF G X h d' (fl' == .full) u → RepF G X h' d' (fl' == .full) u := fun fl' u hse d' r => by
    refine RepF.move hkX (fun _ q => .inl q) d' _ u r fun hf a o e g => hk a o (fun z => ?_) g
    have hne : fl' ≠ .full := fun z => by subst z; cases hf
    obtain ⟨q1, q2, _⟩ := hse hne a e
    rcases hpp with q | ⟨y, q⟩
    · exact q1 (z.trans q)
    · exact q2 y p q z
  have look : ∀ y sl, (Γ.set x fl d).vars.lookup y = some sl → (y = x ∧ sl = (fl, d)) ∨ (y ≠ x ∧ Γ.vars.lookup y = some sl) := fun y sl e => by
    unfold Cx.set at e
    simp only [List.lookup_cons] at e
    cases hb : y == x with
    | true => rw [hb] at e; cases e; exact .inl ⟨beq_iff_eq.mp hb, rfl⟩
    | false => rw [hb] at e; exact .inr ⟨beq_eq_false_iff_ne.mp hb, e⟩
  exact
  { scp := H.scp
    kind := H.kind
    glb := H.glb
    blt := H.blt
    gl0 := H.gl0
    base := fun a o e => hk a o (fun z => by rw [z, hn] at e; cases e) (H.base a o e)
    x0 := H.x0
    live := fun a q => by
      by_cases z : a = p
      · rw [z]; exact hl
      · rw [hs.2 a z]; exact H.live a q
    locX := H.locX
    locN := H.locN
    loc := hloc
    cell := fun y q => let ⟨c, u, h1, h2⟩ := H.cell y q; let ⟨u', h3⟩ := hcell y c u h1 h2; ⟨c, u', h1, h3⟩
    cellX := H.cellX
    cellN := H.cellN
    apart := H.apart
    vars := fun y fl' d' q => by
      rcases look y _ q with ⟨rfl, e⟩ | ⟨hy, e⟩
      · cases e
        exact ⟨v, hb, selfP fl v S.self d S.rep, S.self⟩
      · obtain ⟨u, h1, h2, h3⟩ := H.vars y fl' d' e
        exact ⟨u, hoth y u hy h1, selfP fl' u h3 d' h2, h3⟩
    owns := fun y d' q => by
      rcases look y _ q with ⟨rfl, e⟩ | ⟨hy, e⟩
      · cases e
        obtain ⟨a, rfl, q1, q2, _⟩ := S.own rfl
        exact ⟨a, hb, q1, q2⟩
      · obtain ⟨a, h1, h2⟩ := H.owns y d' e
        exact ⟨a, hoth y _ hy h1, h2⟩
    ownsApart := fun y z d1 d2 a q1 q2 b1 b2 => by
      rcases look y _ q1 with ⟨rfl, e1⟩ | ⟨hy, e1⟩ <;> rcases look z _ q2 with ⟨rfl, e2⟩ | ⟨hz, e2⟩
      · rfl
      · exfalso
        cases e1
        obtain ⟨a', rfl, _, _, q⟩ := S.own rfl
        obtain ⟨a2, c1, _⟩ := H.owns z d2 e2
        have z1 := hb.unique b1
        have z2 := (hoth z _ hz c1).unique b2
        rw [z2] at c1; rw [z1] at q
        have := b1.unique hb
        exact q z d2 e2 (by cases z1; exact c1)
      · exfalso
        cases e2
        obtain ⟨a', rfl, _, _, q⟩ := S.own rfl
        obtain ⟨a2, c1, _⟩ := H.owns y d1 e1
        have z1 := hb.unique b2
        have z2 := (hoth y _ hy c1).unique b1
        rw [z2] at c1
        exact q y d1 e1 (by cases z1; exact c1)
      · obtain ⟨a1, c1, _⟩ := H.owns y d1 e1
        obtain ⟨a2, c2, _⟩ := H.owns z d2 e2
        have z1 := (hoth y _ hy c1).unique b1
        have z2 := (hoth z _ hz c2).unique b2
        rw [z1] at c1; rw [z2] at c2
        exact H.ownsApart y z d1 d2 a e1 e2 c1 c2 }

/-- an object that is none of the names' own turns -/
theorem Here.mut {h₀ : Heap} {X₀ X : Addr → Prop} {env : Env} {h h' : Heap} {p : Addr} (H : Here G Γ h₀ X₀ X env h) (hk : ∀ a o, a ≠ p → h.get? a = some o → h'.get? a = some o) (hp : X p) (hn : h₀.get? p = none) (hl : h'.get? p ≠ none)
    (hL : p ≠ env.locals) (hC : ∀ y c, env.cells.lookup y = some c → p ≠ c) (ho : ∀ y d, Γ.vars.lookup y = some (.own, d) → ¬ Binds env h y (.ref p)) : Here G Γ h₀ X₀ X env h' := by
  have hb : ∀ y u, Binds env h y u → Binds env h' y u := fun y u b => by
    rcases b with ⟨k, m, hm, hv⟩ | ⟨k, c, hc, hv⟩
    · obtain ⟨o, es, ep, e, r⟩ := hm
      exact .inl ⟨k, m, ⟨o, es, ep, hk _ o (Ne.symm hL) e, r⟩, hv⟩
    · obtain ⟨o, e, r⟩ := hv
      exact .inr ⟨k, c, hc, o, hk c o (Ne.symm (hC y c hc)) e, r⟩
  exact
  { scp := H.scp
    kind := H.kind
    glb := H.glb
    blt := H.blt
    gl0 := H.gl0
    base := fun a o e => hk a o (fun z => by rw [z, hn] at e; cases e) (H.base a o e)
    x0 := H.x0
    live := fun a q => by
      by_cases z : a = p
      · rw [z]; exact hl
      · cases e : h.get? a with
        | none => exact absurd e (H.live a q)
        | some o => rw [hk a o z e]; exact Option.some_ne_none o
    locX := H.locX
    locN := H.locN
    loc := by
      obtain ⟨m, o, es, ep, e, r⟩ := H.loc
      exact ⟨m, o, es, ep, hk _ o (Ne.symm hL) e, r⟩
    cell := fun y q => by
      obtain ⟨c, v, h1, o, e, r⟩ := H.cell y q
      exact ⟨c, v, h1, o, hk c o (Ne.symm (hC y c h1)) e, r⟩
    cellX := H.cellX
    cellN := H.cellN
    apart := H.apart
    vars := fun y fl d q => by
      obtain ⟨v, h1, h2, h3⟩ := H.vars y fl d q
      refine ⟨v, hb y v h1, RepF.move (fun a o z e => hk a o (fun y => z (y ▸ hp)) e) (fun _ q => .inl q) d _ v h2 fun hf a o e g => hk a o (fun z => ?_) g, h3⟩
      have hne : fl ≠ .full := fun z => by subst z; cases hf
      cases fl with
      | full => exact hne rfl
      | top => exact (h3 hne a e).2.2 rfl (z ▸ hn)
      | own => exact ho y d q (by rw [e, z] at h1; exact h1)
    owns := fun y d q => let ⟨a, h1, h2⟩ := H.owns y d q; ⟨a, hb y _ h1, h2⟩
    ownsApart := fun y z d d' a q1 q2 b1 b2 => by
      obtain ⟨a1, c1, _⟩ := H.owns y d q1
      obtain ⟨a2, c2, _⟩ := H.owns z d' q2
      have e1 := (hb y _ c1).unique b1
      have e2 := (hb z _ c2).unique b2
      rw [e1] at c1; rw [e2] at c2
      exact H.ownsApart y z d d' a q1 q2 c1 c2 }
end
end Mine

namespace Mine
section
variable {prog : Program} {w : World} {G : Glo prog w} {n : Nat} {Γ : Cx} {b : Bool}

/-- x is a name that the frame may store -/
noncomputable def Cx.mine (Γ : Cx) (x : Str) : Bool := decide (Γ.sc.names.lookup x = some .local) || (decide (Γ.sc.names.lookup x = some .cell) && Γ.own.contains x)

/-- only the frame's names and cells turn -/
noncomputable def Loc (env : Env) (s s' : Shared) : Prop := ∀ b o, b ≠ env.locals → (∀ y, env.cells.lookup y ≠ some b) → s.heap.get? b = some o → s'.heap.get? b = some o
theorem Loc.of_same {env : Env} {s : Shared} {p : Addr} {h' : Heap} {t : Nat} (hs : Heap.SameBut p s.heap h') (hp : p = env.locals ∨ ∃ y, env.cells.lookup y = some p) : Loc env s { s with heap := h', toks := t } :=
  fun b o h1 h2 e => (hs.2 b fun q => hp.elim (fun z => h1 (q.trans z)) fun ⟨y, z⟩ => h2 y (q ▸ z)).trans e
theorem Loc.trans {env : Env} {s s1 s2 : Shared} (x : Loc env s s1) (y : Loc env s1 s2) : Loc env s s2 := fun b o h1 h2 e => y b o h1 h2 (x b o h1 h2 e)
theorem Loc.of_ext {env : Env} {s s1 : Shared} (x : Ext s s1) : Loc env s s1 := fun b o _ _ e => x.keep b o e

theorem wpAny_store {x : Str} {fl : Fl} {d : D} {A : Around} {h₀ : Heap} {X₀ X : Addr → Prop} {env : Env} {s : Shared} {v : Value} {Q : Unit → Shared → Prop} {E : Value → Shared → Prop}
    (H : Here G Γ h₀ X₀ X env s.heap) (hx : Γ.mine x = true) (S : SlotOk G Γ h₀ X env s.heap fl d v)
    (k : ∀ s', Here G (Γ.set x fl d) h₀ X₀ X env s'.heap → Chg h₀ X s s' → Loc env s s' → (∀ y u, y ≠ x → Binds env s.heap y u → Binds env s'.heap y u) → Q () s') : wpAny (model prog w) A (storeName env x v) Q E s := by
  have hkd : env.scope.kind = .function := by rw [H.scp]; exact H.kind
  obtain ⟨m, hm⟩ := H.loc
  unfold Cx.mine at hx
  rw [Bool.or_eq_true, Bool.and_eq_true, decide_eq_true_eq, decide_eq_true_eq] at hx
  rcases hx with hx | ⟨hx, ho⟩
  · have hl : env.kindOf x = some .local := by unfold Env.kindOf; rw [H.scp]; exact hx
    refine wpAny_storeName_local hl hm (fun h' hn hs => ?_) (by rw [hkd]; rfl)
    have oth : ∀ y u, y ≠ x → Binds env s.heap y u → Binds env h' y u := fun y u hy hb => ?_
    · exact k _ (H.bindAt hs H.locX H.locN (by obtain ⟨o, _, _, e, _⟩ := hn; rw [e]; exact Option.some_ne_none o) (.inl rfl) ⟨_, hn⟩ (fun y c u hc hu => ⟨u, hu.sameBut hs (H.cellX y c hc).2⟩)
        (.inl ⟨hl, _, hn, by simp⟩) oth S) (Chg.of_same hs H.locX H.locN) (Loc.of_same hs (.inl rfl)) oth
    rcases hb with ⟨k1, m', hn', hm'⟩ | ⟨k1, c, hc, hv⟩
    · exact .inl ⟨k1, _, hn, by rw [if_neg hy, ns_unique hm hn']; exact hm'⟩
    · exact .inr ⟨k1, c, hc, hv.sameBut hs (H.cellX y c hc).2⟩
  · have hl : env.kindOf x = some .cell := by unfold Env.kindOf; rw [H.scp]; exact hx
    obtain ⟨c, v₀, hc, hv₀⟩ := H.cell x (.inl hx)
    have hmem : x ∈ Γ.own := by simpa using ho
    have hcX := H.cellX x c hc
    refine wpAny_storeName_cell hkd hl hc hv₀ fun h' hv hs => ?_
    have oth : ∀ y u, y ≠ x → Binds env s.heap y u → Binds env h' y u := fun y u hy hb => ?_
    · refine k _ (H.bindAt hs hcX.1 (H.cellN x hmem c hc) (by obtain ⟨o, e, _⟩ := hv; rw [e]; exact Option.some_ne_none o) (.inr ⟨x, hc⟩) ⟨m, hm.sameBut hs (Ne.symm hcX.2)⟩ (fun y c' u hc' hu => ?_)
        (.inr ⟨.inl hl, c, hc, hv⟩) oth S) (Chg.of_same (t := s.toks) hs hcX.1 (H.cellN x hmem c hc)) (Loc.of_same (t := s.toks) hs (.inr ⟨x, hc⟩)) oth
      by_cases q : c' = c
      · subst q; exact ⟨_, hv⟩
      · exact ⟨u, hu.sameBut hs q⟩
    · rcases hb with ⟨k1, m', hn', hm'⟩ | ⟨k1, c', hc', hv'⟩
      · exact .inl ⟨k1, _, hn'.sameBut hs (Ne.symm hcX.2), hm'⟩
      · exact .inr ⟨k1, c', hc', hv'.sameBut hs fun q => hy (H.apart y x c (q ▸ hc') hc)⟩

/-- what a run of statements ends in -/
inductive Out where
  | next (Γ : Cx)
  | ret (d : D)

variable (G) in
noncomputable def Sat (h₀ : Heap) (X₀ X : Addr → Prop) (env : Env) (s : Shared) : Out → Flow → Shared → Prop
  | .next Γ', fl, s' => fl = .next ∧ ∃ X', Grow s X X' ∧ Here G Γ' h₀ X₀ X' env s'.heap ∧ Chg h₀ X s s'
  | .ret d, fl, s' => ∃ v, fl = .ret v ∧ RepF G X₀ s'.heap d true v ∧ Chg h₀ X s s'

variable (G) in
noncomputable def Runs (n : Nat) (Γ : Cx) (ss : List Stmt) (R : Out → Prop) : Prop :=
  ∀ {A : Around} {h₀ : Heap} {X₀ X : Addr → Prop} {env : Env} {s : Shared} {Q : Flow → Shared → Prop} {E : Value → Shared → Prop}, Room n A → Here G Γ h₀ X₀ X env s.heap →
    (∀ o fl s', R o → Sat G h₀ X₀ X env s o fl s' → Q fl s') → wpAny (model prog w) A (execs ss env) Q E s

theorem Sat.after {h₀ : Heap} {X₀ X X1 : Addr → Prop} {env : Env} {s s1 s' : Shared} {o : Out} {fl : Flow} (c : Chg h₀ X s s1) (g : Grow s X X1) (x : Sat G h₀ X₀ X1 env s1 o fl s') : Sat G h₀ X₀ X env s o fl s' := by
  cases o with
  | next Γ' =>
    obtain ⟨e, X', g', H, c'⟩ := x
    exact ⟨e, X', g.trans c g', H, c.trans g c'⟩
  | ret d =>
    obtain ⟨v, e, r, c'⟩ := x
    exact ⟨v, e, r, c.trans g c'⟩

theorem Runs.nil {R : Out → Prop} (h : R (.next Γ)) : Runs G n Γ [] R := fun {A h₀ X₀ X env s Q E} rm H k =>
  wpAny_execs_nil (k _ _ s h ⟨rfl, X, Grow.refl s X, H, Chg.refl h₀ X s⟩)
theorem Runs.mono {ss : List Stmt} {R R' : Out → Prop} (h : Runs G n Γ ss R) (x : ∀ o, R o → R' o) : Runs G n Γ ss R' := fun rm H k => h rm H fun o fl s' r q => k o fl s' (x o r) q
theorem Runs.sub {Γ' : Cx} {ss : List Stmt} {R : Out → Prop} (h : Runs G n Γ ss R) (x : Sub Γ Γ') : Runs G n Γ' ss R := fun rm H k => h rm (H.sub x) k
theorem Runs.more {m : Nat} {ss : List Stmt} {R : Out → Prop} (h : Runs G n Γ ss R) (x : n ≤ m) : Runs G m Γ ss R := fun rm H k => h (rm.mono x) H k

/-- one statement, then the rest -/
theorem Runs.step {st : Stmt} {rest : List Stmt} {Γ' : Cx} {R : Out → Prop}
    (h : ∀ {A : Around} {h₀ : Heap} {X₀ X : Addr → Prop} {env : Env} {s : Shared} {Q : Flow → Shared → Prop} {E : Value → Shared → Prop}, Room n A → Here G Γ h₀ X₀ X env s.heap →
      (∀ s' X', Grow s X X' → Here G Γ' h₀ X₀ X' env s'.heap → Chg h₀ X s s' → Q .next s') → wpAny (model prog w) A (exec st env) Q E s)
    (hr : Runs G n Γ' rest R) : Runs G n Γ (st :: rest) R := fun rm H k =>
  wpAny_execs_cons (h rm H fun s' X' g H' c => hr rm H' fun o fl s'' r q => k o fl s'' r (q.after c g))

theorem Runs.assign {x : Str} {px pos : Pos} {e : Expr} {rest : List Stmt} {d : D} {R : Out → Prop} (he : Ex G n Γ true e d) (hr : Runs G n (Γ.set x .full d) rest R) (hx : Γ.mine x = true := by rfl)
    (hs : ∀ env : Env, env.scope = Γ.sc → swapsWith e (some (.Name x px)) pos.line env = pure false := by (intro _ _; rfl)) : Runs G n Γ (.Assign [.Name x px] e pos :: rest) R :=
  Runs.step (fun {A h₀ X₀ X env s Q E} rm H k => wpAny_Assign_Name (he rm H fun v s1 e1 r1 => wpAny_store (H.keep e1.keep) hx (SlotOk.full r1) fun s' H' c _ _ => k s' X (Grow.refl s X) H' ((Chg.of_ext e1).trans (Grow.refl s X) c)) (hs env H.scp)) hr

variable (G) in
/-- e yields a new object, which nothing holds -/
noncomputable def ExN (n : Nat) (Γ : Cx) (e : Expr) (d : D) : Prop :=
  ∀ {A : Around} {h₀ : Heap} {X₀ X : Addr → Prop} {env : Env} {s : Shared} {Q : Value → Shared → Prop} {E : Value → Shared → Prop}, Room n A → Here G Γ h₀ X₀ X env s.heap →
    (∀ a s', Ext s s' → s.heap.get? a = none → s'.heap.get? a ≠ none → RepF G (fun c => X c ∨ c = a) s'.heap d false (.ref a) → Q (.ref a) s') → wpAny (model prog w) A (eval e env) Q E s
theorem ExN.list {es : List Expr} {pos : Pos} {ds : List D} (h : Exs G n Γ pos es ds) (hl : ds.length ≤ sizeLine := by (simp only [List.length_cons, List.length_nil]; decide)) : ExN G n Γ (.List es pos) (.list ds) := by
  intro A h₀ X₀ X env s Q E rm H k
  refine wpAny_List (h rm H fun vs s1 e1 r1 => ⟨by rw [r1.length]; exact hl, ?_⟩)
  have hnew : s.heap.get? s1.heap.objs.size = none := by
    cases e : s.heap.get? s1.heap.objs.size with
    | none => rfl
    | some o => have := e1.keep _ _ e; rw [new_none] at this; cases this
  have hg : (s1.heap.push { cls := .type "list", data := .seq vs.toArray }).get? s1.heap.objs.size = some { cls := .type "list", data := .seq vs.toArray } := Heap.get?_push_size _ rfl
  refine k _ _ ⟨fun b o e => Heap.get?_push_of_some _ (e1.keep b o e), e1.gens, e1.os⟩ hnew (by rw [hg]; exact Option.some_ne_none _) (repL.mpr ⟨_, vs.toArray, 0, rfl, (fun q => by cases q), IsL.new _ _, ?_⟩)
  exact RepL.move (fun a o _ e => Heap.get?_push_of_some _ e) (fun a q => q.imp id fun q => by rw [q]; exact new_none _) ds vs r1
theorem ExN.dict {pos : Pos} : ExN G n Γ (.Dict [] [] pos) (.dict []) := by
  intro A h₀ X₀ X env s Q E rm H k
  refine wpAny_Dict_empty ?_
  have hg : (s.heap.push { cls := .type "dict", data := .dict #[] }).get? s.heap.objs.size = some { cls := .type "dict", data := .dict #[] } := Heap.get?_push_size _ rfl
  have hsys : s.heap.objs.size ≠ sysModules := by
    have hlt := (G.g H.gl).lt
    intro q
    rw [q] at hlt
    exact absurd hlt (by decide)
  exact k _ _ ⟨Keeps.push _ _, rfl, rfl⟩ (new_none _) (by rw [hg]; exact Option.some_ne_none _) (repD.mpr ⟨_, rfl, (fun q => by cases q), [], Heap.DictOf.new _, rfl, hsys⟩)

theorem Runs.assignOwn {x : Str} {px pos : Pos} {e : Expr} {rest : List Stmt} {d : D} {R : Out → Prop} (he : ExN G n Γ e d) (hr : Runs G n (Γ.set x .own d) rest R) (hx : Γ.mine x = true := by rfl)
    (hs : ∀ env : Env, env.scope = Γ.sc → swapsWith e (some (.Name x px)) pos.line env = pure false := by (intro _ _; rfl)) : Runs G n Γ (.Assign [.Name x px] e pos :: rest) R :=
  Runs.step (fun {A h₀ X₀ X env s Q E} rm H k => wpAny_Assign_Name (he rm H fun a s1 e1 hn hl r1 => by
    have g : Grow s X (fun c => X c ∨ c = a) := ⟨fun _ q => .inl q, fun c q => q.imp id fun q => by rw [q]; exact hn⟩
    have H1 : Here G Γ h₀ X₀ (fun c => X c ∨ c = a) env s1.heap := H.grow e1.keep (fun _ q => .inl q) (fun c q => q.imp id fun q => by rw [q]; exact ⟨hn, hl⟩)
    have hne : ∀ c, X c → a ≠ c := fun c q z => H.live c q (z ▸ hn)
    refine wpAny_store H1 hx ⟨r1, fun _ a' z => ?_, fun _ => ⟨a, rfl, .inr rfl, ?_, fun y d' q b => ?_⟩⟩ fun s' H' c _ _ => k s' _ g H' ((Chg.of_ext e1).trans g c)
    · cases z
      exact ⟨hne _ H.locX, fun y c hc => hne _ (H.cellX y c hc).1, fun q => by cases q⟩
    · cases q : h₀.get? a with
      | none => rfl
      | some o => rw [H.base a o q] at hn; cases hn
    · obtain ⟨a', c1, c2, _⟩ := H.owns y d' q
      have := (c1.keep e1.keep).unique b
      cases this
      exact hne _ c2 rfl) (hs env H.scp)) hr

theorem Runs.ret {e : Expr} {pos : Pos} {rest : List Stmt} {d : D} {R : Out → Prop} (he : Ex G n Γ true e d) (h : R (.ret d)) : Runs G n Γ (.Return (some e) pos :: rest) R := fun {A h₀ X₀ X env s Q E} rm H k =>
  wpAny_execs_cons (wpAny_Return_some (he rm H fun v s1 e1 r1 => k _ _ s1 h ⟨v, rfl, RepF.move (fun a o _ q => q) (fun a q => .inl (H.x0 a q).1) d _ v r1 (fun q => by cases q), Chg.of_ext e1⟩))
/-- a name that holds an object of the frame's own is handed on -/
theorem Runs.retOwn {x : Str} {px pos : Pos} {rest : List Stmt} {d : D} {R : Out → Prop} (hv : Γ.vars.lookup x = some (.own, d)) (h : R (.ret d))
    (hd : (x == ("__debug__" : Str)) = false := by decide) (hc : (x == ("__classdict__" : Str)) = false := by decide) : Runs G n Γ (.Return (some (.Name x px)) pos :: rest) R := fun {A h₀ X₀ X env s Q E} rm H k => by
  refine wpAny_execs_cons (wpAny_Return_some ?_)
  obtain ⟨v, hb, hr, _⟩ := H.vars x .own d hv
  obtain ⟨a, hb', hX, hn⟩ := H.owns x d hv
  cases hb.unique hb'
  have hk : env.scope.kind = .function := by rw [H.scp]; exact H.kind
  have fin : (fun v => Q (Flow.ret v)) (.ref a) s := k _ _ s h ⟨_, rfl, (RepF.move (X' := X₀) (fun a o _ q => q) (fun a q => .inl (H.x0 a q).1) d _ _ hr (fun _ _ _ _ q => q)).strong (fun a' z q => by cases z; exact (H.x0 _ q).2 hn), Chg.refl _ _ _⟩
  refine wpAny_Name ?_ hd
  rcases hb with ⟨hl, m, hn, hm⟩ | ⟨hl | hl, c, hc', hcv⟩
  · exact wpAny_loadName_local hk hl hn hm fin
  · exact wpAny_loadName_cell hk hl hc' hcv fin
  · exact wpAny_loadName_free hk hl hc' hcv fin hc

theorem Runs.ife {t : Expr} {xs ys rest : List Stmt} {pos : Pos} {c : Bool} {R : Out → Prop} (h : Tst G n Γ t c)
    (h1 : c = true → Runs G n Γ xs (fun o => match o with | .next Γ' => Runs G n Γ' rest R | .ret d => R (.ret d)))
    (h2 : c = false → Runs G n Γ ys (fun o => match o with | .next Γ' => Runs G n Γ' rest R | .ret d => R (.ret d))) : Runs G n Γ (.If t xs ys pos :: rest) R := fun {A h₀ X₀ X env s Q E} rm H k => by
  have key : ∀ {zs : List Stmt} {s1 : Shared}, Ext s s1 → Runs G n Γ zs (fun o => match o with | .next Γ' => Runs G n Γ' rest R | .ret d => R (.ret d)) →
      wpAny (model prog w) A (execs zs env) (fun f s' => match f with | .next => wpAny (model prog w) A (execs rest env) Q E s' | f => Q f s') E s1 := fun {zs s1} e1 hz =>
    hz rm (H.keep e1.keep) fun o fl s' r q => by
      have q := q.after (Chg.of_ext e1) (Grow.refl s X)
      cases o with
      | next Γ' =>
        obtain ⟨rfl, X', g, H', c'⟩ := q
        exact r rm H' fun o fl s'' r' q' => k o fl s'' r' (q'.after c' g)
      | ret d =>
        obtain ⟨v, rfl, r', c'⟩ := q
        exact k (.ret d) _ _ r ⟨v, rfl, r', c'⟩
  refine wpAny_execs_cons (wpAny_If (h rm H fun s1 e1 => ?_))
  cases c with
  | true => exact key e1 (h1 rfl)
  | false => exact key e1 (h2 rfl)
/-- an if without else whose test fails -/
theorem Runs.skip {t : Expr} {xs rest : List Stmt} {pos : Pos} {R : Out → Prop} (h : Tst G n Γ t false) (hr : Runs G n Γ rest R) : Runs G n Γ (.If t xs [] pos :: rest) R :=
  Runs.ife h (fun q => by cases q) fun _ => Runs.nil (by show Runs G n Γ rest R; exact hr)

theorem Runs.augName {x : Str} {px pos : Pos} {op : Operator} {e : Expr} {rest : List Stmt} {d d1 d2 : D} {R : Out → Prop} (hv : Γ.vars.lookup x = some (.full, d1)) (he : Ex G n Γ true e d2)
    (hop : ∀ {A : Around} {X : Addr → Prop} {s : Shared} {Q : Value → Shared → Prop} {E : Value → Shared → Prop} {v1 v2 : Value}, Room n A → RepF G X s.heap d1 true v1 → RepF G X s.heap d2 true v2 →
      (∀ v s', Ext s s' → RepF G X s'.heap d true v → Q v s') → wpAny (model prog w) A (inplaceOp op v1 v2) Q E s)
    (hr : Runs G n (Γ.set x .full d) rest R) (hx : Γ.mine x = true := by rfl) (hc : (x == ("__classdict__" : Str)) = false := by decide) : Runs G n Γ (.AugAssign (.Name x px) op e pos :: rest) R :=
  Runs.step (fun {A h₀ X₀ X env s Q E} rm H k => by
    obtain ⟨v, hb, r0, _⟩ := H.vars x .full d1 hv
    have hk : env.scope.kind = .function := by rw [H.scp]; exact H.kind
    refine wpAny_AugAssign_Name ?_
    have fin : ∀ (s1 : Shared), s1 = s → wpAny (model prog w) A (eval e env) (fun v2 s₂ => wpAny (model prog w) A (inplaceOp op v v2) (fun r s₃ => wpAny (model prog w) A (storeName env x r) (fun _ => Q .next) E s₃) E s₂) E s1 := fun s1 z => by
      subst z
      exact he rm H fun v2 s2 e2 r2 => hop rm (r0.keep e2.keep) r2 fun v3 s3 e3 r3 => wpAny_store ((H.keep e2.keep).keep e3.keep) hx (SlotOk.full r3) fun s' H' c _ _ => k s' X (Grow.refl _ X) H' ((Chg.of_ext (e2.trans e3)).trans (Grow.refl _ X) c)
    rcases hb with ⟨hl, m, hn, hm⟩ | ⟨hl | hl, c, hc', hcv⟩
    · exact wpAny_loadName_local hk hl hn hm (fin s rfl)
    · exact wpAny_loadName_cell hk hl hc' hcv (fin s rfl)
    · exact wpAny_loadName_free hk hl hc' hcv (fin s rfl) hc) hr
theorem Runs.augAdd {x : Str} {px pos : Pos} {e : Expr} {rest : List Stmt} {i j : Int} {R : Out → Prop} (hv : Γ.vars.lookup x = some (.full, .int i)) (he : Ex G n Γ true e (.int j))
    (hr : Runs G n (Γ.set x .full (.int (i + j))) rest R) (hx : Γ.mine x = true := by rfl) (hc : (x == ("__classdict__" : Str)) = false := by decide) : Runs G n Γ (.AugAssign (.Name x px) .Add e pos :: rest) R :=
  Runs.augName hv he (fun rm r1 r2 k => by
    obtain ⟨t, rfl⟩ := repI.mp r1; obtain ⟨u, rfl⟩ := repI.mp r2
    exact P.iadd_int (k _ _ Ext.tok (repI.mpr ⟨_, rfl⟩))) hr hx hc
end
end Mine

namespace Mine
section
variable {prog : Program} {w : World} {G : Glo prog w} {n : Nat} {Γ : Cx} {b : Bool}

variable (G) in
/-- d goes to the target -/
noncomputable def Asg (n : Nat) (Γ : Cx) (target : Expr) (d : D) (Γ' : Cx) : Prop :=
  ∀ {A : Around} {h₀ : Heap} {X₀ X : Addr → Prop} {env : Env} {s : Shared} {v : Value} {Q : Unit → Shared → Prop} {E : Value → Shared → Prop}, Room n A → Here G Γ h₀ X₀ X env s.heap → RepF G X s.heap d true v →
    (∀ s', Here G Γ' h₀ X₀ X env s'.heap → Chg h₀ X s s' → Loc env s s' → Q () s') → wpAny (model prog w) A (assign target env v) Q E s
theorem Asg.name {x : Str} {pos : Pos} {d : D} (hx : Γ.mine x = true := by rfl) : Asg G n Γ (.Name x pos) d (Γ.set x .full d) := fun rm H r k =>
  wpAny_assign_Name (wpAny_store H hx (SlotOk.full r) fun s' a b c _ => k s' a b c)

theorem ext_of_extBut {s : Shared} {h' : Heap} {t : Nat} (x : Heap.ExtBut s.heap.objs.size s.heap h') : Ext s { s with heap := h', toks := t } :=
  ⟨fun b o e => x b o (Nat.ne_of_lt (Heap.lt_size e)) e, rfl, rfl⟩

theorem Asg.pair {x y : Str} {px py pos : Pos} {kd : Nat} {d e : D} (hx : Γ.mine x = true := by rfl) (hy : Γ.mine y = true := by rfl) :
    Asg G n Γ (.Tuple [.Name x px, .Name y py] kd pos) (.tup [d, e]) ((Γ.set x .full d).set y .full e) := by
  intro A h₀ X₀ X env s v Q E rm H r k
  obtain ⟨a, vs, rfl, hb, hg, rl⟩ := repT.mp r
  obtain ⟨vs⟩ := vs
  simp only [RepL] at rl
  obtain ⟨v1, r1, z1, q1, v2, r2, z2, q2, z3⟩ := rl
  subst z3 z2
  · have z1 : vs = [v1, v2] := z1
    subst z1
    refine wpAny_assign_Tuple (items := #[v1, v2]) rm.1 ⟨_, hg, rfl, 0, rfl⟩ rfl rfl fun h' hx' => ?_
    have e1 : Ext s { s with heap := h' } := ext_of_extBut hx'
    show wpAny _ _ (assignInOrder [assign (.Name x px) env, assign (.Name y py) env] [v1, v2]) _ _ _
    refine wpAny_assignInOrder_more (wpAny_assign_Name (wpAny_store (H.keep e1.keep) hx (SlotOk.full (q1.keep e1.keep)) fun s2 H2 c2 l2 _ => ?_))
    have r2 : RepF G X s2.heap e true v2 := RepF.move (fun a o hx e => c2.keep a o (.inr hx) e) (fun _ q => .inl q) e _ _ (q2.keep e1.keep) fun q => by cases q
    refine wpAny_assignInOrder_more (wpAny_assign_Name (wpAny_store (Γ := Γ.set x .full d) H2 hy (SlotOk.full r2) fun s3 H3 c3 l3 _ => ?_))
    exact wpAny_assignInOrder_none (k s3 H3 (((Chg.of_ext e1).trans (Grow.refl _ X) c2).trans (Grow.refl _ X) c3) (((Loc.of_ext e1).trans l2).trans l3))

noncomputable def isFields (o : Obj) : Bool := match o.data with
  | .fields _ => true
  | _ => false
/-- all but the objects with fields stays -/
noncomputable abbrev KeepsN (h h' : Heap) : Prop := ∀ a o, isFields o = false → h.get? a = some o → h'.get? a = some o

theorem dictAt.nf {h h' : Heap} {a : Addr} {kvs : List (Str × Int)} (x : dictAt G h a kvs) (hk : KeepsN h h') : dictAt G h' a kvs := by
  obtain ⟨vals, ⟨o, es, ep, ho, hx, hd, r⟩, h2⟩ := x
  exact ⟨vals, ⟨o, es, ep, hk a o (by unfold isFields; rw [hd]) ho, hx, hd, r⟩, h2⟩
mutual
theorem RepF.nf {X : Addr → Prop} {h h' : Heap} (hk : KeepsN h h') : ∀ (d : D) (b : Bool) (v : Value), RepF G X h d b v → RepF G X h' d b v
  | .none, b, v, r => by unfold RepF at *; exact r
  | .bool x, b, v, r => by unfold RepF at *; exact r
  | .int i, b, v, r => by unfold RepF at *; exact r
  | .str x, b, v, r => by unfold RepF at *; exact r
  | .list l, b, v, r => by
    unfold RepF at *
    obtain ⟨a, vs, n, rfl, hb, hl, rl⟩ := r
    exact ⟨a, vs, n, rfl, hb, hk _ _ rfl hl, RepL.nf hk l _ rl⟩
  | .tup l, b, v, r => by
    unfold RepF at *
    obtain ⟨a, vs, rfl, hb, hl, rl⟩ := r
    exact ⟨a, vs, rfl, hb, hk _ _ rfl hl, RepL.nf hk l _ rl⟩
  | .dict kvs, b, v, r => by
    unfold RepF at *
    obtain ⟨a, rfl, hb, hd⟩ := r
    exact ⟨a, rfl, hb, hd.nf hk⟩
  | .comp l, b, v, r => by
    unfold RepF at *
    obtain ⟨a, dx, hs, kt, n, la, vs, ln, rfl, hb, h1, h2, h3, h4, h5, rl⟩ := r
    exact ⟨a, dx, hs, kt, n, la, vs, ln, rfl, hb, h1, h2, hk _ _ rfl h3, hk _ _ rfl h4, hk _ _ rfl h5, RepL.nf hk l _ rl⟩
theorem RepL.nf {X : Addr → Prop} {h h' : Heap} (hk : KeepsN h h') : ∀ (l : List D) (vs : List Value), RepL G X h l vs → RepL G X h' l vs
  | [], vs, r => by unfold RepL at *; exact r
  | d :: ds, vs, r => by
    unfold RepL at *
    obtain ⟨v, r', rfl, r1, r2⟩ := r
    exact ⟨v, r', rfl, RepF.nf hk d true v r1, RepL.nf hk ds r' r2⟩
end
theorem Ns.nf {h h' : Heap} {a : Addr} {m : Str → Option Value} (x : h.Ns a m) (hk : KeepsN h h') : h'.Ns a m := by
  obtain ⟨o, es, ep, ho, hd, r⟩ := x
  exact ⟨o, es, ep, hk a o (by unfold isFields; rw [hd]) ho, hd, r⟩
theorem IsCell.nf {h h' : Heap} {c : Addr} {v : Option Value} (x : h.IsCell c v) (hk : KeepsN h h') : h'.IsCell c v := by
  obtain ⟨o, ho, hd⟩ := x
  exact ⟨o, hk c o (by unfold isFields; rw [hd]) ho, hd⟩
theorem Binds.nf {env : Env} {h h' : Heap} {x : Str} {v : Value} (b : Binds env h x v) (hk : KeepsN h h') : Binds env h' x v := by
  rcases b with ⟨k, m, hn, hm⟩ | ⟨k, c, hc, hv⟩
  · exact .inl ⟨k, m, Ns.nf hn hk, hm⟩
  · exact .inr ⟨k, c, hc, IsCell.nf hv hk⟩
theorem Here.nf {h₀ : Heap} {X₀ X : Addr → Prop} {env : Env} {h h' : Heap} (H : Here G Γ h₀ X₀ X env h) (hk : KeepsN h h') (hb : Keeps h₀ h') (hl : ∀ a, X a → h'.get? a ≠ none) : Here G Γ h₀ X₀ X env h' where
  scp := H.scp
  kind := H.kind
  glb := H.glb
  blt := H.blt
  gl0 := H.gl0
  base := hb
  x0 := H.x0
  live := hl
  locX := H.locX
  locN := H.locN
  loc := let ⟨m, hm⟩ := H.loc; ⟨m, Ns.nf hm hk⟩
  cell := fun x q => let ⟨c, v, h1, h2⟩ := H.cell x q; ⟨c, v, h1, IsCell.nf h2 hk⟩
  cellX := H.cellX
  cellN := H.cellN
  apart := H.apart
  vars := fun x fl d q => let ⟨v, h1, h2, h3⟩ := H.vars x fl d q; ⟨v, h1.nf hk, h2.nf hk, h3⟩
  owns := fun x d q => let ⟨a, h1, h2⟩ := H.owns x d q; ⟨a, h1.nf hk, h2⟩
  ownsApart := fun x y d d' a q1 q2 b1 b2 => by
    obtain ⟨a1, c1, _⟩ := H.owns x d q1
    obtain ⟨a2, c2, _⟩ := H.owns y d' q2
    have e1 := (c1.nf hk).unique b1
    have e2 := (c2.nf hk).unique b2
    rw [e1] at c1; rw [e2] at c2
    exact H.ownsApart x y d d' a q1 q2 c1 c2

/-- what pyNext may do: it turns F alone, objects with fields -/
structure Nxt (F : Addr → Prop) (s s' : Shared) : Prop where
  keep : ∀ a o, (¬ F a ∨ isFields o = false) → s.heap.get? a = some o → s'.heap.get? a = some o
  gens : s'.gens = s.gens
  os : s'.os = s.os
theorem Nxt.trans {F : Addr → Prop} {s s1 s2 : Shared} (x : Nxt F s s1) (y : Nxt F s1 s2) : Nxt F s s2 := ⟨fun a o f e => y.keep a o f (x.keep a o f e), y.gens.trans x.gens, y.os.trans x.os⟩
theorem Nxt.nf {F : Addr → Prop} {s s' : Shared} (x : Nxt F s s') : KeepsN s.heap s'.heap := fun a o f e => x.keep a o (.inr f) e
theorem Nxt.of_ext {F : Addr → Prop} {s s' : Shared} (x : Ext s s') : Nxt F s s' := ⟨fun a o _ e => x.keep a o e, x.gens, x.os⟩
theorem Nxt.refl {F : Addr → Prop} {s : Shared} : Nxt F s s := ⟨fun _ _ _ e => e, rfl, rfl⟩

/-- an iterator: hb is the heap at which its source's items are shown -/
structure Itr (G : Glo prog w) (n : Nat) (X : Addr → Prop) (hb : Heap) (it : Value) (T : Expr → Prop) (ds : List D) (F Dep : Addr → Prop) (St : Nat → Heap → Prop) : Prop where
  fnew : ∀ a, F a → hb.get? a = none
  flive : ∀ {i : Nat} {h : Heap}, St i h → ∀ a, F a → h.get? a ≠ none
  next : ∀ {A : Around} {s : Shared} {i : Nat} {d : D} {X' : Addr → Prop} {Q : Option Value → Shared → Prop} {E : Value → Shared → Prop}, Room n A → G.P s.heap → St i s.heap → ds[i]? = some d →
    (∀ a, X' a → X a ∨ hb.get? a = none) → (∀ a, X' a → s.heap.get? a ≠ none) → (∀ a o, ¬ X a → hb.get? a = some o → s.heap.get? a = some o) →
    (∀ v s', Nxt F s s' → (∀ {target : Expr} {Q' : Unit → Shared → Prop} {E' : Value → Shared → Prop}, T target → (∀ s'', Nxt F s' s'' → RepF G X' s''.heap d true v → St (i + 1) s''.heap → Q' () s'') →
      wpAny (model prog w) A (letOwnedTupleGo target it v) Q' E' s') → Q (some v) s') → wpAny (model prog w) A (pyNext it) Q E s
  stop : ∀ {A : Around} {s : Shared} {Q : Option Value → Shared → Prop} {E : Value → Shared → Prop}, Room n A → G.P s.heap → St ds.length s.heap → (∀ s', Nxt F s s' → Q none s') → wpAny (model prog w) A (pyNext it) Q E s
  stable : ∀ {i : Nat} {h h' : Heap}, (∀ a o, Dep a → h.get? a = some o → h'.get? a = some o) → St i h → St i h'
  again : ∀ {A : Around} {s : Shared} {Q : Value → Shared → Prop} {E : Value → Shared → Prop}, Room n A → St 0 s.heap → Q it s → wpAny (model prog w) A (pyIter it) Q E s

variable (G) in
/-- the source of a loop: c: nothing of it may turn in the frame -/
noncomputable def Src (c : Bool) (n : Nat) (Γ : Cx) (e : Expr) (T : Expr → Prop) (ds : List D) : Prop :=
  ∀ {A : Around} {h₀ : Heap} {X₀ X : Addr → Prop} {env : Env} {s : Shared} {Q : Value → Shared → Prop} {E : Value → Shared → Prop}, Room n A → Here G Γ h₀ X₀ X env s.heap →
    (∀ it s₂ hb F Dep St, Ext s s₂ → Keeps s.heap hb → Keeps hb s₂.heap → Itr G n X hb it T ds F Dep St → St 0 s₂.heap → (∀ a, Dep a → s₂.heap.get? a ≠ none) → (c = true → ∀ a, Dep a → ¬ X a) → Q it s₂) →
    wpAny (model prog w) A (eval e env) (fun x s₁ => wpAny (model prog w) A (pyIter x) Q E s₁) E s

/-- a for, by what holds between its turns -/
theorem Runs.for {target iter : Expr} {body rest : List Stmt} {pos : Pos} {T : Expr → Prop} {ds : List D} {R : Out → Prop} (inv : Nat → Cx → Prop) (src : Src G true n Γ iter T ds) (hT : T target) (h0 : ∃ Γ₀, inv 0 Γ₀ ∧ Sub Γ₀ Γ)
    (step : ∀ i d Γi, ds[i]? = some d → inv i Γi → ∃ Γt, Asg G n Γi target d Γt ∧ Runs G n Γt body (fun o => match o with | .next Γ' => ∃ Γ'', inv (i + 1) Γ'' ∧ Sub Γ'' Γ' | .ret d => R (.ret d)))
    (fin : ∀ Γe, inv ds.length Γe → Runs G n Γe rest R) (hs : ∀ (env : Env) (x : Value), foldedSetIterable iter env x = pure x := by intro _ _; rfl) :
    Runs G n Γ (.For target iter body [] pos :: rest) R := by
  intro A h₀ X₀ X env s Q E rm H k
  refine wpAny_execs_cons (wpAny_For (src rm H fun it s₂ hb F Dep St e2 kb1 kb2 I hst hDep hDX => ?_) (hs env))
  obtain ⟨Γ₀, hi0, hsub0⟩ := h0
  have H2 := H.keep e2.keep
  have hbX : ∀ a, X a → hb.get? a ≠ none := fun a q e => by
    cases q' : s.heap.get? a with
    | none => exact H.live a q q'
    | some o => rw [kb1 a o q'] at e; cases e
  have hF0 : ∀ a, F a → h₀.get? a = none := fun a f => by
    cases q : h₀.get? a with
    | none => rfl
    | some o => have := kb1 a o (H.base a o q); rw [I.fnew a f] at this; cases this
  have hFs : ∀ a, F a → s.heap.get? a = none := fun a f => by
    cases q : s.heap.get? a with
    | none => rfl
    | some o => have := kb1 a o q; rw [I.fnew a f] at this; cases this
  have hXs : ∀ (X' : Addr → Prop), (∀ a, X' a → X a ∨ s₂.heap.get? a = none) → (∀ a, X' a → X a ∨ hb.get? a = none) := fun X' q a z => (q a z).imp id fun z => by
    cases y : hb.get? a with
    | none => rfl
    | some o => rw [kb2 a o y] at z; cases z
  -- the state between the turns
  let J : Nat → Shared → Prop := fun m s' => ∃ i Γi X', m = ds.length + 1 - i ∧ i ≤ ds.length ∧ inv i Γi ∧ Grow s X X' ∧ (∀ a, X' a → X a ∨ s₂.heap.get? a = none) ∧ Here G Γi h₀ X₀ X' env s'.heap ∧ Chg h₀ X s s' ∧ St i s'.heap ∧
    (∀ a o, ¬ X a → ¬ F a → s₂.heap.get? a = some o → s'.heap.get? a = some o) ∧ (∀ a, F a → ¬ X' a)
  refine codeAny_mono (R := fun r s' => match r with | .ok f => (match f with | .next => wpAny (model prog w) A (execs rest env) Q E s' | f => Q f s') | .error e => cameBackBy (model prog w) A env E e s') ?_ (fun r s' h => by
    cases r with
    | ok f => exact h
    | error e => exact h)
  refine codeAny_loop' rfl J (fun m s' hJ => ?_) (ds.length + 1) ⟨0, Γ₀, X, rfl, Nat.zero_le _, hi0, Grow.refl s X, fun a q => .inl q, H2.sub hsub0, Chg.of_ext e2, hst, fun a o _ _ e => e, fun a f q => by
    have := I.fnew a f
    exact hbX a q this⟩
  obtain ⟨i, Γi, X', rfl, hi, hinv, hg, hgx, H', hc, hSt, hkp, hFX⟩ := hJ
  show wpAny _ _ ((forTurn target it body [] env).onRaise (fun x => do noteFrame x env; theTreesLotGoes x)) _ _ s'
  refine wpAny_noted ?_
  simp only [forTurn]
  have hkb : ∀ a o, ¬ X a → hb.get? a = some o → s'.heap.get? a = some o := fun a o q e => hkp a o q (fun f => by rw [I.fnew a f] at e; cases e) (kb2 a o e)
  -- a step of the iterator leaves what the frame has
  have hereNxt : ∀ {s1 s2 : Shared}, Nxt F s1 s2 → Here G Γi h₀ X₀ X' env s1.heap → Here G Γi h₀ X₀ X' env s2.heap := fun {s1 s2} x Y =>
    Y.nf x.nf (fun a o e => x.keep a o (.inl fun f => by rw [hF0 a f] at e; cases e) (Y.base a o e)) fun a q => by
      cases z : s1.heap.get? a with
      | none => exact absurd z (Y.live a q)
      | some o => rw [x.keep a o (.inl fun f => hFX a f q) z]; exact Option.some_ne_none o
  have chgNxt : ∀ {s1 s2 : Shared}, Nxt F s1 s2 → Chg h₀ X s s1 → Chg h₀ X s s2 := fun {s1 s2} x c =>
    ⟨fun a o q e => x.keep a o (.inl fun f => by rw [hFs a f] at e; cases e) (c.keep a o q e), x.gens.trans c.gens, x.os.trans c.os⟩
  refine wpAny_bind (wpAny_standAt (wpAny_bind (wpAny_onRaise ?_)))
  by_cases hend : i = ds.length
  · subst hend
    refine I.stop rm H'.gl hSt fun s1 x1 => wpAny_pure (.inr ⟨rfl, codeAny_block (wpAny_execs_nil ?_)⟩)
    exact fin Γi hinv rm (hereNxt x1 H') fun o fl s'' r q => k o fl s'' r (q.after (chgNxt x1 hc) hg)
  · obtain ⟨d, hd⟩ : ∃ d, ds[i]? = some d := ⟨ds[i]'(by omega), by simp⟩
    refine I.next (X' := X') rm H'.gl hSt hd (hXs X' hgx) H'.live hkb fun v s1 x1 hlet => ?_
    refine wpAny_bind (hlet hT fun s1' x1' rv hSt1 => ?_)
    have x2 := x1.trans x1'
    have H1 := hereNxt x2 H'
    obtain ⟨Γt, hasg, hrun⟩ := step i d Γi hd hinv
    refine wpAny_bind (hasg rm H1 rv fun s2 H2' c2 _ => wpAny_bind (hrun rm H2' fun o fl s3 r q => ?_))
    have c12 : Chg h₀ X s s2 := (chgNxt x2 hc).trans hg c2
    cases o with
    | ret dd =>
      obtain ⟨v', rfl, r', c3⟩ := q
      exact wpAny_pure (k (.ret dd) _ s3 r ⟨v', rfl, r', c12.trans hg c3⟩)
    | next Γ' =>
      obtain ⟨rfl, X'', g3, H3, c3⟩ := q
      obtain ⟨Γ'', hinv', hsub⟩ := r
      have kx : ∀ a o, ¬ X' a → s1'.heap.get? a = some o → s3.heap.get? a = some o := fun a o q e => c3.keep a o (.inr q) (c2.keep a o (.inr q) e)
      have hXn : ∀ a, ¬ X a → s₂.heap.get? a ≠ none → ¬ X' a := fun a q1 q2 q3 => (hgx a q3).elim q1 q2
      have g3' : ∀ a, X'' a → X' a ∨ s1'.heap.get? a = none := fun a q => by
        rcases g3.new a q with q | q
        · exact .inl q
        · by_cases z : X' a
          · exact .inl z
          · cases y : s1'.heap.get? a with
            | none => exact .inr rfl
            | some o => rw [c2.keep a o (.inr z) y] at q; cases q
      have keepS : ∀ a o, ¬ X a → ¬ F a → s₂.heap.get? a = some o → s1'.heap.get? a = some o := fun a o q1 q2 e => x2.keep a o (.inl q2) (hkp a o q1 q2 e)
      refine wpAny_pure (.inl ⟨rfl, ds.length + 1 - (i + 1), by omega, i + 1, Γ'', X'', rfl, by omega, hinv', hg.trans (chgNxt x2 hc) ⟨fun a q => g3.sub a q, g3'⟩, fun a q => ?_, H3.sub hsub, c12.trans hg c3, ?_, ?_, fun a f q => ?_⟩)
      · rcases g3' a q with q | q
        · exact hgx a q
        · by_cases z : X a
          · exact .inl z
          · by_cases f : F a
            · exact absurd q (I.flive hSt1 a f)
            · cases y : s₂.heap.get? a with
              | none => exact .inr rfl
              | some o => rw [keepS a o z f y] at q; cases q
      · refine I.stable (fun a o q e => kx a o (hXn a (hDX rfl a q) (hDep a q)) e) hSt1
      · exact fun a o q1 q2 e => kx a o (hXn a q1 (by rw [e]; exact Option.some_ne_none o)) (keepS a o q1 q2 e)
      · rcases g3' a q with q | q
        · exact hFX a f q
        · exact absurd q (I.flive hSt1 a f)
end
end Mine

namespace Mine
section
variable {prog : Program} {w : World} {G : Glo prog w} {n : Nat} {Γ : Cx} {b : Bool}

noncomputable def TName (t : Expr) : Prop := ∃ x p, t = .Name x p
noncomputable def TTup (t : Expr) : Prop := ∃ es k p, t = .Tuple es k p
theorem let_name {x : Str} {p : Pos} {it v : Value} : letOwnedTupleGo (.Name x p) it v = pure () := rfl

theorem isFields_of {o : Obj} {vs : Array Value} (h : o.data = .fields vs) : isFields o = true := by unfold isFields; rw [h]

theorem nxt_same {it : Addr} {s : Shared} {h' : Heap} {t : Nat} {o₀ : Obj} (hs : Heap.SameBut it s.heap h') (hit : s.heap.get? it = some o₀) (hf : isFields o₀ = true) : Nxt (fun a => a = it) s { s with heap := h', toks := t } :=
  ⟨fun a o q e => by
    have hne : a ≠ it := fun z => by
      subst z
      rw [hit] at e; cases e
      rcases q with q | q
      · exact q rfl
      · rw [hf] at q; cases q
    exact (hs.2 a hne).trans e, rfl, rfl⟩
theorem nxt_ext {it : Addr} {s : Shared} {h' : Heap} {t : Nat} {o₀ : Obj} (hs : Heap.ExtBut it s.heap h') (hit : s.heap.get? it = some o₀) (hf : isFields o₀ = true) : Nxt (fun a => a = it) s { s with heap := h', toks := t } :=
  ⟨fun a o q e => by
    have hne : a ≠ it := fun z => by
      subst z
      rw [hit] at e; cases e
      rcases q with q | q
      · exact q rfl
      · rw [hf] at q; cases q
    exact hs a o hne e, rfl, rfl⟩

/-- an item that is shown at hb is shown behind -/
theorem item_at {X X' : Addr → Prop} {hb h : Heap} {d : D} {v : Value} (r : RepF G X hb d true v) (h1 : ∀ a, X' a → X a ∨ hb.get? a = none) (h2 : ∀ a o, ¬ X a → hb.get? a = some o → h.get? a = some o) : RepF G X' h d true v :=
  RepF.move h2 h1 d _ v r fun q => by cases q

theorem Itr.list {X : Addr → Prop} {hb : Heap} {it a : Addr} {l : List D} {vs : Array Value} (rl : RepL G X hb l vs.toList) (hn : hb.get? it = none) (hne : it ≠ a) :
    Itr G n X hb (.ref it) (fun t => TName t ∨ TTup t) l (fun c => c = it) (fun c => c = it ∨ c = a) (fun i h => h.IsListIter it a i ∧ h.IsList a vs) where
  fnew := fun c q => by rw [q]; exact hn
  flive := fun st c q => by obtain ⟨⟨o, ho, _⟩, _⟩ := st; rw [q, ho]; exact Option.some_ne_none o
  next := fun {A s i d X' Q E} rm hp st hd h1 h2 h3 k => by
    obtain ⟨v, hv, rv⟩ := rl.at hd
    obtain ⟨o, ho, hc, hf⟩ := st.1
    refine wpAny_pyNext_list_item st.1 st.2 (by simpa using hv) fun h' hit' hs' => ?_
    have x1 : Nxt (fun c => c = it) s { s with heap := h' } := nxt_same hs' ho (isFields_of hf)
    refine k v _ x1 fun {target Q' E'} hT k' => ?_
    have fin : Q' () { s with heap := h' } := k' _ Nxt.refl (RepF.nf x1.nf d true v (item_at rv h1 h3)) ⟨hit', st.2.extBut hs'.extBut (Ne.symm hne)⟩
    rcases hT with ⟨x, p, rfl⟩ | ⟨es, kd, p, rfl⟩
    · exact wpAny_of_eq let_name fin
    · cases v with
      | ref T => exact wpAny_letOwnedTupleGo_listiter (s := { s with heap := h' }) hit' fin
      | _ => exact wpAny_of_eq rfl fin
  stop := fun {A s Q E} rm hp st k => by
    obtain ⟨o, ho, hc, hf⟩ := st.1
    refine wpAny_pyNext_list_end rm.1 st.1 st.2 (by have := rl.length; simp at this; simp; omega) fun h' hs' => k _ (nxt_ext hs' ho (isFields_of hf))
  stable := fun {i h h'} hk st => ⟨st.1.at fun o e => hk it o (.inl rfl) e, st.2.at fun o e => hk a o (.inr rfl) e⟩
  again := fun rm st k => wpAny_pyIter_listiter st.1 k

theorem Src.list {c : Bool} {e : Expr} {l : List D} (h : Ex G n Γ c e (.list l)) : Src G c n Γ e (fun t => TName t ∨ TTup t) l := by
  intro A h₀ X₀ X env s Q E rm H k
  refine h rm H fun v s1 e1 r1 => ?_
  obtain ⟨a, vs, m, rfl, hb, hl, rl⟩ := repL.mp r1
  have hne : s1.heap.objs.size ≠ a := fun q => by rw [← q] at hl; exact absurd ((new_none s1.heap).symm.trans hl) (by simp)
  refine wpAny_pyIter_list hl.isList (k _ _ s1.heap _ _ _ (e1.trans ⟨Keeps.push _ _, rfl, rfl⟩) e1.keep (Keeps.push _ _) (Itr.list rl (new_none _) hne) ⟨⟨_, Heap.get?_push_size _ rfl, rfl, rfl⟩, hl.isList.push _⟩ (fun c q => ?_) fun hc c q => ?_)
  · rcases q with q | q
    · rw [q]; rw [Heap.get?_push_size _ rfl]; exact Option.some_ne_none _
    · rw [q]; rw [Heap.get?_push_of_some _ hl]; exact Option.some_ne_none _
  · rcases q with q | q
    · rw [q]; exact notX_new (H.keep e1.keep).live
    · rw [q]; exact hb hc

/-! range -/
noncomputable def upFrom (a : Int) (m : Nat) : List D := (List.range m).map fun (i : Nat) => D.int (a + (i : Int))
theorem upFrom_length (a : Int) (m : Nat) : (upFrom a m).length = m := by simp [upFrom]
theorem upFrom_get {a : Int} {m i : Nat} {d : D} (h : (upFrom a m)[i]? = some d) : i < m ∧ d = .int (a + i) := by
  unfold upFrom at h
  rw [List.getElem?_map] at h
  cases e : (List.range m)[i]? with
  | none => rw [e] at h; cases h
  | some j =>
    rw [e] at h
    obtain ⟨h1, h2⟩ := List.getElem?_eq_some_iff.mp e
    simp at h1 h2
    subst h2
    exact ⟨h1, (Option.some.inj h).symm⟩

theorem Itr.range {X : Addr → Prop} {hb : Heap} {it : Addr} {a : Int} {m : Nat} (hn : hb.get? it = none) :
    Itr G n X hb (.ref it) TName (upFrom a m) (fun c => c = it) (fun c => c = it) (fun i h => IsRangeIter h it (a + i) ((m : Int) - i) 1) where
  fnew := fun c q => by rw [q]; exact hn
  flive := fun {i h} st c q => by rw [q, st]; exact Option.some_ne_none _
  next := fun {A s i d X' Q E} rm hp st hd h1 h2 h3 k => by
    obtain ⟨hi, rfl⟩ := upFrom_get hd
    refine wpAny_pyNext_range_item st (by omega) fun h' hit' hs' => ?_
    have x1 : Nxt (fun c => c = it) s { s with heap := h', toks := s.toks + 1 } := nxt_same hs' st rfl
    refine k _ _ x1 fun {target Q' E'} hT k' => ?_
    obtain ⟨x, p, rfl⟩ := hT
    refine wpAny_of_eq let_name (k' _ Nxt.refl (repI.mpr ⟨_, rfl⟩) ?_)
    have e1 : a + (i : Int) + 1 = a + ((i + 1 : Nat) : Int) := by omega
    have e2 : (m : Int) - i - 1 = (m : Int) - ((i + 1 : Nat) : Int) := by omega
    rw [← e1, ← e2]; exact hit'
  stop := fun {A s Q E} rm hp st k => by
    rw [upFrom_length] at st
    exact wpAny_pyNext_range_end rm.1 st (by omega) fun h' hs' => k _ (nxt_ext hs' st rfl)
  stable := fun {i h h'} hk st => hk it _ rfl st
  again := fun rm st k => wpAny_pyIter_rangeiter st k

/-- a name of the interpreter's own -/
theorem wpAny_builtinName {x : Str} {pos : Pos} {v : Value} {A : Around} {h₀ : Heap} {X₀ X : Addr → Prop} {env : Env} {s : Shared} {Q : Value → Shared → Prop} {E : Value → Shared → Prop} (H : Here G Γ h₀ X₀ X env s.heap)
    (hx : Γ.sc.names.lookup x = some .globalImplicit) (hm : x ∈ ([Str.ofString "range", Str.ofString "sum", Str.ofString "min", Str.ofString "len", Str.ofString "str", Str.ofString "enumerate", Str.ofString "isinstance", Str.ofString "tuple", Str.ofString "zip"] : List Str))
    (hv : bootBuiltins x = some v) (hn : x ≠ "__name__") (h : Q v s) (hd : (x == ("__debug__" : Str)) = false := by decide) : wpAny (model prog w) A (eval (.Name x pos) env) Q E s :=
  Calls.Name_function_global (by rw [H.scp]; exact H.kind) (by unfold Env.kindOf; rw [H.scp]; exact hx)
    (Calls.loadGlobal_builtin (by rw [H.glb]; exact G.g H.gl) (G.free x hm) (by rw [H.blt]; exact G.b H.gl) (G.bi x v hv hn) h) hd

theorem evalArgs_of {M : Model} {A : Around} {E : Value → Shared → Prop} {s : Shared} {f : Value} {env : Env} {pos : Pos} {e : Expr} {es : List Expr} {Q : Args → Shared → Prop} (he : starEach (e :: es) env = (false, eval e env) :: starEach es env)
    (h : wpAny M A (spliced (backTo pos (starEach (e :: es) env))) (fun vs s' => Q ⟨vs, []⟩ s') E s) : wpAny M A (evalArgs f true (backTo pos (starEach (e :: es) env)) []) Q E s := by
  rw [he] at h ⊢
  exact Calls.evalArgs_plain h

theorem Src.range1 {c : Bool} {e : Expr} {px pos : Pos} {m : Int} (h : Ex G n Γ true e (.int m)) (hlo : -(2 ^ 62) ≤ m) (hhi : m < 2 ^ 62) (hx : Γ.sc.names.lookup (Str.ofString "range") = some .globalImplicit := by rfl)
    (he : ∀ env : Env, starEach [e] env = [(false, eval e env)] := by intro _; rfl) : Src G c n Γ (.Call (.Name (Str.ofString "range") px) [e] [] pos) TName (upFrom 0 m.toNat) := by
  intro A h₀ X₀ X env s Q E rm H k
  refine wpAny_Call_NameR (wpAny_builtinName H hx (by decide) (v := .type "range") (by decide +kernel) (by decide) ?_)
  refine PySem.callWith_type (by rw [he]; rfl) (evalArgs_of (he env) (wpAny_items_cons (h rm H fun v s1 e1 r1 => wpAny_items_nil ?_) (he env)))
  obtain ⟨t, rfl⟩ := repI.mp r1
  refine call_range_1 ?_
  refine wpAny_pyIter_range (IsRange.new ..) (small_one (by decide) (by decide) hlo hhi) ?_
  have hsz : Builtin.Range.rangeSize 0 m 1 = (m.toNat : Int) := by rw [rangeSize_one]; split <;> omega
  have hnone : (s1.heap.push { cls := .type "range", data := .fields #[.int 0 s1.toks, .int m t, .int 1 (s1.toks + 1)] }).get? (s1.heap.push { cls := .type "range", data := .fields #[.int 0 s1.toks, .int m t, .int 1 (s1.toks + 1)] }).objs.size = none := new_none _
  refine k _ _ (s1.heap.push { cls := .type "range", data := .fields #[.int 0 s1.toks, .int m t, .int 1 (s1.toks + 1)] }) _ _ _ (e1.trans ⟨fun b o e => Heap.get?_push_of_some _ (Heap.get?_push_of_some _ e), rfl, rfl⟩) (fun b o e => Heap.get?_push_of_some _ (e1.keep b o e)) (Keeps.push _ _)
    (Itr.range (a := 0) (m := m.toNat) hnone) ?_ (fun c q => ?_) fun hc c q => ?_
  · have e1 : (0 : Int) + ((0 : Nat) : Int) = 0 := by simp
    have e2 : ((m.toNat : Int) - ((0 : Nat) : Int)) = Builtin.Range.rangeSize 0 m 1 := by rw [hsz]; simp
    rw [e1, e2]
    exact Heap.get?_push_size _ rfl
  · rw [q]
    show (Heap.push _ _).get? _ ≠ none
    rw [Heap.get?_push_size _ rfl]; exact Option.some_ne_none _
  · rw [q]
    intro z
    have := (H.keep (h' := (s1.heap.push { cls := .type "range", data := .fields #[.int 0 s1.toks, .int m t, .int 1 (s1.toks + 1)] })) fun b o e => Heap.get?_push_of_some _ (e1.keep b o e)).live _ z
    exact this (new_none _)
theorem Src.range2 {c : Bool} {e f : Expr} {px pos : Pos} {a m : Int} (h1 : Ex G n Γ true e (.int a)) (h2 : Ex G n Γ true f (.int m)) (ha : -(2 ^ 62) ≤ a) (ha' : a < 2 ^ 62) (hlo : -(2 ^ 62) ≤ m) (hhi : m < 2 ^ 62) (hx : Γ.sc.names.lookup (Str.ofString "range") = some .globalImplicit := by rfl)
    (he : ∀ env : Env, starEach [e, f] env = [(false, eval e env), (false, eval f env)] := by intro _; rfl) (hf : ∀ env : Env, starEach [f] env = [(false, eval f env)] := by intro _; rfl) : Src G c n Γ (.Call (.Name (Str.ofString "range") px) [e, f] [] pos) TName (upFrom a (m - a).toNat) := by
  intro A h₀ X₀ X env s Q E rm H k
  refine wpAny_Call_NameR (wpAny_builtinName H hx (by decide) (v := .type "range") (by decide +kernel) (by decide) ?_)
  have he' := hf env
  have he'' : starEach [e, f] env = (false, eval e env) :: starEach [f] env := by rw [he env, he']
  refine PySem.callWith_type (by rw [he]; rfl) (evalArgs_of he'' (wpAny_items_cons (h1 rm H fun v s1 e1 r1 => wpAny_items_cons (h2 rm (H.keep e1.keep) fun v2 s2 e2 r2 => wpAny_items_nil ?_) he') he''))
  obtain ⟨t, rfl⟩ := repI.mp r1
  obtain ⟨u, rfl⟩ := repI.mp r2
  refine call_range_2 ?_
  refine wpAny_pyIter_range (IsRange.new ..) (small_one ha ha' hlo hhi) ?_
  have e12 := e1.trans e2
  have hsz : Builtin.Range.rangeSize a m 1 = ((m - a).toNat : Int) := by rw [rangeSize_one]; split <;> omega
  have hnone : (s2.heap.push { cls := .type "range", data := .fields #[.int a t, .int m u, .int 1 s2.toks] }).get? (s2.heap.push { cls := .type "range", data := .fields #[.int a t, .int m u, .int 1 s2.toks] }).objs.size = none := new_none _
  refine k _ _ (s2.heap.push { cls := .type "range", data := .fields #[.int a t, .int m u, .int 1 s2.toks] }) _ _ _ (e12.trans ⟨fun b o e => Heap.get?_push_of_some _ (Heap.get?_push_of_some _ e), rfl, rfl⟩) (fun b o e => Heap.get?_push_of_some _ (e12.keep b o e)) (Keeps.push _ _)
    (Itr.range (a := a) (m := (m - a).toNat) hnone) ?_ (fun c q => ?_) fun hc c q => ?_
  · have e1 : a + ((0 : Nat) : Int) = a := by simp
    have e2 : (((m - a).toNat : Int) - ((0 : Nat) : Int)) = Builtin.Range.rangeSize a m 1 := by rw [hsz]; simp
    rw [e1, e2]
    exact Heap.get?_push_size _ rfl
  · rw [q]
    show (Heap.push _ _).get? _ ≠ none
    rw [Heap.get?_push_size _ rfl]; exact Option.some_ne_none _
  · rw [q]
    intro z
    have := (H.keep (h' := (s2.heap.push { cls := .type "range", data := .fields #[.int a t, .int m u, .int 1 s2.toks] })) fun b o e => Heap.get?_push_of_some _ (e12.keep b o e)).live _ z
    exact this (new_none _)

/-! a dict's items and values -/
theorem dictAt.of {h : Heap} {a : Addr} {kvs : List (Str × Int)} (x : dictAt G h a kvs) : ∃ vals ep, h.DictAt (strKind prog w) a (intPairs vals) ep ∧ vals.map (fun x => (x.1, x.2.1)) = kvs ∧ (a == sysModules) = false ∧ h.DictOf (strKind prog w) a (intPairs vals) := by
  obtain ⟨vals, hd, e, hs⟩ := x
  obtain ⟨ep, hd'⟩ := hd.dictAt
  exact ⟨vals, ep, hd', e, beq_eq_false_iff_ne.mpr hs, hd⟩
theorem vals_get {vals : List (Str × Int × Tok)} {kvs : List (Str × Int)} (e : vals.map (fun x => (x.1, x.2.1)) = kvs) {i : Nat} {k : Str} {j : Int} (h : kvs[i]? = some (k, j)) : ∃ t, (intPairs vals)[i]? = some (k, .int j t) := by
  subst e
  rw [List.getElem?_map] at h
  cases hv : vals[i]? with
  | none => rw [hv] at h; cases h
  | some x =>
    rw [hv] at h
    obtain ⟨k', j', t⟩ := x
    cases h
    exact ⟨t, by unfold intPairs; rw [List.getElem?_map, hv]; rfl⟩
theorem vals_length {vals : List (Str × Int × Tok)} {kvs : List (Str × Int)} (e : vals.map (fun x => (x.1, x.2.1)) = kvs) : (intPairs vals).length = kvs.length := by
  subst e; simp [intPairs]
theorem isStrOf_eq {k : Str} {v : Value} (h : (strKind prog w).is k v = true) : ∃ t, v = .str k t := Value.isStrOf_shape h

theorem Itr.items {X : Addr → Prop} {hb : Heap} {it d : Addr} {vals : List (Str × Int × Tok)} {kvs : List (Str × Int)} {ep : Nat} (e : vals.map (fun x => (x.1, x.2.1)) = kvs) (hn : hb.get? it = none) (hne : it ≠ d) :
    Itr G n X hb (.ref it) TTup (kvs.map fun p => D.tup [.str p.1, .int p.2]) (fun c => c = it) (fun c => c = it ∨ c = d)
      (fun i h => (∃ ok ov, IsItemIter h it d i (intPairs vals).length ep ok ov) ∧ h.DictAt (strKind prog w) d (intPairs vals) ep) where
  fnew := fun c q => by rw [q]; exact hn
  flive := fun {i h} st c q => by obtain ⟨⟨ok, ov, ho⟩, _⟩ := st; rw [q, ho]; exact Option.some_ne_none _
  next := fun {A s i dd X' Q E} rm hp st hd h1 h2 h3 k => by
    obtain ⟨⟨ok, ov, hit⟩, hm⟩ := st
    rw [List.getElem?_map] at hd
    cases hk : kvs[i]? with
    | none => rw [hk] at hd; cases hd
    | some p =>
      rw [hk] at hd
      obtain ⟨kk, j⟩ := p
      cases hd
      obtain ⟨t, hx⟩ := vals_get e hk
      refine wpAny_pyNext_items_item hit hm hx fun key h' hkey hout htup hsz hkeep => ?_
      obtain ⟨u, rfl⟩ := isStrOf_eq hkey
      have hnew : s.heap.get? s.heap.objs.size = none := new_none _
      have x1 : Nxt (fun c => c = it) s { s with heap := h' } := ⟨fun a o q e => hkeep a o (fun z => by
        subst z
        rw [hit] at e; cases e
        rcases q with q | q
        · exact q rfl
        · cases q) e, rfl, rfl⟩
      refine k _ _ x1 fun {target Q' E'} hT k' => ?_
      obtain ⟨es, kd, p, rfl⟩ := hT
      refine wpAny_letOwnedTupleGo_items (s := { s with heap := h' }) hout fun h'' hit'' hs'' => ?_
      have hitn : it ≠ s.heap.objs.size := fun z => by have h9 := Heap.lt_size hit; rw [z] at h9; exact Nat.lt_irrefl _ h9
      have x2 : Nxt (fun c => c = it) { s with heap := h' } { s with heap := h'' } := nxt_same hs'' hout rfl
      refine k' _ x2 (repT.mpr ⟨_, _, rfl, fun _ => ?_, (hs''.2 _ (Ne.symm hitn)).trans htup, ?_⟩) ⟨⟨_, _, hit''⟩, ?_⟩
      · exact fun z => h2 _ z hnew
      · exact RepL.cons (repS.mpr ⟨u, rfl⟩) (RepL.cons (repI.mpr ⟨t, rfl⟩) RepL.nil)
      · refine (hm.at' fun o e => ?_)
        rw [hs''.2 d (Ne.symm hne)]
        exact hkeep d o (Ne.symm hne) e
  stop := fun {A s Q E} rm hp st k => by
    obtain ⟨⟨ok, ov, hit⟩, hm⟩ := st
    rw [List.length_map] at hit
    exact wpAny_pyNext_items_end rm.1 hit hm (by have := vals_length e; simp; omega) fun h' hs' => k _ (nxt_ext hs' hit rfl)
  stable := fun {i h h'} hk st => ⟨let ⟨ok, ov, q⟩ := st.1; ⟨ok, ov, hk it _ (.inl rfl) q⟩, st.2.at' fun o e => hk d o (.inr rfl) e⟩
  again := fun rm st k => let ⟨⟨ok, ov, hit⟩, _⟩ := st; kcp_self hit k

theorem Src.items {c : Bool} {o : Expr} {apos pos : Pos} {kvs : List (Str × Int)} (h : Ex G n Γ c o (.dict kvs)) (hbase : ∀ env : Env, attributeBase o (Str.ofString "items") env (eval o env) = eval o env := by intro _; rfl) (hline : (apos.endLine == pos.line) = true := by rfl) :
    Src G c n Γ (.Call (.Attribute o (Str.ofString "items") apos) [] [] pos) TTup (kvs.map fun p => D.tup [.str p.1, .int p.2]) := by
  intro A h₀ X₀ X env s Q E rm H k
  refine wpAny_Call_method (T := "dict") (id := "dict.items") (hbase env) rfl hline F.plainAttrs_dict F.slot_dict_items F.type_dict_items (h rm H fun v s1 e1 r1 => ?_)
  obtain ⟨a, rfl, hb, hd⟩ := repD.mp r1
  obtain ⟨vals, ep, hat, hv, hsys, hof⟩ := hd.of
  refine ⟨hof.typeIs, hof.mapOf.noDict, ?_⟩
  show wpAny _ _ (callWith pos (.builtin "dict.items") [.ref a] [] []) _ _ s1
  refine method_meetsIn F.slot_dict_items F.entry_dict_items rfl (PySem.evalArgs_none ⟨rfl, hof.typeIs, F.args_dict_items_1 _, _, meets_dict_items (strKind prog w) a hsys, ⟨_, hof⟩, ?_⟩)
  have hva : (s1.heap.push { cls := .type "dict_items", data := .fields #[.ref a] }).IsItemsView s1.heap.objs.size a := ⟨_, Heap.get?_push_size _ rfl, rfl, rfl⟩
  have hat' : (s1.heap.push { cls := .type "dict_items", data := .fields #[.ref a] }).DictAt (strKind prog w) a (intPairs vals) ep := hat.push _
  have k1 : Keeps s1.heap (s1.heap.push { cls := .type "dict_items", data := .fields #[.ref a] }) := Keeps.push _ _
  obtain ⟨oa, hoa⟩ := (hd.at fun o e => k1 a o e).get
  refine wpAny_pyIter_items (s := { s1 with heap := s1.heap.push { cls := .type "dict_items", data := .fields #[.ref a] } }) hva hat' ?_
  have hnone := new_none (s1.heap.push { cls := .type "dict_items", data := .fields #[.ref a] })
  have hne : (s1.heap.push { cls := .type "dict_items", data := .fields #[.ref a] }).objs.size ≠ a := fun z => by rw [z] at hnone; rw [hnone] at hoa; cases hoa
  have kk : Keeps s.heap (s1.heap.push { cls := .type "dict_items", data := .fields #[.ref a] }) := fun b o e => k1 b o (e1.keep b o e)
  refine k _ _ _ _ _ _ (e1.trans ⟨fun b o e => Heap.get?_push_of_some _ (Heap.get?_push_of_some _ e), rfl, rfl⟩) kk (Keeps.push _ _) (Itr.items (ep := ep) hv hnone hne) ⟨⟨_, _, Heap.get?_push_size _ rfl⟩, hat'.push _⟩ (fun c q => ?_) fun hc c q => ?_
  · rcases q with q | q
    · rw [q]
      show (Heap.push _ _).get? _ ≠ none
      rw [Heap.get?_push_size _ rfl]; exact Option.some_ne_none _
    · rw [q]
      show (Heap.push _ _).get? _ ≠ none
      rw [Heap.get?_push_of_some _ hoa]; exact Option.some_ne_none _
  · rcases q with q | q
    · rw [q]; exact fun z => (H.keep kk).live _ z hnone
    · rw [q]; exact hb hc

theorem Itr.values {X : Addr → Prop} {hb : Heap} {it d : Addr} {vals : List (Str × Int × Tok)} {kvs : List (Str × Int)} {ep : Nat} (e : vals.map (fun x => (x.1, x.2.1)) = kvs) (hn : hb.get? it = none) (hne : it ≠ d) :
    Itr G n X hb (.ref it) TName (kvs.map fun p => D.int p.2) (fun c => c = it) (fun c => c = it ∨ c = d)
      (fun i h => h.IsValIter it d i (intPairs vals).length ep ∧ h.DictAt (strKind prog w) d (intPairs vals) ep) where
  fnew := fun c q => by rw [q]; exact hn
  flive := fun {i h} st c q => by obtain ⟨⟨o, ho, _⟩, _⟩ := st; rw [q, ho]; exact Option.some_ne_none _
  next := fun {A s i dd X' Q E} rm hp st hd h1 h2 h3 k => by
    rw [List.getElem?_map] at hd
    cases hk : kvs[i]? with
    | none => rw [hk] at hd; cases hd
    | some p =>
      rw [hk] at hd
      obtain ⟨kk, j⟩ := p
      cases hd
      obtain ⟨t, hx⟩ := vals_get e hk
      obtain ⟨o, ho, hc, hf⟩ := st.1
      refine wpAny_pyNext_values_item st.1 st.2 hx fun h' hit' hs' => ?_
      have x1 : Nxt (fun c => c = it) s { s with heap := h' } := nxt_same hs' ho (isFields_of hf)
      refine k _ _ x1 fun {target Q' E'} hT k' => ?_
      obtain ⟨x, p, rfl⟩ := hT
      exact wpAny_of_eq let_name (k' _ Nxt.refl (repI.mpr ⟨_, rfl⟩) ⟨hit', st.2.extBut hs'.extBut (Ne.symm hne)⟩)
  stop := fun {A s Q E} rm hp st k => by
    obtain ⟨o, ho, hc, hf⟩ := st.1
    obtain ⟨hit, hm⟩ := st
    rw [List.length_map] at hit
    exact wpAny_pyNext_values_end rm.1 hit hm (by have := vals_length e; simp; omega) fun h' hs' => k _ (nxt_ext hs' ho (isFields_of hf))
  stable := fun {i h h'} hk st => ⟨st.1.at fun o e => hk it o (.inl rfl) e, st.2.at' fun o e => hk d o (.inr rfl) e⟩
  again := fun rm st k => wpAny_pyIter_valiter st.1 k

theorem Src.values {c : Bool} {o : Expr} {apos pos : Pos} {kvs : List (Str × Int)} (h : Ex G n Γ c o (.dict kvs)) (hbase : ∀ env : Env, attributeBase o (Str.ofString "values") env (eval o env) = eval o env := by intro _; rfl) (hline : (apos.endLine == pos.line) = true := by rfl) :
    Src G c n Γ (.Call (.Attribute o (Str.ofString "values") apos) [] [] pos) TName (kvs.map fun p => D.int p.2) := by
  intro A h₀ X₀ X env s Q E rm H k
  refine wpAny_Call_method (T := "dict") (id := "dict.values") (hbase env) rfl hline F.plainAttrs_dict F.slot_dict_values F.type_dict_values (h rm H fun v s1 e1 r1 => ?_)
  obtain ⟨a, rfl, hb, hd⟩ := repD.mp r1
  obtain ⟨vals, ep, hat, hv, hsys, hof⟩ := hd.of
  refine ⟨hof.typeIs, hof.mapOf.noDict, ?_⟩
  show wpAny _ _ (callWith pos (.builtin "dict.values") [.ref a] [] []) _ _ s1
  refine method_meetsIn F.slot_dict_values F.entry_dict_values rfl (PySem.evalArgs_none ⟨rfl, hof.typeIs, F.args_dict_values_1 _, _, meets_dict_values (strKind prog w) a hsys, ⟨_, hof⟩, ?_⟩)
  have hva : (s1.heap.push { cls := .type "dict_values", data := .fields #[.ref a] }).IsValuesView s1.heap.objs.size a := ⟨_, Heap.get?_push_size _ rfl, rfl, rfl⟩
  have hat' : (s1.heap.push { cls := .type "dict_values", data := .fields #[.ref a] }).DictAt (strKind prog w) a (intPairs vals) ep := hat.push _
  have k1 : Keeps s1.heap (s1.heap.push { cls := .type "dict_values", data := .fields #[.ref a] }) := Keeps.push _ _
  obtain ⟨oa, hoa⟩ := (hd.at fun o e => k1 a o e).get
  refine wpAny_pyIter_values (s := { s1 with heap := s1.heap.push { cls := .type "dict_values", data := .fields #[.ref a] } }) hva hat' ?_
  have hnone := new_none (s1.heap.push { cls := .type "dict_values", data := .fields #[.ref a] })
  have hne : (s1.heap.push { cls := .type "dict_values", data := .fields #[.ref a] }).objs.size ≠ a := fun z => by rw [z] at hnone; rw [hnone] at hoa; cases hoa
  have kk : Keeps s.heap (s1.heap.push { cls := .type "dict_values", data := .fields #[.ref a] }) := fun b o e => k1 b o (e1.keep b o e)
  refine k _ _ _ _ _ _ (e1.trans ⟨fun b o e => Heap.get?_push_of_some _ (Heap.get?_push_of_some _ e), rfl, rfl⟩) kk (Keeps.push _ _) (Itr.values (ep := ep) hv hnone hne) ⟨⟨_, Heap.get?_push_size _ rfl, rfl, rfl⟩, hat'.push _⟩ (fun c q => ?_) fun hc c q => ?_
  · rcases q with q | q
    · rw [q]
      show (Heap.push _ _).get? _ ≠ none
      rw [Heap.get?_push_size _ rfl]; exact Option.some_ne_none _
    · rw [q]
      show (Heap.push _ _).get? _ ≠ none
      rw [Heap.get?_push_of_some _ hoa]; exact Option.some_ne_none _
  · rcases q with q | q
    · rw [q]; exact fun z => (H.keep kk).live _ z hnone
    · rw [q]; exact hb hc

/-! enumerate -/
noncomputable def enumD (l : List D) : List D := l.zipIdx.map fun p => D.tup [.int (p.2 : Int), p.1]
theorem enumD_length (l : List D) : (enumD l).length = l.length := by simp [enumD]
theorem enumD_get {l : List D} {i : Nat} {d : D} (h : (enumD l)[i]? = some d) : ∃ x, l[i]? = some x ∧ d = .tup [.int i, x] := by
  unfold enumD at h
  rw [List.getElem?_map, List.getElem?_zipIdx] at h
  cases e : l[i]? with
  | none => rw [e] at h; cases h
  | some x => rw [e] at h; simp at h; exact ⟨x, rfl, h.symm⟩

theorem Itr.enum {X : Addr → Prop} {hb : Heap} {e it a : Addr} {l : List D} {vs : Array Value} (rl : RepL G X hb l vs.toList) (hn : hb.get? it = none) (hn' : hb.get? e = none) (hei : e ≠ it) (hia : it ≠ a) (hea : e ≠ a) :
    Itr G n X hb (.ref e) TTup (enumD l) (fun c => c = it ∨ c = e) (fun c => (c = it ∨ c = e) ∨ c = a)
      (fun i h => (∃ old, IsEnum h e it i old) ∧ h.IsListIter it a i ∧ h.IsList a vs) where
  fnew := fun c q => by rcases q with q | q <;> (rw [q]; assumption)
  flive := fun {i h} st c q => by
    obtain ⟨⟨old, he⟩, ⟨o, ho, _⟩, _⟩ := st
    rcases q with q | q
    · rw [q, ho]; exact Option.some_ne_none _
    · rw [q, he]; exact Option.some_ne_none _
  next := fun {A s i dd X' Q E} rm hp st hd h1 h2 h3 k => by
    obtain ⟨⟨old, he⟩, hit, hl⟩ := st
    obtain ⟨x, hx, rfl⟩ := enumD_get hd
    obtain ⟨v, hv, rv⟩ := rl.at hx
    obtain ⟨oi, hoi, _, hfi⟩ := id hit
    refine wpAny_pyNext_enum_item he hit hl (by simpa using hv) hei fun h' hout hit' htup hsz hkeep => ?_
    have hnew : s.heap.get? s.heap.objs.size = none := new_none _
    have x1 : Nxt (fun c => c = it ∨ c = e) s { s with heap := h', toks := s.toks + 1 } := ⟨fun c o q z => hkeep c o (fun y => by
        subst y
        rw [he] at z; cases z
        rcases q with q | q
        · exact q (.inr rfl)
        · cases q) (fun y => by
        subst y
        rw [hoi] at z; cases z
        rcases q with q | q
        · exact q (.inl rfl)
        · rw [isFields_of hfi] at q; cases q) z, rfl, rfl⟩
    refine k _ _ x1 fun {target Q' E'} hT k' => ?_
    obtain ⟨es, kd, p, rfl⟩ := hT
    refine wpAny_letOwnedTupleGo_enum (s := { s with heap := h', toks := s.toks + 1 }) hout fun h'' he'' hs'' => ?_
    have hen : e ≠ s.heap.objs.size := fun z => by have h9 := Heap.lt_size he; rw [z] at h9; exact Nat.lt_irrefl _ h9
    have x2 : Nxt (fun c => c = it ∨ c = e) { s with heap := h', toks := s.toks + 1 } { s with heap := h'', toks := s.toks + 1 } := ⟨fun c o q z => by
      have hne : c ≠ e := fun y => by
        subst y
        have z' : h'.get? c = some o := z
        rw [hout] at z'; cases z'
        rcases q with q | q
        · exact q (.inr rfl)
        · cases q
      exact (hs''.2 c hne).trans z, rfl, rfl⟩
    refine k' _ x2 (repT.mpr ⟨_, _, rfl, fun _ => ?_, (hs''.2 _ (Ne.symm hen)).trans htup, ?_⟩) ⟨⟨_, he''⟩, hit'.extBut hs''.extBut (Ne.symm hei), ?_⟩
    · exact fun z => h2 _ z hnew
    · exact RepL.cons (repI.mpr ⟨_, rfl⟩) (RepL.cons (RepF.nf x2.nf _ _ _ (RepF.nf x1.nf _ _ _ (item_at rv h1 h3))) RepL.nil)
    · refine hl.at fun o z => ?_
      rw [hs''.2 a (Ne.symm hea)]
      exact hkeep a o (Ne.symm hea) (Ne.symm hia) z
  stop := fun {A s Q E} rm hp st k => by
    obtain ⟨⟨old, he⟩, hit, hl⟩ := st
    rw [enumD_length] at he hit
    refine wpAny_pyNext_enum_end rm.1 he hit hl (by have := rl.length; simp at this; simp; omega) fun h' hs' => k _ ⟨fun c o q z => ?_, rfl, rfl⟩
    obtain ⟨oi, hoi, _, hfi⟩ := id hit
    exact hs' c o (fun y => by
        subst y
        rw [hoi] at z; cases z
        rcases q with q | q
        · exact q (.inl rfl)
        · rw [isFields_of hfi] at q; cases q) z
  stable := fun {i h h'} hk st => ⟨let ⟨old, q⟩ := st.1; ⟨old, hk e _ (.inl (.inr rfl)) q⟩, st.2.1.at fun o z => hk it o (.inl (.inl rfl)) z, st.2.2.at fun o z => hk a o (.inr rfl) z⟩
  again := fun rm st k => let ⟨⟨old, he⟩, _⟩ := st; wpAny_pyIter_enum he k

theorem Src.enum {c : Bool} {e : Expr} {px pos : Pos} {l : List D} (h : Ex G n Γ c e (.list l)) (hx : Γ.sc.names.lookup (Str.ofString "enumerate") = some .globalImplicit := by rfl)
    (he : ∀ env : Env, starEach [e] env = [(false, eval e env)] := by intro _; rfl) : Src G c n Γ (.Call (.Name (Str.ofString "enumerate") px) [e] [] pos) TTup (enumD l) := by
  intro A h₀ X₀ X env s Q E rm H k
  refine wpAny_Call_NameR (wpAny_builtinName H hx (by decide) (v := .type "enumerate") (by decide +kernel) (by decide) ?_)
  refine PySem.callWith_type (by rw [he]; rfl) (evalArgs_of (he env) (wpAny_items_cons (h rm H fun v s1 e1 r1 => wpAny_items_nil ?_) (he env)))
  obtain ⟨a, vs, m, rfl, hb, hl, rl⟩ := repL.mp r1
  refine call_enumerate_list hl.isList fun h' hen hit hsz hkeep => ?_
  refine wpAny_pyIter_enum (s := { s1 with heap := h' }) hen ?_
  have hn1 : s1.heap.get? s1.heap.objs.size = none := new_none _
  have hn2 : s1.heap.get? (s1.heap.objs.size + 1) = none := by
    cases q : s1.heap.get? (s1.heap.objs.size + 1) with
    | none => rfl
    | some o => exact absurd (Heap.lt_size q) (Nat.not_lt.mpr (Nat.le_succ _))
  have hia : s1.heap.objs.size ≠ a := fun z => by rw [z] at hn1; exact absurd (hn1.symm.trans hl) (by simp)
  have hea : s1.heap.objs.size + 1 ≠ a := fun z => by rw [z] at hn2; exact absurd (hn2.symm.trans hl) (by simp)
  refine k _ _ s1.heap _ _ _ (e1.trans ⟨hkeep, rfl, rfl⟩) e1.keep hkeep (Itr.enum rl hn1 hn2 (Nat.succ_ne_self _) hia hea) ⟨⟨_, hen⟩, hit, hl.isList.at fun o z => hkeep a o z⟩ (fun c q => ?_) fun hc c q => ?_
  · obtain ⟨o, ho, _⟩ := hit
    rcases q with (q | q) | q
    · rw [q]; show h'.get? _ ≠ none; rw [ho]; exact Option.some_ne_none _
    · rw [q]; show h'.get? _ ≠ none; rw [hen]; exact Option.some_ne_none _
    · rw [q]; show h'.get? _ ≠ none; rw [hkeep a _ hl]; exact Option.some_ne_none _
  · have live := (H.keep e1.keep).live
    rcases q with (q | q) | q
    · rw [q]; exact fun z => live _ z hn1
    · rw [q]; exact fun z => live _ z hn2
    · rw [q]; exact hb hc
end
end Mine

namespace Mine

noncomputable def putKV (kvs : List (Str × Int)) (k : Str) (i : Int) : List (Str × Int) :=
  if kvs.any (fun p => p.1 = k) then kvs.map (fun p => if p.1 = k then (p.1, i) else p) else kvs ++ [(k, i)]
noncomputable def putV (vals : List (Str × Int × Tok)) (k : Str) (i : Int) (t : Tok) : List (Str × Int × Tok) :=
  if vals.any (fun p => p.1 = k) then vals.map (fun p => if p.1 = k then (p.1, i, t) else p) else vals ++ [(k, i, t)]
theorem stored_putV (vals : List (Str × Int × Tok)) (k : Str) (i : Int) (t : Tok) : stored (intPairs vals) k (.int i t) = intPairs (putV vals k i t) := by
  unfold stored putV intPairs
  have h : ((vals.map fun x => (x.1, Value.int x.2.1 x.2.2)).any fun kv => decide (kv.1 = k)) = vals.any fun p => decide (p.1 = k) := by
    rw [List.any_map]; rfl
  rw [h]
  split
  · rw [List.map_map, List.map_map]
    apply List.map_congr_left
    intro x _
    simp only [Function.comp]
    by_cases q : x.1 = k
    · rw [if_pos q, if_pos q]
    · rw [if_neg q, if_neg q]
  · rw [List.map_append]; rfl
theorem putV_putKV (vals : List (Str × Int × Tok)) (k : Str) (i : Int) (t : Tok) : (putV vals k i t).map (fun x => (x.1, x.2.1)) = putKV (vals.map fun x => (x.1, x.2.1)) k i := by
  unfold putV putKV
  have h : ((vals.map fun x => (x.1, x.2.1)).any fun kv => decide (kv.1 = k)) = vals.any fun p => decide (p.1 = k) := by
    rw [List.any_map]; rfl
  rw [h]
  split
  · rw [List.map_map, List.map_map]
    apply List.map_congr_left
    intro x _
    simp only [Function.comp]
    by_cases q : x.1 = k
    · rw [if_pos q, if_pos q]
    · rw [if_neg q, if_neg q]
  · rw [List.map_append]; rfl
theorem putKV_length_le (kvs : List (Str × Int)) (k : Str) (i : Int) : (putKV kvs k i).length ≤ kvs.length + 1 := by
  unfold putKV; split <;> simp
noncomputable def putD (kvs : List (Str × Int)) : D → List (Str × Int)
  | .tup [.str k, .int i] => putKV kvs k i
  | _ => kvs
theorem putD_length_le (kvs : List (Str × Int)) (d : D) : (putD kvs d).length ≤ kvs.length + 1 := by
  unfold putD; split
  · exact putKV_length_le _ _ _
  · omega
theorem putDs_length_le : ∀ (l : List D) (kvs : List (Str × Int)), (l.foldl putD kvs).length ≤ kvs.length + l.length
  | [], kvs => by simp
  | d :: l, kvs => by
    have h1 := putDs_length_le l (putD kvs d)
    have h2 := putD_length_le kvs d
    simp only [List.foldl_cons, List.length_cons]; omega

/-- what a comprehension makes -/
inductive AK where
  | lst (elt : Expr)
  | dct (k v : Expr)
noncomputable def AK.expr (ak : AK) (gens : List Comprehension) (scope : Scope) (pos : Pos) : Expr := match ak with
  | .lst e => .ListComp e gens scope pos
  | .dct k v => .DictComp k v gens scope pos

section
variable {prog : Program} {w : World} {G : Glo prog w} {n : Nat} {Γ : Cx} {b : Bool}

theorem dictAt_set {A : Around} {s : Shared} {Q : Unit → Shared → Prop} {E : Value → Shared → Prop} {d : Addr} {kvs : List (Str × Int)} {k : Str} {i : Int} {t u : Tok} (hd : dictAt G s.heap d kvs)
    (hQ : ∀ h', dictAt G h' d (putKV kvs k i) → Heap.SameBut d s.heap h' → Q () { s with heap := h', toks := s.toks + 1 }) (hsz : kvs.length ≤ sizeLine) : wpAny (model prog w) A (dictSet d (.str k t) (.int i u)) Q E s := by
  obtain ⟨vals, hof, e, hs⟩ := hd
  refine wpAny_dictSet_pairs (knd := strKind prog w) (k := k) (strKind_is prog w k t) hof (fun h' hof' hs' => hQ h' ⟨putV vals k i u, by rw [← stored_putV]; exact hof', by rw [putV_putKV, e], hs⟩ hs') ?_
  subst e
  simpa [intPairs] using hsz

variable (G) in
noncomputable def Emit (n : Nat) (Γ : Cx) : AK → D → Prop
  | .lst e, o => Ex G n Γ true e o
  | .dct k v, o => ∃ ks i, o = .tup [.str ks, .int i] ∧ Ex G n Γ true k (.str ks) ∧ Ex G n Γ true v (.int i)
variable (G) in
noncomputable def Tests (n : Nat) (Γ : Cx) : List Expr → Bool → Prop
  | [], c => c = true
  | [t], c => Tst G n Γ t c
  | _, _ => False
noncomputable def NoOwn (Γ : Cx) : Prop := ∀ y d, Γ.vars.lookup y ≠ some (.own, d)
variable (G) in
/-- what the clauses from here on hand out, in turn -/
noncomputable def EmG (n : Nat) (ak : AK) : List Comprehension → Cx → List D → Prop
  | [], Γ, outs => ∃ o, Emit G n Γ ak o ∧ outs = [o]
  | g :: gs, Γ, outs => g.is_async = 0 ∧ NoOwn Γ ∧ (∀ (env : Env) (x : Value), foldedSetIterable g.iter env x = pure x) ∧ ∃ (ds : List D) (T : Expr → Prop) (f : D → List D), Src G true n Γ g.iter T ds ∧ T g.target ∧ outs = ds.flatMap f ∧
      ∀ d ∈ ds, ∃ Γ', Asg G n Γ g.target d Γ' ∧ Sub Γ Γ' ∧ ((Tests G n Γ' g.ifs false ∧ f d = []) ∨ (Tests G n Γ' g.ifs true ∧ EmG n ak gs Γ' (f d)))
variable (G) in
noncomputable def AccAt (ak : AK) (X : Addr → Prop) (h : Heap) (a : Addr) (outs : List D) : Prop := match ak with
  | .lst _ => ∃ vs m, IsL h a vs m ∧ RepL G X h outs vs.toList
  | .dct _ _ => dictAt G h a (outs.foldl putD [])

theorem AccAt.move {ak : AK} {X : Addr → Prop} {h h' : Heap} {a : Addr} {outs : List D} (x : AccAt G ak X h a outs) (ha : ∀ o, h.get? a = some o → h'.get? a = some o) (hk : ∀ c o, ¬ X c → h.get? c = some o → h'.get? c = some o) : AccAt G ak X h' a outs := by
  cases ak with
  | lst e => obtain ⟨vs, m, h1, h2⟩ := x; exact ⟨vs, m, ha _ h1, RepL.move hk (fun _ q => .inl q) _ _ h2⟩
  | dct k v => exact dictAt.at (G := G) x ha
theorem AccAt.nf {ak : AK} {X : Addr → Prop} {h h' : Heap} {a : Addr} {outs : List D} (x : AccAt G ak X h a outs) (hk : KeepsN h h') : AccAt G ak X h' a outs := by
  cases ak with
  | lst e => obtain ⟨vs, m, h1, h2⟩ := x; exact ⟨vs, m, hk _ _ rfl h1, RepL.nf hk _ _ h2⟩
  | dct k v => exact dictAt.nf (G := G) x hk
theorem AccAt.keep {ak : AK} {X : Addr → Prop} {h h' : Heap} {a : Addr} {outs : List D} (x : AccAt G ak X h a outs) (hk : Keeps h h') : AccAt G ak X h' a outs := x.nf fun a o _ e => hk a o e

theorem wpAny_tests {ifs : List Expr} {c : Bool} {A : Around} {h₀ : Heap} {X₀ X : Addr → Prop} {env : Env} {s : Shared} {Q : Bool → Shared → Prop} {E : Value → Shared → Prop} (rm : Room n A) (H : Here G Γ h₀ X₀ X env s.heap) (t : Tests G n Γ ifs c)
    (k : ∀ s', Ext s s' → Q c s') : wpAny (model prog w) A (forIn ifs true fun c r => if r = true then do let ok ← isTrue c env (eval c env); pure (ForInStep.yield ok) else pure (ForInStep.yield r)) Q E s := by
  match ifs, t with
  | [], t => have : c = true := t; subst this; exact wpAny_tests_nil (k s (Ext.refl s))
  | [x], t => exact wpAny_tests_one (Tst.elim t rm H k)
where Tst.elim {x : Expr} {c : Bool} {A : Around} {h₀ : Heap} {X₀ X : Addr → Prop} {env : Env} {s : Shared} {Q : Bool → Shared → Prop} {E : Value → Shared → Prop} (t : Tst G n Γ x c) (rm : Room n A) (H : Here G Γ h₀ X₀ X env s.heap)
    (k : ∀ s', Ext s s' → Q c s') : wpAny (model prog w) A (isTrue x env (eval x env)) Q E s := t rm H k

/-- what stands behind the tests of a turn -/
noncomputable def emitOf (ak : AK) (acc : Value) (env : Env) : Sem Unit := match ak with
  | .lst elt => do let _ ← call (.builtin "list.append") [acc, ← eval elt env]
  | .dct k v => do
        let kv ← eval k env
        let vv ← holding [kv] (eval v env)
        match acc with
        | .ref d => do
          standAt { k.pos with endLine := v.pos.endLine, endCol := v.pos.endCol }
          holding [kv, vv] (dictSet d kv vv)
        | _ => unsupported "internal:dictcomp"

theorem compTurn_eq (ak : AK) (gens : List Comprehension) (scope : Scope) (pos : Pos) (depth : Nat) (it acc : Value) (env : Env) (target iter : Expr) (ifs : List Expr) (hg : gens[depth]? = some ⟨target, iter, ifs, 0⟩) :
    compTurn (ak.expr gens scope pos) depth it acc env = (do
      standAt iter.pos
      match ← pyNext it with
      | none => pure (.done .next)
      | some v =>
        letOwnedTupleGo target it v
        assign target env v
        let ok ← forIn ifs true fun c r => if r = true then do let ok ← isTrue c env (eval c env); pure (ForInStep.yield ok) else pure (ForInStep.yield r)
        if ok then
          match gens[depth + 1]? with
          | some g' =>
            let x ← eval g'.iter env
            standAt g'.iter.pos
            let x ← if g'.is_async != 0 then foldedIterable g'.iter x else foldedSetIterable g'.iter env x
            let _ ← runOwn (.compStart (ak.expr gens scope pos) (depth + 1) (← holding [x] (if g'.is_async != 0 then asyncIter x else pyIter x)) acc env) env
            again (.compLoop (ak.expr gens scope pos) depth it acc env)
          | none => do
            emitOf ak acc env
            again (.compLoop (ak.expr gens scope pos) depth it acc env)
        else again (.compLoop (ak.expr gens scope pos) depth it acc env)) := by
  cases ak with
  | lst elt =>
    unfold compTurn AK.expr
    simp only [hg]
    rfl
  | dct k v =>
    unfold compTurn AK.expr
    simp only [hg]
    rfl

theorem codeAny_compStart_any {ak : AK} {gens : List Comprehension} {scope : Scope} {pos : Pos} {depth : Nat} {it acc : Value} {env : Env} {A : Around} {R : Result → Shared → Prop} {s : Shared} {target iter : Expr} {ifs : List Expr} (hg : gens[depth]? = some ⟨target, iter, ifs, 0⟩)
    (hi : ∀ {Q : Value → Shared → Prop} {E : Value → Shared → Prop}, Q it s → wpAny (model prog w) A (pyIter it) Q E s)
    (h0 : codeAny (model prog w) A (.compLoop (ak.expr gens scope pos) depth it acc env) R s) : codeAny (model prog w) A (.compStart (ak.expr gens scope pos) depth it acc env) R s := by
  have hcl : clausesOf (ak.expr gens scope pos) = gens := by cases ak <;> rfl
  have hq : (Code.compLoop (ak.expr gens scope pos) depth it acc env).quiet = true := by cases ak <;> rfl
  refine codeAny_of_tree ?_
  have hden : (model prog w).den (.compStart (ak.expr gens scope pos) depth it acc env) = (compStart (ak.expr gens scope pos) depth it acc env).onRaise (fun x => do noteFrame x env; standAt theWindowsPlace) := by cases ak <;> rfl
  have hun : A.under (.compStart (ak.expr gens scope pos) depth it acc env) = A := by cases ak <;> exact Around.under_of_weight rfl
  rw [hden, hun]
  refine wpAny_notedAt ?_
  unfold compStart
  rw [hcl, hg]
  show wpAny _ A (ask >>= _) _ _ s
  refine wpAny_bind (wpAny_askSetting (wpAny_ite ?_))
  split
  · exact wpAny_pure (And.intro hq h0)
  · refine wpAny_bind (wpAny_rule ?_)
    show wpAny _ _ (standAt iter.pos >>= _) _ _ s
    exact wpAny_bind (wpAny_standAt (wpAny_bind (hi (wpAny_pure (And.intro hq h0)))))

/-- the emission -/
theorem wpAny_emit {ak : AK} {o : D} {acc : Addr} {outs : List D} {A : Around} {h₀ : Heap} {X₀ X : Addr → Prop} {env : Env} {s : Shared} {Q : Unit → Shared → Prop} {E : Value → Shared → Prop} (rm : Room n A) (H : Here G Γ h₀ X₀ X env s.heap)
    (he : Emit G n Γ ak o) (hX : X acc) (hA : AccAt G ak X s.heap acc outs) (hsz : outs.length ≤ sizeLine)
    (k2 : ∀ {s1 : Shared}, Ext s s1 → (∀ h' t, AccAt G ak X h' acc (outs ++ [o]) → (∀ b ob, b ≠ acc → s1.heap.get? b = some ob → h'.get? b = some ob) → h'.get? acc ≠ none → Q () { s1 with heap := h', toks := t })) : wpAny (model prog w) A (emitOf ak (.ref acc) env) Q E s := by
  cases ak with
  | lst e =>
    have he' : Ex G n Γ true e o := he
    show wpAny _ _ (eval e env >>= fun x => call (.builtin "list.append") [.ref acc, x] >>= fun _ => pure ()) _ _ s
    refine wpAny_bind (he' rm H fun v s1 e1 r1 => ?_)
    obtain ⟨vs, m, hl, rl⟩ := hA.keep e1.keep
    refine wpAny_bind (wpAny_list_append_plain ⟨m, hl⟩ (fun h' ⟨m', hl'⟩ hs' => wpAny_pure ?_) (by have := rl.length; simp at this; omega))
    have hk : ∀ c o, ¬ X c → s1.heap.get? c = some o → h'.get? c = some o := fun c o q e => (hs'.2 c fun z => q (z ▸ hX)).trans e
    refine k2 e1 h' s1.toks ⟨vs.push v, m', hl', ?_⟩ (fun b ob q e => (hs'.2 b q).trans e) (by rw [hl']; exact Option.some_ne_none _)
    rw [Array.toList_push]
    exact (RepL.move hk (fun _ q => .inl q) _ _ rl).append (RepL.one (RepF.move hk (fun _ q => .inl q) _ _ _ r1 fun q => by cases q))
  | dct kx vx =>
    obtain ⟨ks, i, rfl, hk1, hv1⟩ := he
    show wpAny _ _ (eval kx env >>= fun kv => holding [kv] (eval vx env) >>= fun vv => standAt { kx.pos with endLine := vx.pos.endLine, endCol := vx.pos.endCol } >>= fun _ => holding [kv, vv] (dictSet acc kv vv)) _ _ s
    refine wpAny_bind (hk1 rm H fun v1 s1 e1 r1 => wpAny_bind (wpAny_holding (hv1 rm (H.keep e1.keep) fun v2 s2 e2 r2 => wpAny_bind (wpAny_standAt (wpAny_holding ?_)))))
    obtain ⟨t, rfl⟩ := repS.mp r1
    obtain ⟨u, rfl⟩ := repI.mp r2
    have hA2 : dictAt G s2.heap acc (outs.foldl putD []) := (hA.keep (h' := s1.heap) e1.keep).keep e2.keep
    refine dictAt_set hA2 (fun h' hd' hs' => ?_) (Nat.le_trans (putDs_length_le outs []) (by simpa using hsz))
    refine k2 (e1.trans e2) h' (s2.toks + 1) ?_ (fun b ob q e => (hs'.2 b q).trans e) ?_
    · show dictAt G h' acc ((outs ++ [_]).foldl putD [])
      rw [List.foldl_append]; exact hd'
    · obtain ⟨ob, ho⟩ := hd'.get
      rw [ho]; exact Option.some_ne_none _

theorem flatMap_take_succ {f : D → List D} {ds : List D} {i : Nat} {d : D} (h : ds[i]? = some d) : (ds.take (i + 1)).flatMap f = (ds.take i).flatMap f ++ f d := by
  rw [List.take_add_one, h, List.flatMap_append]
  simp
theorem flatMap_take_le {f : D → List D} {ds : List D} (i : Nat) : ((ds.take i).flatMap f).length ≤ (ds.flatMap f).length := by
  conv => rhs; rw [← List.take_append_drop i ds, List.flatMap_append, List.length_append]
  omega

theorem comp_loop {ak : AK} {gens : List Comprehension} {scope : Scope} {pos : Pos} {h₀ : Heap} {X₀ X : Addr → Prop} {env : Env} {acc : Addr} (hX : X acc) (hN : h₀.get? acc = none) (hL : acc ≠ env.locals) (hC : ∀ y c, env.cells.lookup y = some c → c ≠ acc) :
    ∀ (gs : List Comprehension) (target iter : Expr) (ifs : List Expr) (depth : Nat), gens[depth]? = some ⟨target, iter, ifs, 0⟩ → gens.drop (depth + 1) = gs →
      ∀ {Γ : Cx} {ds : List D} {T : Expr → Prop} {f : D → List D} {hb : Heap} {it : Value} {F Dep : Addr → Prop} {St : Nat → Heap → Prop} {Xi : Addr → Prop} {outs0 : List D} {A : Around} {s : Shared} {R : Result → Shared → Prop}, Room n A → NoOwn Γ → T target →
      (∀ d ∈ ds, ∃ Γ', Asg G n Γ target d Γ' ∧ Sub Γ Γ' ∧ ((Tests G n Γ' ifs false ∧ f d = []) ∨ (Tests G n Γ' ifs true ∧ EmG G n ak gs Γ' (f d)))) →
      Itr G n Xi hb it T ds F Dep St → (∀ a, X a → Xi a ∨ hb.get? a = none) → (∀ a, Xi a → X a) → (∀ a o, ¬ Xi a → hb.get? a = some o → s.heap.get? a = some o) → (∀ a, Dep a → h₀.get? a ≠ none ∨ ¬ X a) → (∀ a, F a → ¬ X a ∧ h₀.get? a = none) →
      Here G Γ h₀ X₀ X env s.heap → AccAt G ak X s.heap acc outs0 → St 0 s.heap → outs0.length + (ds.flatMap f).length ≤ sizeLine →
      (∀ s', Here G Γ h₀ X₀ X env s'.heap → AccAt G ak X s'.heap acc (outs0 ++ ds.flatMap f) → (∀ b o, (h₀.get? b ≠ none ∨ ¬ X b) → ¬ F b → s.heap.get? b = some o → s'.heap.get? b = some o) → s'.gens = s.gens → s'.os = s.os → R (.ok .next) s') →
      codeAny (model prog w) A (.compLoop (ak.expr gens scope pos) depth it (.ref acc) env) R s := by
  intro gs
  induction gs with
  | nil => ?_
  | cons g' gs' ih => ?_
  all_goals
    intro target iter ifs depth hg hdrop Γ ds T f hb it F Dep St Xi outs0 A s R rm hno hT turn I hXi hXi' hbk hDep hF H hA hst hsz fin
    have hun : A.under (.compLoop (ak.expr gens scope pos) depth it (.ref acc) env) = A := by cases ak <;> exact Around.under_of_weight rfl
    have hq : (Code.compLoop (ak.expr gens scope pos) depth it (.ref acc) env).quiet = true := by cases ak <;> rfl
    have hden : (model prog w).den (.compLoop (ak.expr gens scope pos) depth it (.ref acc) env) = (compTurn (ak.expr gens scope pos) depth it (.ref acc) env).onRaise (fun x => do noteFrame x env; theTreesLotGoes x) := by cases ak <;> rfl
    let J : Nat → Shared → Prop := fun m s' => ∃ i, m = ds.length + 1 - i ∧ i ≤ ds.length ∧ Here G Γ h₀ X₀ X env s'.heap ∧ AccAt G ak X s'.heap acc (outs0 ++ (ds.take i).flatMap f) ∧ St i s'.heap ∧
      (∀ b o, (h₀.get? b ≠ none ∨ ¬ X b) → ¬ F b → s.heap.get? b = some o → s'.heap.get? b = some o) ∧ s'.gens = s.gens ∧ s'.os = s.os
    refine codeAny_loop hq J (fun m s' hJ => ?_) (ds.length + 1) ⟨0, rfl, Nat.zero_le _, H, by simpa using hA, hst, fun _ _ _ _ e => e, rfl, rfl⟩
    obtain ⟨i, rfl, hi, H', hA', hst', hcc, hgens, hos⟩ := hJ
    rw [hden, hun]
    refine wpAny_noted ?_
    rw [compTurn_eq ak gens scope pos depth it (.ref acc) env target iter ifs hg]
    have hereNxt : ∀ {s1 s2 : Shared}, Nxt F s1 s2 → Here G Γ h₀ X₀ X env s1.heap → Here G Γ h₀ X₀ X env s2.heap := fun {s1 s2} x Y =>
      Y.nf x.nf (fun a o e => x.keep a o (.inl fun q => by rw [(hF a q).2] at e; cases e) (Y.base a o e)) fun a q => by
        cases z : s1.heap.get? a with
        | none => exact absurd z (Y.live a q)
        | some o => rw [x.keep a o (.inl fun y => (hF a y).1 q) z]; exact Option.some_ne_none o
    have hkb : ∀ a o, ¬ Xi a → hb.get? a = some o → s'.heap.get? a = some o := fun a o q e =>
      hcc a o (.inr fun z => (hXi a z).elim q fun z => by rw [e] at z; cases z) (fun z => by rw [I.fnew a z] at e; cases e) (hbk a o q e)
    refine wpAny_bind (wpAny_standAt (wpAny_bind ?_))
    by_cases hend : i = ds.length
    · subst hend
      refine I.stop rm H'.gl hst' fun s1 x1 => wpAny_pure (fin s1 (hereNxt x1 H') ?_ (fun b o q1 q2 e => x1.keep b o (.inl q2) (hcc b o q1 q2 e)) (x1.gens.trans hgens) (x1.os.trans hos))
      rw [List.take_length] at hA'
      exact hA'.nf x1.nf
    · obtain ⟨d, hd⟩ : ∃ d, ds[i]? = some d := ⟨ds[i]'(by omega), by simp⟩
      refine I.next (X' := X) rm H'.gl hst' hd hXi H'.live hkb fun v s1 x1 hlet => ?_
      refine wpAny_bind (hlet hT fun s1' x1' rv hst1 => ?_)
      have x2 := x1.trans x1'
      have H1 := hereNxt x2 H'
      obtain ⟨Γ', hasg, hsub, hcase⟩ := turn d (List.mem_of_getElem? hd)
      refine wpAny_bind (hasg rm H1 rv fun s2 H2 c2 l2 => ?_)
      have hA1 := hA'.nf x2.nf
      have hA2 : AccAt G ak X s2.heap acc (outs0 ++ (ds.take i).flatMap f) := hA1.move (fun o e => l2 acc o hL (fun y q => hC y acc q rfl) e) fun c o q e => c2.keep c o (.inr q) e
      have hle : (outs0 ++ (ds.take i).flatMap f).length ≤ sizeLine := by
        have := flatMap_take_le (f := f) (ds := ds) i
        rw [List.length_append]; omega
      -- a turn's end
      have turnEnd : ∀ {s3 : Shared}, Here G Γ h₀ X₀ X env s3.heap → AccAt G ak X s3.heap acc (outs0 ++ (ds.take i).flatMap f ++ f d) → Chg h₀ X s2 s3 → (∃ m, m < ds.length + 1 - i ∧ J m s3) := fun {s3} H3 hA3 c3 => by
        refine ⟨ds.length + 1 - (i + 1), by omega, i + 1, rfl, by omega, H3, ?_, ?_, fun b o q1 q2 e => c3.keep b o q1 (c2.keep b o q1 (x2.keep b o (.inl q2) (hcc b o q1 q2 e))), c3.gens.trans (c2.gens.trans (x2.gens.trans hgens)), c3.os.trans (c2.os.trans (x2.os.trans hos))⟩
        · rw [flatMap_take_succ hd, ← List.append_assoc]; exact hA3
        · exact I.stable (fun a o q e => c3.keep a o (hDep a q) (c2.keep a o (hDep a q) e)) hst1
      rcases hcase with ⟨ht, hf⟩ | ⟨ht, hem⟩
      · refine wpAny_bind (wpAny_tests rm H2 ht fun s3 e3 => ?_)
        exact wpAny_pure ⟨rfl, turnEnd ((H2.sub hsub).keep e3.keep) (by rw [hf, List.append_nil]; exact hA2.keep e3.keep) (Chg.of_ext e3)⟩
      · refine wpAny_bind (wpAny_tests rm H2 ht fun s3 e3 => ?_)
        have H3 := H2.keep e3.keep
        have hA3 := hA2.keep e3.keep
        have hnext : gens[depth + 1]? = (gens.drop (depth + 1))[0]? := by simp
        rw [hdrop] at hnext
        rw [hnext]
        simp only [if_true]
        first
        | (show wpAny _ _ (emitOf ak (.ref acc) env >>= fun _ => again _) _ _ s3
           obtain ⟨o, he, hfo⟩ := hem
           refine wpAny_bind (wpAny_emit rm H3 he hX hA3 hle fun {s4} e4 h' t hA4 hk4 hl4 => wpAny_pure ⟨rfl, turnEnd ?_ (by rw [hfo]; exact hA4) ⟨fun b ob q e => hk4 b ob (fun z => ?_) (e4.keep b ob (e3.keep b ob e)), e4.gens.trans e3.gens, e4.os.trans e3.os⟩⟩)
           · exact ((H3.sub hsub).keep e4.keep).mut (fun a ob z e => hk4 a ob z e) hX hN hl4 hL (fun y c q => Ne.symm (hC y c q)) fun y d q => absurd q (hno y d)
           · rw [z] at q; exact q.elim (fun q => q hN) fun q => q hX)
        | (obtain ⟨target', iter', ifs', as'⟩ := g'
           obtain ⟨has, hno', hfs, ds', T', f', hsrc, hT', hout, hturn'⟩ := hem
           simp only at has hfs hsrc hT' hturn'
           subst has
           have hg' : gens[depth + 1]? = some ⟨target', iter', ifs', 0⟩ := by have hz : gens[depth + 1]? = (gens.drop (depth + 1))[0]? := by simp
                                                                              rw [hz, hdrop]; rfl
           show wpAny _ _ (eval iter' env >>= fun x => standAt iter'.pos >>= fun _ => foldedSetIterable iter' env x >>= fun x => holding [x] (pyIter x) >>= fun it' => runOwn (.compStart (ak.expr gens scope pos) (depth + 1) it' (.ref acc) env) env >>= fun _ => again _) _ _ s3
           have hdrop' : gens.drop (depth + 1 + 1) = gs' := by
             have := congrArg (List.drop 1) hdrop
             simpa [List.drop_drop, Nat.add_comm] using this
           have hmk : A.mark none = A := by obtain ⟨hd, dd, fr, gg, u⟩ := A; rfl
           have hsz' : (outs0 ++ (ds.take i).flatMap f).length + (ds'.flatMap f').length ≤ sizeLine := by
             have := flatMap_take_le (f := f) (ds := ds) (i + 1)
             rw [flatMap_take_succ hd, List.length_append, hout] at this
             rw [List.length_append]; omega
           refine wpAny_bind (wpAny_mono (hsrc rm H3 (Q := fun it' s₂ => wpAny (model prog w) A (runOwn (.compStart (ak.expr gens scope pos) (depth + 1) it' (.ref acc) env) env >>= fun _ => again (.compLoop (ak.expr gens scope pos) depth it (.ref acc) env))
               (fun fin s' => match fin with | .done f => R (.ok f) s' | .again c' => c' = Code.compLoop (ak.expr gens scope pos) depth it (.ref acc) env ∧ ∃ m, m < ds.length + 1 - i ∧ J m s') (notedBy (model prog w) A env fun e s' => R (.error e) s') s₂)
               fun it' s₂ hb' F' Dep' St' e2 kb1 kb2 I' hst2 hDep2 hDX2 => ?_)
             (fun x s1 hx => wpAny_bind (wpAny_standAt (wpAny_bind (wpAny_of_eq (hfs env x) (wpAny_bind (wpAny_holding hx)))))) fun _ _ e => e)
           have hF' : ∀ a, F' a → ¬ X a ∧ h₀.get? a = none := fun a q => by
             have hn := I'.fnew a q
             constructor
             · intro z
               cases e : s3.heap.get? a with
               | none => exact H3.live a z e
               | some o => rw [kb1 a o e] at hn; cases hn
             · cases e : h₀.get? a with
               | none => rfl
               | some o => rw [kb1 a o (H3.base a o e)] at hn; cases hn
           refine wpAny_bind (wpAny_runOwn ?_)
           rw [hmk]
           refine codeAny_compStart_any hg' (fun hq' => I'.again rm hst2 hq') (ih target' iter' ifs' (depth + 1) hg' hdrop' rm hno' hT' hturn' I' (fun a q => .inl q) (fun a q => q) (fun a o _ e => kb2 a o e) (fun a q => .inr (hDX2 rfl a q)) hF' (H3.keep e2.keep) (hA3.keep e2.keep) hst2 hsz' fun s4 H4 hA4 hcc4 hg4 ho4 => ?_)
           refine wpAny_pure ⟨rfl, turnEnd (H4.sub hsub) (by rw [hout]; exact hA4) ⟨fun b ob q e => hcc4 b ob q (fun z => ?_) (e2.keep b ob (e3.keep b ob e)), hg4.trans (e2.gens.trans e3.gens), ho4.trans (e2.os.trans e3.os)⟩⟩
           have hn := I'.fnew b z
           rw [kb1 b ob (e3.keep b ob e)] at hn; cases hn)
end
end Mine

namespace Mine

noncomputable def cellNames (names : List (Str × NameKind)) : List Str := (names.filter fun x => x.2 == .cell).map (·.1)
noncomputable def relS (sc scope : Scope) : Scope := { scope with names := scope.names.map fun (n, k) => if (k == .free && sc.kind == .function && sc.names.lookup n == some .cell) then (n, .cell) else (n, k) }
noncomputable def capFl : Fl → Fl
  | .full => .full
  | _ => .top
noncomputable def capV (vars : List (Str × Fl × D)) : List (Str × NameKind) → List (Str × Fl × D)
  | [] => []
  | (n, k) :: r => if k = .free then (match vars.lookup n with | some (fl, d) => (n, capFl fl, d) :: capV vars r | none => capV vars r) else capV vars r
/-- the names within a comprehension -/
noncomputable def Cx.inner (Γ : Cx) (scope : Scope) : Cx := ⟨relS Γ.sc scope, cellNames scope.names, capV Γ.vars scope.names⟩
noncomputable def compOk (sc scope : Scope) : Bool :=
  scope.kind == .function && sc.kind == .function && scope.names.all (fun x => scope.names.lookup x.1 == some x.2) && scope.names.all (fun x => x.2 != .free || (sc.names.lookup x.1 == some .cell || sc.names.lookup x.1 == some .free))

/-! the cells -/
theorem cellsFrom_eq : ∀ (names : List (Str × NameKind)) (m : Nat) (acc : List (Str × Addr)), cellsFrom m names acc = ((cellNames names).zipIdx m).reverse ++ acc
  | [], m, acc => rfl
  | (x, k) :: r, m, acc => by
    unfold cellsFrom
    by_cases h : (k == .cell) = true
    · rw [if_pos h, cellsFrom_eq r (m + 1)]
      have e : cellNames ((x, k) :: r) = x :: cellNames r := by simp [cellNames, List.filter_cons, h]
      rw [e, List.zipIdx_cons, List.reverse_cons, List.append_assoc]; rfl
    · rw [if_neg h, cellsFrom_eq r m]
      have e : cellNames ((x, k) :: r) = cellNames r := by simp [cellNames, List.filter_cons, h]
      rw [e]
theorem pushCells_cell : ∀ (names : List (Str × NameKind)) (h : Heap) (x : Str) (c : Nat), (x, c) ∈ (cellNames names).zipIdx h.objs.size → (pushCells h names).IsCell c none
  | [], h, x, c, q => by simp [cellNames] at q
  | (y, k) :: r, h, x, c, q => by
    unfold pushCells
    by_cases hk : (k == .cell) = true
    · rw [if_pos hk]
      have e : cellNames ((y, k) :: r) = y :: cellNames r := by simp [cellNames, List.filter_cons, hk]
      rw [e, List.zipIdx_cons] at q
      rcases List.mem_cons.mp q with z | z
      · cases z
        exact ⟨_, pushCells_keeps r _ _ _ (Heap.get?_push_size _ rfl), rfl⟩
      · exact pushCells_cell r _ x c (by rw [Heap.size_push]; exact z)
    · rw [if_neg hk]
      have e : cellNames ((y, k) :: r) = cellNames r := by simp [cellNames, List.filter_cons, hk]
      rw [e] at q
      exact pushCells_cell r h x c q
theorem zipIdx_name {l : List Str} {m : Nat} {x y : Str} {c : Nat} (h1 : (x, c) ∈ l.zipIdx m) (h2 : (y, c) ∈ l.zipIdx m) : x = y := by
  obtain ⟨a1, a2, e1⟩ := List.mem_zipIdx h1
  obtain ⟨b1, b2, e2⟩ := List.mem_zipIdx h2
  rw [e1, e2]
theorem look_append {α : Type} {l₁ l₂ : List (Str × α)} {x : Str} {a : α} (h : (l₁ ++ l₂).lookup x = some a) : (x, a) ∈ l₁ ∨ (l₂.lookup x = some a) := by
  rw [List.lookup_append] at h
  cases e : l₁.lookup x with
  | some b => rw [e] at h; cases h; exact .inl (mem_of_look e)
  | none => rw [e] at h; exact .inr h

/-! the closure -/
noncomputable def clFrom (env : Env) : List (Str × NameKind) → List (Str × Addr) → List (Str × Addr)
  | [], acc => acc
  | (x, k) :: r, acc => if k == .free then clFrom env r ((x, (env.cells.lookup x).getD 0) :: acc) else clFrom env r acc
theorem closure_eq {scope : Scope} {env : Env} (h : ∀ x, (x, NameKind.free) ∈ scope.names → ∃ c, env.cells.lookup x = some c) : closureFor scope env = pure (clFrom env scope.names []) := by
  have key : ∀ (names : List (Str × NameKind)) (acc : List (Str × Addr)), (∀ x, (x, NameKind.free) ∈ names → ∃ c, env.cells.lookup x = some c) →
      (forIn names acc fun (p : Str × NameKind) (cs : List (Str × Addr)) => if (p.2 == .free) = true then (do let c ← cellOf env p.1; pure (ForInStep.yield ((p.1, c) :: cs))) else pure (ForInStep.yield cs) : Sem (List (Str × Addr))) = pure (clFrom env names acc) := by
    intro names
    induction names with
    | nil => intro acc _; rfl
    | cons p r ih =>
      obtain ⟨x, k⟩ := p
      intro acc hx
      rw [List.forIn_cons]
      unfold clFrom
      by_cases hk : (k == .free) = true
      · simp only [hk, if_true]
        have hk' : k = .free := by simpa using hk
        subst hk'
        obtain ⟨c, hc⟩ := hx x List.mem_cons_self
        unfold cellOf
        rw [hc]
        exact ih _ fun y q => hx y (List.mem_cons_of_mem _ q)
      · simp only [hk]
        exact ih acc fun y q => hx y (List.mem_cons_of_mem _ q)
  have := key scope.names [] h
  unfold closureFor
  simpa using this
theorem clFrom_look {env : Env} : ∀ (names : List (Str × NameKind)) (acc : List (Str × Addr)) (x : Str) (c : Addr), (clFrom env names acc).lookup x = some c → (acc.lookup x = some c) ∨ ((x, NameKind.free) ∈ names ∧ c = (env.cells.lookup x).getD 0)
  | [], acc, x, c, h => .inl h
  | (y, k) :: r, acc, x, c, h => by
    unfold clFrom at h
    by_cases hk : (k == .free) = true
    · rw [if_pos hk] at h
      have hk' : k = .free := by simpa using hk
      rcases clFrom_look r _ x c h with q | q
      · rw [List.lookup_cons] at q
        cases hb : x == y with
        | true =>
          rw [hb] at q
          have e := beq_iff_eq.mp hb
          subst e
          rw [hk']
          exact .inr ⟨List.mem_cons_self, (Option.some.inj q).symm⟩
        | false => rw [hb] at q; exact .inl q
      · exact .inr ⟨List.mem_cons_of_mem _ q.1, q.2⟩
    · rw [if_neg hk] at h
      rcases clFrom_look r _ x c h with q | q
      · exact .inl q
      · exact .inr ⟨List.mem_cons_of_mem _ q.1, q.2⟩
theorem clFrom_has {env : Env} : ∀ (names : List (Str × NameKind)) (acc : List (Str × Addr)) (x : Str), ((x, NameKind.free) ∈ names ∨ (acc.lookup x).isSome = true) → ((clFrom env names acc).lookup x).isSome = true
  | [], acc, x, h => h.elim (fun q => nomatch q) id
  | (y, k) :: r, acc, x, h => by
    unfold clFrom
    by_cases hk : (k == .free) = true
    · rw [if_pos hk]
      refine clFrom_has r _ x ?_
      rw [List.lookup_cons]
      cases hb : x == y with
      | true => exact .inr rfl
      | false =>
        refine h.imp (fun q => ?_) id
        rcases List.mem_cons.mp q with q | q
        · cases q; simp at hb
        · exact q
    · rw [if_neg hk]
      refine clFrom_has r _ x (h.imp (fun q => ?_) id)
      rcases List.mem_cons.mp q with q | q
      · cases q; simp at hk
      · exact q

section
variable {prog : Program} {w : World} {G : Glo prog w} {n : Nat} {Γ : Cx} {b : Bool}

theorem capV_look {vars : List (Str × Fl × D)} : ∀ {names : List (Str × NameKind)} {x : Str} {fl : Fl} {d : D}, (capV vars names).lookup x = some (fl, d) → (x, NameKind.free) ∈ names ∧ ∃ fl', fl = capFl fl' ∧ vars.lookup x = some (fl', d)
  | [], x, fl, d, h => by simp [capV] at h
  | (y, k) :: r, x, fl, d, h => by
    unfold capV at h
    by_cases hk : k = .free
    · rw [if_pos hk] at h
      cases e : vars.lookup y with
      | none =>
        rw [e] at h
        obtain ⟨q1, q2⟩ := capV_look h
        exact ⟨List.mem_cons_of_mem _ q1, q2⟩
      | some p =>
        obtain ⟨fl', d'⟩ := p
        rw [e] at h
        simp only [List.lookup_cons] at h
        cases hb : x == y with
        | true =>
          rw [hb] at h
          have z := beq_iff_eq.mp hb
          subst z
          cases h
          rw [hk]
          exact ⟨List.mem_cons_self, fl', rfl, e⟩
        | false =>
          rw [hb] at h
          obtain ⟨q1, q2⟩ := capV_look h
          exact ⟨List.mem_cons_of_mem _ q1, q2⟩
    · rw [if_neg hk] at h
      obtain ⟨q1, q2⟩ := capV_look h
      exact ⟨List.mem_cons_of_mem _ q1, q2⟩
theorem inner_noOwn (Γ : Cx) (scope : Scope) : NoOwn (Γ.inner scope) := fun y d q => by
  obtain ⟨_, fl', e, _⟩ := capV_look q
  cases fl' <;> cases e

theorem relS_look {sc scope : Scope} (hu : ∀ x ∈ scope.names, scope.names.lookup x.1 = some x.2) {x : Str} {k : NameKind} (h : (relS sc scope).names.lookup x = some k) :
    (x, k) ∈ scope.names ∨ (k = .cell ∧ (x, NameKind.free) ∈ scope.names) := by
  have := mem_of_look h
  obtain ⟨⟨y, k'⟩, hm, e⟩ := List.mem_map.mp this
  simp only at e
  split at e
  · rename_i hc
    cases e
    have : k' = .free := by
      simp only [Bool.and_eq_true, beq_iff_eq] at hc
      exact hc.1.1
    subst this
    exact .inr ⟨rfl, hm⟩
  · cases e; exact .inl hm
theorem relS_free {sc scope : Scope} : ∀ {names : List (Str × NameKind)} {x : Str}, names.lookup x = some .free →
    ((names.map fun (n, k) => if (k == NameKind.free && sc.kind == .function && sc.names.lookup n == some .cell) then (n, NameKind.cell) else (n, k)).lookup x = some .cell ∨
     (names.map fun (n, k) => if (k == NameKind.free && sc.kind == .function && sc.names.lookup n == some .cell) then (n, NameKind.cell) else (n, k)).lookup x = some .free)
  | [], x, h => by simp at h
  | (y, k) :: r, x, h => by
    rw [List.map_cons]
    rw [List.lookup_cons] at h
    cases hb : x == y with
    | true =>
      rw [hb] at h
      cases h
      simp only
      split <;> simp [List.lookup_cons, hb]
    | false =>
      rw [hb] at h
      have ih := relS_free (sc := sc) (scope := scope) h
      simp only
      split <;> (simp only [List.lookup_cons, hb]; exact ih)

theorem wpAny_compEnv {scope : Scope} {globals : Addr} {cl : List (Str × Addr)} {qual : Str} {outer : Env} {A : Around} {s : Shared} {Q : Env → Shared → Prop} {E : Value → Shared → Prop}
    (h : Q { scope, locals := s.heap.objs.size, globals, cells := cellsFrom (s.heap.objs.size + 1) scope.names cl, qual, func := none, code := outer.code, frame := outer.frame, builtins := outer.builtins }
      { s with heap := pushCells (s.heap.push { cls := .type "dict", data := .dict #[] }) scope.names }) :
    wpAny (model prog w) A (newFunctionEnv scope globals cl [] qual none .none (some outer)) Q E s := by
  simp only [newFunctionEnv, Option.isSome_some, if_true]
  refine wpAny_bind (wpAny_alloc ?_)
  refine wpAny_bind (wpAny_layCells _ (fun name kind cells => by cases hkc : kind == NameKind.cell <;> simp [hkc]) _ _ _ _ ?_)
  refine wpAny_bind ?_
  rw [List.forIn_nil]
  refine wpAny_pure (wpAny_pure ?_)
  rw [show ({ s with heap := s.heap.push { cls := .type "dict", data := .dict #[] } } : Shared).heap.objs.size = s.heap.objs.size + 1 from Heap.size_push ..]
  exact h

/-- what compOk says -/
theorem compOk_facts {sc scope : Scope} (h : compOk sc scope = true) : scope.kind = .function ∧ sc.kind = .function ∧ (∀ x ∈ scope.names, scope.names.lookup x.1 = some x.2) ∧
    (∀ x, (x, NameKind.free) ∈ scope.names → sc.names.lookup x = some .cell ∨ sc.names.lookup x = some .free) := by
  unfold compOk at h
  simp only [Bool.and_eq_true, beq_iff_eq, List.all_eq_true, Bool.or_eq_true, bne_iff_ne] at h
  obtain ⟨⟨⟨h1, h2⟩, h3⟩, h4⟩ := h
  refine ⟨h1, h2, h3, fun x hx => ?_⟩
  rcases h4 _ hx with q | q
  · exact absurd rfl q
  · exact q

noncomputable def compX (X : Addr → Prop) (acc C : Addr) (cells : List (Str × Addr)) (a : Addr) : Prop := X a ∨ a = acc ∨ a = C ∨ ∃ x, cells.lookup x = some a

theorem comp_here {scope : Scope} {hf : Heap} {X₀ X : Addr → Prop} {env : Env} {s s3 : Shared} {acc : Addr} (H : Here G Γ hf X₀ X env s.heap) (ok : compOk Γ.sc scope = true) (e3 : Ext s s3) (hacc : s.heap.get? acc = none) (hacc3 : s3.heap.get? acc ≠ none) :
    let cl := clFrom env scope.names []
    let cells := cellsFrom (s3.heap.objs.size + 1) scope.names cl
    let cenv : Env := { scope := relabel scope env, locals := s3.heap.objs.size, globals := env.globals, cells := cells, qual := env.qual, func := none, code := env.code, frame := env.frame, builtins := env.builtins }
    let h4 := pushCells (s3.heap.push { cls := .type "dict", data := .dict #[] }) scope.names
    closureFor scope env = pure cl ∧ Here G (Γ.inner scope) s.heap X (compX X acc s3.heap.objs.size cells) cenv h4 ∧ Keeps s3.heap h4 ∧ acc ≠ s3.heap.objs.size ∧ (∀ y c, cells.lookup y = some c → c ≠ acc) ∧
      (∀ a, compX X acc s3.heap.objs.size cells a → X a ∨ a = acc ∨ s3.heap.get? a = none) := by
  obtain ⟨k1, k2, k3, k4⟩ := compOk_facts ok
  intro cl cells cenv h4
  have hcl : ∀ x, (x, NameKind.free) ∈ scope.names → ∃ c, env.cells.lookup x = some c := fun x hx => let ⟨c, v, h1, _⟩ := H.cell x (k4 x hx); ⟨c, h1⟩
  have hk34 : Keeps s3.heap h4 := fun b o e => pushCells_keeps _ _ b o (Heap.get?_push_of_some _ e)
  have hk4 : Keeps s.heap h4 := fun b o e => hk34 b o (e3.keep b o e)
  have hCn : s.heap.get? s3.heap.objs.size = none := by
    cases e : s.heap.get? s3.heap.objs.size with
    | none => rfl
    | some o => have := e3.keep _ _ e; rw [new_none] at this; cases this
  have hC4 : h4.get? s3.heap.objs.size ≠ none := by
    rw [pushCells_keeps scope.names _ _ _ (Heap.get?_push_size s3.heap (o := { cls := .type "dict", data := .dict #[] }) rfl)]; exact Option.some_ne_none _
  have hfresh : ∀ {x : Str} {c : Nat}, (x, c) ∈ (cellNames scope.names).zipIdx (s3.heap.objs.size + 1) → s3.heap.objs.size < c ∧ s3.heap.get? c = none ∧ s.heap.get? c = none := fun {x c} q => by
    obtain ⟨h1, _, _⟩ := List.mem_zipIdx q
    have hn3 : s3.heap.get? c = none := by
      cases e : s3.heap.get? c with
      | none => rfl
      | some o =>
        have h9 : s3.heap.objs.size < c := by omega
        exact absurd (Heap.lt_size e) (Nat.not_lt.mpr (Nat.le_of_lt h9))
    refine ⟨by omega, hn3, ?_⟩
    cases e : s.heap.get? c with
    | none => rfl
    | some o => rw [e3.keep _ _ e] at hn3; cases hn3
  have hlook : ∀ {x : Str} {c : Addr}, cells.lookup x = some c → ((x, c) ∈ (cellNames scope.names).zipIdx (s3.heap.objs.size + 1)) ∨ ((x, NameKind.free) ∈ scope.names ∧ env.cells.lookup x = some c) := fun {x c} q => by
    have q' : (cellsFrom (s3.heap.objs.size + 1) scope.names cl).lookup x = some c := q
    rw [cellsFrom_eq] at q'
    rcases look_append q' with z | z
    · exact .inl (List.mem_reverse.mp z)
    · rcases clFrom_look _ _ _ _ z with y | ⟨y1, y2⟩
      · cases y
      · obtain ⟨c', hc'⟩ := hcl x y1
        rw [hc'] at y2
        exact .inr ⟨y1, by rw [hc', y2]; rfl⟩
  have hhas : ∀ x, ((x, NameKind.cell) ∈ scope.names ∨ (x, NameKind.free) ∈ scope.names) → ∃ c, cells.lookup x = some c := fun x q => by
    show ∃ c, (cellsFrom (s3.heap.objs.size + 1) scope.names cl).lookup x = some c
    rw [cellsFrom_eq, List.lookup_append]
    rcases q with q | q
    · have hm : x ∈ cellNames scope.names := List.mem_map.mpr ⟨(x, .cell), List.mem_filter.mpr ⟨q, rfl⟩, rfl⟩
      obtain ⟨i, hi, e⟩ := List.mem_iff_getElem.mp hm
      have hz : (x, s3.heap.objs.size + 1 + i) ∈ ((cellNames scope.names).zipIdx (s3.heap.objs.size + 1)).reverse := by
        rw [List.mem_reverse]
        exact List.mem_iff_getElem.mpr ⟨i, by simpa using hi, by simp [e]⟩
      cases e : (((cellNames scope.names).zipIdx (s3.heap.objs.size + 1)).reverse).lookup x with
      | some c => exact ⟨c, rfl⟩
      | none => exact absurd (List.lookup_eq_none_iff.mp e _ hz) (by simp)
    · have := clFrom_has (env := env) scope.names [] x (.inl q)
      obtain ⟨c, hc⟩ := Option.isSome_iff_exists.mp this
      cases e : (((cellNames scope.names).zipIdx (s3.heap.objs.size + 1)).reverse).lookup x with
      | some c => exact ⟨c, rfl⟩
      | none => exact ⟨c, hc⟩
  have hcellAt : ∀ {x : Str} {c : Addr}, cells.lookup x = some c → ∃ v, h4.IsCell c v := fun {x c} q => by
    rcases hlook q with z | ⟨z1, z2⟩
    · exact ⟨none, pushCells_cell scope.names (s3.heap.push { cls := .type "dict", data := .dict #[] }) x c (by rw [Heap.size_push]; exact z)⟩
    · obtain ⟨c', v, h1, h2⟩ := H.cell x (k4 x z1)
      rw [z2] at h1; cases h1
      exact ⟨v, h2.keeps hk4⟩
  have hcellX : ∀ {x : Str} {c : Addr}, cells.lookup x = some c → X c ∨ s.heap.get? c = none := fun {x c} q => by
    rcases hlook q with z | ⟨z1, z2⟩
    · exact .inr (hfresh z).2.2
    · exact .inl (H.cellX x c z2).1
  have hXX : ∀ a, compX X acc s3.heap.objs.size cells a → X a ∨ s.heap.get? a = none := fun a q => by
    rcases q with q | q | q | ⟨x, q⟩
    · exact .inl q
    · exact .inr (by rw [q]; exact hacc)
    · exact .inr (by rw [q]; exact hCn)
    · exact hcellX q
  have hlive : ∀ a, s.heap.get? a ≠ none → h4.get? a ≠ none := fun a q => by
    cases e : s.heap.get? a with
    | none => exact absurd e q
    | some o => rw [hk4 a o e]; exact Option.some_ne_none _
  have huniq : ∀ {x : Str} {c : Nat}, (x, c) ∈ (cellNames scope.names).zipIdx (s3.heap.objs.size + 1) → (x, NameKind.free) ∈ scope.names → False := fun {x c} q z => by
    have hm : x ∈ cellNames scope.names := by
      obtain ⟨_, _, e⟩ := List.mem_zipIdx q
      rw [e]; exact List.getElem_mem _
    obtain ⟨⟨y, k⟩, hm', e⟩ := List.mem_map.mp hm
    obtain ⟨hm1, hm2⟩ := List.mem_filter.mp hm'
    have hk : k = .cell := by simpa using hm2
    subst hk
    simp only at e
    subst e
    have a1 := k3 _ hm1
    have a2 := k3 _ z
    rw [a1] at a2; cases a2
  refine ⟨closure_eq hcl, ?_, hk34, fun z => by rw [z] at hacc3; exact hacc3 (new_none _), fun y c q z => ?_, fun a q => ?_⟩
  · have hrs : relabel scope env = relS Γ.sc scope := by
      unfold relabel relS Env.kindOf
      rw [H.scp]
    exact
    { scp := hrs
      kind := k1
      glb := H.glb
      blt := H.blt
      gl0 := H.gl
      base := hk4
      x0 := fun a q => ⟨.inl q, H.live a q⟩
      live := fun a q => by
        rcases q with q | q | q | ⟨x, q⟩
        · exact hlive a (H.live a q)
        · rw [q]
          cases e : s3.heap.get? acc with
          | none => exact absurd e hacc3
          | some o => rw [hk34 acc o e]; exact Option.some_ne_none _
        · rw [q]; exact hC4
        · obtain ⟨v, o, ho, _⟩ := hcellAt q
          rw [ho]; exact Option.some_ne_none _
      locX := .inr (.inr (.inl rfl))
      locN := hCn
      loc := ⟨_, (Heap.Ns.new s3.heap (.type "dict")).keeps (pushCells_keeps _ _)⟩
      cell := fun x q => by
        have hx : (x, NameKind.cell) ∈ scope.names ∨ (x, NameKind.free) ∈ scope.names := by
          rcases q with q | q
          · rcases relS_look k3 q with z | ⟨_, z⟩
            · exact .inl z
            · exact .inr z
          · rcases relS_look k3 q with z | ⟨z, _⟩
            · exact .inr z
            · cases z
        obtain ⟨c, hc⟩ := hhas x hx
        obtain ⟨v, hv⟩ := hcellAt hc
        exact ⟨c, v, hc, hv⟩
      cellX := fun x c q => ⟨.inr (.inr (.inr ⟨x, q⟩)), fun z => by
        rcases hlook q with y | ⟨y1, y2⟩
        · have := (hfresh y).1; rw [z] at this; exact Nat.lt_irrefl _ this
        · have := H.live c (H.cellX x c y2).1; rw [z] at this; exact this hCn⟩
      cellN := fun x hx c q => by
        rcases hlook q with y | ⟨y1, y2⟩
        · exact (hfresh y).2.2
        · exfalso
          obtain ⟨⟨y, k⟩, hm', e⟩ := List.mem_map.mp hx
          obtain ⟨hm1, hm2⟩ := List.mem_filter.mp hm'
          have hk : k = .cell := by simpa using hm2
          subst hk
          simp only at e
          subst e
          have a1 := k3 _ hm1
          have a2 := k3 _ y1
          rw [a1] at a2; cases a2
      apart := fun x y c q1 q2 => by
        rcases hlook q1 with a | ⟨a1, a2⟩ <;> rcases hlook q2 with b | ⟨b1, b2⟩
        · exact zipIdx_name a b
        · exact absurd (hfresh a).2.2 (H.live c (H.cellX y c b2).1)
        · exact absurd (hfresh b).2.2 (H.live c (H.cellX x c a2).1)
        · exact H.apart x y c a2 b2
      vars := fun x fl d q => by
        obtain ⟨hfree, fl', rfl, hv⟩ := capV_look q
        obtain ⟨v, hb, hr, hs⟩ := H.vars x fl' d hv
        have hkind : env.kindOf x = some .cell ∨ env.kindOf x = some .free := by unfold Env.kindOf; rw [H.scp]; exact k4 x hfree
        obtain ⟨c, hc, hcv⟩ : ∃ c, env.cells.lookup x = some c ∧ s.heap.IsCell c (some v) := by
          rcases hb with ⟨k, _⟩ | ⟨_, c, hc, hcv⟩
          · rcases hkind with z | z <;> (rw [k] at z; cases z)
          · exact ⟨c, hc, hcv⟩
        have hc' : cells.lookup x = some c := by
          obtain ⟨c', hc'⟩ := hhas x (.inr hfree)
          rcases hlook hc' with z | ⟨_, z⟩
          · exact (huniq z hfree).elim
          · rw [hc] at z; cases z; exact hc'
        refine ⟨v, .inr ⟨?_, c, hc', hcv.keeps hk4⟩, ?_, fun hne a e => ?_⟩
        · show (relabel scope env).names.lookup x = some .cell ∨ (relabel scope env).names.lookup x = some .free
          rw [hrs]
          exact relS_free (sc := Γ.sc) (scope := scope) (k3 _ hfree)
        · have := RepF.move (X' := compX X acc s3.heap.objs.size cells) (fun a o _ e => hk4 a o e) hXX d _ v hr fun _ a o _ e => hk4 a o e
          cases fl' <;> exact this
        · have hne' : fl' ≠ .full := fun z => by subst z; exact hne rfl
          obtain ⟨q1, q2, _⟩ := hs hne' a e
          have hal : s.heap.get? a ≠ none := by obtain ⟨o, ho⟩ := hr.live a e; rw [ho]; exact Option.some_ne_none _
          refine ⟨fun z => hal (by rw [z]; exact hCn), fun y c' hc' z => ?_, fun _ => hal⟩
          rcases hlook hc' with u | ⟨u1, u2⟩
          · exact hal (by rw [z]; exact (hfresh u).2.2)
          · exact q2 y c' u2 z
      owns := fun x d q => absurd q (inner_noOwn Γ scope x d)
      ownsApart := fun x y d d' a q1 _ _ _ => absurd q1 (inner_noOwn Γ scope x d) }
  · rcases hlook q with u | ⟨u1, u2⟩
    · exact hacc3 (by rw [← z]; exact (hfresh u).2.1)
    · exact H.live c (H.cellX y c u2).1 (by rw [z]; exact hacc)
  · rcases q with q | q | q | ⟨x, q⟩
    · exact .inl q
    · exact .inr (.inl q)
    · exact .inr (.inr (by rw [q]; exact new_none _))
    · rcases hlook q with u | ⟨u1, u2⟩
      · exact .inr (.inr (hfresh u).2.1)
      · exact .inl (H.cellX x a u2).1

noncomputable def AK.res (ak : AK) (outs : List D) : D := match ak with
  | .lst _ => .list outs
  | .dct _ _ => .dict (outs.foldl putD [])
noncomputable def AK.new (ak : AK) : Sem Value := match ak with
  | .lst _ => newList []
  | .dct _ _ => newDict

variable (G) in
/-- what a comprehension hands out -/
noncomputable def CompG (n : Nat) (Γ : Cx) (ak : AK) (gens : List Comprehension) (scope : Scope) (outs : List D) : Prop :=
  ∃ (target iter : Expr) (ifs : List Expr) (gs : List Comprehension) (ds : List D) (T : Expr → Prop) (f : D → List D), gens = ⟨target, iter, ifs, 0⟩ :: gs ∧ Src G false n Γ iter T ds ∧ T target ∧ (∀ (env : Env) (x : Value), foldedSetIterable iter env x = pure x) ∧
    outs = ds.flatMap f ∧ outs.length ≤ sizeLine ∧
    ∀ d ∈ ds, ∃ Γ', Asg G n (Γ.inner scope) target d Γ' ∧ Sub (Γ.inner scope) Γ' ∧ ((Tests G n Γ' ifs false ∧ f d = []) ∨ (Tests G n Γ' ifs true ∧ EmG G n ak gs Γ' (f d)))

theorem Src.weak {c : Bool} {e : Expr} {T : Expr → Prop} {ds : List D} (h : Src G true n Γ e T ds) : Src G c n Γ e T ds := fun rm H k =>
  h rm H fun it s₂ hb F Dep St h1 h2 h3 h4 h5 h6 h7 => k it s₂ hb F Dep St h1 h2 h3 h4 h5 h6 fun _ => h7 rfl

theorem comp_core {ak : AK} {gens : List Comprehension} {scope : Scope} {pos p' : Pos} {use : Option (Value → Sem Unit)} {outs : List D} {A : Around} {hf : Heap} {X₀ X : Addr → Prop} {env : Env} {s : Shared} {Q : Value → Shared → Prop} {E : Value → Shared → Prop}
    (rm : Room n A) (H : Here G Γ hf X₀ X env s.heap) (ok : compOk Γ.sc scope = true) (hg : CompG G n Γ ak gens scope outs)
    (k : ∀ s' (acc C : Addr), Ext s s' → s.heap.get? acc = none → s.heap.get? C = none → s'.heap.get? C ≠ none → acc ≠ C → RepF G (fun a => X a ∨ a = C) s'.heap (ak.res outs) true (.ref acc) → (∃ m, s'.heap.Ns C m) →
      match use with
      | none => ∀ h', Heap.SameBut C s'.heap h' → Q (.ref acc) { s' with heap := h' }
      | some u => wpAny (model prog w) A (u (.ref acc)) (fun _ s'' => ∃ m, s''.heap.Ns C m ∧ ∀ h', Heap.SameBut C s''.heap h' → Q .none { s'' with heap := h' }) E s') :
    wpAny (model prog w) A (comprehension (ak.expr gens scope pos) scope env p' ak.new false (firstIter gens env) use) Q E s := by
  obtain ⟨target, iter, ifs, gs, ds, T, f, rfl, hsrc, hT, hfs, rfl, hlen, turn⟩ := hg
  obtain ⟨k1, k2, k3, k4⟩ := compOk_facts ok
  have hcl : ∀ x, (x, NameKind.free) ∈ scope.names → ∃ c, env.cells.lookup x = some c := fun x hx => let ⟨c, v, h1, _⟩ := H.cell x (k4 x hx); ⟨c, h1⟩
  refine wpAny_comprehension_free (g := ⟨target, iter, ifs, 0⟩) (gs := gs) (by cases ak <;> rfl) (hfs env) (closure_eq hcl) k1 (fun x hx hl => by rw [k3 x hx, hl]) ?_
  show wpAny _ _ (eval iter env) _ _ s
  refine hsrc rm H fun it s2 hb F Dep St e2 kb1 kb2 I hst hDep _ => ?_
  have step : ∀ (acc : Addr) (s3 : Shared), acc = s2.heap.objs.size → Ext s2 s3 → s3.heap.get? acc ≠ none → AccAt G ak (fun _ => False) s3.heap acc [] →
      wpAny (model prog w) A (newFunctionEnv scope env.globals (clFrom env scope.names []) [] env.qual none .none (some env)) (fun cenv s₄ =>
        codeAny (model prog w) A (.compStart (ak.expr (⟨target, iter, ifs, 0⟩ :: gs) scope pos) 0 it (.ref acc) { cenv with scope := relabel scope env }) (compPost (model prog w) A E use Q (.ref acc) cenv.locals) s₄) E s3 := by
    intro acc s3 hacc e3 hacc3 hA3
    have hacc2 : s2.heap.get? acc = none := by rw [hacc]; exact new_none _
    have haccs : s.heap.get? acc = none := by
      cases e : s.heap.get? acc with
      | none => rfl
      | some o => rw [e2.keep _ _ e] at hacc2; cases hacc2
    have e23 := e2.trans e3
    refine wpAny_compEnv ?_
    obtain ⟨_, Hc, kc, hL, hC, hXX⟩ := comp_here H ok e23 haccs hacc3
    have hnot : ∀ a, s2.heap.get? a ≠ none → s.heap.get? a = none → ¬ compX X acc s3.heap.objs.size (cellsFrom (s3.heap.objs.size + 1) scope.names (clFrom env scope.names [])) a := fun a q1 q2 z => by
      rcases hXX a z with y | y | y
      · exact H.live a y q2
      · rw [y] at q1; exact q1 hacc2
      · cases e : s2.heap.get? a with
        | none => exact q1 e
        | some o => rw [e3.keep a o e] at y; cases y
    refine codeAny_compStart_any rfl (fun hq => I.again rm (I.stable (fun a o _ e => kc a o (e3.keep a o e)) hst) hq) ?_
    refine comp_loop (outs0 := []) (h₀ := s.heap) (X₀ := X) (X := compX X acc s3.heap.objs.size (cellsFrom (s3.heap.objs.size + 1) scope.names (clFrom env scope.names []))) (.inr (.inl rfl)) haccs hL hC gs target iter ifs 0 rfl rfl rm (inner_noOwn Γ scope) hT turn I
      (fun a q => (hXX a q).imp id fun q => ?_) (fun a q => .inl q) (fun a o _ e => kc a o (e3.keep a o (kb2 a o e))) (fun a q => ?_) (fun a q => ?_) Hc (AccAt.keep (h := s3.heap) ?_ kc) (I.stable (fun a o _ e => kc a o (e3.keep a o e)) hst) (by simpa using hlen) fun s' H' hA' hcc hgens hos => ?_
    · have hb0 : ∀ {a : Addr}, s2.heap.get? a = none → hb.get? a = none := fun {a} z => by
        cases e : hb.get? a with
        | none => rfl
        | some o => rw [kb2 a o e] at z; cases z
      rcases q with q | q
      · rw [q]; exact hb0 hacc2
      · refine hb0 ?_
        cases e : s2.heap.get? a with
        | none => rfl
        | some o => rw [e3.keep a o e] at q; cases q
    · by_cases z : s.heap.get? a = none
      · exact .inr (hnot a (hDep a q) z)
      · exact .inl z
    · have hn := I.fnew a q
      have hs : s.heap.get? a = none := by
        cases e : s.heap.get? a with
        | none => rfl
        | some o => rw [kb1 a o e] at hn; cases hn
      exact ⟨hnot a (I.flive hst a q) hs, hs⟩
    · cases ak with
      | lst e =>
        obtain ⟨vs, m, h1, h2⟩ := hA3
        unfold RepL at h2
        exact ⟨vs, m, h1, by unfold RepL; exact h2⟩
      | dct a b => exact hA3
    · have eS : Ext s s' := ⟨H'.base, hgens.trans e23.gens, hos.trans e23.os⟩
      have hCs : s.heap.get? s3.heap.objs.size = none := H'.locN
      have hres : RepF G (fun a => X a ∨ a = s3.heap.objs.size) s'.heap (ak.res (ds.flatMap f)) true (.ref acc) := by
        have hroot : ¬ (X acc ∨ acc = s3.heap.objs.size) := fun z => z.elim (fun z => H.live acc z haccs) hL
        cases ak with
        | lst e =>
          obtain ⟨vs, m, h1, h2⟩ := hA'
          refine repL.mpr ⟨acc, vs, m, rfl, fun _ => hroot, h1, ?_⟩
          exact RepL.move (fun a o _ e => e) (fun a q => Or.inl (q.elim (fun q => Or.inl q) fun q => Or.inr (Or.inr (Or.inl q)))) _ _ h2
        | dct a b => exact repD.mpr ⟨acc, rfl, fun _ => hroot, hA'⟩
      have hlive : s'.heap.get? s3.heap.objs.size ≠ none := H'.live _ (.inr (.inr (.inl rfl)))
      have kk := k s' acc s3.heap.objs.size eS haccs hCs hlive hL hres H'.loc
      unfold compPost
      cases use with
      | none =>
        obtain ⟨m, hm⟩ := H'.loc
        exact ⟨m, hm, kk⟩
      | some u => exact kk
  cases ak with
  | lst e =>
    show wpAny _ _ (newList []) _ _ s2
    refine wpAny_newList (step s2.heap.objs.size { s2 with heap := s2.heap.push { cls := .type "list", data := .seq [].toArray } } rfl ⟨Keeps.push _ _, rfl, rfl⟩ ?_ ⟨#[], 0, Heap.get?_push_size _ rfl, RepL.nil⟩) (Nat.zero_le _)
    show (Heap.push _ _).get? _ ≠ none
    rw [Heap.get?_push_size _ rfl]; exact Option.some_ne_none _
  | dct a b =>
    have hsys : s2.heap.objs.size ≠ sysModules := by
      have hlt := (G.g (H.keep e2.keep).gl).lt
      intro q
      rw [q] at hlt
      exact absurd hlt (by decide)
    show wpAny _ _ newDict _ _ s2
    refine wpAny_newObj_type (step s2.heap.objs.size { s2 with heap := s2.heap.push { cls := .type "dict", data := .dict #[] } } rfl ⟨Keeps.push _ _, rfl, rfl⟩ ?_ ⟨[], Heap.DictOf.new _, rfl, hsys⟩) (Nat.zero_le _)
    show (Heap.push _ _).get? _ ≠ none
    rw [Heap.get?_push_size _ rfl]; exact Option.some_ne_none _
end
end Mine

namespace Mine
section
variable {prog : Program} {w : World} {G : Glo prog w} {n : Nat} {Γ : Cx} {b : Bool}

theorem firstAsync_of {g : Comprehension} {gs : List Comprehension} (h : g.is_async = 0) : firstAsync (g :: gs) = false := by
  obtain ⟨t, i, f, a⟩ := g
  simp only at h
  subst h; rfl
theorem CompG.async {ak : AK} {gens : List Comprehension} {scope : Scope} {outs : List D} (hg : CompG G n Γ ak gens scope outs) : firstAsync gens = false := by
  obtain ⟨target, iter, ifs, gs, ds, T, f, rfl, _⟩ := hg; rfl
theorem eval_comp (ak : AK) (gens : List Comprehension) (scope : Scope) (pos : Pos) (env : Env) : eval (ak.expr gens scope pos) env = comprehension (ak.expr gens scope pos) scope env (firstIterPos gens pos) ak.new (firstAsync gens) (firstIter gens env) := by
  cases ak <;> rfl

theorem Ex.comp {ak : AK} {gens : List Comprehension} {scope : Scope} {pos : Pos} {outs : List D} (ok : compOk Γ.sc scope = true) (hg : CompG G n Γ ak gens scope outs) : Ex G n Γ b (ak.expr gens scope pos) (ak.res outs) := by
  intro A h₀ X₀ X env s Q E rm H k
  rw [eval_comp, hg.async]
  refine comp_core (use := Option.none) rm H ok hg fun s' acc C e1 hacc hC hC' hne r hns => ?_
  show ∀ h', Heap.SameBut C s'.heap h' → Q (.ref acc) { s' with heap := h' }
  intro h' hs'
  refine k _ _ ⟨fun b o e => (hs'.2 b fun z => by rw [z, hC] at e; cases e).trans (e1.keep b o e), e1.gens, e1.os⟩ (RepF.weak ?_)
  exact RepF.move (fun a o q e => (hs'.2 a fun z => q (.inr z)).trans e) (fun a q => Or.inl (Or.inl q)) _ _ _ r fun q => by cases q
theorem Ex.lcomp {elt : Expr} {gens : List Comprehension} {scope : Scope} {pos : Pos} {outs : List D} (hg : CompG G n Γ (.lst elt) gens scope outs) (ok : compOk Γ.sc scope = true := by rfl) : Ex G n Γ b (.ListComp elt gens scope pos) (.list outs) :=
  Ex.comp (ak := .lst elt) ok hg
theorem Ex.dcomp {kx vx : Expr} {gens : List Comprehension} {scope : Scope} {pos : Pos} {outs : List D} (hg : CompG G n Γ (.dct kx vx) gens scope outs) (ok : compOk Γ.sc scope = true := by rfl) : Ex G n Γ b (.DictComp kx vx gens scope pos) (.dict (outs.foldl putD [])) :=
  Ex.comp (ak := .dct kx vx) ok hg

theorem evalThenUse_comp (ak : AK) (gens : List Comprehension) (scope : Scope) (pos : Pos) (env : Env) (use : Value → Sem Unit) : evalThenUse (ak.expr gens scope pos) env use = (do let _ ← comprehension (ak.expr gens scope pos) scope env (firstIterPos gens pos) ak.new (firstAsync gens) (firstIter gens env) (some use)) := by
  cases ak <;> rfl
theorem exec_Assign_one (t value : Expr) (pos : Pos) (env : Env) : exec (.Assign [t] value pos) env = (do
    standAt pos
    if ← swapsWith value (some t) pos.line env then do
      evalThenUse value env fun v => assignAll v ((assignEach [t] env).map (·.2))
      pure .next
    else do
      let v ← eval value env
      assignStores env v (← swappedStores [t] value env) ((assignEach [t] env).map (·.2))) := rfl

theorem Here.drop {h₀ : Heap} {X₀ X X' : Addr → Prop} {env : Env} {h h' : Heap} {p : Addr} (H : Here G Γ h₀ X₀ X' env h) (hs : ∀ a, X a → X' a) (hk : ∀ a o, a ≠ p → h.get? a = some o → h'.get? a = some o) (hp : X' p) (hpX : ¬ X p) (hn : h₀.get? p = none) (hx0 : ∀ a, X₀ a → X a)
    (hL : X env.locals) (hC : ∀ y c, env.cells.lookup y = some c → X c) (ho : ∀ y d a, Γ.vars.lookup y = some (.own, d) → Binds env h y (.ref a) → X a) : Here G Γ h₀ X₀ X env h' := by
  have neX : ∀ {a : Addr}, X a → a ≠ p := fun q z => hpX (z ▸ q)
  have hb : ∀ y u, Binds env h y u → Binds env h' y u := fun y u b => by
    rcases b with ⟨k, m, hm, hv⟩ | ⟨k, c, hc, hv⟩
    · obtain ⟨o, es, ep, e, r⟩ := hm
      exact .inl ⟨k, m, ⟨o, es, ep, hk _ o (neX hL) e, r⟩, hv⟩
    · obtain ⟨o, e, r⟩ := hv
      exact .inr ⟨k, c, hc, o, hk c o (neX (hC y c hc)) e, r⟩
  exact
  { scp := H.scp
    kind := H.kind
    glb := H.glb
    blt := H.blt
    gl0 := H.gl0
    base := fun a o e => hk a o (fun z => by rw [z, hn] at e; cases e) (H.base a o e)
    x0 := fun a q => ⟨hx0 a q, (H.x0 a q).2⟩
    live := fun a q => by
      cases e : h.get? a with
      | none => exact absurd e (H.live a (hs a q))
      | some o => rw [hk a o (neX q) e]; exact Option.some_ne_none o
    locX := hL
    locN := H.locN
    loc := by
      obtain ⟨m, o, es, ep, e, r⟩ := H.loc
      exact ⟨m, o, es, ep, hk _ o (neX hL) e, r⟩
    cell := fun y q => by
      obtain ⟨c, v, h1, o, e, r⟩ := H.cell y q
      exact ⟨c, v, h1, o, hk c o (neX (hC y c h1)) e, r⟩
    cellX := fun y c q => ⟨hC y c q, (H.cellX y c q).2⟩
    cellN := H.cellN
    apart := H.apart
    vars := fun y fl d q => by
      obtain ⟨v, h1, h2, h3⟩ := H.vars y fl d q
      refine ⟨v, hb y v h1, RepF.move (fun a o z e => hk a o (fun y => z (y ▸ hp)) e) (fun a q => .inl (hs a q)) d _ v h2 fun hf a o e g => hk a o (fun z => ?_) g, h3⟩
      have hne : fl ≠ .full := fun z => by subst z; cases hf
      cases fl with
      | full => exact hne rfl
      | top => exact (h3 hne a e).2.2 rfl (z ▸ hn)
      | own => exact hpX (z ▸ ho y d a q (by rw [e] at h1; exact h1))
    owns := fun y d q => let ⟨a, h1, h2, h3⟩ := H.owns y d q; ⟨a, hb y _ h1, ho y d a q h1, h3⟩
    ownsApart := fun y z d d' a q1 q2 b1 b2 => by
      obtain ⟨a1, c1, _⟩ := H.owns y d q1
      obtain ⟨a2, c2, _⟩ := H.owns z d' q2
      have e1 := (hb y _ c1).unique b1
      have e2 := (hb z _ c2).unique b2
      rw [e1] at c1; rw [e2] at c2
      exact H.ownsApart y z d d' a q1 q2 c1 c2 }

/-- a comprehension that goes to a local name on its line -/
theorem Runs.assignComp {ak : AK} {gens : List Comprehension} {scope : Scope} {x : Str} {px pos p2 : Pos} {rest : List Stmt} {outs : List D} {R : Out → Prop} (ok : compOk Γ.sc scope = true) (hg : CompG G n Γ ak gens scope outs) (hr : Runs G n (Γ.set x .full (ak.res outs)) rest R) (hx : Γ.mine x = true)
    (hs : ∀ env : Env, env.scope = Γ.sc → swapsWith (ak.expr gens scope pos) (some (.Name x px)) p2.line env = pure true) : Runs G n Γ (.Assign [.Name x px] (ak.expr gens scope pos) p2 :: rest) R := by
  refine Runs.step (fun {A h₀ X₀ X env s Q E} rm H k => ?_) hr
  rw [exec_Assign_one, hs env H.scp]
  refine wpAny_bind (wpAny_standAt ?_)
  show wpAny _ _ (evalThenUse (ak.expr gens scope pos) env (fun v => PySem.assign (.Name x px) env v) >>= fun _ => pure Flow.next) _ _ s
  rw [evalThenUse_comp, hg.async]
  refine wpAny_bind (wpAny_bind ?_)
  refine comp_core rm H ok hg fun s' acc C e1 hacc hC hC' hne r hns => ?_
  show wpAny (model prog w) A (PySem.assign (.Name x px) env (.ref acc)) _ _ s'
  have g : Grow s X (fun a => X a ∨ a = C) := ⟨fun _ q => .inl q, fun c q => q.imp id fun q => by rw [q]; exact hC⟩
  have H1 : Here G Γ h₀ X₀ (fun a => X a ∨ a = C) env s'.heap := H.grow e1.keep (fun _ q => .inl q) (fun c q => q.imp id fun q => by rw [q]; exact ⟨hC, hC'⟩)
  have hCX : ∀ c, X c → C ≠ c := fun c q z => H.live c q (z ▸ hC)
  have hC0 : h₀.get? C = none := by
    cases q : h₀.get? C with
    | none => rfl
    | some o => rw [H.base C o q] at hC; cases hC
  refine wpAny_assign_Name (wpAny_store H1 hx (SlotOk.full r) fun s2 H2 c2 l2 ob => ?_)
  have hne1 : C ≠ env.locals := hCX _ H.locX
  have hne2 : ∀ y c, env.cells.lookup y = some c → C ≠ c := fun y c q => hCX c (H.cellX y c q).1
  have hns2 : ∃ m, s2.heap.Ns C m := by
    obtain ⟨m, o, es, ep, ho, q⟩ := hns
    exact ⟨m, o, es, ep, l2 C o hne1 (fun y q => hne2 y C q rfl) ho, q⟩
  obtain ⟨m, hm⟩ := hns2
  refine ⟨m, hm, fun h' hs' => ?_⟩
  refine wpAny_pure (wpAny_pure ?_)
  have H3 : Here G (Γ.set x .full (ak.res outs)) h₀ X₀ X env h' := H2.drop (X := X) (p := C) (fun a q => .inl q) (fun a o q e => (hs'.2 a q).trans e) (.inr rfl) (fun q => H.live C q hC) hC0 (fun a q => (H.x0 a q).1) H.locX (fun y c q => (H.cellX y c q).1) fun y d a q z => ?_
  · refine k { s2 with heap := h' } X (Grow.refl s X) H3 ⟨fun b o q e => ?_, c2.gens.trans e1.gens, c2.os.trans e1.os⟩
    have hbC : b ≠ C := fun z => by rw [z, hC] at e; cases e
    exact (hs'.2 b hbC).trans (c2.keep b o (q.imp id fun q z => z.elim q hbC) (e1.keep b o e))
  · have q' : Γ.vars.lookup y = some (.own, d) := by
      unfold Cx.set at q
      simp only [List.lookup_cons] at q
      cases hb : y == x with
      | true => rw [hb] at q; cases q
      | false => rw [hb] at q; exact q
    have hyx : y ≠ x := fun z => by
      subst z
      unfold Cx.set at q
      simp only [List.lookup_cons, beq_self_eq_true] at q
      cases q
    obtain ⟨a', b1, b2, _⟩ := H.owns y d q'
    have h5 := ob y _ hyx (b1.keep e1.keep)
    cases h5.unique z
    exact b2
end
end Mine

namespace Mine
section
variable {prog : Program} {w : World} {G : Glo prog w} {n : Nat} {Γ : Cx} {b : Bool}

variable (G) in
noncomputable def RepA (X : Addr → Prop) (h : Heap) : List (Fl × D) → List Value → Prop
  | [], vs => vs = []
  | (fl, d) :: ds, vs => ∃ v r, vs = v :: r ∧ RepF G X h d (fl == .full) v ∧ RepA X h ds r
theorem RepA.keep {X : Addr → Prop} {h h' : Heap} (hk : Keeps h h') : ∀ {ds : List (Fl × D)} {vs : List Value}, RepA G X h ds vs → RepA G X h' ds vs
  | [], vs, r => r
  | (fl, d) :: ds, vs, r => let ⟨v, q, e, r1, r2⟩ := r; ⟨v, q, e, r1.keep hk, RepA.keep hk r2⟩
theorem RepA.length {X : Addr → Prop} {h : Heap} : ∀ {ds : List (Fl × D)} {vs : List Value}, RepA G X h ds vs → vs.length = ds.length
  | [], vs, r => by rw [show vs = [] from r]; rfl
  | (fl, d) :: ds, vs, r => by obtain ⟨v, q, rfl, r1, r2⟩ := r; rw [List.length_cons, List.length_cons, RepA.length r2]

variable (G) in
noncomputable def Arg (n : Nat) (Γ : Cx) (pos : Pos) (es : List Expr) (ds : List (Fl × D)) : Prop :=
  ∀ {A : Around} {h₀ : Heap} {X₀ X : Addr → Prop} {env : Env} {s : Shared} {Q : List Value → Shared → Prop} {E : Value → Shared → Prop}, Room n A → Here G Γ h₀ X₀ X env s.heap →
    (∀ vs s', Ext s s' → RepA G X s'.heap ds vs → Q vs s') → wpAny (model prog w) A (spliced (backTo pos (starEach es env))) Q E s
theorem Arg.nil {pos : Pos} : Arg G n Γ pos [] [] := fun _ _ k => wpAny_items_nil (k _ _ (Ext.refl _) rfl)
theorem Arg.cons {pos : Pos} {e : Expr} {es : List Expr} {d : D} {fl : Fl} {ds : List (Fl × D)} (h : Ex G n Γ (fl == .full) e d) (hs : Arg G n Γ pos es ds)
    (he : ∀ env : Env, starEach (e :: es) env = (false, eval e env) :: starEach es env := by intro _; rfl) : Arg G n Γ pos (e :: es) ((fl, d) :: ds) := fun rm H k =>
  wpAny_items_cons (h rm H fun v s1 e1 r1 => hs rm (H.keep e1.keep) fun vs s2 e2 r2 => k _ _ (e1.trans e2) ⟨v, vs, rfl, r1.keep e2.keep, r2⟩) (he _)

theorem bind_get {kindOf : Str → Option NameKind} {x : Str} {v : Value} : ∀ {binds : List (Str × Value)} {m cm : Str → Option Value}, (x ∉ binds.map (·.1) → (kindOf x = some .local → m x = some v) ∧ (kindOf x ≠ some .local → cm x = some v)) → (x ∈ binds.map (·.1) → (x, v) ∈ binds) → (binds.map (·.1)).Nodup →
    (kindOf x = some .local → bindL kindOf binds m x = some v) ∧ (kindOf x ≠ some .local → bindC kindOf binds cm x = some v)
  | [], m, cm, h, _, _ => h (by simp)
  | (y, u) :: r, m, cm, h, hm, hn => by
    rw [List.map_cons, List.nodup_cons] at hn
    unfold bindL bindC
    refine bind_get (fun hr => ?_) (fun hr => ?_) hn.2
    · by_cases hy : x = y
      · subst hy
        have : (x, v) ∈ (x, u) :: r := hm (by simp)
        rcases List.mem_cons.mp this with e | e
        · cases e
          constructor
          · intro hk; rw [if_pos hk]; simp
          · intro hk; rw [if_neg hk]; simp
        · exact absurd (List.mem_map_of_mem (f := (·.1)) e) hr
      · have := h (by rw [List.map_cons, List.mem_cons]; exact fun q => q.elim hy hr)
        constructor
        · intro hk
          by_cases hq : kindOf y = some .local
          · rw [if_pos hq]; simp only [hy, if_false]; exact this.1 hk
          · rw [if_neg hq]; exact this.1 hk
        · intro hk
          by_cases hq : kindOf y = some .local
          · rw [if_pos hq]; exact this.2 hk
          · rw [if_neg hq]; simp only [hy, if_false]; exact this.2 hk
    · have : (x, v) ∈ (y, u) :: r := hm (by rw [List.map_cons]; exact List.mem_cons_of_mem _ hr)
      rcases List.mem_cons.mp this with e | e
      · cases e; exact absurd hr hn.1
      · exact e

/-- the slots of the parameters -/
noncomputable def paramVars (ps : List Str) (ds : List (Fl × D)) : List (Str × Fl × D) := ps.zip ds
theorem paramVars_look {ps : List Str} {X : Addr → Prop} {h : Heap} : ∀ {ps : List Str} {ds : List (Fl × D)} {vs : List Value} {x : Str} {fl : Fl} {d : D}, RepA G X h ds vs → (ps.zip ds).lookup x = some (fl, d) → ∃ v, (x, v) ∈ ps.zip vs ∧ RepF G X h d (fl == .full) v
  | [], ds, vs, x, fl, d, r, e => by simp at e
  | p :: ps, [], vs, x, fl, d, r, e => by simp at e
  | p :: ps, (fl', d') :: ds, vs, x, fl, d, r, e => by
    obtain ⟨v, q, rfl, r1, r2⟩ := r
    rw [List.zip_cons_cons, List.lookup_cons] at e
    cases hb : x == p with
    | true =>
      rw [hb] at e
      cases e
      exact ⟨v, by rw [beq_iff_eq.mp hb]; exact List.mem_cons_self, r1⟩
    | false =>
      rw [hb] at e
      obtain ⟨v', h1, h2⟩ := paramVars_look (ps := ps) r2 e
      exact ⟨v', List.mem_cons_of_mem _ h1, h2⟩

noncomputable def fnX (X : Addr → Prop) (L : Addr) (cells : List (Str × Addr)) (a : Addr) : Prop := X a ∨ a = L ∨ ∃ x, cells.lookup x = some a

/-- what a def of the module is -/
structure FnAt (mg : Str → Option Value) (h : Heap) (name : Str) (params : Arguments) (body : List Stmt) (scope : Scope) (a : Addr) (pm cd doc : Value) : Prop where
  glob : mg name = some (.ref a)
  obj : ∃ o, h.get? a = some o ∧ o.data = .func (Calls.docDef name params body scope pm cd doc)
  code : h.CodeRec cd name

/-- the frame of a call -/
theorem fn_here {h0 : Heap} {X : Addr → Prop} {s s1 : Shared} {fd : FuncData} {a : Addr} {ps : List Str} {ds : List (Fl × D)} {vals : List Value} (gl : G.P s.heap) (live : ∀ a, X a → s.heap.get? a ≠ none) (hk : fd.scope.kind = .function) (hg : fd.globals = mainGlobals) (hb : fd.builtins = builtinsNs)
    (hnames : ∀ x ∈ fd.scope.names, fd.scope.names.lookup x.1 = some x.2) (hfree : ∀ x ∈ fd.scope.names, x.2 ≠ .free)
    (hps : ∀ p ∈ ps, fd.scope.names.lookup p = some .local ∨ fd.scope.names.lookup p = some .cell) (hnd : ps.Nodup) (hfl : ∀ p ∈ ds, p.1 ≠ .own) (hra : RepA G X s.heap ds vals) (hlen : ps.length = ds.length)
    (I : InCallC s (callEnvC fd s.heap.objs.size a).locals (bindL (callEnvC fd s.heap.objs.size a).kindOf (ps.zip vals) fun _ => none) (callEnvC fd s.heap.objs.size a).cells (bindC (callEnvC fd s.heap.objs.size a).kindOf (ps.zip vals) fun _ => none) s1) :
    Here G ⟨fd.scope, cellNames fd.scope.names, ps.zip ds⟩ s.heap X (fnX X (callEnvC fd s.heap.objs.size a).locals (callEnvC fd s.heap.objs.size a).cells) (callEnvC fd s.heap.objs.size a) s1.heap := by
  have hL : s.heap.get? s.heap.objs.size = none := new_none _
  have hkeep : Keeps s.heap s1.heap := I.toInCall.keep
  have hcnew : ∀ {x : Str} {c : Addr}, (callEnvC fd s.heap.objs.size a).cells.lookup x = some c → s.heap.objs.size < c ∧ s.heap.get? c = none := fun {x c} q => by
    have h1 : s.heap.objs.size < c := I.above x c (mem_of_look q)
    refine ⟨h1, ?_⟩
    cases e : s.heap.get? c with
    | none => rfl
    | some o => exact absurd (Heap.lt_size e) (Nat.not_lt.mpr (Nat.le_of_lt h1))
  have hX : ∀ c, fnX X (callEnvC fd s.heap.objs.size a).locals (callEnvC fd s.heap.objs.size a).cells c → X c ∨ s.heap.get? c = none := fun c q => by
    rcases q with q | q | ⟨x, q⟩
    · exact .inl q
    · exact .inr (by rw [q]; exact hL)
    · exact .inr (hcnew q).2
  have hlen2 : ps.length = vals.length := by rw [hra.length]; exact hlen
  exact
  { scp := rfl
    kind := hk
    glb := hg
    blt := hb
    gl0 := gl
    base := hkeep
    x0 := fun c q => ⟨.inl q, live c q⟩
    live := fun c q => by
      rcases q with q | q | ⟨x, q⟩
      · cases e : s.heap.get? c with
        | none => exact absurd e (live c q)
        | some o => rw [hkeep c o e]; exact Option.some_ne_none _
      · obtain ⟨o, es, ep, e, _⟩ := I.toInCall.ns
        rw [q, e]; exact Option.some_ne_none _
      · obtain ⟨o, e, _⟩ := I.cell x c q
        rw [e]; exact Option.some_ne_none _
    locX := .inr (.inl rfl)
    locN := hL
    loc := ⟨_, I.toInCall.ns⟩
    cell := fun x q => by
      have hx : (x, NameKind.cell) ∈ fd.scope.names := by
        rcases q with q | q
        · exact mem_of_look q
        · exact absurd rfl (hfree _ (mem_of_look q))
      have hm : ((cellsFrom (s.heap.objs.size + 1) fd.scope.names []).lookup x).isSome = true := cellsFrom_some _ _ _ (.inl (hnames _ hx))
      obtain ⟨c, hc⟩ := Option.isSome_iff_exists.mp hm
      exact ⟨c, _, hc, I.cell x c hc⟩
    cellX := fun x c q => ⟨.inr (.inr ⟨x, q⟩), fun z => by
      have h1 := (hcnew q).1
      rw [z] at h1
      exact Nat.lt_irrefl _ h1⟩
    cellN := fun x _ c q => (hcnew q).2
    apart := fun x y c q1 q2 => name_of_addr I.apart (mem_of_look q1) (mem_of_look q2)
    vars := fun x fl d q => by
      obtain ⟨v, hm, hr⟩ := paramVars_look (ps := ps) hra q
      have hxp : x ∈ ps := (List.of_mem_zip hm).1
      have hnd' : ((ps.zip vals).map (·.1)).Nodup := by
        rw [List.map_fst_zip (by omega)]; exact hnd
      have huni : x ∈ (ps.zip vals).map (·.1) → (x, v) ∈ ps.zip vals := fun _ => hm
      obtain ⟨g1, g2⟩ := bind_get (kindOf := (callEnvC fd s.heap.objs.size a).kindOf) (x := x) (v := v) (m := fun _ => none) (cm := fun _ => none) (fun hn => absurd (List.mem_map_of_mem (f := (·.1)) hm) hn) huni hnd'
      refine ⟨v, ?_, ?_, fun hne c e => ?_⟩
      · rcases hps x hxp with hl | hl
        · exact .inl ⟨hl, _, I.toInCall.ns, g1 hl⟩
        · have hx : (x, NameKind.cell) ∈ fd.scope.names := mem_of_look hl
          have hm' : ((cellsFrom (s.heap.objs.size + 1) fd.scope.names []).lookup x).isSome = true := cellsFrom_some _ _ _ (.inl hl)
          obtain ⟨c, hc⟩ := Option.isSome_iff_exists.mp hm'
          have hcv := I.cell x c hc
          rw [g2 (by show fd.scope.names.lookup x ≠ some .local; rw [hl]; decide)] at hcv
          exact .inr ⟨.inl hl, c, hc, hcv⟩
      · exact RepF.move (fun c o _ e => hkeep c o e) hX d _ v hr fun _ c o _ e => hkeep c o e
      · have hal : s.heap.get? c ≠ none := by obtain ⟨o, ho⟩ := hr.live c e; rw [ho]; exact Option.some_ne_none _
        exact ⟨fun z => hal (by rw [z]; exact hL), fun y c' q' z => hal (by rw [z]; exact (hcnew q').2), fun _ => hal⟩
    owns := fun x d q => by
      have := mem_of_look q
      exact absurd rfl (hfl _ (List.of_mem_zip this).2)
    ownsApart := fun x y d d' c q => by
      have := mem_of_look q
      exact absurd rfl (hfl _ (List.of_mem_zip this).2) }

/-- what is asked of a def: it is plain -/
structure PlainDef (params : Arguments) (body : List Stmt) (scope : Scope) (ps : List Str) : Prop where
  kind : scope.kind = .function
  co : scope.isCoroutine = false
  gen : scope.isGenerator = false
  names : ∀ x ∈ scope.names, scope.names.lookup x.1 = some x.2
  free : ∀ x ∈ scope.names, x.2 ≠ .free
  pk : ∀ p ∈ ps, scope.names.lookup p = some .local ∨ scope.names.lookup p = some .cell
  nodup : ps.Nodup
  bind : ∀ (name : Str) (pm cd doc : Value) (vals : List Value), vals.length = ps.length → bindArgs (Calls.docDef name params body scope pm cd doc) ⟨vals, []⟩ = pure (ps.zip vals)

theorem Room.deep {A : Around} {env : Env} (r : Room (n + 1) A) : Room n (A.deeper env) := by
  obtain ⟨h1, h2, h3⟩ := r
  refine ⟨h1, ?_, ?_⟩
  · show A.depth + 1 + n < 900; omega
  · show A.units + 3 + 10 * n < 9000; omega

/-- the call of a def that ends in a value -/
theorem wpAny_fn {name : Str} {params : Arguments} {body : List Stmt} {scope : Scope} {ps : List Str} {ds : List (Fl × D)} {d : D} {A : Around} {X : Addr → Prop} {s : Shared} {a : Addr} {pm cd doc : Value} {vals : List Value} {Q : Value → Shared → Prop} {E : Value → Shared → Prop}
    (P : PlainDef params body scope ps) (rm : Room (n + 1) A) (gl : G.P s.heap) (live : ∀ a, X a → s.heap.get? a ≠ none) (f : FnAt G.mg s.heap name params body scope a pm cd doc) (hfl : ∀ p ∈ ds, p.1 ≠ .own) (hlen : ps.length = ds.length) (hra : RepA G X s.heap ds vals)
    (hrun : Runs G n ⟨scope, cellNames scope.names, ps.zip ds⟩ body (fun o => o = .ret d))
    (k : ∀ v s', Ext s s' → RepF G X s'.heap d true v → Q v s') : wpAny (model prog w) A (call (.ref a) vals) Q E s := by
  obtain ⟨o, ho, hd⟩ := f.obj
  have hlen2 : vals.length = ps.length := by rw [hra.length]; exact hlen.symm
  refine wpAny_call (codeAny_call_cells (fd := Calls.docDef name params body scope pm cd doc) (binds := ps.zip vals) (Nat.lt_of_lt_of_le (by have := rm.2.1; show A.depth < 900; omega) (by decide)) ho hd (G.lim gl) f.code rfl (P.bind name pm cd doc vals hlen2) rfl (fun x hx => ?_) (fun s1 I => ?_) P.co P.gen P.kind)
  · have hxp : x.1 ∈ ps := (List.of_mem_zip (a := x.1) (b := x.2) hx).1
    rcases P.pk _ hxp with h | h
    · exact .inl h
    · exact .inr ⟨h, cellsFrom_some _ _ _ (.inl h)⟩
  · have H := fn_here (fd := Calls.docDef name params body scope pm cd doc) (h0 := s.heap) gl live P.kind rfl rfl P.names P.free P.pk P.nodup hfl hra hlen I
    obtain ⟨h1, tk, hs1⟩ := I.toInCall.same
    refine hrun rm.deep H fun o' fl s' e q => ?_
    subst e
    obtain ⟨v, rfl, r, c⟩ := q
    refine k v s' ⟨fun b ob e => ?_, c.gens.trans (by rw [hs1]), c.os.trans (by rw [hs1])⟩ r
    exact c.keep b ob (.inl (by rw [e]; exact Option.some_ne_none _)) (I.toInCall.keep b ob e)

theorem wpAny_globalName {x : Str} {pos : Pos} {v : Value} {A : Around} {h₀ : Heap} {X₀ X : Addr → Prop} {env : Env} {s : Shared} {Q : Value → Shared → Prop} {E : Value → Shared → Prop} (H : Here G Γ h₀ X₀ X env s.heap)
    (hx : Γ.sc.names.lookup x = some .globalImplicit) (hv : G.mg x = some v) (h : Q v s) (hd : (x == ("__debug__" : Str)) = false := by decide) : wpAny (model prog w) A (eval (.Name x pos) env) Q E s :=
  Calls.Name_function_global (by rw [H.scp]; exact H.kind) (by unfold Env.kindOf; rw [H.scp]; exact hx)
    (Calls.loadGlobal_global (by rw [H.glb]; exact G.g H.gl) hv h) hd

theorem FnAt.keep {mg : Str → Option Value} {h h' : Heap} {name : Str} {params : Arguments} {body : List Stmt} {scope : Scope} {a : Addr} {pm cd doc : Value} (f : FnAt mg h name params body scope a pm cd doc) (hk : Keeps h h') : FnAt mg h' name params body scope a pm cd doc :=
  ⟨f.glob, let ⟨o, ho, hd⟩ := f.obj; ⟨o, hk a o ho, hd⟩, by
    obtain ⟨c, oc, vs, tq, h1, h2, h3⟩ := f.code
    exact ⟨c, oc, vs, tq, h1, hk _ _ h2, h3⟩⟩

theorem Ex.call {name : Str} {params : Arguments} {body : List Stmt} {scope : Scope} {ps : List Str} {ds : List (Fl × D)} {d : D} {es : List Expr} {px pos : Pos}
    (P : PlainDef params body scope ps) (hf : ∀ {h : Heap}, G.P h → ∃ a pm cd doc, FnAt G.mg h name params body scope a pm cd doc) (args : Arg G (n + 1) Γ pos es ds)
    (hrun : Runs G n ⟨scope, cellNames scope.names, ps.zip ds⟩ body (fun o => o = .ret d)) (hlen : ps.length = ds.length := by rfl) (hfl : ∀ p ∈ ds, p.1 ≠ .own := by simp)
    (hx : Γ.sc.names.lookup name = some .globalImplicit := by rfl) (hd : (name == ("__debug__" : Str)) = false := by decide)
    (he : ∀ env : Env, ∃ e r, starEach es env = (false, eval e env) :: r := by (intro _; exact ⟨_, _, rfl⟩)) : Ex G (n + 1) Γ b (.Call (.Name name px) es [] pos) d := by
  intro A h₀ X₀ X env s Q E rm H k
  obtain ⟨a, pm, cd, doc, f⟩ := hf H.gl
  obtain ⟨o, ho, hdd⟩ := f.obj
  refine wpAny_Call_NameR (wpAny_globalName H hx f.glob (Calls.callWith_function (o := o) (fd := Calls.docDef name params body scope pm cd doc) ?_) hd)
  obtain ⟨e, r, her⟩ := he env
  have key : wpAny (model prog w) A (spliced (backTo pos (starEach es env))) (fun vs s' => (s'.heap.get? a = some o ∧ o.data = .func (Calls.docDef name params body scope pm cd doc)) ∧ wpAny (model prog w) A (PySem.call (.ref a) ([] ++ vs) []) Q E s') E s :=
    args rm H fun vs s1 e1 ra => ⟨⟨e1.keep a o ho, hdd⟩, wpAny_fn (ds := ds) P rm (G.keeps e1.keep H.gl) (H.keep e1.keep).live (f.keep e1.keep) hfl hlen ra hrun fun v s' e2 r2 => k v s' (e1.trans e2) r2.weak⟩
  rw [her] at key ⊢
  exact Calls.evalArgs_plain key
end
end Mine

namespace Mine
section
variable {prog : Program} {w : World} {G : Glo prog w} {n : Nat} {Γ : Cx} {b : Bool}

noncomputable abbrev ourBuiltins : List Str := [Str.ofString "range", Str.ofString "sum", Str.ofString "min", Str.ofString "len", Str.ofString "str", Str.ofString "enumerate", Str.ofString "isinstance", Str.ofString "tuple", Str.ofString "zip"]

variable (G) in
/-- a call of v with one value -/
noncomputable def Call1 (n : Nat) (f : Value) (d1 : D) (b1 : Bool) (b : Bool) (d : D) : Prop :=
  ∀ {A : Around} {X : Addr → Prop} {s : Shared} {Q : Value → Shared → Prop} {E : Value → Shared → Prop} {v : Value}, Room n A → G.P s.heap → (∀ a, X a → s.heap.get? a ≠ none) → RepF G X s.heap d1 b1 v →
    (∀ u s', Ext s s' → RepF G X s'.heap d b u → Q u s') → wpAny (model prog w) A (call f [v]) Q E s

theorem Ex.builtin1 {id : String} {x : Str} {e : Expr} {px pos : Pos} {d1 d : D} {b1 : Bool} (h : Ex G n Γ b1 e d1) (hc : Call1 G n (.builtin id) d1 b1 b d) (hm : x ∈ ourBuiltins) (hv : bootBuiltins x = some (.builtin id)) (hn : x ≠ "__name__") (hd : (x == ("__debug__" : Str)) = false)
    (hx : Γ.sc.names.lookup x = some .globalImplicit := by rfl) (he : ∀ env : Env, starEach [e] env = [(false, eval e env)] := by intro _; rfl) : Ex G n Γ b (.Call (.Name x px) [e] [] pos) d := by
  intro A h₀ X₀ X env s Q E rm H k
  refine wpAny_Call_NameR (wpAny_builtinName H hx hm hv hn (Calls.callWith_builtin (by rw [he]; rfl) (evalArgs_of (he env) (wpAny_items_cons (h rm H fun v s1 e1 r1 => wpAny_items_nil ?_) (he env)))) hd)
  exact hc rm (G.keeps e1.keep H.gl) (H.keep e1.keep).live r1 fun u s' e2 r2 => k u s' (e1.trans e2) r2
theorem Ex.type1 {T : String} {x : Str} {e : Expr} {px pos : Pos} {d1 d : D} {b1 : Bool} (h : Ex G n Γ b1 e d1) (hc : Call1 G n (.type T) d1 b1 b d) (hm : x ∈ ourBuiltins) (hv : bootBuiltins x = some (.type T)) (hn : x ≠ "__name__") (hd : (x == ("__debug__" : Str)) = false)
    (hx : Γ.sc.names.lookup x = some .globalImplicit := by rfl) (he : ∀ env : Env, starEach [e] env = [(false, eval e env)] := by intro _; rfl) : Ex G n Γ b (.Call (.Name x px) [e] [] pos) d := by
  intro A h₀ X₀ X env s Q E rm H k
  refine wpAny_Call_NameR (wpAny_builtinName H hx hm hv hn (PySem.callWith_type (by rw [he]; rfl) (evalArgs_of (he env) (wpAny_items_cons (h rm H fun v s1 e1 r1 => wpAny_items_nil ?_) (he env)))) hd)
  exact hc rm (G.keeps e1.keep H.gl) (H.keep e1.keep).live r1 fun u s' e2 r2 => k u s' (e1.trans e2) r2

theorem repL_ints {X : Addr → Prop} {h : Heap} : ∀ {ns : List Int} {vs : List Value}, RepL G X h (ns.map D.int) vs → ∃ xs : List (Int × Tok), vs = xs.map (fun p => Value.int p.1 p.2) ∧ xs.map (·.1) = ns
  | [], vs, r => by unfold RepL at r; exact ⟨[], by simpa using r, rfl⟩
  | i :: ns, vs, r => by
    rw [List.map_cons] at r
    unfold RepL at r
    obtain ⟨v, q, rfl, r1, r2⟩ := r
    obtain ⟨t, rfl⟩ := repI.mp r1
    obtain ⟨xs, rfl, e⟩ := repL_ints r2
    exact ⟨(i, t) :: xs, rfl, by rw [List.map_cons, e]⟩
theorem repL_ints' {X : Addr → Prop} {h : Heap} {ns : List Int} {vs : Array Value} (r : RepL G X h (ns.map D.int) vs.toList) : ∃ xs : Array (Int × Tok), vs = intItems xs ∧ xs.toList.map (·.1) = ns := by
  obtain ⟨xs, e, e2⟩ := repL_ints r
  refine ⟨xs.toArray, ?_, by simpa using e2⟩
  obtain ⟨vs⟩ := vs
  simp only at e
  subst e
  simp [intItems]

theorem call_sum {ns : List Int} {b1 : Bool} : Call1 G n (.builtin "sum") (.list (ns.map D.int)) b1 b (.int ns.sum) := by
  intro A X s Q E v rm gl live r k
  obtain ⟨a, vs, m, rfl, hb, hl, rl⟩ := repL.mp r
  obtain ⟨xs, rfl, e⟩ := repL_ints' rl
  refine sum_intListG rm.1 hl.isList fun h' tk t' hk => k _ _ (Ext.heap hk) (repI.mpr ⟨t', ?_⟩)
  rw [preSum_eq, e]
  have : xs.size = ns.length := by rw [← e]; simp
  rw [this, List.take_length]
theorem Ex.sum {e : Expr} {px pos : Pos} {ns : List Int} {l : List D} {b1 : Bool} (h : Ex G n Γ b1 e (.list l)) (hl : l = ns.map D.int) (hx : Γ.sc.names.lookup (Str.ofString "sum") = some .globalImplicit := by rfl)
    (he : ∀ env : Env, starEach [e] env = [(false, eval e env)] := by intro _; rfl) : Ex G n Γ b (.Call (.Name (Str.ofString "sum") px) [e] [] pos) (.int ns.sum) := by
  subst hl
  exact Ex.builtin1 h call_sum (by decide) (by decide +kernel) (by decide) (by decide) hx he

theorem call_min {ns : List Int} {M : Int} {b1 : Bool} (hM : M ∈ ns) (hle : ∀ a ∈ ns, M ≤ a) : Call1 G n (.builtin "min") (.list (ns.map D.int)) b1 b (.int M) := by
  intro A X s Q E v rm gl live r k
  obtain ⟨a, vs, m, rfl, hb, hl, rl⟩ := repL.mp r
  obtain ⟨xs, rfl, e⟩ := repL_ints' rl
  have hlen : xs.size = ns.length := by rw [← e]; simp
  have hpos : 0 < xs.size := by rw [hlen]; exact List.length_pos_of_mem hM
  refine min_intList rm.1 hl.isList hpos fun v h' tk hv hk => ?_
  obtain ⟨t, rfl⟩ := intItems_at hv
  obtain ⟨h1, h2⟩ := argBest_lt (numAt xs) (xs.size - 1)
  refine k _ _ (Ext.heap hk) (repI.mpr ⟨t, ?_⟩)
  have hmin : numAt xs (argBest (fun i j => decide (numAt xs i < numAt xs j)) (xs.size - 1)) = M := by
    refine Int.le_antisymm ?_ ?_
    · rw [← e] at hM
      obtain ⟨j, hj, hj2⟩ := mem_getD hM
      rw [← hj2, ← numAt_eq]
      rw [List.length_map, Array.length_toList] at hj
      exact h2 j (by omega)
    · refine hle _ ?_
      rw [← e, numAt_eq]
      exact getD_mem (by rw [List.length_map, Array.length_toList]; omega)
  rw [hmin]
theorem Ex.min {e : Expr} {px pos : Pos} {ns : List Int} {M : Int} {l : List D} {b1 : Bool} (h : Ex G n Γ b1 e (.list l)) (hl : l = ns.map D.int) (hM : M ∈ ns) (hle : ∀ a ∈ ns, M ≤ a) (hx : Γ.sc.names.lookup (Str.ofString "min") = some .globalImplicit := by rfl)
    (he : ∀ env : Env, starEach [e] env = [(false, eval e env)] := by intro _; rfl) : Ex G n Γ b (.Call (.Name (Str.ofString "min") px) [e] [] pos) (.int M) := by
  subst hl
  exact Ex.builtin1 h (call_min hM hle) (by decide) (by decide +kernel) (by decide) (by decide) hx he
theorem Ex.min2 {e f : Expr} {px pos : Pos} {i j : Int} (h1 : Ex G n Γ true e (.int i)) (h2 : Ex G n Γ true f (.int j)) (hx : Γ.sc.names.lookup (Str.ofString "min") = some .globalImplicit := by rfl)
    (he : ∀ env : Env, starEach [e, f] env = [(false, eval e env), (false, eval f env)] := by intro _; rfl) (hf : ∀ env : Env, starEach [f] env = [(false, eval f env)] := by intro _; rfl) : Ex G n Γ b (.Call (.Name (Str.ofString "min") px) [e, f] [] pos) (.int (if j < i then j else i)) := by
  intro A h₀ X₀ X env s Q E rm H k
  have he'' : starEach [e, f] env = (false, eval e env) :: starEach [f] env := by rw [he env, hf env]
  refine wpAny_Call_NameR (wpAny_builtinName H hx (by decide) (v := .builtin "min") (by decide +kernel) (by decide) (Calls.callWith_builtin (by rw [he]; rfl) (evalArgs_of he'' (wpAny_items_cons (h1 rm H fun v s1 e1 r1 => wpAny_items_cons (h2 rm (H.keep e1.keep) fun v2 s2 e2 r2 => wpAny_items_nil ?_) (hf env)) he''))))
  obtain ⟨t, rfl⟩ := repI.mp r1
  obtain ⟨u, rfl⟩ := repI.mp r2
  refine min_two_ints rm.1 fun h' tk hk => k _ _ ((e1.trans e2).trans (Ext.heap hk)) ?_
  by_cases c : j < i
  · rw [if_pos c, if_pos c]; exact repI.mpr ⟨_, rfl⟩
  · rw [if_neg c, if_neg c]; exact repI.mpr ⟨_, rfl⟩

theorem call_len {l : List D} {b1 : Bool} (hf : l.length < 2 ^ 60) : Call1 G n (.builtin "len") (.list l) b1 b (.int l.length) := by
  intro A X s Q E v rm gl live r k
  obtain ⟨a, vs, m, rfl, hb, hl, rl⟩ := repL.mp r
  have hlen : vs.size = l.length := by have := rl.length; simpa using this
  refine Calls.call_len_list hl.isList (by rw [hlen]; omega) (k _ _ Ext.tok (repI.mpr ⟨_, by rw [hlen]⟩))
theorem Ex.len {e : Expr} {px pos : Pos} {l : List D} {b1 : Bool} (h : Ex G n Γ b1 e (.list l)) (hl : l.length < 2 ^ 60) (hx : Γ.sc.names.lookup (Str.ofString "len") = some .globalImplicit := by rfl)
    (he : ∀ env : Env, starEach [e] env = [(false, eval e env)] := by intro _; rfl) : Ex G n Γ b (.Call (.Name (Str.ofString "len") px) [e] [] pos) (.int l.length) :=
  Ex.builtin1 h (call_len hl) (by decide) (by decide +kernel) (by decide) (by decide) hx he

theorem call_str {i : Int} {b1 : Bool} (hi : i.natAbs.log2 < 1920) : Call1 G n (.type "str") (.int i) b1 b (.str (Str.ofString (toString i))) := by
  intro A X s Q E v rm gl live r k
  obtain ⟨t, rfl⟩ := repI.mp r
  exact PySem.P.str_of_int hi (k _ _ Ext.tok (repS.mpr ⟨_, rfl⟩))
theorem Ex.strOf {e : Expr} {px pos : Pos} {i : Int} (h : Ex G n Γ true e (.int i)) (hi : i.natAbs.log2 < 1920) (hx : Γ.sc.names.lookup (Str.ofString "str") = some .globalImplicit := by rfl)
    (he : ∀ env : Env, starEach [e] env = [(false, eval e env)] := by intro _; rfl) : Ex G n Γ b (.Call (.Name (Str.ofString "str") px) [e] [] pos) (.str (Str.ofString (toString i))) :=
  Ex.type1 h (call_str hi) (by decide) (by decide +kernel) (by decide) (by decide) hx he

/-- isinstance(an int, tuple) -/
theorem Ex.isTup {e : Expr} {px pt pos : Pos} {i : Int} (h : Ex G n Γ true e (.int i)) (hx : Γ.sc.names.lookup (Str.ofString "isinstance") = some .globalImplicit := by rfl) (ht : Γ.sc.names.lookup (Str.ofString "tuple") = some .globalImplicit := by rfl)
    (he : ∀ env : Env, starEach [e, .Name (Str.ofString "tuple") pt] env = (false, eval e env) :: starEach [.Name (Str.ofString "tuple") pt] env := by intro _; rfl) : Ex G n Γ b (.Call (.Name (Str.ofString "isinstance") px) [e, .Name (Str.ofString "tuple") pt] [] pos) (.bool false) := by
  intro A h₀ X₀ X env s Q E rm H k
  refine wpAny_Call_NameR (wpAny_builtinName H hx (by decide) (v := .builtin "isinstance") (by decide +kernel) (by decide) (Calls.callWith_builtin (by rw [he]; rfl) (evalArgs_of (he env) (wpAny_items_cons (h rm H fun v s1 e1 r1 => ?_) (he env)))))
  obtain ⟨t, rfl⟩ := repI.mp r1
  refine wpAny_items_cons (wpAny_builtinName (H.keep e1.keep) ht (by decide) (v := .type "tuple") (by decide +kernel) (by decide) (wpAny_items_nil ?_)) rfl
  exact PySem.IsiPair.int_tuple (k _ _ e1.toks (repB.mpr rfl))
end
end Mine

namespace Mine

mutual
/-- the library's word for data without dicts -/
noncomputable def toPy : D → PyData
  | .none => .none
  | .bool b => .bool b
  | .int i => .int i
  | .str s => .str s
  | .list l => .list (toPys l)
  | .tup l => .tuple (toPys l)
  | .dict _ => .none
  | .comp _ => .none
noncomputable def toPys : List D → List PyData
  | [] => []
  | d :: ds => toPy d :: toPys ds
end
mutual
noncomputable def pyOk : D → Bool
  | .none => true
  | .bool _ => true
  | .int _ => true
  | .str _ => true
  | .list l => pysOk l
  | .tup l => pysOk l
  | .dict _ => false
  | .comp _ => false
noncomputable def pysOk : List D → Bool
  | [] => true
  | d :: ds => pyOk d && pysOk ds
end

section
variable {prog : Program} {w : World} {G : Glo prog w} {n : Nat} {Γ : Cx} {b : Bool}
mutual
theorem reads_of {X : Addr → Prop} {h : Heap} : ∀ (d : D) (b : Bool) (v : Value), pyOk d = true → RepF G X h d b v → ∃ as, Reads h v (toPy d) as
  | .none, b, v, _, r => by rw [repN.mp r]; unfold toPy; exact ⟨[], .none⟩
  | .bool x, b, v, _, r => by rw [repB.mp r]; unfold toPy; exact ⟨[], .bool x⟩
  | .int i, b, v, _, r => by obtain ⟨t, rfl⟩ := repI.mp r; unfold toPy; exact ⟨[], .int i t⟩
  | .str x, b, v, _, r => by obtain ⟨t, rfl⟩ := repS.mp r; unfold toPy; exact ⟨[], .str x t⟩
  | .list l, b, v, ok, r => by
    obtain ⟨a, vs, m, rfl, _, hl, rl⟩ := repL.mp r
    unfold pyOk at ok
    obtain ⟨as, q⟩ := readsAll_of l _ ok rl
    unfold toPy
    exact ⟨_, .list hl rfl rfl q⟩
  | .tup l, b, v, ok, r => by
    obtain ⟨a, vs, rfl, _, hl, rl⟩ := repT.mp r
    unfold pyOk at ok
    obtain ⟨as, q⟩ := readsAll_of l _ ok rl
    unfold toPy
    exact ⟨_, .tuple hl rfl rfl q⟩
  | .dict _, b, v, ok, r => by unfold pyOk at ok; cases ok
  | .comp _, b, v, ok, r => by unfold pyOk at ok; cases ok
theorem readsAll_of {X : Addr → Prop} {h : Heap} : ∀ (l : List D) (vs : List Value), pysOk l = true → RepL G X h l vs → ∃ as, ReadsAll h vs (toPys l) as
  | [], vs, _, r => by unfold RepL at r; subst r; unfold toPys; exact ⟨[], .nil⟩
  | d :: ds, vs, ok, r => by
    unfold RepL at r
    obtain ⟨v, q, rfl, r1, r2⟩ := r
    unfold pysOk at ok
    rw [Bool.and_eq_true] at ok
    obtain ⟨as, h1⟩ := reads_of d true v ok.1 r1
    obtain ⟨bs, h2⟩ := readsAll_of ds q ok.2 r2
    unfold toPys
    exact ⟨_, .cons h1 h2⟩
end
theorem Cmp.eqD {d1 d2 : D} {b1 b2 c : Bool} (o1 : pyOk d1 = true) (o2 : pyOk d2 = true) (s1 : SeqAt.shaped (toPy d1) = true) (s2 : SeqAt.shaped (toPy d2) = true) (hc : PyData.eqv (toPy d1) (toPy d2) = c) : Cmp G n .Eq d1 b1 d2 b2 c := by
  intro A X s Q E v1 v2 rm r1 r2 k
  obtain ⟨as, h1⟩ := reads_of d1 b1 v1 o1 r1
  obtain ⟨bs, h2⟩ := reads_of d2 b2 v2 o2 r2
  exact eq_dataH h1 h2 s1 s2 (by have := rm.2.2; have e : cLine = 9900 := rfl; omega) (by rw [hc]; exact k s (Ext.refl s))
theorem Cmp.neD {d1 d2 : D} {b1 b2 c : Bool} (o1 : pyOk d1 = true) (o2 : pyOk d2 = true) (s1 : SeqAt.shaped (toPy d1) = true) (s2 : SeqAt.shaped (toPy d2) = true) (hc : PyData.eqv (toPy d1) (toPy d2) = !c) : Cmp G n .NotEq d1 b1 d2 b2 c := by
  intro A X s Q E v1 v2 rm r1 r2 k
  obtain ⟨as, h1⟩ := reads_of d1 b1 v1 o1 r1
  obtain ⟨bs, h2⟩ := reads_of d2 b2 v2 o2 r2
  exact ne_dataH h1 h2 s1 s2 (by have := rm.2.2; have e : cLine = 9900 := rfl; omega) (by rw [hc, Bool.not_not]; exact k s (Ext.refl s))

/-! dicts -/
theorem valueAt_vals {vals : List (Str × Int × Tok)} {kvs : List (Str × Int)} (e : vals.map (fun x => (x.1, x.2.1)) = kvs) (k : Str) :
    (valueAt (intPairs vals) k = none ∧ kvs.lookup k = none) ∨ ∃ i t, valueAt (intPairs vals) k = some (.int i t) ∧ kvs.lookup k = some i := by
  subst e
  induction vals with
  | nil => exact .inl ⟨rfl, rfl⟩
  | cons p r ih =>
    obtain ⟨k', i, t⟩ := p
    unfold valueAt intPairs
    simp only [List.map_cons, List.find?_cons, List.lookup_cons]
    by_cases h : k' = k
    · subst h
      exact .inr ⟨i, t, by simp⟩
    · have h1 : decide (k' = k) = false := by simpa using h
      have h2 : (k == k') = false := beq_eq_false_iff_ne.mpr (Ne.symm h)
      simp only [h1, h2]
      exact ih
theorem Cmp.inDict {k : Str} {kvs : List (Str × Int)} {b1 b2 : Bool} : Cmp G n .In (.str k) b1 (.dict kvs) b2 (kvs.lookup k).isSome := by
  intro A X s Q E v1 v2 rm r1 r2 kk
  obtain ⟨t, rfl⟩ := repS.mp r1
  obtain ⟨a, rfl, _, hd⟩ := repD.mp r2
  obtain ⟨vals, ep, _, hv, hsys, hof⟩ := hd.of
  refine wpAny_in_of (knd := strKind prog w) (k := k) (strKind_is prog w k t) hsys hof.mapOf ?_
  rcases valueAt_vals hv k with ⟨h1, h2⟩ | ⟨i, u, h1, h2⟩
  · rw [h1]; rw [h2] at kk; exact kk _ Ext.tok
  · rw [h1]; rw [h2] at kk; exact kk _ Ext.tok

theorem eqAt_int {A : Around} {s : Shared} {i j : Int} {t u : Tok} : SeqAt.EqAt A s (.int i t) (.int j u) (i == j) := (MeetsSeq.EqGives.int i j t u).at A s
theorem eqAt_str {A : Around} {s : Shared} {x y : Str} {t u : Tok} : SeqAt.EqAt A s (.str x t) (.str y u) (x == y) := (eqGives_str x y t u).at A s
theorem any_ints {xs : Array (Int × Tok)} {j : Int} : (intItems xs).any (fun v => match v with | .int i _ => i == j | _ => false) = (xs.toList.map (·.1)).contains j := by
  obtain ⟨l⟩ := xs
  unfold intItems
  simp only [List.map_toArray, List.any_toArray, List.any_map]
  induction l with
  | nil => rfl
  | cons p r ih =>
    obtain ⟨i, t⟩ := p
    simp only [List.any_cons, List.map_cons, List.contains_cons, Function.comp]
    rw [ih]
    congr 1
    exact Bool.beq_comm
theorem Cmp.inInts {j : Int} {ns : List Int} {b1 b2 : Bool} {l : List D} (hl : l = ns.map D.int) : Cmp G n .In (.int j) b1 (.list l) b2 (ns.contains j) := by
  subst hl
  intro A X s Q E v1 v2 rm r1 r2 k
  obtain ⟨t, rfl⟩ := repI.mp r1
  obtain ⟨a, vs, m, rfl, hb, hl, rl⟩ := repL.mp r2
  obtain ⟨xs, rfl, e⟩ := repL_ints' rl
  refine SeqAt.in_listAt (fun v => match v with | .int i _ => i == j | _ => false) hl.isList (fun y hy => ?_) ?_
  · obtain ⟨p, hp, rfl⟩ := Array.mem_map.mp hy
    exact eqAt_int
  · rw [any_ints, e]; exact k s (Ext.refl s)
theorem Cmp.notInInts {j : Int} {ns : List Int} {b1 b2 : Bool} {l : List D} (hl : l = ns.map D.int) : Cmp G n .NotIn (.int j) b1 (.list l) b2 (!ns.contains j) := by
  subst hl
  intro A X s Q E v1 v2 rm r1 r2 k
  obtain ⟨t, rfl⟩ := repI.mp r1
  obtain ⟨a, vs, m, rfl, hb, hl, rl⟩ := repL.mp r2
  obtain ⟨xs, rfl, e⟩ := repL_ints' rl
  refine SeqAt.notIn_listAt (fun v => match v with | .int i _ => i == j | _ => false) hl.isList (fun y hy => ?_) ?_
  · obtain ⟨p, hp, rfl⟩ := Array.mem_map.mp hy
    exact eqAt_int
  · rw [any_ints, e]; exact k s (Ext.refl s)
theorem repL_strs {X : Addr → Prop} {h : Heap} : ∀ {ns : List Str} {vs : List Value}, RepL G X h (ns.map D.str) vs → ∃ xs : List (Str × Tok), vs = xs.map (fun p => Value.str p.1 p.2) ∧ xs.map (·.1) = ns
  | [], vs, r => by unfold RepL at r; exact ⟨[], by simpa using r, rfl⟩
  | i :: ns, vs, r => by
    rw [List.map_cons] at r
    unfold RepL at r
    obtain ⟨v, q, rfl, r1, r2⟩ := r
    obtain ⟨t, rfl⟩ := repS.mp r1
    obtain ⟨xs, rfl, e⟩ := repL_strs r2
    exact ⟨(i, t) :: xs, rfl, by rw [List.map_cons, e]⟩
theorem any_strs {xs : List (Str × Tok)} {j : Str} : ((xs.map (fun p => Value.str p.1 p.2)).any (fun v => match v with | .str i _ => i == j | _ => false)) = (xs.map (·.1)).contains j := by
  induction xs with
  | nil => rfl
  | cons p r ih =>
    obtain ⟨i, t⟩ := p
    simp only [List.any_cons, List.map_cons, List.contains_cons]
    rw [ih]
    congr 1
    exact Bool.beq_comm
theorem Cmp.notInStrs {j : Str} {ns : List Str} {b1 b2 : Bool} {l : List D} (hl : l = ns.map D.str) : Cmp G n .NotIn (.str j) b1 (.list l) b2 (!ns.contains j) := by
  subst hl
  intro A X s Q E v1 v2 rm r1 r2 k
  obtain ⟨t, rfl⟩ := repS.mp r1
  obtain ⟨a, vs, m, rfl, hb, hl, rl⟩ := repL.mp r2
  obtain ⟨xs, e0, e⟩ := repL_strs rl
  obtain ⟨vs⟩ := vs
  simp only at e0
  subst e0
  refine SeqAt.notIn_listAt (fun v => match v with | .str i _ => i == j | _ => false) hl.isList (fun y hy => ?_) ?_
  · obtain ⟨p, hp, rfl⟩ := List.mem_map.mp (Array.mem_toList_iff.mpr hy)
    exact eqAt_str
  · rw [List.any_toArray, any_strs, e]; exact k s (Ext.refl s)

/-- two dicts: the same keys, each with the same value -/
theorem eqHits {A : Around} {s : Shared} {kb : List (Str × Value)} {valsB : List (Str × Int × Tok)} {kvsB : List (Str × Int)} (eB : valsB.map (fun x => (x.1, x.2.1)) = kvsB) (hkb : kb = intPairs valsB) :
    ∀ {valsA : List (Str × Int × Tok)}, KeqHits A s kb (intPairs valsA) ((valsA.map fun x => (x.1, x.2.1)).all fun p => kvsB.lookup p.1 == some p.2)
  | [] => .nil
  | (k, i, t) :: r => by
    subst hkb
    show KeqHits A s (intPairs valsB) ((k, Value.int i t) :: intPairs r) _
    rw [List.map_cons, List.all_cons]
    rcases valueAt_vals eB k with ⟨h1, h2⟩ | ⟨j, u, h1, h2⟩
    · rw [h2]; exact .miss h1
    · have e : (kvsB.lookup k == some i) = (i == j) := by
        rw [h2]
        show (j == i) = (i == j)
        exact Bool.beq_comm
      simp only [e]
      exact .hit h1 eqAt_int (eqHits eB rfl)
theorem Cmp.neDict {ka kb : List (Str × Int)} {b1 b2 : Bool} : Cmp G n .NotEq (.dict ka) b1 (.dict kb) b2 (!(ka.length == kb.length && ka.all fun p => kb.lookup p.1 == some p.2)) := by
  intro A X s Q E v1 v2 rm r1 r2 k
  obtain ⟨a, rfl, _, hd⟩ := repD.mp r1
  obtain ⟨c, rfl, _, hd2⟩ := repD.mp r2
  obtain ⟨va, _, _, hva, hsa, hofa⟩ := hd.of
  obtain ⟨vb, _, _, hvb, hsb, hofb⟩ := hd2.of
  refine keq_ne hsa hsb hofa hofb (by have := rm.2.2; have e : cLine = 9900 := rfl; omega) (fun _ => eqHits hvb rfl) ?_
  rw [hva, vals_length hva, vals_length hvb]
  exact k s (Ext.refl s)
end
end Mine

namespace Mine
section
variable {prog : Program} {w : World} {G : Glo prog w} {n : Nat} {Γ : Cx} {b : Bool}

/-- an object of the frame's own turns -/
theorem Here.ownSet {h₀ : Heap} {X₀ X : Addr → Prop} {env : Env} {h h' : Heap} {x : Str} {d d' : D} {a : Addr} (H : Here G Γ h₀ X₀ X env h) (hv : Γ.vars.lookup x = some (.own, d)) (hb : Binds env h x (.ref a))
    (hk : ∀ c o, c ≠ a → h.get? c = some o → h'.get? c = some o) (r : RepF G X h' d' false (.ref a)) : Here G (Γ.set x .own d') h₀ X₀ X env h' := by
  obtain ⟨a', hb', hX, hn⟩ := H.owns x d hv
  cases hb.unique hb'
  obtain ⟨v, hb2, _, hself⟩ := H.vars x .own d hv
  cases hb.unique hb2
  obtain ⟨hL, hC, _⟩ := hself (by decide) a rfl
  obtain ⟨oa, hla⟩ := r.live a rfl
  have hbk : ∀ y u, Binds env h y u → Binds env h' y u := fun y u b => by
    rcases b with ⟨k, m, hm, hv⟩ | ⟨k, c, hc, hv⟩
    · obtain ⟨o, es, ep, e, q⟩ := hm
      exact .inl ⟨k, m, ⟨o, es, ep, hk _ o (Ne.symm hL) e, q⟩, hv⟩
    · obtain ⟨o, e, q⟩ := hv
      exact .inr ⟨k, c, hc, o, hk c o (Ne.symm (hC y c hc)) e, q⟩
  have look : ∀ y sl, (Γ.set x .own d').vars.lookup y = some sl → (y = x ∧ sl = (.own, d')) ∨ (y ≠ x ∧ Γ.vars.lookup y = some sl) := fun y sl e => by
    unfold Cx.set at e
    simp only [List.lookup_cons] at e
    cases hb : y == x with
    | true => rw [hb] at e; cases e; exact .inl ⟨beq_iff_eq.mp hb, rfl⟩
    | false => rw [hb] at e; exact .inr ⟨beq_eq_false_iff_ne.mp hb, e⟩
  have own' : ∀ y d1, (Γ.set x .own d').vars.lookup y = some (.own, d1) → ∃ d2, Γ.vars.lookup y = some (.own, d2) := fun y d1 q => by
    rcases look y _ q with ⟨rfl, e⟩ | ⟨_, e⟩
    · exact ⟨d, hv⟩
    · exact ⟨d1, e⟩
  exact
  { scp := H.scp
    kind := H.kind
    glb := H.glb
    blt := H.blt
    gl0 := H.gl0
    base := fun c o e => hk c o (fun z => by rw [z, hn] at e; cases e) (H.base c o e)
    x0 := H.x0
    live := fun c q => by
      by_cases z : c = a
      · rw [z, hla]; exact Option.some_ne_none _
      · cases e : h.get? c with
        | none => exact absurd e (H.live c q)
        | some o => rw [hk c o z e]; exact Option.some_ne_none o
    locX := H.locX
    locN := H.locN
    loc := by
      obtain ⟨m, o, es, ep, e, q⟩ := H.loc
      exact ⟨m, o, es, ep, hk _ o (Ne.symm hL) e, q⟩
    cell := fun y q => by
      obtain ⟨c, v, h1, o, e, q2⟩ := H.cell y q
      exact ⟨c, v, h1, o, hk c o (Ne.symm (hC y c h1)) e, q2⟩
    cellX := H.cellX
    cellN := H.cellN
    apart := H.apart
    vars := fun y fl d1 q => by
      rcases look y _ q with ⟨rfl, e⟩ | ⟨hy, e⟩
      · cases e
        exact ⟨.ref a, hbk _ _ hb, r, fun _ c z => by cases z; exact ⟨hL, hC, fun q => by cases q⟩⟩
      · obtain ⟨v, h1, h2, h3⟩ := H.vars y fl d1 e
        refine ⟨v, hbk y v h1, RepF.move (fun c o z e => hk c o (fun y => z (y ▸ hX)) e) (fun _ q => .inl q) d1 _ v h2 fun hf c o e' g => hk c o (fun z => ?_) g, h3⟩
        have hne : fl ≠ .full := fun z => by subst z; cases hf
        cases fl with
        | full => exact hne rfl
        | top => exact (h3 hne c e').2.2 rfl (z ▸ hn)
        | own => exact hy (H.ownsApart y x d1 d a e hv (by rw [e', z] at h1; exact h1) hb)
    owns := fun y d1 q => by
      obtain ⟨d2, e⟩ := own' y d1 q
      obtain ⟨c, h1, h2⟩ := H.owns y d2 e
      exact ⟨c, hbk y _ h1, h2⟩
    ownsApart := fun y z d1 d2 c q1 q2 b1 b2 => by
      obtain ⟨d3, e3⟩ := own' y d1 q1
      obtain ⟨d4, e4⟩ := own' z d2 q2
      obtain ⟨a1, c1, _⟩ := H.owns y d3 e3
      obtain ⟨a2, c2, _⟩ := H.owns z d4 e4
      have u1 := (hbk y _ c1).unique b1
      have u2 := (hbk z _ c2).unique b2
      rw [u1] at c1; rw [u2] at c2
      exact H.ownsApart y z d3 d4 c e3 e4 c1 c2 }

/-- the name of an own object -/
theorem wpAny_ownName {x : Str} {px : Pos} {d : D} {A : Around} {h₀ : Heap} {X₀ X : Addr → Prop} {env : Env} {s : Shared} {Q : Value → Shared → Prop} {E : Value → Shared → Prop} (H : Here G Γ h₀ X₀ X env s.heap) (hv : Γ.vars.lookup x = some (.own, d))
    (k : ∀ a, Binds env s.heap x (.ref a) → X a → h₀.get? a = none → RepF G X s.heap d false (.ref a) → Q (.ref a) s) (hd : (x == ("__debug__" : Str)) = false := by decide) (hc : (x == ("__classdict__" : Str)) = false := by decide) :
    wpAny (model prog w) A (eval (.Name x px) env) Q E s := by
  obtain ⟨v, hb, hr, _⟩ := H.vars x .own d hv
  obtain ⟨a, hb', hX, hn⟩ := H.owns x d hv
  cases hb.unique hb'
  have hk : env.scope.kind = .function := by rw [H.scp]; exact H.kind
  have fin := k a hb hX hn hr
  refine wpAny_Name ?_ hd
  rcases hb with ⟨hl, m, hn, hm⟩ | ⟨hl | hl, c, hc', hcv⟩
  · exact wpAny_loadName_local hk hl hn hm fin
  · exact wpAny_loadName_cell hk hl hc' hcv fin
  · exact wpAny_loadName_free hk hl hc' hcv fin hc

theorem IsL.size {X : Addr → Prop} {h : Heap} {l : List D} {vs : Array Value} (r : RepL G X h l vs.toList) : vs.size = l.length := by have := r.length; simpa using this

theorem Runs.append {x : Str} {px apos pos epos : Pos} {e : Expr} {rest : List Stmt} {l : List D} {d : D} {R : Out → Prop} (hv : Γ.vars.lookup x = some (.own, .list l)) (he : Ex G n Γ true e d) (hr : Runs G n (Γ.set x .own (.list (l ++ [d]))) rest R) (hsz : l.length ≤ sizeLine)
    (hline : (apos.endLine == pos.line) = true := by rfl) (hse : ∀ env : Env, starEach [e] env = [(false, eval e env)] := by intro _; rfl) (hd : (x == ("__debug__" : Str)) = false := by decide) (hc : (x == ("__classdict__" : Str)) = false := by decide) :
    Runs G n Γ (.Expr (.Call (.Attribute (.Name x px) (Str.ofString "append") apos) [e] [] pos) epos :: rest) R := by
  refine Runs.step (fun {A h₀ X₀ X env s Q E} rm H k => ?_) hr
  have hk : env.scope.kind = .function := by rw [H.scp]; exact H.kind
  refine wpAny_Expr ?_ (by unfold interactive; rw [hk]; rfl) rfl
  have htrees : backTo pos (starEach [e] env) = [(false, eval e env)] := by rw [hse]; rfl
  refine wpAny_Call_method1_late rfl hline htrees (wpAny_ownName H hv (fun a hb hX hn r => ?_) hd hc)
  obtain ⟨a', vs, m, z, _, hl, rl⟩ := repL.mp r
  cases z
  refine ⟨"list", "list.append", F.plainAttrs_list, F.slot_list_append, F.type_list_append, ⟨_, hl, rfl⟩, fun c z => by cases z; exact ⟨_, hl, rfl⟩, ?_⟩
  refine P.append_list (he rm H fun v s1 e1 r1 => ?_)
  have hl1 : IsL s1.heap a vs m := e1.keep _ _ hl
  have rl1 := rl.keep e1.keep
  have hsame : Heap.SameBut a s1.heap (s1.heap.update a (Obj.mapSeq fun xs => xs.push v)) := Heap.SameBut.update ..
  refine ⟨vs, m, by rw [IsL.size rl]; exact hsz, hl1, ?_⟩
  have hkk : ∀ c o, c ≠ a → s1.heap.get? c = some o → (s1.heap.update a (Obj.mapSeq fun xs => xs.push v)).get? c = some o := fun c o q e => (hsame.2 c q).trans e
  have hkX : ∀ c o, ¬ X c → s1.heap.get? c = some o → (s1.heap.update a (Obj.mapSeq fun xs => xs.push v)).get? c = some o := fun c o q e => hkk c o (fun z => q (z ▸ hX)) e
  have rnew : RepF G X (s1.heap.update a (Obj.mapSeq fun xs => xs.push v)) (.list (l ++ [d])) false (.ref a) := by
    refine repL.mpr ⟨a, vs.push v, _, rfl, (fun q => by cases q), hl1.update _, ?_⟩
    rw [Array.toList_push]
    exact (RepL.move hkX (fun _ q => .inl q) _ _ rl1).append (RepL.one (RepF.move hkX (fun _ q => .inl q) _ _ _ r1 fun q => by cases q))
  exact k _ X (Grow.refl s X) ((H.keep e1.keep).ownSet hv (hb.keep e1.keep) hkk rnew) ((Chg.of_ext e1).trans (Grow.refl s X) (Chg.of_same (t := s1.toks) hsame hX hn))

/-- a store into an own dict -/
theorem Runs.dictSet {x : Str} {px ip pos : Pos} {i e : Expr} {rest : List Stmt} {kvs : List (Str × Int)} {ks : Str} {j : Int} {R : Out → Prop} (hv : Γ.vars.lookup x = some (.own, .dict kvs)) (he : Ex G n Γ true e (.int j)) (hi : Ex G n Γ true i (.str ks))
    (hr : Runs G n (Γ.set x .own (.dict (putKV kvs ks j))) rest R) (hsz : kvs.length ≤ sizeLine) (hs : ∀ env : Env, swapsWith e (some (.Subscript (.Name x px) i ip)) pos.line env = pure false := by intro _; rfl)
    (hd : (x == ("__debug__" : Str)) = false := by decide) (hc : (x == ("__classdict__" : Str)) = false := by decide) :
    Runs G n Γ (.Assign [.Subscript (.Name x px) i ip] e pos :: rest) R := by
  refine Runs.step (fun {A h₀ X₀ X env s Q E} rm H k => ?_) hr
  refine wpAny_Assign_Subscript (he rm H fun v s1 e1 r1 => wpAny_ownName (H.keep e1.keep) hv (fun a hb hX hn r => hi rm (H.keep e1.keep) fun iv s2 e2 r2 => ?_) hd hc) (hs env)
  obtain ⟨a', z, _, hdd⟩ := repD.mp r
  cases z
  obtain ⟨t, rfl⟩ := repI.mp r1
  obtain ⟨u, rfl⟩ := repS.mp r2
  obtain ⟨vals, hof, hv', hsys⟩ := hdd.at fun o q => e2.keep a o q
  have e12 := e1.trans e2
  refine wpAny_setItem_pairs (knd := strKind prog w) (k := ks) (strKind_is prog w ks u) hof (fun h' hof' hs' => ?_) (by rw [vals_length hv']; exact hsz)
  have rnew : RepF G X h' (.dict (putKV kvs ks j)) false (.ref a) := repD.mpr ⟨a, rfl, (fun q => by cases q), putV vals ks j t, by rw [← stored_putV]; exact hof', by rw [putV_putKV, hv'], hsys⟩
  exact k _ X (Grow.refl s X) ((H.keep e12.keep).ownSet hv (hb.keep e2.keep) (fun c o q e => (hs'.2 c q).trans e) rnew) ((Chg.of_ext e12).trans (Grow.refl s X) (Chg.of_same (t := s2.toks + 1) hs' hX hn))

/-- an addition into an own dict -/
theorem Runs.dictAug {x : Str} {px ip pos : Pos} {i e : Expr} {rest : List Stmt} {kvs : List (Str × Int)} {ks : Str} {j j0 : Int} {R : Out → Prop} (hv : Γ.vars.lookup x = some (.own, .dict kvs)) (he : Ex G n Γ true e (.int j)) (hi : Ex G n Γ true i (.str ks)) (hg : kvs.lookup ks = some j0)
    (hr : Runs G n (Γ.set x .own (.dict (putKV kvs ks (j0 + j)))) rest R) (hsz : kvs.length ≤ sizeLine) (hs : ∀ ov iv new, augStore i ov iv new = (do holding [new, ov, iv] (setItem ov iv new); release [new, ov, iv] []; pure .next) := by intros; rfl)
    (hd : (x == ("__debug__" : Str)) = false := by decide) (hc : (x == ("__classdict__" : Str)) = false := by decide) :
    Runs G n Γ (.AugAssign (.Subscript (.Name x px) i ip) .Add e pos :: rest) R := by
  refine Runs.step (fun {A h₀ X₀ X env s Q E} rm H k => ?_) hr
  refine wpAny_AugAssign_SubscriptAny (wpAny_ownName H hv (fun a hb hX hn r => hi rm H fun iv s1 e1 r1 => ?_) hd hc) hs
  obtain ⟨a', z, _, hdd⟩ := repD.mp r
  cases z
  obtain ⟨u, rfl⟩ := repS.mp r1
  obtain ⟨vals, hof, hv', hsys⟩ := hdd.at fun o q => e1.keep a o q
  rcases valueAt_vals hv' ks with ⟨_, h2⟩ | ⟨j1, t0, h1, h2⟩
  · rw [hg] at h2; cases h2
  · rw [hg] at h2; cases h2
    refine wpAny_getItem_of (knd := strKind prog w) (k := ks) (strKind_is prog w ks u) hof.mapOf h1 ?_
    refine he rm ((H.keep e1.keep).keep (h' := s1.heap) fun _ _ e => e) fun v s2 e2 r2 => ?_
    obtain ⟨t, rfl⟩ := repI.mp r2
    refine P.iadd_int ?_
    have e12 : Ext s s2 := e1.trans ⟨e2.keep, e2.gens, e2.os⟩
    have hof2 : s2.heap.DictOf (strKind prog w) a (intPairs vals) := hof.at fun o q => e2.keep a o q
    refine wpAny_setItem_pairs (knd := strKind prog w) (k := ks) (strKind_is prog w ks u) hof2 (fun h' hof' hs' => ?_) (by rw [vals_length hv']; exact hsz)
    have rnew : RepF G X h' (.dict (putKV kvs ks (j0 + j))) false (.ref a) := repD.mpr ⟨a, rfl, (fun q => by cases q), putV vals ks (j0 + j) s2.toks, by rw [← stored_putV]; exact hof', by rw [putV_putKV, hv'], hsys⟩
    exact k _ X (Grow.refl s X) ((H.keep e12.keep).ownSet hv (hb.keep e12.keep) (fun c o q e => (hs'.2 c q).trans e) rnew) ⟨fun c o q e => (hs'.2 c fun z => by subst z; exact q.elim (fun q => q hn) fun q => q hX).trans (e12.keep c o e), e12.gens, e12.os⟩
end
end Mine

namespace Mine
section
variable {prog : Program} {w : World} {G : Glo prog w} {n : Nat} {Γ : Cx} {b : Bool}

theorem setItem_L {A : Around} {E : Value → Shared → Prop} {s : Shared} {l : Addr} {items : Array Value} {m : Nat} {k : Int} {t : Tok} {v : Value} {Q : Unit → Shared → Prop} (hL : IsL s.heap l items m)
    (h0 : 0 ≤ k) (hfit : k < 2 ^ 63) (hn : k < items.size)
    (hQ : Q () { s with heap := s.heap.update l (Obj.mapSeq (·.setIfInBounds k.toNat v)) }) :
    wpAny (model prog w) A (setItem (.ref l) (.int k t) v) Q E s := by
  have hl := hL.isList
  unfold setItem
  try with_reducible refine wpAny_holding ?_
  first | refine wpAny_bind (wpAny_pure ?_) | skip
  refine wpAny_bind (wpAny_sequenceKey hl.typeIs (by decide) ?_)
  refine wpAny_bind (wpAny_callSpecial?_slot (name := Str.ofString "__setitem__") hl.typeIs slot_list_setitem
    (wpAny_call_entry slot_list_setitem hl.typeIs entry_list_setitem ?_ (args_list_setitem _ _ _)))
  show wpAny _ _ (Builtin.List.listSubscript? (.int k t) >>= _) _ _ s
  refine wpAny_bind (wpAny_listSubscript_int (fitsIndex_of h0 hfit) ?_)
  clear hfit
  obtain ⟨j, rfl⟩ := Int.eq_ofNat_of_zero_le h0
  have hj : j < items.size := by omega
  have hx' : items[j]? = some items[j] := Array.getElem?_eq_getElem hj
  show wpAny _ _ ((seqItemAt l j >>= fun r => pure (r.map (j, ·))) >>= _) _ _ s
  refine wpAny_bind (wpAny_bind (wpAny_seqItemAt hL rfl (wpAny_pure ?_)))
  rw [hx']
  show wpAny _ _ (setSeqItemAt l j v >>= _) _ _ s
  refine wpAny_bind (wpAny_setSeqItemAt hL rfl ?_)
  first
    | exact wpAny_bind (wpAny_pure (wpAny_pure ⟨.none, rfl, wpAny_pure hQ⟩))
    | exact wpAny_pure ⟨.none, rfl, wpAny_pure hQ⟩

/-- an addition into an own list of numbers -/
theorem Runs.listAug {x : Str} {px ip pos : Pos} {i e : Expr} {rest : List Stmt} {l : List D} {q j j0 : Int} {R : Out → Prop} (hv : Γ.vars.lookup x = some (.own, .list l)) (he : Ex G n Γ true e (.int j)) (hi : Ex G n Γ true i (.int q)) (h0 : 0 ≤ q) (hf : q < 2 ^ 63) (hg : l[q.toNat]? = some (.int j0))
    (hr : Runs G n (Γ.set x .own (.list (l.set q.toNat (.int (j0 + j))))) rest R) (hs : ∀ ov iv new, augStore i ov iv new = (do holding [new, ov, iv] (setItem ov iv new); release [new, ov, iv] []; pure .next) := by intros; rfl)
    (hd : (x == ("__debug__" : Str)) = false := by decide) (hc : (x == ("__classdict__" : Str)) = false := by decide) :
    Runs G n Γ (.AugAssign (.Subscript (.Name x px) i ip) .Add e pos :: rest) R := by
  refine Runs.step (fun {A h₀ X₀ X env s Q E} rm H k => ?_) hr
  refine wpAny_AugAssign_SubscriptAny (wpAny_ownName H hv (fun a hb hX hn r => hi rm H fun iv s1 e1 r1 => ?_) hd hc) hs
  obtain ⟨a', vs, m, z, _, hl, rl⟩ := repL.mp r
  cases z
  obtain ⟨u, rfl⟩ := repI.mp r1
  obtain ⟨v0, hv0, rv0⟩ := rl.at hg
  obtain ⟨t0, rfl⟩ := repI.mp rv0
  have hl1 : IsL s1.heap a vs m := e1.keep _ _ hl
  refine wpAny_getItem_list hl1.isList h0 hf (by simpa using hv0) ?_
  refine he rm (H.keep e1.keep) fun v s2 e2 r2 => ?_
  obtain ⟨t, rfl⟩ := repI.mp r2
  refine P.iadd_int ?_
  have e12 : Ext s s2 := e1.trans e2
  have hl2 : IsL s2.heap a vs m := e2.keep _ _ hl1
  have hsz : q < vs.size := by
    have := (List.getElem?_eq_some_iff.mp hv0).1
    simp at this; omega
  refine setItem_L (s := { s2 with toks := s2.toks + 1 }) hl2 h0 hf hsz ?_
  have hsame : Heap.SameBut a s2.heap (s2.heap.update a (Obj.mapSeq (·.setIfInBounds q.toNat (.int (j0 + j) s2.toks)))) := Heap.SameBut.update ..
  have hkX : ∀ c o, ¬ X c → s2.heap.get? c = some o → (s2.heap.update a (Obj.mapSeq (·.setIfInBounds q.toNat (.int (j0 + j) s2.toks)))).get? c = some o := fun c o z e => (hsame.2 c fun y => z (y ▸ hX)).trans e
  have rnew : RepF G X (s2.heap.update a (Obj.mapSeq (·.setIfInBounds q.toNat (.int (j0 + j) s2.toks)))) (.list (l.set q.toNat (.int (j0 + j)))) false (.ref a) := by
    refine repL.mpr ⟨a, vs.setIfInBounds q.toNat (.int (j0 + j) s2.toks), _, rfl, (fun q => by cases q), hl2.update _, ?_⟩
    rw [Array.toList_setIfInBounds]
    exact (RepL.move hkX (fun _ q => .inl q) _ _ (rl.keep e12.keep)).set _ (repI.mpr ⟨_, rfl⟩)
  exact k _ X (Grow.refl s X) ((H.keep e12.keep).ownSet hv (hb.keep e12.keep) (fun c o z e => (hsame.2 c z).trans e) rnew) ⟨fun c o z e => (hsame.2 c fun y => by subst y; exact z.elim (fun z => z hn) fun z => z hX).trans (e12.keep c o e), e12.gens, e12.os⟩

/-! slices -/
variable (G) in
/-- an end of a slice -/
noncomputable def Part (n : Nat) (Γ : Cx) (e : Option Expr) (i : Option Int) : Prop :=
  ∀ {A : Around} {h₀ : Heap} {X₀ X : Addr → Prop} {env : Env} {s : Shared} {Q : Value → Shared → Prop} {E : Value → Shared → Prop}, Room n A → Here G Γ h₀ X₀ X env s.heap →
    (∀ v s', Ext s s' → IsPart v i → Q v s') → wpAny (model prog w) A (evalPart e env) Q E s
theorem Part.none : Part G n Γ Option.none Option.none := fun rm H k => by rw [evalPart_none]; exact wpAny_pure (k _ _ (Ext.refl _) .none)
theorem Part.some {e : Expr} {i : Int} (h : Ex G n Γ true e (.int i)) : Part G n Γ (Option.some e) (Option.some i) := fun rm H k => by
  rw [evalPart_some]
  exact h rm H fun v s' e1 r => by
    obtain ⟨t, rfl⟩ := repI.mp r
    exact k _ _ e1 (.int i t)

theorem Ex.sliceL {value : Expr} {lower upper : Option Expr} {p pos : Pos} {l l' : List D} {lo hi : Option Int} {b1 : Bool} (h : Ex G n Γ b1 value (.list l)) (hlo : Part G n Γ lower lo) (hhi : Part G n Γ upper hi)
    (hp : ∀ vs : Array Value, ∃ vs', slicePick vs lo hi Option.none = vs' ∧ ∀ {X : Addr → Prop} {h : Heap}, RepL G X h l vs.toList → RepL G X h l' vs'.toList)
    (hsz : l.length ≤ sizeLine) (ht : ∀ o r, letTemporaryGo value o r = pure () := by intro _ _; rfl) : Ex G n Γ b (.Subscript value (.Slice lower upper Option.none p) pos) (.list l') := by
  intro A h₀ X₀ X env s Q E rm H k
  refine wpAny_Subscript_list_slice (h rm H fun o s1 e1 r1 => hlo rm (H.keep e1.keep) fun vl s2 e2 p2 => hhi rm ((H.keep e1.keep).keep e2.keep) fun vu s3 e3 p3 => ?_) ht
  have e23 := e2.trans e3
  obtain ⟨a, vs, m, rfl, hb, hl, rl⟩ := repL.mp (r1.keep e23.keep)
  obtain ⟨vs', hpk, hrep⟩ := hp vs
  refine ⟨a, vs, lo, hi, rfl, hl.isList, by rw [IsL.size rl]; exact hsz, p2, p3, ?_⟩
  rw [hpk]
  have kk : Keeps s3.heap ((s3.heap.push { cls := .type "slice", data := .fields #[vl, vu, .none] }).push { cls := .type "list", data := .seq vs' }) := fun b o e => Heap.get?_push_of_some _ (Heap.get?_push_of_some _ e)
  refine k _ _ ((e1.trans e23).trans (Ext.heap kk)) ?_
  have Hl := ((H.keep e1.keep).keep e23.keep).live
  refine repL.mpr ⟨s3.heap.objs.size + 1, vs', 0, rfl, fun _ hX => ?_, ?_, (hrep rl).keep kk⟩
  · have : s3.heap.get? (s3.heap.objs.size + 1) = Option.none := by
      cases e : s3.heap.get? (s3.heap.objs.size + 1) with
      | none => rfl
      | some o => exact absurd (Heap.lt_size e) (Nat.not_lt.mpr (Nat.le_succ _))
    exact Hl _ hX this
  · have := Heap.get?_push_size (s3.heap.push { cls := .type "slice", data := .fields #[vl, vu, .none] }) (o := { cls := .type "list", data := .seq vs' }) rfl
    rw [Heap.size_push] at this
    exact this
theorem Ex.takeL {value e : Expr} {p pos : Pos} {l : List D} {i : Nat} {b1 : Bool} (h : Ex G n Γ b1 value (.list l)) (he : Ex G n Γ true e (.int (i : Int)))
    (hsz : l.length ≤ sizeLine) (ht : ∀ o r, letTemporaryGo value o r = pure () := by intro _ _; rfl) : Ex G n Γ b (.Subscript value (.Slice Option.none (Option.some e) Option.none p) pos) (.list (l.take i)) :=
  Ex.sliceL h Part.none (Part.some he) (fun vs => ⟨_, slicePick_upto' vs i, fun r => r.take i⟩) hsz ht
theorem Ex.dropL {value e : Expr} {p pos : Pos} {l : List D} {i : Nat} {b1 : Bool} (h : Ex G n Γ b1 value (.list l)) (he : Ex G n Γ true e (.int (i : Int)))
    (hsz : l.length ≤ sizeLine) (ht : ∀ o r, letTemporaryGo value o r = pure () := by intro _ _; rfl) : Ex G n Γ b (.Subscript value (.Slice (Option.some e) Option.none Option.none p) pos) (.list (l.drop i)) :=
  Ex.sliceL h (Part.some he) Part.none (fun vs => ⟨_, slicePick_from' vs i, fun r => r.drop i⟩) hsz ht

theorem sliceApplied_upto {M : Model} {A : Around} {E : Value → Shared → Prop} {s : Shared} {prog : Program} {w : World} {sl : Addr} {c m : Nat} {u : Tok} {Q : Int × Int × Nat → Shared → Prop} (hs : s.heap.IsSliceOf sl .none (.int c u) .none) (ha : c ≤ m) (h : Q (0, 1, c) s) :
    wpAny (model prog w) A (Builtin.Slice.sliceApplied (.ref sl) (pure (m : Int))) Q E s := by
  obtain ⟨os, hos, hcs, hds⟩ := id hs
  unfold Builtin.Slice.sliceApplied Builtin.Slice.sliceFields
  refine wpAny_bind (wpAny_bind (wpAny_field hos hds (x := .none) rfl (wpAny_bind (wpAny_field hos hds (x := .int c u) rfl (wpAny_bind (wpAny_field hos hds (x := .none) rfl (wpAny_pure ?_)))))))
  refine wpAny_bind (slicePart_none ?_)
  show wpAny _ _ (if ((1 : Int) == 0) = true then _ else _) _ _ s
  rw [if_neg (by decide)]
  refine wpAny_bind (slicePart_none (wpAny_bind (slicePart_int (wpAny_bind (wpAny_pure ?_)))))
  have ea : Builtin.Slice.sliceAdjust Option.none (Option.some (c : Int)) 1 (m : Int) = (0, (c : Int)) := by
    unfold Builtin.Slice.sliceAdjust
    have h1 : ¬ ((1 : Int) < 0) := by omega
    have h2 : ¬ ((c : Int) < 0) := by omega
    simp only [h1, h2, if_false]
    congr 1
    omega
  have ep : Builtin.Slice.slicePlaces 0 (c : Int) 1 = c := by
    unfold Builtin.Slice.slicePlaces
    have h1 : (1 : Int) > 0 := by omega
    simp only [h1, if_true, Int.ediv_one]
    split <;> omega
  show wpAny _ _ (match Builtin.Slice.sliceAdjust Option.none (Option.some (c : Int)) 1 (m : Int) with | (lo, hi) => pure (lo, (1 : Int), Builtin.Slice.slicePlaces lo hi 1)) _ _ s
  rw [ea]
  show wpAny _ _ (pure ((0 : Int), (1 : Int), Builtin.Slice.slicePlaces 0 (c : Int) 1)) _ _ s
  rw [ep]
  exact wpAny_pure h

theorem pick_upto (xs : Array Value) (c : Nat) (_ha : c ≤ xs.size) : ((List.range c).filterMap fun (k : Nat) => xs[((0 : Int) + (k : Int) * 1).toNat]?).toArray = (xs.toList.take c).toArray := by
  have e : (fun (k : Nat) => xs[((0 : Int) + (k : Int) * 1).toNat]?) = fun k => xs[0 + k]? := by
    funext k
    have : ((0 : Int) + (k : Int) * 1).toNat = 0 + k := by omega
    rw [this]
  rw [e]
  have := pick_run xs 0 c
  rw [List.filterMap_map] at this
  have e2 : ((fun x => xs[x]?) ∘ fun x => 0 + x) = fun k => xs[0 + k]? := rfl
  rw [e2] at this
  rw [this, List.drop_zero]

theorem getItem_tuple_upto {A : Around} {E : Value → Shared → Prop} {s : Shared} {t sl : Addr} {items : Array Value} {c : Nat} {u : Tok} {Q : Value → Shared → Prop} (ht : IsTup s.heap t items) (hs : s.heap.IsSliceOf sl .none (.int c u) .none) (ha : c < items.size)
    (h : Q (.ref s.heap.objs.size) { s with heap := s.heap.push { cls := .type "tuple", data := .seq (items.toList.take c).toArray } })
    (hsz : items.size ≤ sizeLine) : wpAny (model prog w) A (getItem (.ref t) (.ref sl)) Q E s := by
  have hdrop : sizeOk (.seq (items.toList.take c).toArray) := by
    show (items.toList.take c).toArray.size ≤ sizeLine
    rw [List.size_toArray, List.length_take, Array.length_toList]
    omega
  obtain ⟨os, hos, hcs, hds⟩ := id hs
  have hTs : s.TypeIs (.ref sl) "slice" := ⟨os, hos, hcs⟩
  unfold getItem
  try with_reducible refine wpAny_holding ?_
  first | refine wpAny_bind (wpAny_pure ?_) | skip
  refine wpAny_bind (wpAny_sequenceKey ht.typeIs (by decide) ?_)
  refine wpAny_bind (wpAny_callSpecial?_slot (name := Str.ofString "__getitem__") ht.typeIs slot_tuple_getitem
    (wpAny_call_entry slot_tuple_getitem ht.typeIs entry_tuple_getitem ?_ (args_tuple_getitem _ _)))
  show wpAny _ _ (Builtin.Tuple.tupleItemsOf (.ref t) >>= _) _ _ s
  refine wpAny_bind (tupleItemsOf_ ht ?_)
  refine wpAny_bind (wpAny_typeOf hTs ?_)
  rw [if_pos (by decide)]
  refine wpAny_bind (sliceApplied_upto (M := model prog w) hs (Nat.le_of_lt ha) ?_)
  have hno : ¬ (((0 : Int) == 0 && (1 : Int) == 1 && c == items.size) = true) := by
    have : (c == items.size) = false := by rw [beq_eq_false_iff_ne]; omega
    rw [this]; simp
  show wpAny _ _ (if ((0 : Int) == 0 && (1 : Int) == 1 && c == items.size) = true then _ else _) _ _ s
  rw [if_neg hno, pick_upto items c (Nat.le_of_lt ha)]
  first
    | exact wpAny_bind (m := Builtin.Tuple.tupleExact _) (wpAny_newObj_type (wpAny_pure ⟨_, rfl, wpAny_pure h⟩) hdrop)
    | exact wpAny_bind (m := Builtin.Tuple.tupleExact _) (wpAny_newObj_type (wpAny_bind (wpAny_pure (wpAny_pure ⟨_, rfl, wpAny_pure h⟩))) hdrop)
    | exact wpAny_bind (wpAny_bind (m := Builtin.Tuple.tupleExact _) (wpAny_newObj_type (wpAny_pure (wpAny_pure ⟨_, rfl, wpAny_pure h⟩)) hdrop))
    | exact wpAny_bind (wpAny_bind (m := Builtin.Tuple.tupleExact _) (wpAny_newObj_type (wpAny_pure ⟨_, rfl, wpAny_pure h⟩) hdrop))

theorem Ex.takeT {value e : Expr} {p pos : Pos} {l : List D} {i : Nat} {b1 : Bool} (h : Ex G n Γ b1 value (.tup l)) (he : Ex G n Γ true e (.int (i : Int))) (hi : i < l.length)
    (hsz : l.length ≤ sizeLine) (ht : ∀ o r, letTemporaryGo value o r = pure () := by intro _ _; rfl) : Ex G n Γ b (.Subscript value (.Slice Option.none (Option.some e) Option.none p) pos) (.tup (l.take i)) := by
  intro A h₀ X₀ X env s Q E rm H k
  refine wpAny_Subscript_Slice (T := "tuple") slot_tuple_getitem.lookup (h rm H fun o s1 e1 r1 => wpAny_Slice ?_) ht
  rw [evalPart_none]
  refine wpAny_pure ?_
  rw [evalPart_some]
  refine he rm (H.keep e1.keep) fun v s2 e2 r2 => ?_
  obtain ⟨t, rfl⟩ := repI.mp r2
  refine wpAny_pure ?_
  obtain ⟨a, vs, rfl, hb, hl, rl⟩ := repT.mp (r1.keep e2.keep)
  have hit : IsTup s2.heap a vs := ⟨_, hl, rfl, 0, rfl⟩
  have hit2 : IsTup (s2.heap.push { cls := .type "slice", data := .fields #[.none, .int (i : Int) t, .none] }) a vs := ⟨_, Heap.get?_push_of_some _ hl, rfl, 0, rfl⟩
  have hsz' : vs.size = l.length := by have := rl.length; simpa using this
  refine ⟨hit2.typeIs, getItem_tuple_upto hit2 (Heap.IsSliceOf.new ..) (by omega) ?_ (by omega)⟩
  rw [Heap.size_push]
  have kk : Keeps s2.heap ((s2.heap.push { cls := .type "slice", data := .fields #[.none, .int (i : Int) t, .none] }).push { cls := .type "tuple", data := .seq (vs.toList.take i).toArray }) := fun b o e => Heap.get?_push_of_some _ (Heap.get?_push_of_some _ e)
  refine k _ _ ((e1.trans e2).trans (Ext.heap kk)) ?_
  have Hl := ((H.keep e1.keep).keep e2.keep).live
  refine repT.mpr ⟨s2.heap.objs.size + 1, (vs.toList.take i).toArray, rfl, fun _ hX => ?_, ?_, (rl.take i).keep kk⟩
  · have : s2.heap.get? (s2.heap.objs.size + 1) = Option.none := by
      cases e : s2.heap.get? (s2.heap.objs.size + 1) with
      | none => rfl
      | some o => exact absurd (Heap.lt_size e) (Nat.not_lt.mpr (Nat.le_succ _))
    exact Hl _ hX this
  · have := Heap.get?_push_size (s2.heap.push { cls := .type "slice", data := .fields #[.none, .int (i : Int) t, .none] }) (o := { cls := .type "tuple", data := .seq (vs.toList.take i).toArray }) rfl
    rw [Heap.size_push] at this
    exact this

/-! texts -/
theorem Ex.sliceS {value e f : Expr} {p pos : Pos} {x y : Str} {i j : Int} (h : Ex G n Γ true value (.str x)) (he : Ex G n Γ true e (.int i)) (hf : Ex G n Γ true f (.int j))
    (hm : ∀ t u v, sliceMade x t (Option.some (i, u)) (Option.some (j, v)) Option.none = .str y) (hy : y.length ≤ sizeLine)
    (ht : ∀ o r, letTemporaryGo value o r = pure () := by intro _ _; rfl) : Ex G n Γ b (.Subscript value (.Slice (Option.some e) (Option.some f) Option.none p) pos) (.str y) := by
  intro A h₀ X₀ X env s Q E rm H k
  refine wpAny_Subscript_str_slice (h rm H fun o s1 e1 r1 => ?_) ht
  rw [evalPart_some, evalPart_some]
  refine he rm (H.keep e1.keep) fun v s2 e2 r2 => hf rm ((H.keep e1.keep).keep e2.keep) fun v2 s3 e3 r3 => ?_
  obtain ⟨t, rfl⟩ := repS.mp r1
  obtain ⟨u, rfl⟩ := repI.mp r2
  obtain ⟨u', rfl⟩ := repI.mp r3
  refine ⟨x, t, Option.some (i, u), Option.some (j, u'), rfl, rfl, rfl, ?_⟩
  rw [hm]
  have kk : Keeps s3.heap (s3.heap.push { cls := .type "slice", data := .fields #[.int i u, .int j u', .none] }) := Keeps.push _ _
  have e : Ext s { s3 with heap := s3.heap.push { cls := .type "slice", data := .fields #[.int i u, .int j u', .none] }, toks := s3.toks + 1 } := (e1.trans (e2.trans e3)).trans (Ext.heap kk)
  have fin := k (.str y s3.toks) _ e (repS.mpr ⟨_, rfl⟩)
  first
    | exact fin
    | exact ⟨hy, fin⟩

theorem Ex.addS {l r : Expr} {pos : Pos} {x y : Str} (h1 : Ex G n Γ true l (.str x)) (h2 : Ex G n Γ true r (.str y)) (hsz : x.length + y.length ≤ sizeLine) : Ex G n Γ b (.BinOp l .Add r pos) (.str (x ++ y)) :=
  Ex.bin h1 h2 fun rm g _ r1 r2 k => by
    obtain ⟨t, rfl⟩ := repS.mp r1; obtain ⟨u, rfl⟩ := repS.mp r2
    exact PyProof.Rows.add_str (fun t' tk => k _ _ Ext.tok (repS.mpr ⟨_, rfl⟩)) hsz

theorem Ex.addL {l r : Expr} {pos : Pos} {x y : List D} {b1 b2 : Bool} (h1 : Ex G n Γ b1 l (.list x)) (h2 : Ex G n Γ b2 r (.list y)) (hsz : x.length + y.length ≤ sizeLine) : Ex G n Γ b (.BinOp l .Add r pos) (.list (x ++ y)) :=
  Ex.bin h1 h2 fun {A X s Q E v1 v2} rm g live r1 r2 k => by
    obtain ⟨a, vs, m, rfl, hb, hl, rl⟩ := repL.mp r1
    obtain ⟨a', vs', m', rfl, hb', hl', rl'⟩ := repL.mp r2
    refine P.add_list hl hl' (k _ _ (Ext.heap (Keeps.push _ _)) (repL.mpr ⟨_, vs ++ vs', 0, rfl, fun _ => notX_new live, Heap.get?_push_size _ rfl, ?_⟩)) (by rw [IsL.size rl, IsL.size rl']; exact hsz)
    rw [Array.toList_append]
    exact (rl.append rl').keep (Keeps.push _ _)

/-! dict -/
theorem Ex.get2 {o e f : Expr} {apos pos : Pos} {kvs : List (Str × Int)} {x : Str} {i : Int} {b1 : Bool} (h : Ex G n Γ b1 o (.dict kvs)) (he : Ex G n Γ true e (.str x)) (hf : Ex G n Γ true f (.int i))
    (hbase : ∀ env : Env, attributeBase o (Str.ofString "get") env (eval o env) = eval o env := by intro _; rfl) (hline : (apos.endLine == pos.line) = true := by rfl)
    (hse : ∀ env : Env, starEach [e, f] env = [(false, eval e env), (false, eval f env)] := by intro _; rfl) :
    Ex G n Γ b (.Call (.Attribute o (Str.ofString "get") apos) [e, f] [] pos) (.int ((kvs.lookup x).getD i)) := by
  intro A h₀ X₀ X env s Q E rm H k
  refine wpAny_Call_method2_late (hbase env) hline (by rw [hse]; rfl) (h rm H fun v s1 e1 r1 => ?_)
  obtain ⟨a, rfl, hb, hd⟩ := repD.mp r1
  obtain ⟨vals, ep, hat, hv, hsys, hof⟩ := hd.of
  refine ⟨"dict", "dict.get", F.plainAttrs_dict, F.slot_dict_get, F.type_dict_get, hof.typeIs, hof.mapOf.noDict, ?_⟩
  refine wpAny_dict_get2 (knd := strKind prog w) hsys (he rm (H.keep e1.keep) fun kv s2 e2 r2 => hf rm ((H.keep e1.keep).keep e2.keep) fun dv s3 e3 r3 => ?_)
  obtain ⟨t, rfl⟩ := repS.mp r2
  obtain ⟨u, rfl⟩ := repI.mp r3
  have e23 := e2.trans e3
  have hof3 := hof.at fun o q => e23.keep a o q
  refine ⟨x, _, strKind_is prog w x t, hof3.mapOf, ?_⟩
  rcases valueAt_vals hv x with ⟨h1, h2⟩ | ⟨j1, t0, h1, h2⟩
  · rw [h1]
    rw [h2] at k
    exact k _ _ ((e1.trans e23).trans Ext.tok) (repI.mpr ⟨_, rfl⟩)
  · rw [h1]
    rw [h2] at k
    exact k _ _ ((e1.trans e23).trans Ext.tok) (repI.mpr ⟨_, rfl⟩)
end
end Mine

namespace Mine
section
variable {prog : Program} {w : World} {G : Glo prog w} {n : Nat} {Γ : Cx} {b : Bool}

/-- a dict of one key -/
theorem Ex.dict1 {kx vx : Expr} {pos : Pos} {x : Str} {i : Int} (h1 : Ex G n Γ true kx (.str x)) (h2 : Ex G n Γ true vx (.int i))
    (hshape : ∀ env : Env, (evalEachOpt [some kx] env).zip ((evalEach [vx] env).map fun v => do let x ← v; standAt pos; pure x) = [(eval kx env, do let x ← eval vx env; standAt pos; pure x)].map fun p => (some p.1, p.2) := by intro _; rfl) :
    Ex G n Γ b (.Dict [some kx] [vx] pos) (.dict [(x, i)]) := by
  intro A h₀ X₀ X env s Q E rm H k
  refine wpAny_Dict_pairs (knd := strKind prog w) (hshape env) (by simp) (by simp) (evalPairs_cons (h1 rm (H.keep (Keeps.push _ _)) fun kv s1 e1 r1 => wpAny_bind (h2 rm ((H.keep (Keeps.push _ _)).keep e1.keep) fun vv s2 e2 r2 => wpAny_bind (wpAny_standAt (wpAny_pure (evalPairs_nil ?_))))))
  obtain ⟨t, rfl⟩ := repS.mp r1
  obtain ⟨u, rfl⟩ := repI.mp r2
  have hof : (s.heap.push { cls := .type "dict", data := .dict #[] }).DictOf (strKind prog w) s.heap.objs.size [] := Heap.DictOf.new _
  have e12 := e1.trans e2
  have k0 : Keeps s.heap s2.heap := fun c o q => e12.keep c o (Heap.get?_push_of_some _ q)
  refine ⟨[(x, .int i u)], ⟨strKind_is prog w x t, rfl, trivial⟩, hof.at fun o q => e12.keep _ o q, fun h' hof' hs' => ?_⟩
  have hk : Keeps s.heap h' := fun c o q => (hs'.2 c (Nat.ne_of_lt (Heap.lt_size q))).trans (k0 c o q)
  refine k _ _ ⟨hk, e12.gens, e12.os⟩ (repD.mpr ⟨_, rfl, fun _ => notX_new H.live, [(x, i, u)], hof', rfl, ?_⟩)
  intro z
  have hlt := (G.g H.gl).lt
  rw [z] at hlt
  exact absurd hlt (by decide)

theorem preSum_list (ns : List Int) : ∀ j, j ≤ ns.length → preSum (fun i => (ns[i]?).getD 0) j = (ns.take j).sum
  | 0, _ => by simp [preSum]
  | j + 1, hj => by
    rw [preSum, preSum_list ns j (by omega), List.take_add_one, List.sum_append]
    rw [show ns[j]? = some ns[j] from List.getElem?_eq_getElem (by omega)]
    simp

/-- the sum of a dict's values -/
theorem Ex.sumValues {o : Expr} {px apos pos pos' : Pos} {kvs : List (Str × Int)} {b1 : Bool} (h : Ex G n Γ b1 o (.dict kvs)) (hbase : ∀ env : Env, attributeBase o (Str.ofString "values") env (eval o env) = eval o env := by intro _; rfl) (hline : (apos.endLine == pos.line) = true := by rfl)
    (hx : Γ.sc.names.lookup (Str.ofString "sum") = some .globalImplicit := by rfl)
    (he : ∀ env : Env, starEach [.Call (.Attribute o (Str.ofString "values") apos) [] [] pos] env = [(false, eval (.Call (.Attribute o (Str.ofString "values") apos) [] [] pos) env)] := by intro _; rfl) :
    Ex G n Γ b (.Call (.Name (Str.ofString "sum") px) [.Call (.Attribute o (Str.ofString "values") apos) [] [] pos] [] pos') (.int (kvs.map (·.2)).sum) := by
  intro A h₀ X₀ X env s Q E rm H k
  have hd : ((Str.ofString "sum") == ("__debug__" : Str)) = false := by decide
  refine wpAny_Call_NameR (wpAny_builtinName (v := .builtin "sum") H hx (by decide) (by decide +kernel) (by decide) (Calls.callWith_builtin (by rw [he]; rfl) (evalArgs_of (he env) (wpAny_items_cons ?_ (he env)))) hd)
  refine wpAny_Call_method (T := "dict") (id := "dict.values") (hbase env) rfl hline F.plainAttrs_dict F.slot_dict_values F.type_dict_values (h rm H fun v s1 e1 r1 => ?_)
  obtain ⟨a, rfl, hb, hd⟩ := repD.mp r1
  obtain ⟨vals, ep, hat, hv, hsys, hof⟩ := hd.of
  refine ⟨hof.typeIs, hof.mapOf.noDict, ?_⟩
  show wpAny _ _ (callWith pos (.builtin "dict.values") [.ref a] [] []) _ _ s1
  refine method_meetsIn F.slot_dict_values F.entry_dict_values rfl (PySem.evalArgs_none ⟨rfl, hof.typeIs, F.args_dict_values_1 _, _, meets_dict_values (strKind prog w) a hsys, ⟨_, hof⟩, ?_⟩)
  refine wpAny_items_nil ?_
  have hva : (s1.heap.push { cls := .type "dict_values", data := .fields #[.ref a] }).IsValuesView s1.heap.objs.size a := ⟨_, Heap.get?_push_size _ rfl, rfl, rfl⟩
  have hat' : (s1.heap.push { cls := .type "dict_values", data := .fields #[.ref a] }).DictAt (strKind prog w) a (intPairs vals) ep := hat.push _
  have k1 : Keeps s1.heap (s1.heap.push { cls := .type "dict_values", data := .fields #[.ref a] }) := Keeps.push _ _
  obtain ⟨oa, hoa⟩ := (hd.at fun o e => k1 a o e).get
  refine call_sum_walkG (wpAny_pyIter_values (s := { s1 with heap := s1.heap.push { cls := .type "dict_values", data := .fields #[.ref a] } }) hva hat' ?_)
  have hnone := new_none (s1.heap.push { cls := .type "dict_values", data := .fields #[.ref a] })
  have hne : a ≠ (s1.heap.push { cls := .type "dict_values", data := .fields #[.ref a] }).objs.size := fun z => by rw [← z] at hnone; rw [hnone] at hoa; cases hoa
  refine ⟨_, _, _, _, _, _, fun i => ((kvs.map (·.2))[i]?).getD 0, rfl, Walks.dictValues (A := A.in1) (knd := strKind prog w) rm.1 _ a hne (intPairs vals) ep, ⟨⟨_, Heap.get?_push_size _ rfl, rfl, rfl⟩, hat'.push _⟩, ?_, ?_, ?_⟩
  · intro c hc
    simp only [List.mem_cons, List.not_mem_nil, or_false] at hc
    rcases hc with rfl | rfl
    · simp [Heap.size_push]
    · have h1 := Heap.lt_size hoa
      rw [Heap.size_push] at h1
      rw [Heap.size_push, Heap.size_push]
      exact Nat.lt_succ_of_lt h1
  · rintro i v ⟨key, hkv⟩
    have : ∃ q : Str × Int × Tok, vals[i]? = some q ∧ v = .int q.2.1 q.2.2 := by
      unfold intPairs at hkv
      rw [List.getElem?_map] at hkv
      cases hq : vals[i]? with
      | none => rw [hq] at hkv; cases hkv
      | some q => rw [hq] at hkv; cases hkv; exact ⟨q, rfl, rfl⟩
    obtain ⟨q, hq, rfl⟩ := this
    refine ⟨q.2.2, ?_⟩
    have : (kvs.map (·.2))[i]? = some q.2.1 := by
      rw [← hv, List.map_map, List.getElem?_map, hq]; rfl
    show Value.int q.2.1 q.2.2 = Value.int (((kvs.map (·.2))[i]?).getD 0) q.2.2
    rw [this]; rfl
  · intro h' tk t' hk
    have hlen : (intPairs vals).length = (kvs.map (·.2)).length := by rw [vals_length hv, List.length_map]
    refine k _ _ ?_ (repI.mpr ⟨t', ?_⟩)
    · refine ⟨fun c o q => hk c o ?_ ?_, e1.gens, e1.os⟩
      · intro hc
        simp only [List.mem_cons, List.not_mem_nil, or_false] at hc
        have h1 := Heap.lt_size (e1.keep c o q)
        rw [hc, Heap.size_push] at h1
        exact absurd h1 (Nat.not_lt.mpr (Nat.le_succ _))
      · exact Heap.get?_push_of_some _ (Heap.get?_push_of_some _ (e1.keep c o q))
    · rw [hlen, preSum_list _ _ (Nat.le_refl _), List.take_length]

/-- startswith and endswith -/
theorem Tst.startswith {o e : Expr} {apos pos : Pos} {x y : Str} {c : Bool} (h : Ex G n Γ true o (.str x)) (h2 : Ex G n Γ true e (.str y)) (hc : Txt.startswith x y = c)
    (hbase : ∀ env : Env, attributeBase o (Str.ofString "startswith") env (eval o env) = eval o env := by intro _; rfl) (hline : (apos.endLine == pos.line) = true := by rfl)
    (hse : ∀ env : Env, starEach [e] env = [(false, eval e env)] := by intro _; rfl)
    (he : ∀ (env : Env) (whole : Sem Value), isTrue (.Call (.Attribute o (Str.ofString "startswith") apos) [e] [] pos) env whole = (do let v ← whole; standAt (Expr.pos (.Call (.Attribute o (Str.ofString "startswith") apos) [e] [] pos)); holding [v] (truthy v)) := by intro _ _; rfl) :
    Tst G n Γ (.Call (.Attribute o (Str.ofString "startswith") apos) [e] [] pos) c := by
  refine Tst.ofBool (fun {A h₀ X₀ X env s Q E} rm H k => ?_) he
  refine Call_method1 (hbase env) (hse env) hline (h rm H fun v s1 e1 r1 => ?_)
  obtain ⟨t, rfl⟩ := repS.mp r1
  refine SB.startswith (h2 rm (H.keep e1.keep) fun v s2 e2 r2 => ?_)
  obtain ⟨u, rfl⟩ := repS.mp r2
  refine ⟨y, u, rfl, ?_⟩
  rw [hc]
  exact k _ _ (e1.trans e2) (repB.mpr rfl)
theorem Tst.endswith {o e : Expr} {apos pos : Pos} {x y : Str} {c : Bool} (h : Ex G n Γ true o (.str x)) (h2 : Ex G n Γ true e (.str y)) (hc : Txt.endswith x y = c)
    (hbase : ∀ env : Env, attributeBase o (Str.ofString "endswith") env (eval o env) = eval o env := by intro _; rfl) (hline : (apos.endLine == pos.line) = true := by rfl)
    (hse : ∀ env : Env, starEach [e] env = [(false, eval e env)] := by intro _; rfl)
    (he : ∀ (env : Env) (whole : Sem Value), isTrue (.Call (.Attribute o (Str.ofString "endswith") apos) [e] [] pos) env whole = (do let v ← whole; standAt (Expr.pos (.Call (.Attribute o (Str.ofString "endswith") apos) [e] [] pos)); holding [v] (truthy v)) := by intro _ _; rfl) :
    Tst G n Γ (.Call (.Attribute o (Str.ofString "endswith") apos) [e] [] pos) c := by
  refine Tst.ofBool (fun {A h₀ X₀ X env s Q E} rm H k => ?_) he
  refine Call_method1 (hbase env) (hse env) hline (h rm H fun v s1 e1 r1 => ?_)
  obtain ⟨t, rfl⟩ := repS.mp r1
  refine SB.endswith (h2 rm (H.keep e1.keep) fun v s2 e2 r2 => ?_)
  obtain ⟨u, rfl⟩ := repS.mp r2
  refine ⟨y, u, rfl, ?_⟩
  rw [hc]
  exact k _ _ (e1.trans e2) (repB.mpr rfl)

/-- '{%s}' % x -/
theorem Ex.modS {e : Expr} {kd : Nat} {p pos : Pos} {x y : Str} (h : Ex G n Γ true e (.str y)) (hy : y.length ≤ 1000000) :
    Ex G n Γ b (.BinOp (.Constant (.str (Str.ofString "{%s}")) kd p) .Mod e pos) (.str ((Str.ofString "{" ++ y) ++ Str.ofString "}")) :=
  Ex.bin (Ex.cstr (b := true)) h fun {A X s Q E v1 v2} rm g live r1 r2 k => by
    obtain ⟨t, rfl⟩ := repS.mp r1; obtain ⟨u, rfl⟩ := repS.mp r2
    refine' KPc.mod_str (T := fun z => (Str.ofString "{" ++ z) ++ Str.ofString "}") ?kpcF hy ?kpcm ?_
    case kpcF => kpc_eq
    case kpcm => k_dflt kpc_run_s
    intro t' tk
    exact k _ _ Ext.tok (repS.mpr ⟨_, rfl⟩)

set_option maxHeartbeats 4000000 in
/-- '%s:%d(%s)' % (x, i, y) -/
theorem Ex.modT {e : Expr} {kd : Nat} {p pos : Pos} {x y : Str} {i : Int} {b1 : Bool} (h : Ex G n Γ b1 e (.tup [.str x, .int i, .str y])) (hx : x.length ≤ 1000000) (hy : y.length ≤ 1000000) (hi0 : 0 ≤ i) (hi1 : i < 10 ^ 10) :
    Ex G n Γ b (.BinOp (.Constant (.str (Str.ofString "%s:%d(%s)")) kd p) .Mod e pos) (.str (((((x ++ Str.ofString ":") ++ Str.ofString (toString i)) ++ Str.ofString "(") ++ y) ++ Str.ofString ")")) :=
  Ex.bin (Ex.cstr (b := true)) h fun {A X s Q E v1 v2} rm g live r1 r2 k => by
    obtain ⟨t, rfl⟩ := repS.mp r1
    obtain ⟨a, vs, rfl, hb, hl, rl⟩ := repT.mp r2
    unfold RepL at rl
    obtain ⟨w1, q1, e1, r1, rl⟩ := rl
    unfold RepL at rl
    obtain ⟨w2, q2, e2, r2, rl⟩ := rl
    unfold RepL at rl
    obtain ⟨w3, q3, e3, r3, rl⟩ := rl
    unfold RepL at rl
    obtain ⟨t1, rfl⟩ := repS.mp r1
    obtain ⟨t2, rfl⟩ := repI.mp r2
    obtain ⟨t3, rfl⟩ := repS.mp r3
    subst rl e3 e2
    obtain ⟨vs⟩ := vs
    simp only at e1
    subst e1
    have N : News { objs := #[] } (a + 1) s.heap [(a, tupObj #[.str x t1, .int i t2, .str y t3])] := fun p hp => by
      simp only [List.mem_cons, List.not_mem_nil, or_false] at hp
      subst hp
      exact ⟨hl, Nat.ne_of_lt (Nat.lt_succ_self _), rfl⟩
    have hd : i.natAbs.log2 < 1920 := shown (N := 2 ^ 1920) (by omega) (by omega) (Int.le_refl _)
    refine' KPt.mod_tuple (T := ((((x ++ Str.ofString ":") ++ Str.ofString (toString i)) ++ Str.ofString "(") ++ y) ++ Str.ofString ")") N (List.mem_cons_self ..) ?kptF ?kptm ?_
    case kptF => kpt_eq
    case kptm => k_dflt kpt_run
    intro t' tk
    exact k _ _ Ext.tok (repS.mpr ⟨_, rfl⟩)
end
end Mine

namespace Mine
section
variable {prog : Program} {w : World} {G : Glo prog w} {n : Nat} {Γ : Cx} {b : Bool}

noncomputable abbrev csl : Str := Str.ofString "comp_select_list"

variable (G) in
/-- a def of a class -/
structure FdAt (a : Addr) (fd : FuncData) (body : List Stmt) (ps : List Str) : Prop where
  obj : ∀ {h : Heap}, G.P h → ∃ o, h.get? a = some o ∧ o.data = .func fd
  code : ∀ {h : Heap}, G.P h → h.CodeRec fd.code fd.qualname
  glb : fd.globals = mainGlobals
  blt : fd.builtins = builtinsNs
  clo : fd.closure = []
  bod : fd.body = .stmts body
  kind : fd.scope.kind = .function
  co : fd.scope.isCoroutine = false
  gen : fd.scope.isGenerator = false
  names : ∀ x ∈ fd.scope.names, fd.scope.names.lookup x.1 = some x.2
  free : ∀ x ∈ fd.scope.names, x.2 ≠ .free
  pk : ∀ p ∈ ps, fd.scope.names.lookup p = some .local
  nocell : ∀ x ∈ fd.scope.names, x.2 ≠ .cell
  nodup : ps.Nodup
  bind : ∀ (vals : List Value), vals.length = ps.length → bindArgs fd ⟨vals, []⟩ = pure (ps.zip vals)

theorem codeAny_fd {a : Addr} {fd : FuncData} {body : List Stmt} {ps : List Str} {ds : List (Fl × D)} {d : D} {A : Around} {X : Addr → Prop} {s : Shared} {vals : List Value} {R : Result → Shared → Prop}
    (P : FdAt G a fd body ps) (rm : Room (n + 1) A) (gl : G.P s.heap) (live : ∀ a, X a → s.heap.get? a ≠ none) (hfl : ∀ p ∈ ds, p.1 ≠ .own) (hlen : ps.length = ds.length) (hra : RepA G X s.heap ds vals)
    (hrun : Runs G n ⟨fd.scope, cellNames fd.scope.names, ps.zip ds⟩ body (fun o => o = .ret d))
    (k : ∀ v s', Ext s s' → RepF G X s'.heap d true v → R (.ok (.ret v)) s') : codeAny (model prog w) A (.call (.ref a) ⟨vals, []⟩) R s := by
  obtain ⟨o, ho, hd⟩ := P.obj gl
  have hlen2 : vals.length = ps.length := by rw [hra.length]; exact hlen.symm
  refine codeAny_call_cells (fd := fd) (binds := ps.zip vals) (Nat.lt_of_lt_of_le (by have := rm.2.1; show A.depth < 900; omega) (by decide)) ho hd (G.lim gl) (P.code gl) P.bod (P.bind vals hlen2) P.clo (fun x hx => ?_) (fun s1 I => ?_) P.co P.gen P.kind
  · exact .inl (P.pk _ (List.of_mem_zip (a := x.1) (b := x.2) hx).1)
  · have H := fn_here (fd := fd) (h0 := s.heap) gl live P.kind P.glb P.blt P.names P.free (fun p hp => .inl (P.pk p hp)) P.nodup hfl hra hlen I
    obtain ⟨h1, tk, hs1⟩ := I.toInCall.same
    refine hrun rm.deep H fun o' fl s' e q => ?_
    subst e
    obtain ⟨v, rfl, r, c⟩ := q
    refine k v s' ⟨fun b ob e => ?_, c.gens.trans (by rw [hs1]), c.os.trans (by rw [hs1])⟩ r
    exact c.keep b ob (.inl (by rw [e]; exact Option.some_ne_none _)) (I.toInCall.keep b ob e)

set_option genInjectivity false in
set_option genSizeOfSpec false in
variable (G) in
/-- the class -/
structure ClsK where
  K : Frag
  kin : ∀ {h : Heap}, G.P h → K.In h
  fI : Addr
  fC : Addr
  fdI : FuncData
  fdC : FuncData
  bI : List Stmt
  bC : List Stmt
  makes : makesIn K G.C = true
  init : findIn K (.ref G.C) "__init__" = some (some (.ref fI))
  initFn : isFn K (.ref fI) = true
  set : findIn K (.ref G.C) "__setattr__" = some (some (.builtin "object.__setattr__"))
  over : plainOver K G.C = true
  taker : takerIn K G.C "comp_select_list" = some none
  hasD : hasDictIn K G.C = true
  getI : plainGet K G.C "comp_select_list" = true
  attr : findIn K (.ref G.C) "comp_select_list" = some none
  getC : plainGet K G.C "compare" = true
  cmp : findIn K (.ref G.C) "compare" = some (some (.ref fC))
  cmpFn : isFn K (.ref fC) = true
  keepC : keepIn K (.ref G.C) = true
  keepF : keepIn K (.ref fC) = true
  glob : G.mg "TupleComp" = some (.ref G.C)
  atI : FdAt G fI fdI bI [Str.ofString "self", csl]
  atC : FdAt G fC fdC bC [Str.ofString "self", Str.ofString "left", Str.ofString "right"]
  initBody : ∃ px pa pv pos, bI = [.Assign [.Attribute (.Name (Str.ofString "self") px) csl pa] (.Name csl pv) pos] ∧ ∀ env : Env, swapsWith (.Name csl pv) (some (.Attribute (.Name (Str.ofString "self") px) csl pa)) pos.line env = pure false

theorem repC {X : Addr → Prop} {h : Heap} {l : List D} {b : Bool} {v : Value} : RepF G X h (.comp l) b v ↔ ∃ a dx hs kt n la vs ln, v = .ref a ∧ (b = true → ¬ X a) ∧ ¬ X dx ∧ ¬ X la ∧ h.get? a = some (instObj G.C dx) ∧ h.get? dx = some (dictOf [⟨hs, .str (Str.ofString "comp_select_list") kt, .ref la⟩] n) ∧
      IsL h la vs ln ∧ RepL G X h l vs.toList := by unfold RepF; exact Iff.rfl

theorem inst_of {h : Heap} {a dx : Addr} {od : Obj} (h1 : h.get? a = some (instObj G.C dx)) (h2 : h.get? dx = some od) : InstAt h a (instObj G.C dx) G.C (some od) := ⟨h1, rfl, rfl, h2⟩

/-- the own name of an object -/
theorem Ex.attr (C : ClsK G) {value : Expr} {pos : Pos} {l : List D} {b1 : Bool} (h : Ex G n Γ b1 value (.comp l)) (hbase : ∀ env : Env, attributeBase value csl env (eval value env) = eval value env := by intro _; rfl) (ht : ∀ o r, letTemporaryGo value o r = pure () := by intro _ _; rfl) :
    Ex G n Γ b (.Attribute value csl pos) (.list l) := by
  intro A h₀ X₀ X env s Q E rm H k
  rw [arm_eval_Attribute, hbase]
  refine wpAny_bind (h rm H fun v s1 e1 r1 => ?_)
  obtain ⟨a, dx, hs, kt, m, la, vs, ln, rfl, hb, hX1, hX2, h1, h2, h3, rl⟩ := repC.mp r1
  refine wpAny_bind (wpAny_standAt (wpAny_bind (wpAny_holding ?_)))
  refine get_value (C.kin (G.keeps e1.keep H.gl)) (inst_of h1 h2) (plainGet_of C.getI).1 (findObj_own C.hasD C.attr rfl (v := .ref la) ?_) rfl ?_
  · rfl
  · refine wpAny_bind (wpAny_of_eq (ht _ _) (wpAny_pure (k _ _ (e1.trans Ext.tok) ?_)))
    exact repL.mpr ⟨la, vs, ln, rfl, fun _ => hX2, h3, rl⟩

/-- the class is called -/
theorem Ex.newComp (C : ClsK G) {e : Expr} {px pos : Pos} {l : List D} (he : Ex G (n + 1) Γ true e (.list l)) (hx : Γ.sc.names.lookup (Str.ofString "TupleComp") = some .globalImplicit := by rfl)
    (hse : ∀ env : Env, starEach [e] env = [(false, eval e env)] := by intro _; rfl) : Ex G (n + 1) Γ b (.Call (.Name (Str.ofString "TupleComp") px) [e] [] pos) (.comp l) := by
  intro A h₀ X₀ X env s Q E rm H k
  refine wpAny_Call_NameR (wpAny_globalName H hx C.glob (callWith_K (C.kin H.gl) C.keepC ?_ (hse env) rfl) (by decide))
  refine wpAny_items_cons (he rm H fun v s1 e1 r1 => wpAny_items_nil ?_) (hse env)
  have gl1 := G.keeps e1.keep H.gl
  have live1 := (H.keep e1.keep).live
  refine ⟨C.kin gl1, wpAny_call ?_⟩
  obtain ⟨la, vs, ln, rfl, hb, hl, rl⟩ := repL.mp r1
  obtain ⟨hh, g, d, t, os⟩ := s1
  refine make_core (makes_of (C.kin gl1) C.makes) (looks_findIn (C.kin gl1) C.init) (fun self => bind_fn (C.kin gl1) self (beq_iff_eq.mp C.initFn)) (.inl rfl) ?_
  have kp : Keeps hh ((hh.push emptyDict).push (instObj G.C hh.objs.size)) := fun b o e => Heap.get?_push_of_some _ (Heap.get?_push_of_some _ e)
  have gl2 := G.keeps kp gl1
  obtain ⟨o, ho, hd⟩ := C.atI.obj gl2
  refine codeAny_call_def (fd := C.fdI) (body := C.bI) (binds := [Str.ofString "self", csl].zip [.ref (hh.objs.size + 1), .ref la]) ?_ ho hd (G.lim gl2) (C.atI.code gl2) C.atI.bod (.of_eq (C.atI.bind _ rfl)) C.atI.nocell (fun x hx => C.atI.pk _ (List.of_mem_zip (a := x.1) (b := x.2) hx).1) (fun h₀' hns hk => ?_) C.atI.co C.atI.gen C.atI.kind
  · have := rm.2.1
    have : (A.under (.builtin "type.__call__" ⟨[.ref G.C, .ref la], []⟩)).depth < 1000 := by
      show A.depth + Code.weight _ < 1000
      have : Code.weight (.builtin "type.__call__" ⟨[.ref G.C, .ref la], []⟩) = 1 := by kernel_rfl
      omega
    exact Nat.lt_of_lt_of_le this (by decide)
  · obtain ⟨px, pa, pv, ps, hbody, hsw⟩ := C.initBody
    rw [hbody]
    have hL : ((hh.push emptyDict).push (instObj G.C hh.objs.size)).objs.size = hh.objs.size + 2 := by rw [Heap.size_push, Heap.size_push]
    have ek : ∀ p ∈ [Str.ofString "self", csl], (callEnv C.fdI ((hh.push emptyDict).push (instObj G.C hh.objs.size)).objs.size C.fI).kindOf p = some .local := fun p hp => C.atI.pk p hp
    have hns' : h₀'.Ns ((hh.push emptyDict).push (instObj G.C hh.objs.size)).objs.size (fun x => List.lookup x ([Str.ofString "self", csl].zip [Value.ref (hh.objs.size + 1), Value.ref la]).reverse) := hns
    refine wpAny_execs_cons (plainObj_wpAny_Assign_Attribute (ldc C.atI.kind (ek _ (by simp)) hns' (v := .ref la) rfl (ldc C.atI.kind (ek _ (by simp)) hns' (v := .ref (hh.objs.size + 1)) rfl ?_ (by decide)) (by decide)) (hsw _))
    have F : Fr hh ((hh.push emptyDict).push (instObj G.C hh.objs.size)).objs.size h₀' _ := ⟨hns', fun b o e => hk b o (kp b o e), by rw [hL]; exact Nat.le_add_right _ _⟩
    have hx1 : h₀'.get? (hh.objs.size + 1) = some (instObj G.C hh.objs.size) := hk _ _ (by heap_get)
    have hx2 : h₀'.get? hh.objs.size = some emptyDict := hk _ _ (by heap_get)
    have nn1 : hh.get? (hh.objs.size + 1) = none := by
      cases e : hh.get? (hh.objs.size + 1) with
      | none => rfl
      | some o => exact absurd (Heap.lt_size e) (Nat.not_lt.mpr (Nat.le_succ _))
    have N : News hh ((hh.push emptyDict).push (instObj G.C hh.objs.size)).objs.size h₀' ([(hh.objs.size + 1, instObj G.C hh.objs.size)] ++ (hh.objs.size, dictOf [] 0) :: []) := by
      intro p hp
      rw [hL]
      simp only [List.cons_append, List.nil_append, List.mem_cons, List.not_mem_nil, or_false] at hp
      rcases hp with rfl | rfl
      · exact ⟨hx1, Nat.ne_of_lt (Nat.lt_succ_self _), nn1⟩
      · exact ⟨hx2, Nat.ne_of_lt (Nat.lt_succ_of_lt (Nat.lt_succ_self _)), new_none _⟩
    have K0 := C.kin (G.keeps hk gl2)
    refine set_plain K0 (inst_of hx1 hx2) C.set (osa_dict F N K0 (inst_of hx1 hx2) rfl C.over C.taker C.hasD rfl ?_ ?_ (putName_dict _ _ _ _ _ _) rfl ?_ fun h' F' N' => ?_)
    · intro p hp
      simp only [List.mem_cons, List.not_mem_nil, or_false] at hp
      subst hp
      exact Nat.succ_ne_self _
    · intro p hp
      cases hp
    · show 1 ≤ 1000
      decide
    · refine wpAny_execs_nil ⟨rfl, ?_⟩
      have g1 := (N' _ (List.mem_append_left _ (List.mem_cons_self ..))).1
      have g2 := (N' _ (List.mem_append_right _ (List.mem_cons_self ..))).1
      have kf : Keeps hh h' := F'.keep
      refine k _ _ ⟨fun b o e => kf b o (e1.keep b o e), e1.gens, e1.os⟩ (repC.mpr ⟨hh.objs.size + 1, hh.objs.size, _, _, _, la, vs, ln, rfl, fun _ hX => live1 _ hX nn1, fun hX => live1 _ hX (new_none _), hb rfl, g1, g2, kf _ _ hl, rl.keep kf⟩)

/-- the method -/
theorem Ex.compare (C : ClsK G) {o e f : Expr} {apos pos : Pos} {l : List D} {d1 d2 d : D} (h : Ex G (n + 1) Γ true o (.comp l)) (args : Arg G (n + 1) Γ pos [e, f] [(.full, d1), (.full, d2)])
    (hrun : Runs G n ⟨C.fdC.scope, cellNames C.fdC.scope.names, [Str.ofString "self", Str.ofString "left", Str.ofString "right"].zip [(.full, .comp l), (.full, d1), (.full, d2)]⟩ C.bC (fun o => o = .ret d))
    (hbase : ∀ env : Env, attributeBase o (Str.ofString "compare") env (eval o env) = eval o env := by intro _; rfl) (hline : (apos.endLine == pos.line) = true := by rfl)
    (hse : ∀ env : Env, starEach [e, f] env = [(false, eval e env), (false, eval f env)] := by intro _; rfl) (hse1 : ∀ env : Env, starEach [f] env = [(false, eval f env)] := by intro _; rfl) :
    Ex G (n + 1) Γ b (.Call (.Attribute o (Str.ofString "compare") apos) [e, f] [] pos) d := by
  intro A h₀ X₀ X env s Q E rm H k
  rw [arm_eval_Call, hbase]
  refine wpAny_bind (h rm H fun v s1 e1 r1 => ?_)
  obtain ⟨a, dx, hs, kt, m, la, vs, ln, rfl, hb, hX1, hX2, h1, h2, h3, rl⟩ := repC.mp r1
  have gl1 := G.keeps e1.keep H.gl
  have hfew : methodCallForm ([e, f].length + ([] : List Keyword).length) (backTo pos (starEach [e, f] env)) (backToKw pos (keywordEach [] env)) = true := by rw [hse]; rfl
  have hpos : methodCallPos true o env apos pos = pure pos := by unfold methodCallPos; simp [hline]
  refine wpAny_bind (wpAny_standAt ?_)
  unfold methodCall
  rw [hfew]
  refine wpAny_bind (wpAny_holding (method_fn (C.kin gl1) (inst_of h1 h2) (plainGet_of C.getC).1 (plainGet_of C.getC).2 C.cmp (beq_iff_eq.mp C.cmpFn) rfl ?_))
  refine wpAny_bind (wpAny_of_eq hpos ?_)
  have hse2 : ∀ env : Env, starEach [e, f] env = (false, eval e env) :: starEach [f] env := fun env => by rw [hse, hse1]
  refine callWith_K (C.kin gl1) C.keepF ?_ (hse2 env) (by rw [hse1]; rfl)
  refine args rm (H.keep e1.keep) fun ws s2 e2 ra => ⟨C.kin (G.keeps e2.keep gl1), ?_⟩
  have gl2 := G.keeps e2.keep gl1
  refine wpAny_call (codeAny_fd (ds := [(.full, .comp l), (.full, d1), (.full, d2)]) C.atC rm gl2 ((H.keep e1.keep).keep e2.keep).live (by simp) rfl ?_ hrun fun v s' e3 r3 => k v s' (e1.trans (e2.trans e3)) r3.weak)
  exact ⟨.ref a, ws, rfl, r1.keep e2.keep, ra⟩
end
end Mine

namespace Mine

noncomputable def intsD (l : List Int) : List D := l.map D.int
noncomputable def strsD (l : List Str) : List D := l.map D.str
noncomputable def tupsD (l : List (List Int)) : List D := l.map fun t => .tup (intsD t)
noncomputable def okStr (s : Str) : Bool := s.cps.toList.all fun c => decide (c < 0x110000)

theorem pys_ints : ∀ l : List Int, toPys (intsD l) = l.map PyData.int
  | [] => by simp [intsD, toPys]
  | i :: l => by
    have := pys_ints l
    simp only [intsD, List.map_cons] at *
    simp only [toPys, toPy, this]
theorem pys_strs : ∀ l : List Str, toPys (strsD l) = l.map PyData.str
  | [] => by simp [strsD, toPys]
  | i :: l => by
    have := pys_strs l
    simp only [strsD, List.map_cons] at *
    simp only [toPys, toPy, this]
theorem pys_tups : ∀ l : List (List Int), toPys (tupsD l) = l.map fun t => .tuple (t.map PyData.int)
  | [] => by simp [tupsD, toPys]
  | i :: l => by
    have := pys_tups l
    simp only [tupsD, List.map_cons] at *
    simp only [toPys, toPy, this, pys_ints]
theorem pysOk_ints : ∀ l : List Int, pysOk (intsD l) = true
  | [] => rfl
  | i :: l => by
    have := pysOk_ints l
    simp only [intsD, List.map_cons, pysOk, pyOk, Bool.true_and] at *
    exact this
theorem pysOk_strs : ∀ l : List Str, pysOk (strsD l) = true
  | [] => rfl
  | i :: l => by
    have := pysOk_strs l
    simp only [strsD, List.map_cons, pysOk, pyOk, Bool.true_and] at *
    exact this
theorem pysOk_tups : ∀ l : List (List Int), pysOk (tupsD l) = true
  | [] => rfl
  | i :: l => by
    have h1 := pysOk_tups l
    have h2 := pysOk_ints i
    simp only [tupsD, List.map_cons, pysOk, pyOk, h2, Bool.true_and] at *
    exact h1
theorem can_ints : ∀ l : List Int, PyData.canLayAll0 (l.map PyData.int) = true
  | [] => by simp [PyData.canLayAll0]
  | i :: l => by simp [PyData.canLayAll0, PyData.canLay0, can_ints l]
theorem can_tups : ∀ l : List (List Int), PyData.canLayAll0 (l.map fun t => .tuple (t.map PyData.int)) = true
  | [] => by simp [PyData.canLayAll0]
  | i :: l => by simp [PyData.canLayAll0, PyData.canLay0, can_tups l, can_ints i]
theorem depth_ints : ∀ l : List Int, PyData.depthAll (l.map PyData.int) = 0
  | [] => by simp [PyData.depthAll]
  | i :: l => by simp [PyData.depthAll, PyData.depth, depth_ints l]
theorem depth_strs : ∀ l : List Str, PyData.depthAll (l.map PyData.str) = 0
  | [] => by simp [PyData.depthAll]
  | i :: l => by simp [PyData.depthAll, PyData.depth, depth_strs l]
theorem depth_tups : ∀ l : List (List Int), PyData.depthAll (l.map fun t => .tuple (t.map PyData.int)) ≤ 1
  | [] => by simp [PyData.depthAll]
  | i :: l => by
    have := depth_tups l
    simp only [List.map_cons, PyData.depthAll, PyData.depth, depth_ints i]
    omega
theorem can_strs : ∀ l : List Str, (∀ s ∈ l, PyData.strOk s = true) → PyData.canLayAll0 (l.map PyData.str) = true
  | [], _ => by simp [PyData.canLayAll0]
  | i :: l, h => by
    have h1 := can_strs l fun s hs => h s (List.mem_cons_of_mem _ hs)
    have h2 := h i (List.mem_cons_self ..)
    simp only [List.map_cons, PyData.canLayAll0, PyData.canLay0, h1, h2, Bool.and_self]
theorem eqvAll_ints : ∀ a b : List Int, PyData.eqvAll (a.map PyData.int) (b.map PyData.int) = (a == b)
  | [], [] => by simp [PyData.eqvAll]
  | [], _ :: _ => by simp [PyData.eqvAll]
  | _ :: _, [] => by simp [PyData.eqvAll]
  | x :: a, y :: b => by simp only [List.map_cons, PyData.eqvAll, PyData.eqv, eqvAll_ints a b, List.cons_beq_cons]
theorem eqvAll_strs : ∀ a b : List Str, PyData.eqvAll (a.map PyData.str) (b.map PyData.str) = (a == b)
  | [], [] => by simp [PyData.eqvAll]
  | [], _ :: _ => by simp [PyData.eqvAll]
  | _ :: _, [] => by simp [PyData.eqvAll]
  | x :: a, y :: b => by simp only [List.map_cons, PyData.eqvAll, PyData.eqv, eqvAll_strs a b, List.cons_beq_cons]

section
variable {prog : Program} {w : World} {G : Glo prog w} {n : Nat} {Γ : Cx} {b : Bool} {b1 b2 : Bool}
theorem sh_list {l : List D} (h1 : PyData.canLayAll0 (toPys l) = true) (h2 : PyData.depthAll (toPys l) ≤ 60) : SeqAt.shaped (toPy (.list l)) = true := by
  simp only [toPy, SeqAt.shaped, PyData.canLay0, PyData.depth, h1, Bool.true_and, decide_eq_true_eq]; omega
theorem sh_tup {l : List D} (h1 : PyData.canLayAll0 (toPys l) = true) (h2 : PyData.depthAll (toPys l) ≤ 60) : SeqAt.shaped (toPy (.tup l)) = true := by
  simp only [toPy, SeqAt.shaped, PyData.canLay0, PyData.depth, h1, Bool.true_and, decide_eq_true_eq]; omega
theorem sh_ints (l : List Int) : SeqAt.shaped (toPy (.list (intsD l))) = true := sh_list (by rw [pys_ints]; exact can_ints l) (by rw [pys_ints, depth_ints]; omega)
theorem sh_intsT (l : List Int) : SeqAt.shaped (toPy (.tup (intsD l))) = true := sh_tup (by rw [pys_ints]; exact can_ints l) (by rw [pys_ints, depth_ints]; omega)
theorem sh_tups (l : List (List Int)) : SeqAt.shaped (toPy (.list (tupsD l))) = true := sh_list (by rw [pys_tups]; exact can_tups l) (by rw [pys_tups]; have := depth_tups l; omega)
theorem sh_strs {l : List Str} (h : ∀ s ∈ l, PyData.strOk s = true) : SeqAt.shaped (toPy (.list (strsD l))) = true := sh_list (by rw [pys_strs]; exact can_strs l h) (by rw [pys_strs, depth_strs]; omega)

theorem okL {l : List D} (h : pysOk l = true) : pyOk (.list l) = true := by unfold pyOk; exact h
theorem okT {l : List D} (h : pysOk l = true) : pyOk (.tup l) = true := by unfold pyOk; exact h
theorem Cmp.neInts {x y : List Int} : Cmp G n .NotEq (.list (intsD x)) b1 (.list (intsD y)) b2 (x != y) := by
  refine Cmp.neD (okL (pysOk_ints x)) (okL (pysOk_ints y)) (sh_ints x) (sh_ints y) ?_
  simp only [toPy, PyData.eqv, pys_ints, eqvAll_ints, bne, Bool.not_not]
theorem Cmp.eqInts {x y : List Int} : Cmp G n .Eq (.list (intsD x)) b1 (.list (intsD y)) b2 (x == y) := by
  refine Cmp.eqD (okL (pysOk_ints x)) (okL (pysOk_ints y)) (sh_ints x) (sh_ints y) ?_
  simp only [toPy, PyData.eqv, pys_ints, eqvAll_ints]
theorem Cmp.eqIntsT {x y : List Int} : Cmp G n .Eq (.tup (intsD x)) b1 (.tup (intsD y)) b2 (x == y) := by
  refine Cmp.eqD (okT (pysOk_ints x)) (okT (pysOk_ints y)) (sh_intsT x) (sh_intsT y) ?_
  simp only [toPy, PyData.eqv, pys_ints, eqvAll_ints]
theorem Cmp.neStrs {x y : List Str} (hx : ∀ s ∈ x, PyData.strOk s = true) (hy : ∀ s ∈ y, PyData.strOk s = true) : Cmp G n .NotEq (.list (strsD x)) b1 (.list (strsD y)) b2 (x != y) := by
  refine Cmp.neD (okL (pysOk_strs x)) (okL (pysOk_strs y)) (sh_strs hx) (sh_strs hy) ?_
  simp only [toPy, PyData.eqv, pys_strs, eqvAll_strs, bne, Bool.not_not]
theorem Cmp.eqNil {x : List (List Int)} : Cmp G n .Eq (.list (tupsD x)) b1 (.list []) b2 x.isEmpty := by
  have e : ∀ y : List PyData, PyData.eqvAll y (toPys []) = y.isEmpty := fun y => by cases y <;> simp [toPys, PyData.eqvAll]
  show Cmp _ _ _ _ _ _ _ _
  refine Cmp.eqD (d2 := .list []) (okL (pysOk_tups x)) rfl (sh_tups x) (sh_ints []) ?_
  simp only [toPy, PyData.eqv, pys_tups]
  rw [e]
  cases x <;> rfl
theorem Cmp.eqNilI {x : List Int} : Cmp G n .Eq (.list (intsD x)) b1 (.list []) b2 x.isEmpty := by
  have e : ∀ y : List PyData, PyData.eqvAll y (toPys []) = y.isEmpty := fun y => by cases y <;> simp [toPys, PyData.eqvAll]
  show Cmp _ _ _ _ _ _ _ _
  refine Cmp.eqD (d2 := .list []) (okL (pysOk_ints x)) rfl (sh_ints x) (sh_ints []) ?_
  simp only [toPy, PyData.eqv, pys_ints]
  rw [e]
  cases x <;> rfl

theorem strOk_append {x y : Str} (hx : PyData.strOk x = true) (hy : PyData.strOk y = true) : PyData.strOk (x ++ y) = true := by
  unfold PyData.strOk at *
  show ((x.cps ++ y.cps).all _) = true
  rw [Array.all_append, hx, hy]; rfl
end
end Mine

namespace Mine
section
variable {prog : Program} {w : World} {G : Glo prog w} {n : Nat} {Γ : Cx} {b : Bool}

open Classical in
/-- a map over the items' shapes -/
noncomputable def viaEmb {α : Type} (xs : List α) (emb : α → D) (H : α → List D) (d : D) : List D := if h : ∃ x, x ∈ xs ∧ emb x = d then H h.choose else []
theorem viaEmb_at {α : Type} {xs : List α} {emb : α → D} {H : α → List D} (hinj : ∀ x ∈ xs, ∀ y ∈ xs, emb x = emb y → H x = H y) {x : α} (hx : x ∈ xs) : viaEmb xs emb H (emb x) = H x := by
  have h : ∃ y, y ∈ xs ∧ emb y = emb x := ⟨x, hx, rfl⟩
  unfold viaEmb
  rw [dif_pos h]
  exact hinj _ h.choose_spec.1 _ hx h.choose_spec.2
theorem viaEmb_all {α : Type} {xs : List α} {emb : α → D} {p : α → Bool} {F : α → List D} (hinj : ∀ x ∈ xs, ∀ y ∈ xs, emb x = emb y → x = y) :
    (xs.map emb).flatMap (viaEmb xs emb fun x => if p x = true then F x else []) = (xs.filter p).flatMap F := by
  rw [List.flatMap_map]
  have : ∀ ys : List α, (∀ y ∈ ys, y ∈ xs) → (ys.flatMap fun a => viaEmb xs emb (fun x => if p x = true then F x else []) (emb a)) = (ys.filter p).flatMap F := by
    intro ys
    induction ys with
    | nil => intro _; rfl
    | cons y ys ih =>
      intro h
      rw [List.flatMap_cons, ih fun z hz => h z (List.mem_cons_of_mem _ hz), viaEmb_at (fun a ha c hc e => by rw [hinj a ha c hc e]) (h y (List.mem_cons_self ..))]
      cases hp : p y with
      | true => simp [hp]
      | false => simp [hp]
  exact this xs fun _ h => h

theorem CompG.bind {α : Type} {xs : List α} {emb : α → D} {p : α → Bool} {F : α → List D} {ak : AK} {target iter : Expr} {ifs : List Expr} {gs : List Comprehension} {scope : Scope} {T : Expr → Prop}
    (src : Src G false n Γ iter T (xs.map emb)) (hT : T target) (hinj : ∀ x ∈ xs, ∀ y ∈ xs, emb x = emb y → x = y) (hlen : ((xs.filter p).flatMap F).length ≤ sizeLine)
    (step : ∀ x ∈ xs, ∃ Γ', Asg G n (Γ.inner scope) target (emb x) Γ' ∧ Sub (Γ.inner scope) Γ' ∧ Tests G n Γ' ifs (p x) ∧ (p x = true → EmG G n ak gs Γ' (F x)))
    (hs : ∀ (env : Env) (x : Value), foldedSetIterable iter env x = pure x := by intro _ _; rfl) : CompG G n Γ ak (⟨target, iter, ifs, 0⟩ :: gs) scope ((xs.filter p).flatMap F) := by
  refine ⟨target, iter, ifs, gs, xs.map emb, T, viaEmb xs emb (fun x => if p x = true then F x else []), rfl, src, hT, hs, (viaEmb_all hinj).symm, hlen, fun d hd => ?_⟩
  obtain ⟨x, hx, rfl⟩ := List.mem_map.mp hd
  obtain ⟨Γ', h1, h2, h3, h4⟩ := step x hx
  rw [viaEmb_at (fun a ha c hc e => by rw [hinj a ha c hc e]) hx]
  refine ⟨Γ', h1, h2, ?_⟩
  cases hp : p x with
  | true => rw [hp] at h3; exact .inr ⟨h3, by simpa [hp] using h4 hp⟩
  | false => rw [hp] at h3; exact .inl ⟨h3, by simp⟩
theorem EmG.bind {α : Type} {xs : List α} {emb : α → D} {p : α → Bool} {F : α → List D} {ak : AK} {target iter : Expr} {ifs : List Expr} {gs : List Comprehension} {T : Expr → Prop}
    (hno : ∀ p ∈ Γ.vars, p.2.1 ≠ .own) (src : Src G true n Γ iter T (xs.map emb)) (hT : T target) (hinj : ∀ x ∈ xs, ∀ y ∈ xs, emb x = emb y → x = y)
    (step : ∀ x ∈ xs, ∃ Γ', Asg G n Γ target (emb x) Γ' ∧ Sub Γ Γ' ∧ Tests G n Γ' ifs (p x) ∧ (p x = true → EmG G n ak gs Γ' (F x)))
    (hs : ∀ (env : Env) (x : Value), foldedSetIterable iter env x = pure x := by intro _ _; rfl) : EmG G n ak (⟨target, iter, ifs, 0⟩ :: gs) Γ ((xs.filter p).flatMap F) := by
  refine ⟨rfl, (fun y d e => hno _ (mem_of_look e) rfl), hs, xs.map emb, T, viaEmb xs emb (fun x => if p x = true then F x else []), src, hT, (viaEmb_all hinj).symm, fun d hd => ?_⟩
  obtain ⟨x, hx, rfl⟩ := List.mem_map.mp hd
  obtain ⟨Γ', h1, h2, h3, h4⟩ := step x hx
  rw [viaEmb_at (fun a ha c hc e => by rw [hinj a ha c hc e]) hx]
  refine ⟨Γ', h1, h2, ?_⟩
  cases hp : p x with
  | true => rw [hp] at h3; exact .inr ⟨h3, by simpa [hp] using h4 hp⟩
  | false => rw [hp] at h3; exact .inl ⟨h3, by simp⟩
theorem EmG.nil {ak : AK} {d : D} (h : Emit G n Γ ak d) : EmG G n ak [] Γ [d] := ⟨d, h, rfl⟩

theorem one_map {α : Type} (xs : List α) (g : α → D) : (xs.flatMap fun x => [g x]) = xs.map g := by
  induction xs with
  | nil => rfl
  | cons x xs ih => rw [List.flatMap_cons, ih]; rfl

/-- one clause -/
theorem CompG.filt {α : Type} {xs : List α} {emb : α → D} {p : α → Bool} {g : α → D} {ak : AK} {target iter : Expr} {ifs : List Expr} {scope : Scope} {T : Expr → Prop}
    (src : Src G false n Γ iter T (xs.map emb)) (hT : T target) (hinj : ∀ x ∈ xs, ∀ y ∈ xs, emb x = emb y → x = y) (hlen : xs.length ≤ sizeLine)
    (step : ∀ x ∈ xs, ∃ Γ', Asg G n (Γ.inner scope) target (emb x) Γ' ∧ Sub (Γ.inner scope) Γ' ∧ Tests G n Γ' ifs (p x) ∧ (p x = true → Emit G n Γ' ak (g x)))
    (hs : ∀ (env : Env) (x : Value), foldedSetIterable iter env x = pure x := by intro _ _; rfl) : CompG G n Γ ak [⟨target, iter, ifs, 0⟩] scope ((xs.filter p).map g) := by
  rw [← one_map]
  refine CompG.bind src hT hinj ?_ (fun x hx => ?_) hs
  · rw [one_map, List.length_map]
    exact Nat.le_trans (List.length_filter_le _ _) hlen
  · obtain ⟨Γ', h1, h2, h3, h4⟩ := step x hx
    exact ⟨Γ', h1, h2, h3, fun hp => EmG.nil (h4 hp)⟩
theorem EmG.filt {α : Type} {xs : List α} {emb : α → D} {p : α → Bool} {g : α → D} {ak : AK} {target iter : Expr} {ifs : List Expr} {T : Expr → Prop}
    (hno : ∀ p ∈ Γ.vars, p.2.1 ≠ .own) (src : Src G true n Γ iter T (xs.map emb)) (hT : T target) (hinj : ∀ x ∈ xs, ∀ y ∈ xs, emb x = emb y → x = y)
    (step : ∀ x ∈ xs, ∃ Γ', Asg G n Γ target (emb x) Γ' ∧ Sub Γ Γ' ∧ Tests G n Γ' ifs (p x) ∧ (p x = true → Emit G n Γ' ak (g x)))
    (hs : ∀ (env : Env) (x : Value), foldedSetIterable iter env x = pure x := by intro _ _; rfl) : EmG G n ak [⟨target, iter, ifs, 0⟩] Γ ((xs.filter p).map g) := by
  rw [← one_map]
  refine EmG.bind hno src hT hinj (fun x hx => ?_) hs
  obtain ⟨Γ', h1, h2, h3, h4⟩ := step x hx
  exact ⟨Γ', h1, h2, h3, fun hp => EmG.nil (h4 hp)⟩
/-- one clause, no test -/
theorem CompG.mp {α : Type} {xs : List α} {emb : α → D} {g : α → D} {ak : AK} {target iter : Expr} {scope : Scope} {T : Expr → Prop}
    (src : Src G false n Γ iter T (xs.map emb)) (hT : T target) (hinj : ∀ x ∈ xs, ∀ y ∈ xs, emb x = emb y → x = y) (hlen : xs.length ≤ sizeLine)
    (step : ∀ x ∈ xs, ∃ Γ', Asg G n (Γ.inner scope) target (emb x) Γ' ∧ Sub (Γ.inner scope) Γ' ∧ Emit G n Γ' ak (g x))
    (hs : ∀ (env : Env) (x : Value), foldedSetIterable iter env x = pure x := by intro _ _; rfl) : CompG G n Γ ak [⟨target, iter, [], 0⟩] scope (xs.map g) := by
  have e : xs.filter (fun _ => true) = xs := by simp
  have k := CompG.filt (ak := ak) (g := g) (ifs := []) (p := fun _ => true) (scope := scope) src hT hinj hlen (fun x hx => ?_) hs
  · rw [e] at k; exact k
  · obtain ⟨Γ', h1, h2, h3⟩ := step x hx
    exact ⟨Γ', h1, h2, rfl, fun _ => h3⟩
theorem EmG.mp {α : Type} {xs : List α} {emb : α → D} {g : α → D} {ak : AK} {target iter : Expr} {T : Expr → Prop}
    (hno : ∀ p ∈ Γ.vars, p.2.1 ≠ .own) (src : Src G true n Γ iter T (xs.map emb)) (hT : T target) (hinj : ∀ x ∈ xs, ∀ y ∈ xs, emb x = emb y → x = y)
    (step : ∀ x ∈ xs, ∃ Γ', Asg G n Γ target (emb x) Γ' ∧ Sub Γ Γ' ∧ Emit G n Γ' ak (g x))
    (hs : ∀ (env : Env) (x : Value), foldedSetIterable iter env x = pure x := by intro _ _; rfl) : EmG G n ak [⟨target, iter, [], 0⟩] Γ (xs.map g) := by
  have e : xs.filter (fun _ => true) = xs := by simp
  have k := EmG.filt (ak := ak) (g := g) (ifs := []) (p := fun _ => true) hno src hT hinj (fun x hx => ?_) hs
  · rw [e] at k; exact k
  · obtain ⟨Γ', h1, h2, h3⟩ := step x hx
    exact ⟨Γ', h1, h2, rfl, fun _ => h3⟩

/-! ranges as lists of numbers -/
noncomputable def natD (k : Nat) : D := .int (k : Int)
theorem natD_inj {xs : List Nat} : ∀ x ∈ xs, ∀ y ∈ xs, natD x = natD y → x = y := by
  intro x _ y _ e
  simp only [natD, D.int.injEq] at e
  omega
theorem upFrom_nat (a m : Nat) : upFrom (a : Int) m = (List.range' a m).map natD := by
  unfold upFrom natD
  rw [List.range'_eq_map_range, List.map_map]
  apply List.map_congr_left
  intro x _
  simp
theorem upFrom0 (m : Nat) : upFrom 0 m = (List.range m).map natD := by
  have := upFrom_nat 0 m
  rw [List.range_eq_range']
  exact this
theorem Src.rangeN {c : Bool} {e : Expr} {px pos : Pos} {m : Nat} (h : Ex G n Γ true e (.int (m : Int))) (hhi : m < 2 ^ 30) (hx : Γ.sc.names.lookup (Str.ofString "range") = some .globalImplicit := by rfl)
    (he : ∀ env : Env, starEach [e] env = [(false, eval e env)] := by intro _; rfl) : Src G c n Γ (.Call (.Name (Str.ofString "range") px) [e] [] pos) TName ((List.range m).map natD) := by
  rw [← upFrom0, show upFrom 0 m = upFrom 0 ((m : Int).toNat) by rw [Int.toNat_natCast]]
  exact Src.range1 h (by omega) (by omega) hx he
theorem Src.rangeNN {c : Bool} {e f : Expr} {px pos : Pos} {a m : Nat} (h1 : Ex G n Γ true e (.int (a : Int))) (h2 : Ex G n Γ true f (.int (m : Int))) (ha : a < 2 ^ 30) (hm : m < 2 ^ 30) (hx : Γ.sc.names.lookup (Str.ofString "range") = some .globalImplicit := by rfl)
    (he : ∀ env : Env, starEach [e, f] env = [(false, eval e env), (false, eval f env)] := by intro _; rfl) (hf : ∀ env : Env, starEach [f] env = [(false, eval f env)] := by intro _; rfl) : Src G c n Γ (.Call (.Name (Str.ofString "range") px) [e, f] [] pos) TName ((List.range' a (m - a)).map natD) := by
  rw [← upFrom_nat, show upFrom (a : Int) (m - a) = upFrom a (((m : Int) - (a : Int)).toNat) by rw [show ((m : Int) - (a : Int)).toNat = m - a by omega]]
  exact Src.range2 h1 h2 (by omega) (by omega) (by omega) (by omega) hx he hf
noncomputable def enumP (p : D × Nat) : D := .tup [.int (p.2 : Int), p.1]
theorem enumD_map (l : List D) : enumD l = l.zipIdx.map enumP := rfl
theorem enumP_inj {xs : List (D × Nat)} : ∀ x ∈ xs, ∀ y ∈ xs, enumP x = enumP y → x = y := by
  intro x _ y _ e
  obtain ⟨x1, x2⟩ := x
  obtain ⟨y1, y2⟩ := y
  simp only [enumP, D.tup.injEq, List.cons.injEq, D.int.injEq, and_true] at e
  obtain ⟨e1, e2⟩ := e
  have : x2 = y2 := by omega
  rw [e2, this]
/-- the test `s >> k & 1` -/
noncomputable def bit (s k : Nat) : Bool := s.testBit k
theorem bit_val : ∀ s : Nat, s < 16 → ∀ k : Nat, k < 4 → (Builtin.bitAnd ((s : Int).fdiv (2 ^ ((k : Int)).toNat)) 1 != 0) = bit s k := by decide +kernel
end
end Mine

namespace Mine

noncomputable def stAt (k : Nat) : Stmt := (PySem.Challenge.pw_xb0044_01.main.body[k]?).getD (.Pass ⟨0, 0, 0, 0⟩)
noncomputable def bodyOf : Stmt → List Stmt
  | .FunctionDef _ _ b _ _ _ _ _ _ _ => b
  | .For _ _ b _ _ => b
  | .If _ b _ _ => b
  | .ClassDef _ _ _ b _ _ _ _ _ _ _ => b
  | _ => []
noncomputable def nameOf : Stmt → Str
  | .FunctionDef n _ _ _ _ _ _ _ _ _ => n
  | _ => Str.ofString ""
noncomputable def scopeOf : Stmt → Scope
  | .FunctionDef _ _ _ _ _ _ s _ _ _ => s
  | _ => ⟨.module, [], false, false, []⟩
noncomputable def paramsOf : Stmt → Arguments
  | .FunctionDef _ a _ _ _ _ _ _ _ _ => a
  | _ => ⟨[], [], none, [], [], none, []⟩
noncomputable def cx (k : Nat) (vars : List (Str × Fl × D)) : Cx := ⟨scopeOf (stAt k), cellNames (scopeOf (stAt k)).names, vars⟩

noncomputable abbrev n' (s : String) : Str := Str.ofString s

noncomputable def lookAll : List (Str × Fl × D) → List (Str × Fl × D) → Prop
  | [], _ => True
  | p :: r, vs => vs.lookup p.1 = some p.2 ∧ lookAll r vs
theorem lookAll.all : ∀ {l vs : List (Str × Fl × D)}, lookAll l vs → ∀ p ∈ l, vs.lookup p.1 = some p.2
  | [], _, _, p, h => nomatch h
  | q :: r, vs, h, p, hp => by
    rcases List.mem_cons.mp hp with rfl | hp
    · exact h.1
    · exact lookAll.all h.2 p hp
section
variable {prog : Program} {w : World} {G : Glo prog w} {n : Nat} {Γ : Cx} {b : Bool}
theorem Sub.all {Γ Γ' : Cx} (h1 : Γ.sc = Γ'.sc) (h2 : Γ.own = Γ'.own) (h : lookAll Γ.vars Γ'.vars) : Sub Γ Γ' := Sub.of h1 h2 (lookAll.all h)

variable (G) in
/-- the defs of the module -/
noncomputable def FnK (k : Nat) : Prop := ∀ {h : Heap}, G.P h → ∃ a pm cd doc, FnAt G.mg h (nameOf (stAt k)) (paramsOf (stAt k)) (bodyOf (stAt k)) (scopeOf (stAt k)) a pm cd doc

theorem list1 {vals : List Value} (h : vals.length = 1) : ∃ a, vals = [a] := List.length_eq_one_iff.mp h
theorem list2 {vals : List Value} (h : vals.length = 2) : ∃ a b, vals = [a, b] := by
  cases vals with
  | nil => cases h
  | cons a r =>
    obtain ⟨b, rfl⟩ := list1 (Nat.succ.inj h)
    exact ⟨a, b, rfl⟩
theorem list3 {vals : List Value} (h : vals.length = 3) : ∃ a b c, vals = [a, b, c] := by
  cases vals with
  | nil => cases h
  | cons a r =>
    obtain ⟨b, c, rfl⟩ := list2 (Nat.succ.inj h)
    exact ⟨a, b, c, rfl⟩
theorem noOwn_of {Γ : Cx} (h : ∀ p ∈ Γ.vars, p.2.1 ≠ .own) : NoOwn Γ := fun y d e => h _ (mem_of_look e) rfl
end

/-- count_calls -/
noncomputable def sumV (kvs : List (Str × Int)) : Int := (kvs.map (·.2)).sum
/-- add_callers -/
noncomputable def addStep (m : List (Str × Int)) (p : Str × Int) : List (Str × Int) := putKV m p.1 (match m.lookup p.1 with | some j => j + p.2 | none => p.2)
noncomputable def addC (t s : List (Str × Int)) : List (Str × Int) := s.foldl addStep (t.foldl (fun m p => putKV m p.1 p.2) [])
theorem big : 1000 ≤ sizeLine := by decide
theorem addStep_len (m : List (Str × Int)) (p : Str × Int) : (addStep m p).length ≤ m.length + 1 := putKV_length_le _ _ _
theorem addSteps_len : ∀ (s m : List (Str × Int)), (s.foldl addStep m).length ≤ m.length + s.length
  | [], m => Nat.le_refl _
  | p :: s, m => by
    have h1 := addSteps_len s (addStep m p)
    have h2 := addStep_len m p
    simp only [List.foldl_cons, List.length_cons]
    omega
theorem puts_len : ∀ (s m : List (Str × Int)), (s.foldl (fun m p => putKV m p.1 p.2) m).length ≤ m.length + s.length
  | [], m => Nat.le_refl _
  | p :: s, m => by
    have h1 := puts_len s (putKV m p.1 p.2)
    have h2 := putKV_length_le m p.1 p.2
    simp only [List.foldl_cons, List.length_cons]
    omega
theorem foldl_take_succ {α β : Type} {f : β → α → β} {a : β} {l : List α} {i : Nat} {x : α} (h : l[i]? = some x) : (l.take (i + 1)).foldl f a = f ((l.take i).foldl f a) x := by
  rw [List.take_add_one, h, List.foldl_append]; rfl

section
variable {prog : Program} {w : World} {G : Glo prog w} {n : Nat} {Γ : Cx} {b : Bool}

theorem count_calls_runs {kvs : List (Str × Int)} : Runs G n (cx 4 [(n' "callers", .full, .dict kvs)]) (bodyOf (stAt 4)) (fun o => o = .ret (.int (sumV kvs))) := by
  refine Runs.assign (d := .int 0) Ex.cint ?_ ?_
  · refine Runs.for (fun i Γ' => Γ' = cx 4 [(n' "nc", .full, .int ((kvs.take i).map (·.2)).sum), (n' "callers", .full, .dict kvs)]) (Src.values (kvs := kvs) (Ex.nameF rfl)) ⟨_, _, rfl⟩ ⟨_, rfl, Sub.refl _⟩ (fun i d Γi hd hi => ?_) (fun Γe he => ?_)
    · subst hi
      rw [List.getElem?_map] at hd
      cases hk : kvs[i]? with
      | none => rw [hk] at hd; cases hd
      | some p =>
        rw [hk] at hd
        cases hd
        refine ⟨_, Asg.name rfl, ?_⟩
        refine Runs.augAdd rfl (Ex.nameF rfl) ?_ rfl
        refine Runs.nil ⟨_, rfl, Sub.all rfl rfl ⟨?_, rfl, trivial⟩⟩
        rw [List.take_add_one, hk, List.map_append, List.sum_append]
        simp [Cx.set]
    · subst he
      refine Runs.ret (Ex.nameF rfl) ?_
      simp [sumV]
  · rfl

theorem add_callers_runs {t s : List (Str × Int)} (hsz : t.length + s.length ≤ 1000) : Runs G n (cx 3 [(n' "target", .full, .dict t), (n' "source", .full, .dict s)]) (bodyOf (stAt 3)) (fun o => o = .ret (.dict (addC t s))) := by
  refine Runs.assignOwn (d := .dict []) ExN.dict ?_ ?_ ?_
  rotate_left
  · rfl
  · intro _ _; rfl
  refine Runs.for (fun i Γ' => Γ' = cx 3 [(n' "new_callers", .own, .dict ((t.take i).foldl (fun m p => putKV m p.1 p.2) [])), (n' "target", .full, .dict t), (n' "source", .full, .dict s)]) (Src.items (kvs := t) (Ex.nameF rfl)) ⟨_, _, _, rfl⟩ ⟨_, rfl, Sub.refl _⟩ (fun i d Γi hd hi => ?_) (fun Γe he => ?_)
  · subst hi
    rw [List.getElem?_map] at hd
    cases hk : t[i]? with
    | none => rw [hk] at hd; cases hd
    | some p =>
      rw [hk] at hd
      cases hd
      refine ⟨_, Asg.pair rfl rfl, ?_⟩
      refine Runs.dictSet (kvs := (t.take i).foldl (fun m p => putKV m p.1 p.2) []) rfl (Ex.nameF rfl) (Ex.nameF rfl) ?_ ?_
      · refine Runs.nil ⟨_, rfl, Sub.all rfl rfl ⟨?_, rfl, rfl, trivial⟩⟩
        rw [foldl_take_succ hk]; rfl
      · have := puts_len (t.take i) []
        have h3 : (t.take i).length ≤ t.length := by rw [List.length_take]; omega
        have := big
        simp only [List.length_nil] at *
        omega
  · subst he
    rw [List.length_map, List.take_length]
    refine Runs.for (fun i Γ' => Γ' = cx 3 [(n' "new_callers", .own, .dict ((s.take i).foldl addStep (t.foldl (fun m p => putKV m p.1 p.2) []))), (n' "target", .full, .dict t), (n' "source", .full, .dict s)]) (Src.items (kvs := s) (Ex.nameF rfl)) ⟨_, _, _, rfl⟩ ⟨_, rfl, Sub.refl _⟩ (fun i d Γi hd hi => ?_) (fun Γe he => ?_)
    · subst hi
      rw [List.getElem?_map] at hd
      cases hk : s[i]? with
      | none => rw [hk] at hd; cases hd
      | some p =>
        rw [hk] at hd
        cases hd
        refine ⟨_, Asg.pair rfl rfl, ?_⟩
        have hlen : ((s.take i).foldl addStep (t.foldl (fun m p => putKV m p.1 p.2) [])).length ≤ sizeLine := by
          have h1 := addSteps_len (s.take i) (t.foldl (fun m p => putKV m p.1 p.2) [])
          have h2 := puts_len t []
          have h3 : (s.take i).length ≤ s.length := by rw [List.length_take]; omega
          have := big
          simp only [List.length_nil] at *
          omega
        generalize hM : (s.take i).foldl addStep (t.foldl (fun m p => putKV m p.1 p.2) []) = M at hlen
        show Runs _ _ _ _ _
        refine Runs.ife (c := (M.lookup p.1).isSome) ?_ (fun hc => ?_) fun hc => ?_
        · exact Tst.cmp (b1 := true) (Ex.nameF rfl) (Ex.nameT rfl) Cmp.inDict
        · refine Runs.ife (c := false) ?_ (fun h => by cases h) fun _ => ?_
          · exact Tst.ofBool (Ex.isTup (i := p.2) (Ex.nameF rfl))
          obtain ⟨j, hj⟩ := Option.isSome_iff_exists.mp hc
          refine Runs.dictAug (kvs := M) rfl (Ex.nameF rfl) (Ex.nameF rfl) hj ?_ hlen
          refine Runs.nil ?_
          show Runs _ _ _ _ _
          refine Runs.nil ?_
          show Runs _ _ _ _ _
          refine Runs.nil ⟨_, rfl, Sub.all rfl rfl ⟨?_, rfl, rfl, trivial⟩⟩
          rw [foldl_take_succ hk, hM]
          unfold addStep
          rw [hj]; rfl
        · refine Runs.dictSet (kvs := M) rfl (Ex.nameF rfl) (Ex.nameF rfl) ?_ hlen
          refine Runs.nil ?_
          show Runs _ _ _ _ _
          refine Runs.nil ⟨_, rfl, Sub.all rfl rfl ⟨?_, rfl, rfl, trivial⟩⟩
          rw [foldl_take_succ hk, hM]
          unfold addStep
          rw [Option.isSome_eq_false_iff.mp hc |> Option.isNone_iff_eq_none.mp]; rfl
    · subst he
      rw [List.length_map, List.take_length]
      refine Runs.retOwn (x := n' "new_callers") (d := .dict (addC t s)) ?_ ?_
      · rfl
      · rfl
end
end Mine

namespace Mine

noncomputable def methAt (k : Nat) : Stmt := ((bodyOf (stAt 1))[k]?).getD (.Pass ⟨0, 0, 0, 0⟩)
noncomputable def scM : Scope := scopeOf (methAt 1)
noncomputable def cxM (vars : List (Str × Fl × D)) : Cx := ⟨scM, cellNames scM.names, vars⟩

noncomputable def selD (sel : List (Nat × Int)) : List D := sel.map fun p => .tup [.int p.1, .int p.2]
/-- TupleComp.compare -/
noncomputable def cmpT : List (Nat × Int) → List Int → List Int → Int
  | [], _, _ => 0
  | p :: r, a, b => if (a[p.1]?).getD 0 < (b[p.1]?).getD 0 then -p.2 else if (a[p.1]?).getD 0 > (b[p.1]?).getD 0 then p.2 else cmpT r a b

theorem intsD_get {l : List Int} {i : Nat} (h : i < l.length) : (intsD l)[(i : Int).toNat]? = some (.int ((l[i]?).getD 0)) := by
  simp [intsD, List.getElem?_eq_getElem h]
section
variable {prog : Program} {w : World} {G : Glo prog w} {n : Nat} {Γ : Cx} {b : Bool}

theorem compare_runs (C : ClsK G) {sel : List (Nat × Int)} {xs ys : List Int} (hx : ∀ p ∈ sel, p.1 < xs.length ∧ p.1 < ys.length ∧ p.1 < 1000) :
    Runs G n (cxM [(n' "self", .full, .comp (selD sel)), (n' "left", .full, .tup (intsD xs)), (n' "right", .full, .tup (intsD ys))]) (bodyOf (methAt 1)) (fun o => o = .ret (.int (cmpT sel xs ys))) := by
  refine Runs.for (fun i Γ' => cmpT (sel.drop i) xs ys = cmpT sel xs ys ∧ Γ' = cxM [(n' "self", .full, .comp (selD sel)), (n' "left", .full, .tup (intsD xs)), (n' "right", .full, .tup (intsD ys))])
    (Src.list (l := selD sel) ?_) ?_ ⟨_, ⟨rfl, rfl⟩, Sub.refl _⟩ (fun i d Γi hd hi => ?_) (fun Γe he => ?_)
  · exact Ex.attr C (b1 := true) (Ex.nameF rfl)
  · exact .inr ⟨_, _, _, rfl⟩
  · obtain ⟨hi, rfl⟩ := hi
    unfold selD at hd
    rw [List.getElem?_map] at hd
    cases hk : sel[i]? with
    | none => rw [hk] at hd; cases hd
    | some p =>
      rw [hk] at hd
      cases hd
      obtain ⟨h1, h2, h3⟩ := hx p (List.mem_of_getElem? hk)
      have hdrop : sel.drop i = p :: sel.drop (i + 1) := by
        obtain ⟨hlt, e⟩ := List.getElem?_eq_some_iff.mp hk
        rw [List.drop_eq_getElem_cons hlt, e]
      refine ⟨_, Asg.pair rfl rfl, ?_⟩
      show Runs _ _ _ _ _
      refine Runs.assign (d := .int ((xs[p.1]?).getD 0)) ?_ ?_ ?_
      · exact Ex.itemT (b1 := true) (i := (p.1 : Int)) (Ex.nameF rfl) (Ex.nameF rfl) (by omega) (by omega) (intsD_get h1)
      rotate_left
      · rfl
      refine Runs.assign (d := .int ((ys[p.1]?).getD 0)) ?_ ?_ ?_
      · exact Ex.itemT (b1 := true) (i := (p.1 : Int)) (Ex.nameF rfl) (Ex.nameF rfl) (by omega) (by omega) (intsD_get h2)
      rotate_left
      · rfl
      rw [hdrop, cmpT] at hi
      refine Runs.ife (c := decide ((xs[p.1]?).getD 0 < (ys[p.1]?).getD 0)) ?_ (fun hc => ?_) fun hc => ?_
      · exact Tst.cmp (b1 := true) (b2 := true) (Ex.nameF rfl) (Ex.nameF rfl) Cmp.lt
      · refine Runs.ret (d := .int (-p.2)) ?_ ?_
        · exact Ex.neg (Ex.nameF rfl)
        · rw [if_pos (of_decide_eq_true hc)] at hi
          show Out.ret _ = Out.ret _
          rw [← hi]
      · refine Runs.nil ?_
        show Runs _ _ _ _ _
        rw [if_neg (of_decide_eq_false hc)] at hi
        refine Runs.ife (c := decide ((xs[p.1]?).getD 0 > (ys[p.1]?).getD 0)) ?_ (fun hc => ?_) fun hc => ?_
        · exact Tst.cmp (b1 := true) (b2 := true) (Ex.nameF rfl) (Ex.nameF rfl) Cmp.gt
        · refine Runs.ret (d := .int p.2) ?_ ?_
          · exact Ex.nameF rfl
          · rw [if_pos (of_decide_eq_true hc)] at hi
            show Out.ret _ = Out.ret _
            rw [← hi]
        · rw [if_neg (of_decide_eq_false hc)] at hi
          refine Runs.nil ?_
          show Runs _ _ _ _ _
          exact Runs.nil ⟨_, ⟨hi, rfl⟩, Sub.all rfl rfl ⟨rfl, rfl, rfl, trivial⟩⟩
  · obtain ⟨he, rfl⟩ := he
    have e : (selD sel).length = sel.length := by simp [selD]
    rw [e, List.drop_length] at he
    show Runs _ _ _ _ _
    refine Runs.ret (d := .int (cmpT sel xs ys)) ?_ ?_
    · rw [← he]
      exact Ex.cint
    · rfl

/-- func_std_string -/
theorem tildeOk : PyData.strOk (n' "~") = true := by decide +kernel
theorem cmpStd {a a' : Str} {i i' : Int} {b1 b2 c : Bool} (ha : PyData.strOk a = true) (ha' : PyData.strOk a' = true) (hc : (a == a' && i == i') = c) : Cmp G n .Eq (.tup [.str a, .int i]) b1 (.tup [.str a', .int i']) b2 c := by
  refine Cmp.eqD (okT rfl) (okT rfl) (sh_tup ?_ ?_) (sh_tup ?_ ?_) ?_
  · simp [toPys, toPy, PyData.canLayAll0, PyData.canLay0, ha]
  · simp [toPys, toPy, PyData.depthAll, PyData.depth]
  · simp [toPys, toPy, PyData.canLayAll0, PyData.canLay0, ha']
  · simp [toPys, toPy, PyData.depthAll, PyData.depth]
  · simp [toPys, toPy, PyData.eqv, PyData.eqvAll, ← hc]

theorem std1 : Runs G n (cx 2 [(n' "func_name", .full, .tup [.str (n' "~"), .int 0, .str (n' "<z>")])]) (bodyOf (stAt 2)) (fun o => o = .ret (.str (n' "{z}"))) := by
  refine Runs.ife (c := true) ?_ (fun _ => ?_) fun h => by cases h
  · exact Tst.cmp (b1 := true) (b2 := true) (Ex.takeT (b1 := true) (i := 2) (Ex.nameF rfl) Ex.cint (by decide) (by decide)) (Ex.tup (Exs.cons Ex.cstr (Exs.cons Ex.cint Exs.nil))) (cmpStd tildeOk tildeOk (by decide))
  · refine Runs.assign (d := .str (n' "<z>")) ?_ ?_ ?_
    · exact Ex.itemT (b1 := true) (i := 2) (Ex.nameF rfl) Ex.cint (by decide) (by decide) rfl
    rotate_left
    · rfl
    refine Runs.ife (c := true && true) ?_ (fun _ => ?_) fun h => by cases h
    · exact Tst.and2 (Tst.startswith (Ex.nameF rfl) Ex.cstr (by decide)) fun _ => Tst.endswith (Ex.nameF rfl) Ex.cstr (by decide)
    refine Runs.ret (d := .str ((Str.ofString "{" ++ n' "z") ++ Str.ofString "}")) ?_ ?_
    · refine Ex.modS (x := n' "") ?_ (by decide)
      exact Ex.sliceS (i := 1) (j := -1) (Ex.nameF rfl) Ex.cint (Ex.neg Ex.cint) (fun t u v => by rfl) (by decide)
    · show Out.ret _ = Out.ret _
      rw [show n' "{z}" = (Str.ofString "{" ++ n' "z") ++ Str.ofString "}" by decide]
theorem std2 {c : Str} (hc : (Txt.startswith c (n' "<") && Txt.endswith c (n' ">")) = false) : Runs G n (cx 2 [(n' "func_name", .full, .tup [.str (n' "~"), .int 0, .str c])]) (bodyOf (stAt 2)) (fun o => o = .ret (.str c)) := by
  refine Runs.ife (c := true) ?_ (fun _ => ?_) fun h => by cases h
  · exact Tst.cmp (b1 := true) (b2 := true) (Ex.takeT (b1 := true) (i := 2) (Ex.nameF rfl) Ex.cint (by simp) (by simp; decide)) (Ex.tup (Exs.cons Ex.cstr (Exs.cons Ex.cint Exs.nil))) (cmpStd tildeOk tildeOk (by decide))
  · refine Runs.assign (d := .str c) ?_ ?_ ?_
    · exact Ex.itemT (b1 := true) (i := 2) (Ex.nameF rfl) Ex.cint (by decide) (by decide) rfl
    rotate_left
    · rfl
    refine Runs.ife (c := Txt.startswith c (n' "<") && Txt.endswith c (n' ">")) ?_ (fun h => ?_) fun h => ?_
    · exact Tst.and2 (Tst.startswith (Ex.nameF rfl) Ex.cstr rfl) fun _ => Tst.endswith (Ex.nameF rfl) Ex.cstr rfl
    · rw [hc] at h; cases h
    · refine Runs.ret (d := .str c) ?_ ?_
      · exact Ex.nameF rfl
      · rfl
theorem std3 {a c : Str} {i : Int} (ha : PyData.strOk a = true) (hc : (a == n' "~" && i == 0) = false) (h0 : 0 ≤ i) (h1 : i < 1000) (hla : a.length ≤ 10) (hlc : c.length ≤ 10) :
    Runs G n (cx 2 [(n' "func_name", .full, .tup [.str a, .int i, .str c])]) (bodyOf (stAt 2)) (fun o => o = .ret (.str (((((a ++ Str.ofString ":") ++ Str.ofString (toString i)) ++ Str.ofString "(") ++ c) ++ Str.ofString ")"))) := by
  refine Runs.ife (c := false) ?_ (fun h => by cases h) fun _ => ?_
  · exact Tst.cmp (b1 := true) (b2 := true) (Ex.takeT (b1 := true) (i := 2) (Ex.nameF rfl) Ex.cint (by simp) (by simp; decide)) (Ex.tup (Exs.cons Ex.cstr (Exs.cons Ex.cint Exs.nil))) (cmpStd ha tildeOk hc)
  · refine Runs.ret (d := .str (((((a ++ Str.ofString ":") ++ Str.ofString (toString i)) ++ Str.ofString "(") ++ c) ++ Str.ofString ")")) ?_ ?_
    · exact Ex.modT (b1 := true) (Ex.nameF rfl) (by omega) (by omega) h0 (by omega)
    · rfl
end
end Mine

namespace Mine

/-- _law_numbers -/
noncomputable def numStep (ns : List Int) (p : Int × Nat) : List Int := ns.set (p.2 % 4) ((ns[p.2 % 4]?).getD 0 + p.1.fmod 1000000)
noncomputable def numsOf4 (script : List Int) : List Int := (script.take 60).zipIdx.foldl numStep [10021, 21200, 1102, 12010]
theorem numSteps_len : ∀ (l : List (Int × Nat)) (ns : List Int), (l.foldl numStep ns).length = ns.length
  | [], ns => rfl
  | p :: l, ns => by rw [List.foldl_cons, numSteps_len l]; simp [numStep]
theorem fmod_nat {i : Nat} : ((i : Int).fmod 4) = ((i % 4 : Nat) : Int) := by
  rw [Int.fmod_eq_emod_of_nonneg _ (by omega)]
  rfl
/-- the bits -/
noncomputable def bitsOf (s : Nat) : List Nat := (List.range 4).filter fun k => bit s k
/-- _law_apart -/
noncomputable def apart (u v : Nat) : List Nat := (List.range 16).filter fun s => bit s (v - 1) && !(decide ((u : Int) > 0) && bit s (u - 1))
section
variable {prog : Program} {w : World} {G : Glo prog w} {n : Nat} {Γ : Cx} {b : Bool}

theorem bit_tst {e f : Expr} {p1 p2 p3 : Pos} {s k kd : Nat} (h1 : Ex G n Γ true e (.int (s : Int))) (h2 : Ex G n Γ true f (.int (k : Int))) (hs : s < 16) (hk : k < 4)
    (he : ∀ (env : Env) (whole : Sem Value), isTrue (.BinOp (.BinOp e .RShift f p1) .BitAnd (.Constant (.int 1) kd p2) p3) env whole = (do let v ← whole; standAt (Expr.pos (.BinOp (.BinOp e .RShift f p1) .BitAnd (.Constant (.int 1) kd p2) p3)); holding [v] (truthy v)) := by intro _ _; rfl) :
    Tst G n Γ (.BinOp (.BinOp e .RShift f p1) .BitAnd (.Constant (.int 1) kd p2) p3) (bit s k) := by
  rw [← bit_val s hs k hk]
  exact Tst.ofInt (Ex.and (Ex.shr h1 h2 (by omega)) Ex.cint) he

theorem law_numbers_runs {script : List Int} (hl : script.length ≤ 63) : Runs G n (cx 6 [(n' "script", .full, .list (intsD script))]) (bodyOf (stAt 6)) (fun o => o = .ret (.list (intsD (numsOf4 script)))) := by
  refine Runs.assignOwn (d := .list (intsD [10021, 21200, 1102, 12010])) ?_ ?_ ?_ ?_
  · exact ExN.list (Exs.cons Ex.cint (Exs.cons Ex.cint (Exs.cons Ex.cint (Exs.cons Ex.cint Exs.nil))))
  rotate_left
  · rfl
  · intro _ _; rfl
  refine Runs.for (fun i Γ' => Γ' = cx 6 [(n' "numbers", .own, .list (intsD (((script.take 60).zipIdx.take i).foldl numStep [10021, 21200, 1102, 12010]))), (n' "script", .full, .list (intsD script))]) (Src.enum (l := (intsD script).take 60) ?_) ⟨_, _, _, rfl⟩ ⟨_, rfl, Sub.refl _⟩ (fun i d Γi hd hi => ?_) (fun Γe he => ?_)
  · refine Ex.takeL (i := 60) (b1 := true) (Ex.nameF rfl) Ex.cint ?_
    have := big
    simp only [intsD, List.length_map]
    omega
  · subst hi
    obtain ⟨x, hx, rfl⟩ := enumD_get hd
    have hx' : ∃ y, (script.take 60)[i]? = some y ∧ x = .int y := by
      rw [intsD, ← List.map_take, List.getElem?_map] at hx
      cases hy : (script.take 60)[i]? with
      | none => rw [hy] at hx; cases hx
      | some y => rw [hy] at hx; cases hx; exact ⟨y, rfl, rfl⟩
    obtain ⟨y, hy, rfl⟩ := hx'
    have hz : (script.take 60).zipIdx[i]? = some (y, i) := by rw [List.getElem?_zipIdx, hy]; simp
    generalize hM : ((script.take 60).zipIdx.take i).foldl numStep [10021, 21200, 1102, 12010] = M
    have hML : M.length = 4 := by rw [← hM, numSteps_len]; rfl
    have hi63 : i < 63 := by
      have := (List.getElem?_eq_some_iff.mp hy).1
      rw [List.length_take] at this
      omega
    refine ⟨_, Asg.pair rfl rfl, ?_⟩
    show Runs _ _ _ _ _
    refine Runs.listAug (x := n' "numbers") (l := intsD M) (q := ((i % 4 : Nat) : Int)) (j0 := (M[i % 4]?).getD 0) (j := y.fmod 1000000) ?_ ?_ ?_ ?_ ?_ ?_ ?_
    · rfl
    · exact Ex.mod (Ex.nameF rfl) Ex.cint (by decide)
    · rw [← fmod_nat]
      exact Ex.mod (Ex.nameF rfl) Ex.cint (by decide)
    · omega
    · omega
    · exact intsD_get (by omega)
    · refine Runs.nil ⟨_, rfl, Sub.all rfl rfl ⟨?_, rfl, trivial⟩⟩
      rw [foldl_take_succ hz, hM]
      show some _ = some _
      rw [show (((i % 4 : Nat) : Int)).toNat = i % 4 by omega]
      simp only [numStep, intsD, List.map_set]
  · subst he
    refine Runs.retOwn (x := n' "numbers") (d := .list (intsD (numsOf4 script))) ?_ ?_
    · show some _ = some _
      have hlen : (enumD (List.take 60 (intsD script))).length = (script.take 60).length := by rw [enumD_length]; simp [intsD]
      rw [hlen, List.take_of_length_le (by simp)]
      rfl
    · rfl

theorem law_apart_runs {u v : Nat} (hu : u < 5) (hv : 1 ≤ v) (hv' : v < 5) : Runs G n (cx 8 [(n' "u", .full, .int (u : Int)), (n' "v", .full, .int (v : Int))]) (bodyOf (stAt 8)) (fun o => o = .ret (.list ((apart u v).map natD))) := by
  refine Runs.ret (d := .list ((apart u v).map natD)) ?_ ?_
  · refine Ex.lcomp (outs := (apart u v).map natD) ?_ rfl
    refine CompG.filt (emb := natD) (Src.rangeN (m := 16) Ex.cint (by decide)) ⟨_, _, rfl⟩ natD_inj (by have := big; simp; omega) (fun s hs => ?_)
    have hs16 : s < 16 := by simpa using hs
    refine ⟨_, Asg.name rfl, Sub.all rfl rfl ⟨rfl, rfl, trivial⟩, ?_, fun _ => ?_⟩
    · refine Tst.and2 ?_ fun _ => Tst.not ?_
      · refine bit_tst (s := s) (k := v - 1) (Ex.nameF rfl) ?_ hs16 (by omega)
        rw [show ((v - 1 : Nat) : Int) = (v : Int) - 1 by omega]
        exact Ex.sub (Ex.nameF rfl) Ex.cint
      · refine Tst.and2 (Tst.cmp (b1 := true) (b2 := true) (Ex.nameF rfl) Ex.cint Cmp.gt) fun hp => ?_
        have hp' := of_decide_eq_true hp
        show Tst _ _ _ _ _
        refine bit_tst (s := s) (k := u - 1) (Ex.nameF rfl) ?_ hs16 (by omega)
        rw [show ((u - 1 : Nat) : Int) = (u : Int) - 1 by omega]
        exact Ex.sub (Ex.nameF rfl) Ex.cint
    · exact Ex.nameF rfl
  · rfl
end
end Mine

namespace Mine

/-- a row: caller, called one, calls -/
noncomputable abbrev Row := Nat × Nat × Int
noncomputable def rowI (r : Row) : List Int := [(r.1 : Int), (r.2.1 : Int), r.2.2]
noncomputable def rowD (r : Row) : D := .tup (intsD (rowI r))
noncomputable def worthOf (h0 h1 h2 : Int) (r : Row) : Int := 100 * h0 * r.2.2 + 10 * h1 * (r.1 : Int) + h2 * (r.2.1 : Int)
noncomputable def dueOf (ws : List Int) (best place : Nat) : Int := if place = best then 0 else if (ws[place]?).getD 0 > (ws[best]?).getD 0 then 1 else -1
noncomputable def bestStep (ws : List Int) (best place : Nat) : Nat := if dueOf ws best place < 0 then place else best
noncomputable def bestOf (ws : List Int) (m : Nat) : Nat := (List.range m).foldl (bestStep ws) 0
theorem bestStep_lt {ws : List Int} {best place m : Nat} (h1 : best < m) (h2 : place < m) : bestStep ws best place < m := by
  unfold bestStep; split <;> assumption
theorem bestOf_lt {ws : List Int} {N : Nat} (hN : 0 < N) : ∀ m, m ≤ N → bestOf ws m < N
  | 0, _ => hN
  | m + 1, h => by
    unfold bestOf
    rw [List.range_succ, List.foldl_append]
    exact bestStep_lt (bestOf_lt hN m (by omega)) (by omega)
theorem bestOf_succ {ws : List Int} {m : Nat} : bestOf ws (m + 1) = bestStep ws (bestOf ws m) m := by
  unfold bestOf
  rw [List.range_succ, List.foldl_append]; rfl

noncomputable def Hand (h : Int) : Prop := h = 1 ∨ h = -1
theorem sgn_step {h a b r : Int} (g : Hand h) : (if a < b then -h else if a > b then h else r) = if h * (a - b) < 0 then -1 else if h * (a - b) > 0 then 1 else r := by
  rcases g with rfl | rfl
  · rw [Int.one_mul]
    by_cases h1 : a < b
    · rw [if_pos h1, if_pos (show a - b < 0 by omega)]
    · rw [if_neg h1, if_neg (show ¬ a - b < 0 by omega)]
      by_cases h2 : a > b
      · rw [if_pos h2, if_pos (show a - b > 0 by omega)]
      · rw [if_neg h2, if_neg (show ¬ a - b > 0 by omega)]
  · rw [Int.neg_one_mul]
    by_cases h1 : a < b
    · rw [if_pos h1, if_neg (show ¬ -(a - b) < 0 by omega), if_pos (show -(a - b) > 0 by omega)]; rfl
    · rw [if_neg h1]
      by_cases h2 : a > b
      · rw [if_pos h2, if_pos (show -(a - b) < 0 by omega)]
      · rw [if_neg h2, if_neg (show ¬ -(a - b) < 0 by omega), if_neg (show ¬ -(a - b) > 0 by omega)]
theorem lex3 {x y z : Int} (hy : -4 ≤ y ∧ y ≤ 4) (hz : -4 ≤ z ∧ z ≤ 4) (hne : ¬ (y = 0 ∧ z = 0)) :
    (if x < 0 then -1 else if x > 0 then 1 else if y < 0 then -1 else if y > 0 then 1 else if z < 0 then -1 else if z > 0 then 1 else 0) = (if 100 * x + 10 * y + z > 0 then 1 else -1 : Int) := by
  by_cases h : 100 * x + 10 * y + z > 0
  · rw [if_pos h]
    rw [if_neg (by omega)]
    by_cases h1 : x > 0
    · rw [if_pos h1]
    · rw [if_neg h1, if_neg (by omega)]
      by_cases h2 : y > 0
      · rw [if_pos h2]
      · rw [if_neg h2, if_neg (by omega), if_pos (by omega)]
  · rw [if_neg h]
    by_cases h1 : x < 0
    · rw [if_pos h1]
    · rw [if_neg h1, if_neg (by omega)]
      by_cases h2 : y < 0
      · rw [if_pos h2]
      · rw [if_neg h2, if_neg (by omega), if_pos (by omega)]
theorem hand_small {h : Int} (g : Hand h) {a b : Nat} (ha : a < 5) (hb : b < 5) : (-4 ≤ h * ((a : Int) - b) ∧ h * ((a : Int) - b) ≤ 4) ∧ (h * ((a : Int) - b) = 0 → a = b) := by
  rcases g with rfl | rfl
  · rw [Int.one_mul]; omega
  · rw [Int.neg_one_mul]; omega
theorem cmp_one {h0 h1 h2 : Int} (g0 : Hand h0) (g1 : Hand h1) (g2 : Hand h2) {a b : Row} (ha : a.1 < 5 ∧ a.2.1 < 5) (hb : b.1 < 5 ∧ b.2.1 < 5) (hne : ¬ (a.1 = b.1 ∧ a.2.1 = b.2.1)) :
    cmpT [(2, h0), (0, h1), (1, h2)] (rowI a) (rowI b) = if worthOf h0 h1 h2 a > worthOf h0 h1 h2 b then 1 else -1 := by
  obtain ⟨a1, a2, a3⟩ := a
  obtain ⟨b1, b2, b3⟩ := b
  simp only at ha hb hne
  have s1 := hand_small g1 ha.1 hb.1
  have s2 := hand_small g2 ha.2 hb.2
  have e : worthOf h0 h1 h2 (a1, a2, a3) - worthOf h0 h1 h2 (b1, b2, b3) = 100 * (h0 * (a3 - b3)) + 10 * (h1 * ((a1 : Int) - b1)) + h2 * ((a2 : Int) - b2) := by
    unfold worthOf
    simp only [Int.mul_sub, Int.mul_assoc]
    omega
  have e2 : (worthOf h0 h1 h2 (a1, a2, a3) > worthOf h0 h1 h2 (b1, b2, b3)) = (100 * (h0 * (a3 - b3)) + 10 * (h1 * ((a1 : Int) - b1)) + h2 * ((a2 : Int) - b2) > 0) := by
    rw [← e]
    apply propext
    omega
  show (if a3 < b3 then -h0 else if a3 > b3 then h0 else if (a1 : Int) < b1 then -h1 else if (a1 : Int) > b1 then h1 else if (a2 : Int) < b2 then -h2 else if (a2 : Int) > b2 then h2 else 0) = _
  rw [sgn_step g0, sgn_step g1, sgn_step g2, lex3 s1.1 s2.1 fun z => hne ⟨s1.2 z.1, s2.2 z.2⟩]
  simp only [e2]
theorem cmp_worth {h0 h1 h2 : Int} (g0 : Hand h0) (g1 : Hand h1) (g2 : Hand h2) {a b : Row} (ha : a.1 < 5 ∧ a.2.1 < 5) (hb : b.1 < 5 ∧ b.2.1 < 5) (hne : ¬ (a.1 = b.1 ∧ a.2.1 = b.2.1)) :
    cmpT [(2, h0), (0, h1), (1, h2)] (rowI a) (rowI b) = (if worthOf h0 h1 h2 a > worthOf h0 h1 h2 b then 1 else -1) ∧ cmpT [(2, h0), (0, h1), (1, h2)] (rowI b) (rowI a) = -(if worthOf h0 h1 h2 a > worthOf h0 h1 h2 b then 1 else -1) := by
  refine ⟨cmp_one g0 g1 g2 ha hb hne, ?_⟩
  rw [cmp_one g0 g1 g2 hb ha fun z => hne ⟨z.1.symm, z.2.symm⟩]
  have hw : worthOf h0 h1 h2 a ≠ worthOf h0 h1 h2 b := fun z => by
    have h1' := cmp_one g0 g1 g2 ha hb hne
    obtain ⟨a1, a2, a3⟩ := a
    obtain ⟨b1, b2, b3⟩ := b
    simp only at ha hb hne
    have s1 := hand_small g1 ha.1 hb.1
    have s2 := hand_small g2 ha.2 hb.2
    have e : worthOf h0 h1 h2 (a1, a2, a3) - worthOf h0 h1 h2 (b1, b2, b3) = 100 * (h0 * (a3 - b3)) + 10 * (h1 * ((a1 : Int) - b1)) + h2 * ((a2 : Int) - b2) := by
      unfold worthOf
      simp only [Int.mul_sub, Int.mul_assoc]
      omega
    have : h1 * ((a1 : Int) - b1) = 0 ∧ h2 * ((a2 : Int) - b2) = 0 := by omega
    exact hne ⟨s1.2 this.1, s2.2 this.2⟩
  by_cases h : worthOf h0 h1 h2 a > worthOf h0 h1 h2 b
  · rw [if_pos h, if_neg (by omega)]
  · rw [if_neg h, if_pos (by omega)]; rfl
theorem cmp_same {h0 h1 h2 : Int} {a : List Int} : cmpT [(2, h0), (0, h1), (1, h2)] a a = 0 := by
  simp [cmpT]

section
variable {prog : Program} {w : World} {G : Glo prog w} {n : Nat} {Γ : Cx} {b : Bool}

theorem swaps_true {ak : AK} {gens : List Comprehension} {scope : Scope} {pos px : Pos} {x : Str} {line : Nat} {sc : Scope}
    (hk : ((if sc.kind.isAnnotationScope then ScopeKind.function else sc.kind) == .function && sc.names.lookup x == some .local && px.line == (ak.expr gens scope pos).pos.line && !(scope.names.any fun (n, k) => n == x && (k == .local || k == .cell))) = true) :
    ∀ env : Env, env.scope = sc → swapsWith (ak.expr gens scope pos) (some (.Name x px)) line env = pure true := by
  intro env he
  have e : swapsWith (ak.expr gens scope pos) (some (.Name x px)) line env = pure (env.blockKind == .function && env.kindOf x == some .local && px.line == (ak.expr gens scope pos).pos.line && !(scope.names.any fun (n, k) => n == x && (k == .local || k == .cell))) := by cases ak <;> rfl
  rw [e]
  unfold Env.blockKind Env.kindOf
  rw [he, hk]

theorem natD_get {m i : Nat} {d : D} (h : ((List.range m).map natD)[i]? = some d) : i < m ∧ d = natD i := by
  rw [List.getElem?_map] at h
  cases e : (List.range m)[i]? with
  | none => rw [e] at h; cases h
  | some j =>
    rw [e] at h
    obtain ⟨h1, h2⟩ := List.getElem?_eq_some_iff.mp e
    rw [List.getElem_range] at h2
    rw [List.length_range] at h1
    subst h2
    cases h
    exact ⟨h1, rfl⟩
theorem Ex.lenN {e : Expr} {px pos : Pos} {l : List D} {b1 : Bool} {m : Nat} (h : Ex G n Γ b1 e (.list l)) (hl : l.length = m) (hm : m < 2 ^ 60) (hx : Γ.sc.names.lookup (Str.ofString "len") = some .globalImplicit := by rfl)
    (he : ∀ env : Env, starEach [e] env = [(false, eval e env)] := by intro _; rfl) : Ex G n Γ b (.Call (.Name (Str.ofString "len") px) [e] [] pos) (.int (m : Int)) := by
  subst hl
  exact Ex.len h hm hx he

theorem rowsD_get {rows : List Row} {i : Nat} {r : Row} (h : rows[i]? = some r) : (rows.map rowD)[((i : Nat) : Int).toNat]? = some (rowD r) := by
  rw [Int.toNat_natCast, List.getElem?_map, h]; rfl

structure ClsP (C : ClsK G) : Prop where
  sc : C.fdC.scope = scM
  bd : C.bC = bodyOf (methAt 1)

theorem compare_ex (C : ClsK G) (P : ClsP C) {o e f : Expr} {apos pos : Pos} {sel : List (Nat × Int)} {xs ys : List Int} (hx : ∀ p ∈ sel, p.1 < xs.length ∧ p.1 < ys.length ∧ p.1 < 1000) (h : Ex G (n + 1) Γ true o (.comp (selD sel))) (h1 : Ex G (n + 1) Γ true e (.tup (intsD xs))) (h2 : Ex G (n + 1) Γ true f (.tup (intsD ys)))
    (hbase : ∀ env : Env, attributeBase o (Str.ofString "compare") env (eval o env) = eval o env := by intro _; rfl) (hline : (apos.endLine == pos.line) = true := by rfl)
    (hse : ∀ env : Env, starEach [e, f] env = [(false, eval e env), (false, eval f env)] := by intro _; rfl) (hse1 : ∀ env : Env, starEach [f] env = [(false, eval f env)] := by intro _; rfl) :
    Ex G (n + 1) Γ b (.Call (.Attribute o (Str.ofString "compare") apos) [e, f] [] pos) (.int (cmpT sel xs ys)) := by
  refine Ex.compare C h (Arg.cons (fl := .full) h1 (Arg.cons (fl := .full) h2 Arg.nil (fun env => by rw [hse1]; rfl)) (fun env => by rw [hse, hse1])) ?_ hbase hline hse hse1
  rw [P.sc, P.bd]
  exact compare_runs C hx

theorem law_first_runs (C : ClsK G) (P : ClsP C) {rows : List Row} {h0 h1 h2 : Int} (g0 : Hand h0) (g1 : Hand h1) (g2 : Hand h2) (hne : 0 < rows.length) (hlen : rows.length < 1000)
    (hb : ∀ r ∈ rows, r.1 < 5 ∧ r.2.1 < 5) (hdist : ∀ (i j : Nat) (a b : Row), rows[i]? = some a → rows[j]? = some b → a.1 = b.1 ∧ a.2.1 = b.2.1 → i = j) :
    ∃ (k : Nat) (r : Row), rows[k]? = some r ∧ Runs G (n + 1) (cx 9 [(n' "rows", .top, .list (rows.map rowD)), (n' "hands", .full, .list (intsD [h0, h1, h2]))]) (bodyOf (stAt 9)) (fun o => o = .ret (rowD r)) := by
  have hbest := bestOf_lt (ws := rows.map (worthOf h0 h1 h2)) hne rows.length (Nat.le_refl _)
  refine ⟨bestOf (rows.map (worthOf h0 h1 h2)) rows.length, rows[bestOf (rows.map (worthOf h0 h1 h2)) rows.length], List.getElem?_eq_getElem hbest, ?_⟩
  show Runs _ _ _ _ _
  refine Runs.assign (d := .comp (selD [(2, h0), (0, h1), (1, h2)])) ?_ ?_ ?_
  · refine Ex.newComp C ?_
    refine Ex.list (ds := selD [(2, h0), (0, h1), (1, h2)]) ?_ (by have := big; simp [selD]; omega)
    exact Exs.cons (Ex.tup (Exs.cons Ex.cint (Exs.cons (Ex.item (b1 := true) (i := 0) (Ex.nameF rfl) Ex.cint (by decide) (by decide) rfl) Exs.nil)))
      (Exs.cons (Ex.tup (Exs.cons Ex.cint (Exs.cons (Ex.item (b1 := true) (i := 1) (Ex.nameF rfl) Ex.cint (by decide) (by decide) rfl) Exs.nil)))
      (Exs.cons (Ex.tup (Exs.cons Ex.cint (Exs.cons (Ex.item (b1 := true) (i := 2) (Ex.nameF rfl) Ex.cint (by decide) (by decide) rfl) Exs.nil))) Exs.nil))
  rotate_left
  · rfl
  refine Runs.assignComp (ak := .lst _) (outs := rows.map fun r => .int (worthOf h0 h1 h2 r)) ?_ ?_ ?_ ?_ ?_
  rotate_left 3
  · rfl
  · exact swaps_true rfl
  · rfl
  · refine CompG.mp (emb := rowD) (Src.list (l := rows.map rowD) (Ex.nameT rfl)) (.inl ⟨_, _, rfl⟩) ?_ (by have := big; omega) (fun r hr => ⟨_, Asg.name rfl, Sub.all rfl rfl ⟨rfl, trivial⟩, ?_⟩)
    · intro x _ y _ e
      obtain ⟨x1, x2, x3⟩ := x
      obtain ⟨y1, y2, y3⟩ := y
      simp only [rowD, rowI, intsD, List.map_cons, List.map_nil, D.tup.injEq, List.cons.injEq, D.int.injEq, and_true] at e
      obtain ⟨e1, e2, e3⟩ := e
      have e1' : x1 = y1 := by omega
      have e2' : x2 = y2 := by omega
      rw [e1', e2', e3]
    · have hm0 : IntMulOk (100 * h0) r.2.2 := by rcases g0 with rfl | rfl <;> exact IntMulOk.of_left (by decide)
      have hm1 : IntMulOk (10 * h1) (r.1 : Int) := by rcases g1 with rfl | rfl <;> exact IntMulOk.of_left (by decide)
      have hm2 : IntMulOk h2 (r.2.1 : Int) := by rcases g2 with rfl | rfl <;> exact IntMulOk.of_left (by decide)
      show Ex _ _ _ _ _ _
      refine Ex.add (Ex.add (Ex.mul (Ex.mul Ex.cint (Ex.item (b1 := true) (i := 0) (Ex.nameF rfl) Ex.cint (by decide) (by decide) rfl) (IntMulOk.of_left (by decide))) (Ex.itemT (b1 := true) (i := 2) (Ex.nameF rfl) Ex.cint (by decide) (by decide) rfl) hm0)
        (Ex.mul (Ex.mul Ex.cint (Ex.item (b1 := true) (i := 1) (Ex.nameF rfl) Ex.cint (by decide) (by decide) rfl) (IntMulOk.of_left (by decide))) (Ex.itemT (b1 := true) (i := 0) (Ex.nameF rfl) Ex.cint (by decide) (by decide) rfl) hm1))
        (Ex.mul (Ex.item (b1 := true) (i := 2) (Ex.nameF rfl) Ex.cint (by decide) (by decide) rfl) (Ex.itemT (b1 := true) (i := 1) (Ex.nameF rfl) Ex.cint (by decide) (by decide) rfl) hm2)
  refine Runs.assign (d := .int 0) ?_ ?_ ?_
  · exact Ex.cint
  rotate_left
  · rfl
  refine Runs.for (fun i Γ' => Γ' = cx 9 [(n' "best", .full, .int ((bestOf (rows.map (worthOf h0 h1 h2)) i : Nat) : Int)), (n' "worth", .full, .list (rows.map fun r => .int (worthOf h0 h1 h2 r))), (n' "comp", .full, .comp (selD [(2, h0), (0, h1), (1, h2)])), (n' "rows", .top, .list (rows.map rowD)), (n' "hands", .full, .list (intsD [h0, h1, h2]))])
    (T := TName) (ds := (List.range rows.length).map natD) ?_ ?_ ?_ (fun i d Γi hd hi => ?_) (fun Γe he => ?_)
  · refine Src.rangeN ?_ (by omega)
    exact Ex.lenN (b1 := false) (l := rows.map rowD) (Ex.nameT rfl) (by rw [List.length_map]) (by omega)
  · exact ⟨_, _, rfl⟩
  · exact ⟨_, rfl, Sub.all rfl rfl ⟨rfl, rfl, rfl, rfl, rfl, trivial⟩⟩
  · subst hi
    obtain ⟨hi, rfl⟩ := natD_get hd
    have hbl := bestOf_lt (ws := rows.map (worthOf h0 h1 h2)) hne i (Nat.le_of_lt hi)
    have hsucc := bestOf_succ (ws := rows.map (worthOf h0 h1 h2)) (m := i)
    generalize hB : bestOf (rows.map (worthOf h0 h1 h2)) i = B at *
    obtain ⟨ri, hri⟩ : ∃ r, rows[i]? = some r := ⟨_, List.getElem?_eq_getElem hi⟩
    obtain ⟨rb, hrb⟩ : ∃ r, rows[B]? = some r := ⟨_, List.getElem?_eq_getElem hbl⟩
    have hwi : ((rows.map (worthOf h0 h1 h2))[i]?).getD 0 = worthOf h0 h1 h2 ri := by rw [List.getElem?_map, hri]; rfl
    have hwb : ((rows.map (worthOf h0 h1 h2))[B]?).getD 0 = worthOf h0 h1 h2 rb := by rw [List.getElem?_map, hrb]; rfl
    have hdue : dueOf (rows.map (worthOf h0 h1 h2)) B i = if i = B then 0 else if worthOf h0 h1 h2 ri > worthOf h0 h1 h2 rb then 1 else -1 := by
      unfold dueOf; rw [hwi, hwb]
    generalize hDu : dueOf (rows.map (worthOf h0 h1 h2)) B i = du at *
    have hsucc' : bestOf (rows.map (worthOf h0 h1 h2)) (i + 1) = if du < 0 then i else B := by rw [hsucc]; unfold bestStep; rw [hDu]
    have hwD : ∀ {j : Nat} {r : Row}, rows[j]? = some r → (rows.map fun r => D.int (worthOf h0 h1 h2 r))[(j : Int).toNat]? = some (.int (worthOf h0 h1 h2 r)) := fun {j r} h => by rw [Int.toNat_natCast, List.getElem?_map, h]; rfl
    have hcmp : cmpT [(2, h0), (0, h1), (1, h2)] (rowI ri) (rowI rb) = du ∧ cmpT [(2, h0), (0, h1), (1, h2)] (rowI rb) (rowI ri) = -du := by
      by_cases hib : i = B
      · subst hib
        rw [hri] at hrb; cases hrb
        rw [hdue, if_pos rfl, cmp_same]
        exact ⟨rfl, rfl⟩
      · rw [hdue, if_neg hib]
        refine cmp_worth g0 g1 g2 (hb _ (List.mem_of_getElem? hri)) (hb _ (List.mem_of_getElem? hrb)) fun h => hib (hdist _ _ _ _ hri hrb h)
    have hselx : ∀ a c : Row, ∀ p ∈ [((2 : Nat), h0), (0, h1), (1, h2)], p.1 < (rowI a).length ∧ p.1 < (rowI c).length ∧ p.1 < 1000 := by
      intro a c p hp
      simp only [List.mem_cons, List.not_mem_nil, or_false] at hp
      rcases hp with rfl | rfl | rfl <;> simp [rowI]
    refine ⟨_, Asg.name rfl, ?_⟩
    show Runs _ _ _ _ _
    refine Runs.assign (d := .int du) ?_ ?_ ?_
    · rw [hdue]
      refine Ex.ife (c := ((i : Int) == (B : Int))) ?_ (fun hc => ?_) fun hc => ?_
      · exact Tst.cmp (b1 := true) (b2 := true) (Ex.nameF rfl) (Ex.nameF rfl) Cmp.eqI
      · rw [if_pos (by have h := eq_of_beq hc; omega)]
        exact Ex.cint
      · rw [if_neg (by intro z; rw [z] at hc; simp at hc)]
        refine Ex.ife (c := decide (worthOf h0 h1 h2 ri > worthOf h0 h1 h2 rb)) ?_ (fun hc => ?_) fun hc => ?_
        · exact Tst.cmp (b1 := true) (b2 := true) (Ex.item (b1 := true) (i := (i : Int)) (Ex.nameF rfl) (Ex.nameF rfl) (by omega) (by omega) (hwD hri)) (Ex.item (b1 := true) (i := (B : Int)) (Ex.nameF rfl) (Ex.nameF rfl) (by omega) (by omega) (hwD hrb)) Cmp.gt
        · rw [if_pos (of_decide_eq_true hc)]
          exact Ex.cint
        · rw [if_neg (of_decide_eq_false hc)]
          exact Ex.neg Ex.cint
    rotate_left
    · rfl
    refine Runs.assign (d := .list (intsD [du, -du])) ?_ ?_ ?_
    · rw [show intsD [du, -du] = [.int (cmpT [(2, h0), (0, h1), (1, h2)] (rowI ri) (rowI rb)), .int (cmpT [(2, h0), (0, h1), (1, h2)] (rowI rb) (rowI ri))] by rw [hcmp.1, hcmp.2]; rfl]
      refine Ex.list (Exs.cons ?_ (Exs.cons ?_ Exs.nil))
      · exact compare_ex C P (sel := [(2, h0), (0, h1), (1, h2)]) (xs := rowI ri) (ys := rowI rb) (hselx _ _) (Ex.nameF rfl) (Ex.item (b1 := false) (i := (i : Int)) (Ex.nameT rfl) (Ex.nameF rfl) (by omega) (by omega) (rowsD_get hri)) (Ex.item (b1 := false) (i := (B : Int)) (Ex.nameT rfl) (Ex.nameF rfl) (by omega) (by omega) (rowsD_get hrb))
      · exact compare_ex C P (sel := [(2, h0), (0, h1), (1, h2)]) (xs := rowI rb) (ys := rowI ri) (hselx _ _) (Ex.nameF rfl) (Ex.item (b1 := false) (i := (B : Int)) (Ex.nameT rfl) (Ex.nameF rfl) (by omega) (by omega) (rowsD_get hrb)) (Ex.item (b1 := false) (i := (i : Int)) (Ex.nameT rfl) (Ex.nameF rfl) (by omega) (by omega) (rowsD_get hri))
    rotate_left
    · rfl
    refine Runs.skip ?_ ?_
    · rw [show false = ([du, -du] != [du, -du]) by simp]
      exact Tst.cmp (b1 := true) (b2 := true) (Ex.nameF rfl) (Ex.list (Exs.cons (Ex.nameF rfl) (Exs.cons (Ex.neg (Ex.nameF rfl)) Exs.nil))) (Cmp.neInts (x := [du, -du]) (y := [du, -du]))
    refine Runs.assign (d := .int ((bestOf (rows.map (worthOf h0 h1 h2)) (i + 1) : Nat) : Int)) ?_ ?_ ?_
    · rw [hsucc']
      refine Ex.ife (c := decide (du < 0)) ?_ (fun hc => ?_) fun hc => ?_
      · exact Tst.cmp (b1 := true) (b2 := true) (Ex.nameF rfl) Ex.cint Cmp.lt
      · rw [if_pos (of_decide_eq_true hc)]
        exact Ex.nameF rfl
      · rw [if_neg (of_decide_eq_false hc)]
        exact Ex.nameF rfl
    rotate_left
    · rfl
    exact Runs.nil ⟨_, rfl, Sub.all rfl rfl ⟨rfl, rfl, rfl, rfl, rfl, trivial⟩⟩
  · subst he
    rw [show (List.map natD (List.range rows.length)).length = rows.length by simp]
    refine Runs.ret (d := rowD (rows[bestOf (rows.map (worthOf h0 h1 h2)) rows.length])) ?_ ?_
    · exact Ex.item (b1 := false) (i := ((bestOf (rows.map (worthOf h0 h1 h2)) rows.length : Nat) : Int)) (Ex.nameT rfl) (Ex.nameF rfl) (by omega) (by omega) (rowsD_get (List.getElem?_eq_getElem hbest))
    · rfl
end
end Mine

namespace Mine

noncomputable def mrg (tables : List (List (Str × Int))) (s : Nat) : List (Str × Int) := (bitsOf s).foldr (fun k acc => addC acc ((tables[k]?).getD [])) []
noncomputable def ownOf' (names : List Str) (s : Nat) : List Str := (bitsOf s).map fun k => (names[k + 1]?).getD (n' "")
noncomputable def pairD (p : Str × Int) : D := .tup [.str p.1, .int p.2]
noncomputable def doorOf (names : List Str) (m : List (Str × Int)) (s : Nat) : List (Str × Int) := ((m.filter fun p => !(ownOf' names s).contains p.1).map pairD).foldl putD []
noncomputable def low (s : Nat) : Nat := (bitsOf s).headD 0
theorem low_facts : ∀ s : Nat, s < 16 → 0 < s → bitsOf s = low s :: bitsOf (s - 2 ^ low s) ∧ low s < 4 ∧ 2 ^ low s ≤ s := by decide +kernel
theorem bits_lt {s k : Nat} (h : k ∈ bitsOf s) : k < 4 := by
  unfold bitsOf at h
  have := (List.mem_filter.mp h).1
  simpa using this
theorem addC_len (t s : List (Str × Int)) : (addC t s).length ≤ t.length + s.length := by
  have h1 := addSteps_len s (t.foldl (fun m p => putKV m p.1 p.2) [])
  have h2 := puts_len t []
  simp only [List.length_nil] at h2
  unfold addC
  omega
theorem mrg_len {tables : List (List (Str × Int))} (h : ∀ t ∈ tables, t.length ≤ 5) (s : Nat) : (mrg tables s).length ≤ 20 := by
  have key : ∀ l : List Nat, (l.foldr (fun k acc => addC acc ((tables[k]?).getD [])) []).length ≤ 5 * l.length := by
    intro l
    induction l with
    | nil => simp
    | cons k l ih =>
      rw [List.foldr_cons, List.length_cons]
      have h1 := addC_len (l.foldr (fun k acc => addC acc ((tables[k]?).getD [])) []) ((tables[k]?).getD [])
      have h2 : ((tables[k]?).getD []).length ≤ 5 := by
        cases e : tables[k]? with
        | none => simp
        | some t => exact h t (List.mem_of_getElem? e)
      omega
  have h1 := key (bitsOf s)
  have h2 : (bitsOf s).length ≤ 4 := by
    unfold bitsOf
    have := List.length_filter_le (fun k => bit s k) (List.range 4)
    simpa using this
  unfold mrg
  omega
theorem mrg_succ {tables : List (List (Str × Int))} {s : Nat} (h : s < 16) (h0 : 0 < s) : mrg tables s = addC (mrg tables (s - 2 ^ low s)) ((tables[low s]?).getD []) := by
  unfold mrg
  rw [(low_facts s h h0).1]; rfl
theorem pairD_inj {xs : List (Str × Int)} : ∀ x ∈ xs, ∀ y ∈ xs, pairD x = pairD y → x = y := by
  intro x _ y _ e
  obtain ⟨x1, x2⟩ := x
  obtain ⟨y1, y2⟩ := y
  simp only [pairD, D.tup.injEq, List.cons.injEq, D.str.injEq, D.int.injEq, and_true] at e
  rw [e.1, e.2]

section
variable {prog : Program} {w : World} {G : Glo prog w} {n : Nat} {Γ : Cx} {b : Bool}

theorem plain3 : PlainDef (paramsOf (stAt 3)) (bodyOf (stAt 3)) (scopeOf (stAt 3)) [n' "target", n' "source"] where
  kind := rfl
  co := rfl
  gen := rfl
  names := by decide
  free := by decide
  pk := by decide
  nodup := by decide
  bind := fun _ _ _ _ vals h => by
    obtain ⟨a, b, rfl⟩ := list2 h
    rfl

/-- the call of add_callers -/
theorem add_ex (F3 : FnK G 3) {e f : Expr} {px pos : Pos} {t s : List (Str × Int)} (h1 : Ex G (n + 1) Γ true e (.dict t)) (h2 : Ex G (n + 1) Γ true f (.dict s)) (hsz : t.length + s.length ≤ 1000)
    (hx : Γ.sc.names.lookup (n' "add_callers") = some .globalImplicit := by rfl)
    (he : ∀ env : Env, starEach [e, f] env = (false, eval e env) :: starEach [f] env := by intro _; rfl) (he1 : ∀ env : Env, starEach [f] env = (false, eval f env) :: starEach [] env := by intro _; rfl) :
    Ex G (n + 1) Γ b (.Call (.Name (n' "add_callers") px) [e, f] [] pos) (.dict (addC t s)) :=
  Ex.call (name := n' "add_callers") plain3 F3 (Arg.cons (fl := .full) h1 (Arg.cons (fl := .full) h2 Arg.nil he1) he) (add_callers_runs hsz) rfl (by simp) hx (by decide) (fun env => ⟨_, _, he env⟩)

theorem Ex.dict0 {pos : Pos} : Ex G n Γ b (.Dict [] [] pos) (.dict []) := by
  intro A h₀ X₀ X env s Q E rm H k
  refine wpAny_Dict_empty ?_
  have hsys : s.heap.objs.size ≠ sysModules := by
    have hlt := (G.g H.gl).lt
    intro q
    rw [q] at hlt
    exact absurd hlt (by decide)
  exact k _ _ (Ext.heap (Keeps.push _ _)) (repD.mpr ⟨_, rfl, fun _ => notX_new H.live, [], Heap.DictOf.new _, rfl, hsys⟩)

theorem natD_get' {a m i : Nat} {d : D} (h : ((List.range' a m).map natD)[i]? = some d) : i < m ∧ d = natD (a + i) := by
  rw [List.getElem?_map] at h
  cases e : (List.range' a m)[i]? with
  | none => rw [e] at h; cases h
  | some j =>
    rw [e] at h
    obtain ⟨h1, h2⟩ := List.getElem?_eq_some_iff.mp e
    rw [List.getElem_range'] at h2
    rw [List.length_range'] at h1
    cases h
    refine ⟨h1, ?_⟩
    rw [← h2, Nat.one_mul]
theorem seq_get {f : Nat → D} {m i : Nat} (h : i < m) : ((List.range m).map f)[((i : Nat) : Int).toNat]? = some (f i) := by
  rw [Int.toNat_natCast, List.getElem?_map, List.getElem?_range h]; rfl
theorem seq_succ {f : Nat → D} {m : Nat} : (List.range m).map f ++ [f m] = (List.range (m + 1)).map f := by
  rw [List.range_succ, List.map_append]; rfl

theorem swaps_false (ak : AK) {gens : List Comprehension} {scope : Scope} {pos px : Pos} {x : Str} {line : Nat} {sc : Scope}
    (hk : ((if sc.kind.isAnnotationScope then ScopeKind.function else sc.kind) == .function && sc.names.lookup x == some .local && px.line == (ak.expr gens scope pos).pos.line && !(scope.names.any fun (n, k) => n == x && (k == .local || k == .cell))) = false) :
    ∀ env : Env, env.scope = sc → swapsWith (ak.expr gens scope pos) (some (.Name x px)) line env = pure false := by
  intro env he
  have e : swapsWith (ak.expr gens scope pos) (some (.Name x px)) line env = pure (env.blockKind == .function && env.kindOf x == some .local && px.line == (ak.expr gens scope pos).pos.line && !(scope.names.any fun (n, k) => n == x && (k == .local || k == .cell))) := by cases ak <;> rfl
  rw [e]
  unfold Env.blockKind Env.kindOf
  rw [he, hk]
/-- a comprehension that goes to a cell -/
theorem Runs.assignCell (ak : AK) {gens : List Comprehension} {scope : Scope} {x : Str} {px pos p2 : Pos} {rest : List Stmt} {outs : List D} {d : D} {R : Out → Prop} (hg : CompG G n Γ ak gens scope outs) (hd : ak.res outs = d) (hr : Runs G n (Γ.set x .full d) rest R) (ok : compOk Γ.sc scope = true) (hx : Γ.mine x = true)
    (hk : ((if Γ.sc.kind.isAnnotationScope then ScopeKind.function else Γ.sc.kind) == .function && Γ.sc.names.lookup x == some .local && px.line == (ak.expr gens scope pos).pos.line && !(scope.names.any fun (n, k) => n == x && (k == .local || k == .cell))) = false) : Runs G n Γ (.Assign [.Name x px] (ak.expr gens scope pos) p2 :: rest) R := by
  subst hd
  exact Runs.assign (Ex.comp ok hg) hr hx (swaps_false ak hk)
/-- a comprehension that goes to a local name -/
theorem Runs.assignLoc (ak : AK) {gens : List Comprehension} {scope : Scope} {x : Str} {px pos p2 : Pos} {rest : List Stmt} {outs : List D} {d : D} {R : Out → Prop} (hg : CompG G n Γ ak gens scope outs) (hd : ak.res outs = d) (hr : Runs G n (Γ.set x .full d) rest R) (ok : compOk Γ.sc scope = true) (hx : Γ.mine x = true)
    (hk : ((if Γ.sc.kind.isAnnotationScope then ScopeKind.function else Γ.sc.kind) == .function && Γ.sc.names.lookup x == some .local && px.line == (ak.expr gens scope pos).pos.line && !(scope.names.any fun (n, k) => n == x && (k == .local || k == .cell))) = true) : Runs G n Γ (.Assign [.Name x px] (ak.expr gens scope pos) p2 :: rest) R := by
  subst hd
  exact Runs.assignComp ok hg hr hx (swaps_true hk)

theorem own_map {names : List Str} {s : Nat} : strsD (ownOf' names s) = (bitsOf s).map fun k => D.str ((names[k + 1]?).getD (n' "")) := by
  simp [strsD, ownOf']
theorem strs_get {names : List Str} {k : Nat} (hn : names.length = 5) (hk : k < 4) : (strsD names)[((k : Int) + 1).toNat]? = some (.str ((names[k + 1]?).getD (n' ""))) := by
  rw [show ((k : Int) + 1).toNat = k + 1 by omega, strsD, List.getElem?_map, List.getElem?_eq_getElem (by omega)]; rfl

theorem law_doors_runs (F3 : FnK G 3) {tables : List (List (Str × Int))} {names : List Str} (ht : ∀ t ∈ tables, t.length ≤ 5) (htl : tables.length = 4) (hn : names.length = 5) :
    Runs G (n + 1) (cx 7 [(n' "tables", .full, .list (tables.map .dict)), (n' "names", .full, .list (strsD names))]) (bodyOf (stAt 7)) (fun o => o = .ret (.list ((List.range 16).map fun s => .dict (doorOf names (mrg tables s) s)))) := by
  refine Runs.assignOwn (d := .list ((List.range 1).map fun s => .dict (mrg tables s))) ?_ ?_ ?_ ?_
  · exact ExN.list (ds := [.dict []]) (Exs.cons Ex.dict0 Exs.nil)
  rotate_left
  · rfl
  · intro _ _; rfl
  refine Runs.assignOwn (d := .list ((List.range 1).map fun s => .dict (doorOf names (mrg tables s) s))) ?_ ?_ ?_ ?_
  · exact ExN.list (ds := [.dict []]) (Exs.cons Ex.dict0 Exs.nil)
  rotate_left
  · rfl
  · intro _ _; rfl
  refine Runs.for (fun i Γ' => Γ' = cx 7 [(n' "doors", .own, .list ((List.range (i + 1)).map fun s => .dict (doorOf names (mrg tables s) s))), (n' "merged", .own, .list ((List.range (i + 1)).map fun s => .dict (mrg tables s))), (n' "tables", .full, .list (tables.map .dict)), (n' "names", .full, .list (strsD names))])
    (T := TName) (ds := (List.range' 1 15).map natD) ?_ ?_ ?_ (fun i d Γi hd hi => ?_) (fun Γe he => ?_)
  · exact Src.rangeNN (a := 1) (m := 16) Ex.cint Ex.cint (by decide) (by decide)
  · exact ⟨_, _, rfl⟩
  · exact ⟨_, rfl, Sub.all rfl rfl ⟨rfl, rfl, rfl, rfl, trivial⟩⟩
  · subst hi
    obtain ⟨hi, rfl⟩ := natD_get' hd
    rw [Nat.add_comm 1 i] at hd ⊢
    obtain ⟨hb1, hb2, hb3⟩ := low_facts (i + 1) (by omega) (by omega)
    have hmrg := mrg_succ (tables := tables) (s := i + 1) (by omega) (by omega)
    have hl1 := mrg_len ht (i + 1 - 2 ^ low (i + 1))
    have hl2 : ((tables[low (i + 1)]?).getD []).length ≤ 5 := by
      cases e : tables[low (i + 1)]? with
      | none => simp
      | some t => exact ht t (List.mem_of_getElem? e)
    have hlow : tables[low (i + 1)]? = some ((tables[low (i + 1)]?).getD []) := by
      rw [List.getElem?_eq_getElem (by omega)]; rfl
    generalize hL : low (i + 1) = lo at *
    have hsub : ((i + 1 - 2 ^ lo : Nat) : Int) = ((i + 1 : Nat) : Int) - 1 * 2 ^ ((lo : Int)).toNat := by
      rw [Int.toNat_natCast, Int.one_mul, Int.ofNat_sub hb3, Int.natCast_pow]; rfl
    have hpos : 0 < 2 ^ lo := Nat.two_pow_pos lo
    have hlt : i + 1 - 2 ^ lo < i + 1 := by omega
    have hlt2 : ((i + 1 - 2 ^ lo : Nat) : Int) < 2 ^ 63 := by
      have : ((i + 1 - 2 ^ lo : Nat) : Int) < ((i + 1 : Nat) : Int) := Int.ofNat_lt.mpr hlt
      omega
    refine ⟨_, Asg.name rfl, ?_⟩
    show Runs _ _ _ _ _
    refine Runs.assign (d := .int (lo : Int)) ?_ ?_ ?_
    · refine Ex.item (b1 := true) (l := (bitsOf (i + 1)).map natD) (i := 0) (Ex.lcomp ?_ rfl) Ex.cint (by decide) (by decide) ?_
      · refine CompG.filt (emb := natD) (Src.rangeN (m := 4) Ex.cint (by decide)) ⟨_, _, rfl⟩ natD_inj (by simp; decide) (fun k hk => ?_)
        refine ⟨_, Asg.name rfl, Sub.all rfl rfl ⟨rfl, trivial⟩, ?_, fun _ => ?_⟩
        · exact bit_tst (s := i + 1) (k := k) (Ex.nameF rfl) (Ex.nameF rfl) (by omega) (by simpa using hk)
        · exact Ex.nameF rfl
      · rw [hb1]; rfl
    rotate_left
    · rfl
    refine Runs.append (x := n' "merged") (l := (List.range (i + 1)).map fun s => .dict (mrg tables s)) (d := .dict (mrg tables (i + 1))) ?_ ?_ ?_ ?_
    · rfl
    · rw [hmrg]
      refine add_ex F3 ?_ ?_ (by omega)
      · refine Ex.item (b1 := false) (i := ((i + 1 - 2 ^ lo : Nat) : Int)) (Ex.nameT rfl) ?_ (Int.natCast_nonneg _) hlt2 (seq_get (f := fun s => .dict (mrg tables s)) hlt)
        rw [hsub]
        exact Ex.sub (Ex.nameF rfl) (Ex.shl Ex.cint (Ex.nameF rfl) (by omega) (by omega) (by decide))
      · refine Ex.item (b1 := true) (i := (lo : Int)) (Ex.nameF rfl) (Ex.nameF rfl) (by omega) (by omega) ?_
        rw [Int.toNat_natCast, List.getElem?_map, hlow]; rfl
    rotate_left
    · have := big; simp; omega
    refine Runs.assignCell (.lst _) (outs := (bitsOf (i + 1)).map fun k => D.str ((names[k + 1]?).getD (n' ""))) (d := .list (strsD (ownOf' names (i + 1)))) ?_ ?_ ?_ ?_ ?_ ?_
    · refine CompG.filt (emb := natD) (Src.rangeN (m := 4) Ex.cint (by decide)) ⟨_, _, rfl⟩ natD_inj (by simp; decide) (fun k hk => ?_)
      refine ⟨_, Asg.name rfl, Sub.all rfl rfl ⟨rfl, rfl, trivial⟩, ?_, fun _ => ?_⟩
      · exact bit_tst (s := i + 1) (k := k) (Ex.nameF rfl) (Ex.nameF rfl) (by omega) (by simpa using hk)
      · refine Ex.item (b1 := true) (i := (k : Int) + 1) (Ex.nameF rfl) (Ex.add (Ex.nameF rfl) Ex.cint) (by omega) ?_ ?_
        · have : k < 4 := by simpa using hk
          omega
        · exact strs_get hn (by simpa using hk)
    · rw [own_map]; rfl
    rotate_left
    · rfl
    · rfl
    · rfl
    refine Runs.append (x := n' "doors") (l := (List.range (i + 1)).map fun s => .dict (doorOf names (mrg tables s) s)) (d := .dict (doorOf names (mrg tables (i + 1)) (i + 1))) ?_ ?_ ?_ ?_
    · rfl
    · refine Ex.dcomp (outs := ((mrg tables (i + 1)).filter fun p => !(ownOf' names (i + 1)).contains p.1).map pairD) ?_ rfl
      refine CompG.filt (emb := pairD) (Src.items (kvs := mrg tables (i + 1)) ?_) ⟨_, _, _, rfl⟩ pairD_inj ?_ (fun p hp => ?_)
      · refine Ex.item (b1 := false) (i := ((i + 1 : Nat) : Int)) (Ex.nameT rfl) (Ex.nameF rfl) (by omega) (by omega) ?_
        rw [seq_succ (f := fun s => D.dict (mrg tables s))]
        exact seq_get (f := fun s => D.dict (mrg tables s)) (by omega)
      · have := mrg_len ht (i + 1)
        have := big
        omega
      · refine ⟨_, Asg.pair rfl rfl, Sub.all rfl rfl ⟨rfl, trivial⟩, ?_, fun _ => ?_⟩
        · exact Tst.cmp (b1 := true) (b2 := true) (Ex.nameF rfl) (Ex.nameF rfl) (Cmp.notInStrs rfl)
        · exact ⟨_, _, rfl, Ex.nameF rfl, Ex.nameF rfl⟩
    rotate_left
    · have := big; simp; omega
    refine Runs.nil ⟨_, rfl, Sub.all rfl rfl ⟨?_, ?_, rfl, rfl, trivial⟩⟩
    · exact congrArg (fun l => some (Fl.own, D.list l)) (seq_succ (f := fun s => .dict (doorOf names (mrg tables s) s)))
    · exact congrArg (fun l => some (Fl.own, D.list l)) (seq_succ (f := fun s => .dict (mrg tables s)))
  · subst he
    refine Runs.retOwn (x := n' "doors") (d := .list ((List.range 16).map fun s => .dict (doorOf names (mrg tables s) s))) ?_ ?_
    · rfl
    · rfl
end
end Mine

namespace Mine

noncomputable def Keys (m : List (Str × Int)) : Prop := (m.map (·.1)).Nodup

theorem look_none {m : List (Str × Int)} {x : Str} (h : x ∉ m.map (·.1)) : m.lookup x = none := by
  induction m with
  | nil => rfl
  | cons p m ih =>
    obtain ⟨k, i⟩ := p
    simp only [List.map_cons, List.mem_cons, not_or] at h
    rw [List.lookup_cons, show (x == k) = false from beq_eq_false_iff_ne.mpr h.1]
    exact ih h.2
theorem look_mem {m : List (Str × Int)} {x : Str} {i : Int} (h : m.lookup x = some i) : (x, i) ∈ m := by
  induction m with
  | nil => cases h
  | cons p m ih =>
    obtain ⟨k, j⟩ := p
    rw [List.lookup_cons] at h
    by_cases e : x = k
    · subst e
      simp at h
      subst h
      exact List.mem_cons_self ..
    · rw [show (x == k) = false from beq_eq_false_iff_ne.mpr e] at h
      exact List.mem_cons_of_mem _ (ih h)
theorem look_some {m : List (Str × Int)} (hk : Keys m) {p : Str × Int} (h : p ∈ m) : m.lookup p.1 = some p.2 := by
  induction m with
  | nil => cases h
  | cons q m ih =>
    unfold Keys at hk
    rw [List.map_cons, List.nodup_cons] at hk
    obtain ⟨k, j⟩ := q
    rcases List.mem_cons.mp h with rfl | h
    · simp
    · rw [List.lookup_cons]
      have hne : p.1 ≠ k := fun e => hk.1 (List.mem_map.mpr ⟨p, h, e⟩)
      rw [show (p.1 == k) = false from beq_eq_false_iff_ne.mpr hne]
      exact ih hk.2 h
theorem look_app {a b : List (Str × Int)} {x : Str} : (a ++ b).lookup x = (a.lookup x).or (b.lookup x) := by
  induction a with
  | nil => rfl
  | cons p a ih =>
    obtain ⟨k, i⟩ := p
    rw [List.cons_append, List.lookup_cons, List.lookup_cons]
    cases x == k with
    | true => rfl
    | false => exact ih

theorem put_map {m : List (Str × Int)} {k : Str} {i : Int} {x : Str} : (m.map fun p => if p.1 = k then (p.1, i) else p).lookup x = if x = k then (m.lookup x).map fun _ => i else m.lookup x := by
  induction m with
  | nil => simp
  | cons p m ih =>
    obtain ⟨k', j⟩ := p
    rw [List.map_cons]
    by_cases e : k' = k
    · subst e
      simp only [if_true, List.lookup_cons]
      by_cases e2 : x = k'
      · subst e2; simp
      · rw [show (x == k') = false from beq_eq_false_iff_ne.mpr e2]
        simp only [ih]
    · simp only [if_neg e, List.lookup_cons]
      by_cases e2 : x = k'
      · subst e2; simp [e]
      · rw [show (x == k') = false from beq_eq_false_iff_ne.mpr e2]
        simp only [ih]
theorem any_key {m : List (Str × Int)} {k : Str} : (m.any fun p => decide (p.1 = k)) = (m.lookup k).isSome := by
  induction m with
  | nil => rfl
  | cons p m ih =>
    obtain ⟨k', j⟩ := p
    rw [List.any_cons, List.lookup_cons, ih]
    by_cases e : k' = k
    · subst e; simp
    · rw [show (k == k') = false from beq_eq_false_iff_ne.mpr (Ne.symm e), decide_eq_false e, Bool.false_or]
theorem look_put {m : List (Str × Int)} {k : Str} {i : Int} {x : Str} : (putKV m k i).lookup x = if x = k then some i else m.lookup x := by
  unfold putKV
  rw [any_key]
  cases hm : (m.lookup k).isSome with
  | true =>
    obtain ⟨j, hj⟩ := Option.isSome_iff_exists.mp hm
    rw [if_pos rfl, put_map]
    by_cases e : x = k
    · subst e; simp [hj]
    · simp [e]
  | false =>
    have hn : m.lookup k = none := by simpa using hm
    rw [if_neg (by decide), look_app]
    by_cases e : x = k
    · subst e; simp [hn]
    · simp [e, List.lookup_cons, show (x == k) = false from beq_eq_false_iff_ne.mpr e]
theorem keys_put {m : List (Str × Int)} {k : Str} {i : Int} (h : Keys m) : Keys (putKV m k i) := by
  unfold putKV
  rw [any_key]
  cases hm : (m.lookup k).isSome with
  | true =>
    rw [if_pos rfl]
    have : (m.map fun p => if p.1 = k then (p.1, i) else p).map (·.1) = m.map (·.1) := by
      rw [List.map_map]
      apply List.map_congr_left
      intro p _
      simp only [Function.comp]
      split <;> rfl
    unfold Keys
    rw [this]
    exact h
  | false =>
    rw [if_neg (by decide)]
    unfold Keys
    rw [List.map_append, List.nodup_append]
    refine ⟨h, by simp, ?_⟩
    intro a ha b hb
    simp only [List.map_cons, List.map_nil, List.mem_cons, List.not_mem_nil, or_false] at hb
    subst hb
    intro e
    subst e
    obtain ⟨p, hp, rfl⟩ := List.mem_map.mp ha
    have := look_some h hp
    rw [this] at hm
    cases hm

theorem puts_nodup {l acc : List (Str × Int)} (h : Keys (acc ++ l)) : l.foldl (fun m p => putKV m p.1 p.2) acc = acc ++ l := by
  induction l generalizing acc with
  | nil => simp
  | cons p l ih =>
    rw [List.foldl_cons]
    have hp : putKV acc p.1 p.2 = acc ++ [p] := by
      unfold putKV
      rw [any_key]
      have : acc.lookup p.1 = none := by
        apply look_none
        intro hm
        unfold Keys at h
        rw [List.map_append, List.nodup_append] at h
        exact h.2.2 _ hm _ (by simp) rfl
      rw [this]
      rfl
    rw [hp, ih (by rw [List.append_assoc]; exact h), List.append_assoc]
    rfl
theorem putDs_pairs {l acc : List (Str × Int)} : (l.map pairD).foldl putD acc = l.foldl (fun m p => putKV m p.1 p.2) acc := by
  induction l generalizing acc with
  | nil => rfl
  | cons p l ih => rw [List.map_cons, List.foldl_cons, List.foldl_cons]; exact ih
theorem putDs_nodup {l : List (Str × Int)} (h : Keys l) : (l.map pairD).foldl putD [] = l := by
  rw [putDs_pairs, puts_nodup (acc := []) h]; rfl

/-- add_callers, key by key -/
theorem look_addStep {m : List (Str × Int)} {p : Str × Int} {x : Str} : (addStep m p).lookup x = if x = p.1 then some ((m.lookup x).getD 0 + p.2) else m.lookup x := by
  unfold addStep
  rw [look_put]
  by_cases e : x = p.1
  · subst e
    rw [if_pos rfl, if_pos rfl]
    cases m.lookup p.1 with
    | none => simp
    | some j => rfl
  · rw [if_neg e, if_neg e]
theorem keys_addStep {m : List (Str × Int)} {p : Str × Int} (h : Keys m) : Keys (addStep m p) := keys_put h
theorem addSteps {s m : List (Str × Int)} (hm : Keys m) (hs : Keys s) : Keys (s.foldl addStep m) ∧ ∀ x, (s.foldl addStep m).lookup x = match s.lookup x with | some j => some ((m.lookup x).getD 0 + j) | none => m.lookup x := by
  induction s generalizing m with
  | nil => exact ⟨hm, fun x => rfl⟩
  | cons p s ih =>
    unfold Keys at hs
    rw [List.map_cons, List.nodup_cons] at hs
    obtain ⟨h1, h2⟩ := ih (keys_addStep (p := p) hm) hs.2
    rw [List.foldl_cons]
    refine ⟨h1, fun x => ?_⟩
    rw [h2, look_addStep]
    obtain ⟨k, i⟩ := p
    rw [List.lookup_cons]
    by_cases e : x = k
    · subst e
      rw [look_none hs.1]
      simp
    · rw [show (x == k) = false from beq_eq_false_iff_ne.mpr e]
      simp [e]
theorem addC_facts {t s : List (Str × Int)} (ht : Keys t) (hs : Keys s) : Keys (addC t s) ∧ ∀ x, (addC t s).lookup x = match s.lookup x with | some j => some ((t.lookup x).getD 0 + j) | none => t.lookup x := by
  unfold addC
  rw [puts_nodup (acc := []) ht]
  exact addSteps ht hs

/-- the keys lie among the names of 0 .. 4 -/
structure Named (nm : Nat → Str) (m : List (Str × Int)) : Prop where
  keys : Keys m
  some_ : ∀ p ∈ m, ∃ u, u < 5 ∧ p.1 = nm u
noncomputable def Inj5 (nm : Nat → Str) : Prop := ∀ u, u < 5 → ∀ v, v < 5 → nm u = nm v → u = v
noncomputable def sum5 (f : Nat → Int) : Int := f 0 + f 1 + f 2 + f 3 + f 4
theorem sum5_add {f g : Nat → Int} : sum5 f + sum5 g = sum5 fun u => f u + g u := by unfold sum5; dsimp only; omega
theorem sum5_congr {f g : Nat → Int} (h : ∀ u, u < 5 → f u = g u) : sum5 f = sum5 g := by
  unfold sum5
  rw [h 0 (by decide), h 1 (by decide), h 2 (by decide), h 3 (by decide), h 4 (by decide)]
theorem sum5_delta {u0 : Nat} {c : Int} (h : u0 < 5) : (sum5 fun u => if u = u0 then c else 0) = c := by
  have key : ∀ a b d e f : Bool, a.toNat + b.toNat + d.toNat + e.toNat + f.toNat = 1 → (if a = true then c else 0) + (if b = true then c else 0) + (if d = true then c else 0) + (if e = true then c else 0) + (if f = true then c else 0) = c := by
    intro a b d e f
    cases a <;> cases b <;> cases d <;> cases e <;> cases f <;> simp
  have k2 : ∀ u0, u0 < 5 → (decide (0 = u0)).toNat + (decide (1 = u0)).toNat + (decide (2 = u0)).toNat + (decide (3 = u0)).toNat + (decide (4 = u0)).toNat = 1 := by decide
  have := key _ _ _ _ _ (k2 u0 h)
  simp only [decide_eq_true_eq] at this
  exact this
theorem Named.tail {nm : Nat → Str} {p : Str × Int} {m : List (Str × Int)} (h : Named nm (p :: m)) : Named nm m :=
  ⟨by have := h.keys; unfold Keys at *; rw [List.map_cons, List.nodup_cons] at this; exact this.2, fun q hq => h.some_ q (List.mem_cons_of_mem _ hq)⟩
/-- a sum over the entries is a sum over the names -/
theorem Named.sum {nm : Nat → Str} (hi : Inj5 nm) {m : List (Str × Int)} (h : Named nm m) (f : Int → Int) : (m.map fun p => f p.2).sum = sum5 fun u => match m.lookup (nm u) with | some i => f i | none => 0 := by
  induction m with
  | nil => rfl
  | cons p m ih =>
    obtain ⟨k, i⟩ := p
    rw [List.map_cons, List.sum_cons, ih h.tail]
    obtain ⟨u, hu, hk⟩ := h.some_ _ (List.mem_cons_self ..)
    simp only at hk
    subst hk
    have hnone : m.lookup (nm u) = none := by
      apply look_none
      have := h.keys
      unfold Keys at this
      rw [List.map_cons, List.nodup_cons] at this
      exact this.1
    have hl : ∀ v, v < 5 → (((nm u, i) :: m).lookup (nm v)) = if v = u then some i else m.lookup (nm v) := by
      intro v hv
      rw [List.lookup_cons]
      by_cases e : v = u
      · subst e; simp
      · rw [show (nm v == nm u) = false from beq_eq_false_iff_ne.mpr fun z => e (hi v hv u hu z), if_neg e]
    rw [show f (nm u, i).2 = f i from rfl, ← sum5_delta (c := f i) hu, sum5_add]
    apply sum5_congr
    intro v hv
    rw [hl v hv]
    by_cases e : v = u
    · subst e
      rw [if_pos rfl, if_pos rfl, hnone]
      exact Int.add_zero _
    · rw [if_neg e, if_neg e]
      exact Int.zero_add _
theorem Named.length {nm : Nat → Str} (hi : Inj5 nm) {m : List (Str × Int)} (h : Named nm m) : (m.length : Int) = sum5 fun u => match m.lookup (nm u) with | some _ => 1 | none => 0 := by
  have := h.sum hi (fun _ => 1)
  rw [← this]
  clear this h
  induction m with
  | nil => rfl
  | cons p m ih => rw [List.map_cons, List.sum_cons, ← ih, List.length_cons]; omega
/-- the same entries: the same length, and each is found -/
theorem same_dict {nm : Nat → Str} (hi : Inj5 nm) {a b : List (Str × Int)} (ha : Named nm a) (hb : Named nm b) (h : ∀ u, u < 5 → a.lookup (nm u) = b.lookup (nm u)) :
    (a.length == b.length && a.all fun p => b.lookup p.1 == some p.2) = true ∧ sumV a = sumV b := by
  have e : ∀ f : Option Int → Int, (sum5 fun u => f (a.lookup (nm u))) = sum5 fun u => f (b.lookup (nm u)) := fun f => by
    unfold sum5
    dsimp only
    rw [h 0 (by omega), h 1 (by omega), h 2 (by omega), h 3 (by omega), h 4 (by omega)]
  constructor
  · rw [Bool.and_eq_true]
    constructor
    · have h1 := ha.length hi
      have h2 := hb.length hi
      have h3 := e fun o => match o with | some _ => 1 | none => 0
      rw [beq_iff_eq]
      exact_mod_cast (h1.trans h3).trans h2.symm
    · rw [List.all_eq_true]
      intro p hp
      obtain ⟨u, hu, hk⟩ := ha.some_ p hp
      rw [beq_iff_eq, hk, ← h u hu, ← hk]
      exact look_some ha.keys hp
  · have h1 := ha.sum hi (fun i => i)
    have h2 := hb.sum hi (fun i => i)
    have h3 := e fun o => match o with | some i => i | none => 0
    unfold sumV
    rw [show a.map (·.2) = a.map (fun p => (fun i => i) p.2) from rfl, show b.map (·.2) = b.map (fun p => (fun i => i) p.2) from rfl, h1, h2]
    exact h3
theorem Named.addC {nm : Nat → Str} {t s : List (Str × Int)} (ht : Named nm t) (hs : Named nm s) : Named nm (addC t s) := by
  obtain ⟨h1, h2⟩ := addC_facts ht.keys hs.keys
  refine ⟨h1, fun p hp => ?_⟩
  have := look_some h1 hp
  rw [h2] at this
  cases e : s.lookup p.1 with
  | some j => exact hs.some_ (p.1, j) (look_mem e)
  | none =>
    rw [e] at this
    exact ht.some_ _ (look_mem this)
end Mine

namespace Mine

noncomputable def sum4 (f : Nat → Int) : Int := f 0 + f 1 + f 2 + f 3
theorem sum5_le {f g : Nat → Int} (h : ∀ u, u < 5 → f u ≤ g u) : sum5 f ≤ sum5 g := by
  have h0 := h 0 (by omega)
  have h1 := h 1 (by omega)
  have h2 := h 2 (by omega)
  have h3 := h 3 (by omega)
  have h4 := h 4 (by omega)
  unfold sum5; omega
theorem sum4_le {f g : Nat → Int} (h : ∀ u, u < 4 → f u ≤ g u) : sum4 f ≤ sum4 g := by
  have h0 := h 0 (by omega)
  have h1 := h 1 (by omega)
  have h2 := h 2 (by omega)
  have h3 := h 3 (by omega)
  unfold sum4; omega
theorem sum4_add {f g : Nat → Int} : sum4 f + sum4 g = sum4 fun u => f u + g u := by unfold sum4; dsimp only; omega
theorem sum4_congr {f g : Nat → Int} (h : ∀ u, u < 4 → f u = g u) : sum4 f = sum4 g := by
  have h0 := h 0 (by omega)
  have h1 := h 1 (by omega)
  have h2 := h 2 (by omega)
  have h3 := h 3 (by omega)
  unfold sum4; omega

/-- u lies in the set (0 never) -/
noncomputable def outP (P : Nat → Bool) (u : Nat) : Bool := decide (u > 0) && P (u - 1)
noncomputable def term (L : Nat → Nat → Int) (P : Nat → Bool) (k u : Nat) : Int := if (P k && !outP P u) = true then L k u else 0
/-- the calls from without into the set -/
noncomputable def cut (L : Nat → Nat → Int) (P : Nat → Bool) : Int := sum4 fun k => sum5 fun u => term L P k u
noncomputable def card (P : Nat → Bool) : Nat := (if P 0 then 1 else 0) + (if P 1 then 1 else 0) + (if P 2 then 1 else 0) + (if P 3 then 1 else 0)

theorem cut_le {L L' : Nat → Nat → Int} {P Q : Nat → Bool} (h : ∀ k, k < 4 → ∀ u, u < 5 → term L P k u ≤ term L' Q k u) : cut L P ≤ cut L' Q := sum4_le fun k hk => sum5_le fun u hu => h k hk u hu
theorem ite_nat (c : Bool) (x : Int) : (if c = true then x else 0) = (c.toNat : Int) * x := by
  cases c
  · rw [if_neg (by decide)]; exact (Int.zero_mul x).symm
  · rw [if_pos rfl]; exact (Int.one_mul x).symm
theorem tbn : ∀ a1 b1 a2 b2 e : Bool, (a1 && b1 && !(e && (a2 && b2))).toNat + ((a1 || b1) && !(e && (a2 || b2))).toNat ≤ (a1 && !(e && a2)).toNat + (b1 && !(e && b2)).toNat := by decide
theorem tb (x : Int) (h : 0 ≤ x) (a1 b1 a2 b2 e : Bool) : (if (a1 && b1 && !(e && (a2 && b2))) = true then x else 0) + (if ((a1 || b1) && !(e && (a2 || b2))) = true then x else 0) ≤ (if (a1 && !(e && a2)) = true then x else 0) + (if (b1 && !(e && b2)) = true then x else 0) := by
  rw [ite_nat, ite_nat, ite_nat, ite_nat, ← Int.add_mul, ← Int.add_mul]
  exact Int.mul_le_mul_of_nonneg_right (Int.ofNat_le.mpr (tbn a1 b1 a2 b2 e)) h
theorem term_sub {L : Nat → Nat → Int} {k u : Nat} (h : 0 ≤ L k u) (A B : Nat → Bool) : term L (fun k => A k && B k) k u + term L (fun k => A k || B k) k u ≤ term L A k u + term L B k u := tb (L k u) h _ _ _ _ _
theorem cut_sub {L : Nat → Nat → Int} (h : ∀ k, k < 4 → ∀ u, u < 5 → 0 ≤ L k u) (A B : Nat → Bool) : cut L (fun k => A k && B k) + cut L (fun k => A k || B k) ≤ cut L A + cut L B := by
  unfold cut
  rw [sum4_add, sum4_add]
  refine sum4_le fun k hk => ?_
  rw [sum5_add, sum5_add]
  exact sum5_le fun u hu => term_sub (h k hk u hu) A B
theorem term_nonneg {L : Nat → Nat → Int} {P : Nat → Bool} {k u : Nat} (h : 0 ≤ L k u) : 0 ≤ term L P k u := by
  unfold term; split <;> omega
theorem arc_of_lt {L L' : Nat → Nat → Int} {P Q : Nat → Bool} (h : cut L' Q < cut L P) : ∃ k, k < 4 ∧ ∃ u, u < 5 ∧ term L' Q k u < term L P k u := by
  refine Classical.byContradiction fun hn => ?_
  have : cut L P ≤ cut L' Q := cut_le fun k hk u hu => by
    refine Classical.byContradiction fun hc => hn ⟨k, hk, u, hu, by omega⟩
  omega
theorem term_pos {L : Nat → Nat → Int} {P : Nat → Bool} {k u : Nat} (h : 0 < term L P k u) : P k = true ∧ outP P u = false ∧ 0 < L k u := by
  unfold term at h
  by_cases hp : (P k && !outP P u) = true
  · rw [if_pos hp] at h
    rw [Bool.and_eq_true] at hp
    exact ⟨hp.1, by simpa using hp.2, h⟩
  · rw [if_neg hp] at h; omega
theorem card_b : ∀ s0 s1 s2 s3 x0 x1 x2 x3 : Bool, ((s0 && !x0) || (s1 && !x1) || (s2 && !x2) || (s3 && !x3)) = true →
    (if (s0 && x0) = true then 1 else 0) + (if (s1 && x1) = true then 1 else 0) + (if (s2 && x2) = true then 1 else 0) + (if (s3 && x3) = true then 1 else 0) < (if s0 = true then 1 else 0) + (if s1 = true then 1 else 0) + (if s2 = true then 1 else 0) + (if s3 = true then 1 else 0) := by decide
theorem card_lt {S X : Nat → Bool} {j : Nat} (hj : j < 4) (h1 : S j = true) (h2 : X j = false) : card (fun k => S k && X k) < card S := by
  unfold card
  apply card_b
  have hcase : j = 0 ∨ j = 1 ∨ j = 2 ∨ j = 3 := by omega
  rcases hcase with rfl | rfl | rfl | rfl <;> simp [h1, h2]

/-- an allowed call -/
noncomputable def Good (L : Nat → Nat → Int) (c : Int) (W : Nat → Bool) : Prop :=
  ∃ k u, k < 4 ∧ u < 5 ∧ W u = true ∧ W (k + 1) = false ∧ 0 < L k u ∧ ∀ X : Nat → Bool, cut L X < c → X k = true → outP X u = true

theorem good_of_tight {L : Nat → Nat → Int} (hL : ∀ k, k < 4 → ∀ u, u < 5 → 0 ≤ L k u) {c : Int} {W : Nat → Bool}
    (h1 : ∀ P : Nat → Bool, (∃ k, k < 4 ∧ P k = true) → c - 1 ≤ cut L P) (h2 : ∀ P : Nat → Bool, (∃ k, k < 4 ∧ P k = true) → (∀ k, k < 4 → P k = true → W (k + 1) = false) → c ≤ cut L P) :
    ∀ (m : Nat) (S : Nat → Bool), card S ≤ m → cut L S < c → (∃ k, k < 4 ∧ S k = true ∧ W (k + 1) = false) → Good L c W := by
  intro m
  induction m with
  | zero =>
    intro S hcard _ ⟨k, hk, hS, _⟩
    have hcase : k = 0 ∨ k = 1 ∨ k = 2 ∨ k = 3 := by omega
    unfold card at hcard
    rcases hcase with rfl | rfl | rfl | rfl <;> simp [hS] at hcard
  | succ m ih =>
    intro S hcard hcut ⟨k0, hk0, hS0, hW0⟩
    have hB := h2 (fun k => S k && !W (k + 1)) ⟨k0, hk0, by simp [hS0, hW0]⟩ (fun k _ h => by
      rw [Bool.and_eq_true] at h
      simpa using h.2)
    obtain ⟨k, hk, u, hu, hlt⟩ := arc_of_lt (L := L) (L' := L) (P := fun k => S k && !W (k + 1)) (Q := S) (by omega)
    have hpos := term_nonneg (P := S) (hL k hk u hu)
    obtain ⟨hBk, hBu, hLp⟩ := term_pos (P := fun k => S k && !W (k + 1)) (L := L) (k := k) (u := u) (by omega)
    rw [Bool.and_eq_true] at hBk
    obtain ⟨hSk, hWk⟩ := hBk
    have hWk : W (k + 1) = false := by simpa using hWk
    have hSu : outP S u = true := by
      refine Classical.byContradiction fun hn => ?_
      have e1 : term L S k u = L k u := by unfold term; rw [if_pos (by rw [hSk]; simpa using hn)]
      have e2 : term L (fun k => S k && !W (k + 1)) k u ≤ L k u := by unfold term; split <;> omega
      omega
    have hu0 : u > 0 ∧ S (u - 1) = true := by
      unfold outP at hSu
      rw [Bool.and_eq_true] at hSu
      exact ⟨of_decide_eq_true hSu.1, hSu.2⟩
    have hWu : W u = true := by
      unfold outP at hBu
      dsimp only at hBu
      rw [show decide (u > 0) = true from decide_eq_true hu0.1, hu0.2, show u - 1 + 1 = u by omega] at hBu
      simpa using hBu
    by_cases hall : ∀ X : Nat → Bool, cut L X < c → X k = true → outP X u = true
    · exact ⟨k, u, hk, hu, hWu, hWk, hLp, hall⟩
    · obtain ⟨X, hX⟩ := Classical.not_forall.mp hall
      have hX1 : cut L X < c := Classical.byContradiction fun z => hX fun q => absurd q z
      have hX2 : X k = true := Classical.byContradiction fun z => hX fun _ q => absurd q z
      have hX3 : outP X u = false := by
        cases hz : outP X u with
        | false => rfl
        | true => exact absurd (fun _ _ => hz) hX
      have hXu : X (u - 1) = false := by
        unfold outP at hX3
        rw [show decide (u > 0) = true from decide_eq_true hu0.1] at hX3
        simpa using hX3
      have hs := cut_sub hL S X
      have hun := h1 (fun k => S k || X k) ⟨k, hk, by simp [hSk]⟩
      refine ih (fun k => S k && X k) ?_ (by omega) ⟨k, hk, by simp [hSk, hX2], hWk⟩
      have := card_lt (j := u - 1) (by omega) hu0.2 hXu
      omega

theorem good_exists {L : Nat → Nat → Int} (hL : ∀ k, k < 4 → ∀ u, u < 5 → 0 ≤ L k u) {c : Int} (hc : 1 ≤ c) {W : Nat → Bool} (hW0 : W 0 = true) (hW : ∃ k, k < 4 ∧ W (k + 1) = false)
    (h1 : ∀ P : Nat → Bool, (∃ k, k < 4 ∧ P k = true) → c - 1 ≤ cut L P) (h2 : ∀ P : Nat → Bool, (∃ k, k < 4 ∧ P k = true) → (∀ k, k < 4 → P k = true → W (k + 1) = false) → c ≤ cut L P) : Good L c W := by
  by_cases hex : ∃ S : Nat → Bool, cut L S < c ∧ ∃ k, k < 4 ∧ S k = true ∧ W (k + 1) = false
  · obtain ⟨S, hS1, hS2⟩ := hex
    exact good_of_tight hL h1 h2 (card S) S (Nat.le_refl _) hS1 hS2
  · obtain ⟨k0, hk0, hWk0⟩ := hW
    have hB := h2 (fun k => !W (k + 1)) ⟨k0, hk0, by simp [hWk0]⟩ (fun k _ h => by simpa using h)
    have hz : cut L (fun _ => false) = 0 := by
      unfold cut term sum4 sum5
      simp
    obtain ⟨k, hk, u, hu, hlt⟩ := arc_of_lt (L := L) (L' := L) (P := fun k => !W (k + 1)) (Q := fun _ => false) (by omega)
    have hpos := term_nonneg (P := fun _ => false) (hL k hk u hu)
    obtain ⟨hBk, hBu, hLp⟩ := term_pos (P := fun k => !W (k + 1)) (L := L) (k := k) (u := u) (by omega)
    have hWk : W (k + 1) = false := by simpa using hBk
    refine ⟨k, u, hk, hu, ?_, hWk, hLp, fun X hX hXk => absurd ⟨X, hX, k, hk, hXk, hWk⟩ hex⟩
    by_cases hu0 : u = 0
    · rw [hu0]; exact hW0
    · unfold outP at hBu
      dsimp only at hBu
      rw [show decide (u > 0) = true from decide_eq_true (by omega), show u - 1 + 1 = u by omega] at hBu
      simpa using hBu

/-- sets as numbers -/
noncomputable def mask (P : Nat → Bool) : Nat := (if P 0 then 1 else 0) + (if P 1 then 2 else 0) + (if P 2 then 4 else 0) + (if P 3 then 8 else 0)
theorem mask_bit (P : Nat → Bool) : mask P < 16 ∧ ∀ k, k < 4 → bit (mask P) k = P k := by
  unfold mask
  have key : ∀ a b c d : Bool, (if a then 1 else 0) + (if b then 2 else 0) + (if c then 4 else 0) + (if d then 8 else 0) < 16 ∧
      bit ((if a then 1 else 0) + (if b then 2 else 0) + (if c then 4 else 0) + (if d then 8 else 0)) 0 = a ∧ bit ((if a then 1 else 0) + (if b then 2 else 0) + (if c then 4 else 0) + (if d then 8 else 0)) 1 = b ∧
      bit ((if a then 1 else 0) + (if b then 2 else 0) + (if c then 4 else 0) + (if d then 8 else 0)) 2 = c ∧ bit ((if a then 1 else 0) + (if b then 2 else 0) + (if c then 4 else 0) + (if d then 8 else 0)) 3 = d := by decide
  obtain ⟨h, h0, h1, h2, h3⟩ := key (P 0) (P 1) (P 2) (P 3)
  refine ⟨h, fun k hk => ?_⟩
  have hcase : k = 0 ∨ k = 1 ∨ k = 2 ∨ k = 3 := by omega
  rcases hcase with rfl | rfl | rfl | rfl
  · exact h0
  · exact h1
  · exact h2
  · exact h3
theorem outP_congr {P Q : Nat → Bool} (h : ∀ k, k < 4 → P k = Q k) {u : Nat} (hu : u < 5) : outP P u = outP Q u := by
  unfold outP
  by_cases hu0 : u = 0
  · subst hu0; rfl
  · rw [h (u - 1) (by omega)]
theorem cut_congr {L : Nat → Nat → Int} {P Q : Nat → Bool} (h : ∀ k, k < 4 → P k = Q k) : cut L P = cut L Q :=
  sum4_congr fun k hk => sum5_congr fun u hu => by unfold term; rw [h k hk, outP_congr h hu]
theorem mask_pos {P : Nat → Bool} (h : ∃ k, k < 4 ∧ P k = true) : 0 < mask P := by
  obtain ⟨k, hk, hP⟩ := h
  have hcase : k = 0 ∨ k = 1 ∨ k = 2 ∨ k = 3 := by omega
  unfold mask
  rcases hcase with rfl | rfl | rfl | rfl <;> simp only [hP, if_true] <;> omega
end Mine

namespace Mine

/-- entries made over a list of numbers -/
theorem mk_look {nm : Nat → Str} (hi : Inj5 nm) {f : Nat → Int} : ∀ {l : List Nat}, (∀ x ∈ l, x < 5) → l.Nodup → Keys (l.map fun u => (nm u, f u)) ∧ ∀ u, u < 5 → (l.map fun u => (nm u, f u)).lookup (nm u) = if u ∈ l then some (f u) else none
  | [], _, _ => ⟨by simp [Keys], fun u _ => by simp⟩
  | x :: l, h, hn => by
    rw [List.nodup_cons] at hn
    obtain ⟨h1, h2⟩ := mk_look hi (f := f) (fun y hy => h y (List.mem_cons_of_mem _ hy)) hn.2
    have hx := h x (List.mem_cons_self ..)
    constructor
    · unfold Keys at *
      rw [List.map_cons, List.map_cons, List.nodup_cons]
      refine ⟨fun hm => ?_, h1⟩
      rw [List.map_map] at hm
      obtain ⟨y, hy, e⟩ := List.mem_map.mp hm
      have := hi y (h y (List.mem_cons_of_mem _ hy)) x hx e
      exact hn.1 (this ▸ hy)
    · intro u hu
      rw [List.map_cons, List.lookup_cons]
      by_cases e : u = x
      · subst e; simp
      · rw [show (nm u == nm x) = false from beq_eq_false_iff_ne.mpr fun z => e (hi u hu x hx z), h2 u hu]
        simp [e]
noncomputable def mkD (nm : Nat → Str) (p : Nat → Bool) (f : Nat → Int) : List (Str × Int) := ((List.range 5).filter p).map fun u => (nm u, f u)
theorem mkD_named {nm : Nat → Str} (hi : Inj5 nm) {p : Nat → Bool} {f : Nat → Int} : Named nm (mkD nm p f) := by
  refine ⟨(mk_look hi (fun x hx => ?_) (List.nodup_range.sublist List.filter_sublist)).1, fun q hq => ?_⟩
  · have := (List.mem_filter.mp hx).1
    simpa using this
  · obtain ⟨u, hu, rfl⟩ := List.mem_map.mp hq
    have := (List.mem_filter.mp hu).1
    exact ⟨u, by simpa using this, rfl⟩
theorem mkD_look {nm : Nat → Str} (hi : Inj5 nm) {p : Nat → Bool} {f : Nat → Int} {u : Nat} (hu : u < 5) : (mkD nm p f).lookup (nm u) = if p u = true then some (f u) else none := by
  rw [mkD, (mk_look hi (fun x hx => by have := (List.mem_filter.mp hx).1; simpa using this) (List.nodup_range.sublist List.filter_sublist)).2 u hu]
  simp [hu]

/-- sums over a set -/
noncomputable def sumB (P : Nat → Bool) (f : Nat → Int) : Int := sum4 fun k => if P k = true then f k else 0
theorem filt_sum {α : Type} {p : α → Bool} {g : α → Int} : ∀ l : List α, ((l.filter p).map g).sum = (l.map fun x => if p x = true then g x else 0).sum
  | [] => rfl
  | x :: l => by
    rw [List.filter_cons, List.map_cons, List.sum_cons, ← filt_sum l]
    cases p x with
    | true => rw [if_pos rfl, if_pos rfl, List.map_cons, List.sum_cons]
    | false => rw [if_neg (by decide), if_neg (by decide), Int.zero_add]
theorem sum_range4 {p : Nat → Bool} {f : Nat → Int} : (((List.range 4).filter p).map f).sum = sumB p f := by
  rw [filt_sum]
  have key : ∀ F : Nat → Int, F 0 + (F 1 + (F 2 + (F 3 + 0))) = F 0 + F 1 + F 2 + F 3 := fun F => by omega
  exact key fun k => if p k = true then f k else 0
theorem sumB_le {P : Nat → Bool} {f g : Nat → Int} (h : ∀ k, k < 4 → f k ≤ g k) : sumB P f ≤ sumB P g := sum4_le fun k hk => by
  split
  · exact h k hk
  · omega
theorem sumB_nonneg {P : Nat → Bool} {f : Nat → Int} (h : ∀ k, k < 4 → 0 ≤ f k) : 0 ≤ sumB P f := by
  have := sumB_le (P := P) (f := fun _ => 0) (g := f) h
  have e : sumB P (fun _ => 0) = 0 := by unfold sumB sum4; simp
  omega
theorem cut_swap {L : Nat → Nat → Int} {P : Nat → Bool} : cut L P = sum5 fun u => if outP P u = true then 0 else sumB P fun k => L k u := by
  have h1 : cut L P = sum5 fun u => sum4 fun k => term L P k u := by unfold cut sum4 sum5; dsimp only; omega
  rw [h1]
  apply sum5_congr
  intro u hu
  unfold sumB term
  cases outP P u with
  | true => simp [sum4]
  | false => simp

/-- the entries of a table of a set -/
structure DoorOk (nm : Nat → Str) (T L : Nat → Nat → Int) (P : Nat → Bool) (m : List (Str × Int)) : Prop where
  named : Named nm m
  look : ∀ u, u < 5 → m.lookup (nm u) = if (!outP P u && decide (0 < sumB P fun k => T k u)) = true then some (sumB P fun k => L k u) else none
theorem DoorOk.sum {nm : Nat → Str} (hi : Inj5 nm) {T L : Nat → Nat → Int} {P : Nat → Bool} {m : List (Str × Int)} (h : DoorOk nm T L P m) (h0 : ∀ k, k < 4 → ∀ u, u < 5 → 0 ≤ L k u) (h1 : ∀ k, k < 4 → ∀ u, u < 5 → L k u ≤ T k u) :
    sumV m = cut L P := by
  rw [cut_swap, sumV]
  refine Eq.trans (h.named.sum hi fun i => i) ?_
  apply sum5_congr
  intro u hu
  rw [h.look u hu]
  cases hz : outP P u with
  | true => simp
  | false =>
    have a1 := sumB_nonneg (P := P) fun k hk => h0 k hk u hu
    have a2 := sumB_le (P := P) fun k hk => h1 k hk u hu
    by_cases hp : 0 < sumB P fun k => T k u
    · simp [hp]
    · simp [hp]; omega

/-! the tables -/
noncomputable def tableOf (names : List Str) (row : List Int) : List (Str × Int) := ((row.zipIdx.filter fun q => decide (q.1 > 0)).map fun q => pairD ((names[q.2]?).getD (n' ""), q.1)).foldl putD []
noncomputable def nmOf (names : List Str) (u : Nat) : Str := (names[u]?).getD (n' "")
theorem tableOf_mk {names : List Str} {f : Nat → Int} (hi : Inj5 (nmOf names)) : tableOf names ((List.range 5).map f) = mkD (nmOf names) (fun u => decide (f u > 0)) f := by
  have e : ((List.range 5).map f).zipIdx = (List.range 5).map fun u => (f u, u) := rfl
  have e2 : (((List.range 5).map fun u => (f u, u)).filter fun q => decide (q.1 > 0)).map (fun q => pairD ((names[q.2]?).getD (n' ""), q.1)) = (mkD (nmOf names) (fun u => decide (f u > 0)) f).map pairD := by
    unfold mkD nmOf
    rw [List.filter_map, List.map_map, List.map_map]
    rfl
  unfold tableOf
  rw [e, e2, putDs_nodup (mkD_named hi).keys]

theorem mrg_facts {nm : Nat → Str} (hi : Inj5 nm) {T : Nat → Nat → Int} {tabs : List (List (Str × Int))} (hT : ∀ k, k < 4 → ∀ u, u < 5 → 0 ≤ T k u) (ht : ∀ k, k < 4 → Named nm ((tabs[k]?).getD []) ∧ ∀ u, u < 5 → ((tabs[k]?).getD []).lookup (nm u) = if 0 < T k u then some (T k u) else none) :
    ∀ l : List Nat, (∀ k ∈ l, k < 4) → Named nm (l.foldr (fun k acc => addC acc ((tabs[k]?).getD [])) []) ∧ ∀ u, u < 5 → 0 ≤ (l.map fun k => T k u).sum ∧ (l.foldr (fun k acc => addC acc ((tabs[k]?).getD [])) []).lookup (nm u) = if 0 < (l.map fun k => T k u).sum then some (l.map fun k => T k u).sum else none
  | [], _ => ⟨⟨by simp [Keys], by simp⟩, fun u _ => by simp⟩
  | k :: l, h => by
    obtain ⟨h1, h2⟩ := mrg_facts hi hT ht l fun x hx => h x (List.mem_cons_of_mem _ hx)
    have hk := h k (List.mem_cons_self ..)
    obtain ⟨t1, t2⟩ := ht k hk
    rw [List.foldr_cons]
    refine ⟨h1.addC t1, fun u hu => ?_⟩
    obtain ⟨s0, s1⟩ := h2 u hu
    have t0 := hT k hk u hu
    rw [(addC_facts h1.keys t1.keys).2, t2 u hu, s1, List.map_cons, List.sum_cons]
    refine ⟨by omega, ?_⟩
    by_cases ha : 0 < T k u
    · by_cases hb : 0 < (l.map fun k => T k u).sum
      · rw [if_pos ha, if_pos hb, if_pos (by omega)]
        simp; omega
      · rw [if_pos ha, if_neg hb, if_pos (by omega)]
        simp; omega
    · by_cases hb : 0 < (l.map fun k => T k u).sum
      · rw [if_neg ha, if_pos hb, if_pos (by omega)]
        simp; omega
      · rw [if_neg ha, if_neg hb, if_neg (by omega)]

theorem Named.filter {nm : Nat → Str} {m : List (Str × Int)} (h : Named nm m) (p : Str × Int → Bool) : Named nm (m.filter p) := by
  refine ⟨?_, fun q hq => h.some_ q (List.mem_filter.mp hq).1⟩
  have := h.keys
  unfold Keys at *
  exact this.sublist (List.Sublist.map _ List.filter_sublist)
theorem look_filter {m : List (Str × Int)} (q : Str → Bool) (x : Str) : (m.filter fun p => q p.1).lookup x = if q x = true then m.lookup x else none := by
  induction m with
  | nil => simp
  | cons p m ih =>
    obtain ⟨k, i⟩ := p
    rw [List.filter_cons]
    by_cases e : x = k
    · subst e
      cases hq : q x with
      | true => simp [hq]
      | false => simp only [hq, Bool.false_eq_true, if_false]; rw [ih, hq]; simp
    · have e' : (x == k) = false := beq_eq_false_iff_ne.mpr e
      cases hq : q k with
      | true => simp only [hq, if_true, List.lookup_cons, e', ih]
      | false => simp only [hq, Bool.false_eq_true, if_false, ih, List.lookup_cons, e']

theorem own_iff {names : List Str} (hi : Inj5 (nmOf names)) {s u : Nat} (hu : u < 5) : (ownOf' names s).contains (nmOf names u) = outP (bit s) u := by
  unfold ownOf' outP
  rw [Bool.eq_iff_iff, List.contains_iff_mem, Bool.and_eq_true, decide_eq_true_eq]
  constructor
  · intro h
    obtain ⟨k, hk, e⟩ := List.mem_map.mp h
    have hk4 := bits_lt hk
    have := hi (k + 1) (by omega) u hu e
    subst this
    refine ⟨by omega, ?_⟩
    unfold bitsOf at hk
    exact (List.mem_filter.mp hk).2
  · rintro ⟨h1, h2⟩
    refine List.mem_map.mpr ⟨u - 1, ?_, ?_⟩
    · unfold bitsOf
      refine List.mem_filter.mpr ⟨by simp; omega, h2⟩
    · unfold nmOf
      rw [show u - 1 + 1 = u by omega]

theorem door_ok {names : List Str} (hi : Inj5 (nmOf names)) {T : Nat → Nat → Int} {tabs : List (List (Str × Int))} (hT : ∀ k, k < 4 → ∀ u, u < 5 → 0 ≤ T k u) (ht : ∀ k, k < 4 → Named (nmOf names) ((tabs[k]?).getD []) ∧ ∀ u, u < 5 → ((tabs[k]?).getD []).lookup (nmOf names u) = if 0 < T k u then some (T k u) else none) (s : Nat) :
    DoorOk (nmOf names) T T (bit s) (doorOf names (mrg tabs s) s) := by
  obtain ⟨h1, h2⟩ := mrg_facts hi hT ht (bitsOf s) fun k hk => bits_lt hk
  have hn := Named.filter h1 fun p => !(ownOf' names s).contains p.1
  have e : doorOf names (mrg tabs s) s = (mrg tabs s).filter fun p => !(ownOf' names s).contains p.1 := by
    unfold doorOf
    exact putDs_nodup hn.keys
  rw [e]
  refine ⟨hn, fun u hu => ?_⟩
  have h3 : ((bitsOf s).map fun k => T k u).sum = sumB (bit s) fun k => T k u := sum_range4
  have e2 := look_filter (m := mrg tabs s) (fun x => !(ownOf' names s).contains x) (nmOf names u)
  have e3 := (h2 u hu).2
  rw [h3] at e3
  rw [e2, own_iff hi hu]
  have e4 : (mrg tabs s).lookup (nmOf names u) = if 0 < sumB (bit s) fun k => T k u then some (sumB (bit s) fun k => T k u) else none := e3
  rw [e4]
  cases outP (bit s) u with
  | true => simp
  | false => simp
end Mine

namespace Mine

/-- what is left -/
noncomputable def Lof (T : Nat → Nat → Int) (tk : List (Nat × Nat)) (k u : Nat) : Int := T k u - ((tk.filter fun p => p == (u, k + 1)).length : Int)
noncomputable def del (k0 u0 k u : Nat) : Int := if k = k0 then (if u = u0 then 1 else 0) else 0
theorem Lof_snoc {T : Nat → Nat → Int} {tk : List (Nat × Nat)} {k0 u0 k u : Nat} : Lof T (tk ++ [(u0, k0 + 1)]) k u = Lof T tk k u - del k0 u0 k u := by
  unfold Lof del
  rw [List.filter_append, List.length_append]
  by_cases hk : k = k0
  · by_cases hu : u = u0
    · subst hk hu; simp; omega
    · rw [if_pos hk, if_neg hu]
      have : ((u0, k0 + 1) == (u, k + 1)) = false := beq_eq_false_iff_ne.mpr fun e => hu (congrArg (·.1) e).symm
      simp [this]
  · rw [if_neg hk]
    have : ((u0, k0 + 1) == (u, k + 1)) = false := beq_eq_false_iff_ne.mpr fun e => hk (by have := congrArg (·.2) e; simp at this; omega)
    simp [this]
theorem Lof_le {T : Nat → Nat → Int} {tk : List (Nat × Nat)} {k u : Nat} : Lof T tk k u ≤ T k u := by unfold Lof; omega
theorem sum4_delta {u0 : Nat} {c : Int} (h : u0 < 4) : (sum4 fun u => if u = u0 then c else 0) = c := by
  have hcase : u0 = 0 ∨ u0 = 1 ∨ u0 = 2 ∨ u0 = 3 := by omega
  unfold sum4
  rcases hcase with rfl | rfl | rfl | rfl <;> simp
theorem sum5_sub {f g : Nat → Int} : (sum5 fun u => f u - g u) = sum5 f - sum5 g := by unfold sum5; dsimp only; omega
theorem sum4_sub {f g : Nat → Int} : (sum4 fun u => f u - g u) = sum4 f - sum4 g := by unfold sum4; dsimp only; omega
theorem cut_del {L : Nat → Nat → Int} {P : Nat → Bool} {k0 u0 : Nat} (hk : k0 < 4) (hu : u0 < 5) : cut (fun k u => L k u - del k0 u0 k u) P = cut L P - (if (P k0 && !outP P u0) = true then 1 else 0) := by
  have e : ∀ k u, term (fun k u => L k u - del k0 u0 k u) P k u = term L P k u - (if k = k0 then (if u = u0 then (if (P k0 && !outP P u0) = true then 1 else 0) else 0) else 0) := by
    intro k u
    unfold term del
    by_cases h1 : k = k0
    · by_cases h2 : u = u0
      · subst h1 h2; simp only [if_true]; split <;> omega
      · simp only [h1, h2, if_true, if_false]; split <;> omega
    · simp only [h1, if_false]; split <;> omega
  unfold cut
  rw [sum4_congr (g := fun k => (sum5 fun u => term L P k u) - (if k = k0 then (if (P k0 && !outP P u0) = true then 1 else 0) else 0)) fun k _ => ?_, sum4_sub, sum4_delta hk]
  rw [sum5_congr (g := fun u => term L P k u - (if k = k0 then (if u = u0 then (if (P k0 && !outP P u0) = true then 1 else 0) else 0) else 0)) fun u _ => e k u, sum5_sub]
  by_cases h1 : k = k0
  · simp only [h1, if_true]; rw [sum5_delta hu]
  · simp only [h1, if_false]
    have : (sum5 fun _ => (0 : Int)) = 0 := by unfold sum5; simp
    rw [this]
theorem sumB_del {L : Nat → Nat → Int} {P : Nat → Bool} {k0 u0 u : Nat} (hk : k0 < 4) : (sumB P fun k => L k u - del k0 u0 k u) = (sumB P fun k => L k u) - (if u = u0 then (if P k0 = true then 1 else 0) else 0) := by
  unfold sumB
  rw [sum4_congr (g := fun k => (if P k = true then L k u else 0) - (if k = k0 then (if u = u0 then (if P k0 = true then 1 else 0) else 0) else 0)) fun k _ => ?_, sum4_sub, sum4_delta hk]
  unfold del
  by_cases h1 : k = k0
  · subst h1
    simp only [if_true]
    split <;> split <;> omega
  · simp only [h1, if_false]; split <;> omega

/-- the state of the tables -/
structure Inv (nm : Nat → Str) (T : Nat → Nat → Int) (tk : List (Nat × Nat)) (ds : List (List (Str × Int))) (told : List Int) : Prop where
  dl : ds.length = 16
  tl : told.length = 16
  nn : ∀ k, k < 4 → ∀ u, u < 5 → 0 ≤ Lof T tk k u
  door : ∀ s, s < 16 → DoorOk nm T (Lof T tk) (bit s) ((ds[s]?).getD [])
  cuts : ∀ s, s < 16 → (told[s]?).getD 0 = cut (Lof T tk) (bit s)
  dlen : ∀ m ∈ ds, m.length ≤ 5

theorem Named.le5 {nm : Nat → Str} (hi : Inj5 nm) {m : List (Str × Int)} (h : Named nm m) : m.length ≤ 5 := by
  have h1 := h.length hi
  have h2 : (sum5 fun u => match m.lookup (nm u) with | some _ => (1 : Int) | none => 0) ≤ sum5 fun _ => 1 := sum5_le fun u _ => by
    cases m.lookup (nm u) <;> simp
  have h3 : (sum5 fun _ => (1 : Int)) = 5 := rfl
  have h4 : (m.length : Int) ≤ sum5 fun _ => 1 := Int.le_trans (Int.le_of_eq h1) h2
  omega

theorem apart_mem {u v s : Nat} (hs : s < 16) : (apart u v).contains s = (bit s (v - 1) && !outP (bit s) u) := by
  unfold apart outP
  rw [Bool.eq_iff_iff, List.contains_iff_mem, List.mem_filter]
  have : decide ((u : Int) > 0) = decide (u > 0) := by
    rw [decide_eq_decide]; omega
  rw [this]
  simp [hs]

/-- the next tables -/
noncomputable def dsUpd (nm : Nat → Str) (u v : Nat) (ds : List (List (Str × Int))) : List (List (Str × Int)) := ds.zipIdx.map fun q => if (apart u v).contains q.2 then addC q.1 [(nm u, -1)] else q.1
noncomputable def toldUpd (u v : Nat) (told : List Int) (ds : List (List (Str × Int))) : List Int := ds.zipIdx.map fun q => if (apart u v).contains q.2 then sumV q.1 else (told[q.2]?).getD 0
theorem zip_get {α β : Type} {l : List α} {f : α × Nat → β} {i : Nat} (h : i < l.length) : (l.zipIdx.map f)[i]? = some (f (l[i], i)) := by
  rw [List.getElem?_map, List.getElem?_zipIdx, List.getElem?_eq_getElem h]
  simp
theorem getD_at {α : Type} {l : List α} {i : Nat} {d : α} (h : i < l.length) : (l[i]?).getD d = l[i] := by
  rw [List.getElem?_eq_getElem h]; rfl

theorem one_named {nm : Nat → Str} {u : Nat} (hu : u < 5) {j : Int} : Named nm [(nm u, j)] := ⟨by simp [Keys], fun p hp => by simp at hp; subst hp; exact ⟨u, hu, rfl⟩⟩

theorem Inv.next {nm : Nat → Str} (hi : Inj5 nm) {T : Nat → Nat → Int} (hT : ∀ k, k < 4 → ∀ u, u < 5 → 0 ≤ T k u) {tk : List (Nat × Nat)} {ds : List (List (Str × Int))} {told : List Int} (h : Inv nm T tk ds told) {u0 k0 : Nat} (hu0 : u0 < 5) (hk0 : k0 < 4) (hpos : 0 < Lof T tk k0 u0) :
    Inv nm T (tk ++ [(u0, k0 + 1)]) (dsUpd nm u0 (k0 + 1) ds) (toldUpd u0 (k0 + 1) told (dsUpd nm u0 (k0 + 1) ds)) ∧
      ∀ s, s < 16 → cut (Lof T (tk ++ [(u0, k0 + 1)])) (bit s) = cut (Lof T tk) (bit s) - (if (bit s k0 && !outP (bit s) u0) = true then 1 else 0) := by
  have eL : Lof T (tk ++ [(u0, k0 + 1)]) = fun k u => Lof T tk k u - del k0 u0 k u := by funext k u; exact Lof_snoc
  have hcut : ∀ s, s < 16 → cut (Lof T (tk ++ [(u0, k0 + 1)])) (bit s) = cut (Lof T tk) (bit s) - (if (bit s k0 && !outP (bit s) u0) = true then 1 else 0) := fun s _ => by rw [eL]; exact cut_del hk0 hu0
  have hnn : ∀ k, k < 4 → ∀ u, u < 5 → 0 ≤ Lof T (tk ++ [(u0, k0 + 1)]) k u := by
    intro k hk u hu
    have := h.nn k hk u hu
    rw [eL]
    unfold del
    by_cases e1 : k = k0
    · by_cases e2 : u = u0
      · subst e1 e2; simp; omega
      · simp [e1, e2]; rw [← e1]; exact this
    · simp [e1]; exact this
  have hdl : (dsUpd nm u0 (k0 + 1) ds).length = 16 := by unfold dsUpd; simp [h.dl]
  have hdoor : ∀ s, s < 16 → DoorOk nm T (Lof T (tk ++ [(u0, k0 + 1)])) (bit s) (((dsUpd nm u0 (k0 + 1) ds)[s]?).getD []) := by
    intro s hs
    have hd := h.door s hs
    have hls : s < ds.length := by rw [h.dl]; exact hs
    rw [getD_at hls] at hd
    have e : ((dsUpd nm u0 (k0 + 1) ds)[s]?).getD [] = if (bit s k0 && !outP (bit s) u0) = true then addC ds[s] [(nm u0, -1)] else ds[s] := by
      unfold dsUpd
      rw [zip_get hls]
      simp only [Option.getD_some, apart_mem hs, Nat.add_sub_cancel]
    rw [e, eL]
    have hsb := fun u => sumB_del (L := Lof T tk) (P := bit s) (k0 := k0) (u0 := u0) (u := u) hk0
    cases hc : (bit s k0 && !outP (bit s) u0) with
    | true =>
      rw [if_pos rfl]
      rw [Bool.and_eq_true] at hc
      obtain ⟨c1, c2⟩ := hc
      have c2 : outP (bit s) u0 = false := by simpa using c2
      refine ⟨hd.named.addC (one_named hu0), fun u hu => ?_⟩
      rw [(addC_facts hd.named.keys (one_named (nm := nm) hu0 (j := -1)).keys).2, hd.look u hu, hsb u]
      by_cases eu : u = u0
      · subst eu
        have hTp : 0 < sumB (bit s) fun k => T k u := by
          have h1 : sumB (bit s) (fun k => if k = k0 then T k0 u else 0) ≤ sumB (bit s) fun k => T k u := sumB_le fun k hk => by
            by_cases ek : k = k0
            · subst ek; simp
            · rw [if_neg ek]; exact hT k hk u hu
          have h2 : sumB (bit s) (fun k => if k = k0 then T k0 u else 0) = T k0 u := by
            unfold sumB
            rw [sum4_congr (g := fun k => if k = k0 then T k0 u else 0) fun k _ => ?_, sum4_delta hk0]
            by_cases ek : k = k0
            · subst ek; rw [if_pos c1]
            · simp [ek]
          have := Lof_le (T := T) (tk := tk) (k := k0) (u := u)
          omega
        rw [c2, List.lookup_cons]
        simp [hTp, c1]
        omega
      · have : (nm u == nm u0) = false := beq_eq_false_iff_ne.mpr fun z => eu (hi u hu u0 hu0 z)
        rw [List.lookup_cons, this]
        simp [eu]
    | false =>
      rw [if_neg (by decide)]
      refine ⟨hd.named, fun u hu => ?_⟩
      rw [hd.look u hu, hsb u]
      by_cases eu : u = u0
      · subst eu
        cases ho : outP (bit s) u with
        | true => simp
        | false =>
          have : bit s k0 = false := by rw [ho] at hc; simpa using hc
          simp [this]
      · simp [eu]
  have hdn : ∀ m ∈ dsUpd nm u0 (k0 + 1) ds, m.length ≤ 5 := by
    intro m hm
    obtain ⟨i, hi', e⟩ := List.getElem_of_mem hm
    have hi16 : i < 16 := by rw [← hdl]; exact hi'
    have := (hdoor i hi16).named.le5 hi
    rw [getD_at hi', e] at this
    exact this
  refine ⟨⟨hdl, ?_, hnn, hdoor, fun s hs => ?_, hdn⟩, hcut⟩
  · unfold toldUpd; simp [hdl]
  · have hls : s < (dsUpd nm u0 (k0 + 1) ds).length := by rw [hdl]; exact hs
    have hd := hdoor s hs
    rw [getD_at hls] at hd
    have e : ((toldUpd u0 (k0 + 1) told (dsUpd nm u0 (k0 + 1) ds))[s]?).getD 0 = if (bit s k0 && !outP (bit s) u0) = true then sumV (dsUpd nm u0 (k0 + 1) ds)[s] else (told[s]?).getD 0 := by
      unfold toldUpd
      rw [zip_get hls]
      simp only [Option.getD_some, apart_mem hs, Nat.add_sub_cancel]
    rw [e]
    cases hc : (bit s k0 && !outP (bit s) u0) with
    | true =>
      rw [if_pos rfl]
      exact hd.sum hi hnn fun k _ u _ => Lof_le
    | false =>
      rw [if_neg (by decide), h.cuts s hs, hcut s hs, hc]
      simp
end Mine

namespace Mine

noncomputable def pairsOf (W : List Nat) : List (Nat × Nat) := W.flatMap fun u => ((List.range' 1 4).filter fun v => !W.contains v).map fun v => (u, v)
noncomputable def tightOf (told : List Int) (c : Int) : List Nat := (List.range' 1 15).filter fun s => decide ((told[s]?).getD 0 < c)
noncomputable def callsOf (nm : Nat → Str) (ds : List (List (Str × Int))) (p : Nat × Nat) : Int := (((ds[2 ^ (p.2 - 1)]?).getD []).lookup (nm p.1)).getD 0
noncomputable def rowOk (nm : Nat → Str) (ds : List (List (Str × Int))) (told : List Int) (c : Int) (p : Nat × Nat) : Bool := decide (callsOf nm ds p > 0) && ((tightOf told c).filter fun s => (apart p.1 p.2).contains s).isEmpty
noncomputable def rowsOf (nm : Nat → Str) (ds : List (List (Str × Int))) (told : List Int) (c : Int) (W : List Nat) : List Row := ((pairsOf W).filter (rowOk nm ds told c)).map fun p => (p.1, p.2, callsOf nm ds p)

theorem pairs_mem {W : List Nat} {u v : Nat} : (u, v) ∈ pairsOf W ↔ u ∈ W ∧ 1 ≤ v ∧ v < 5 ∧ v ∉ W := by
  unfold pairsOf
  rw [List.mem_flatMap]
  constructor
  · rintro ⟨a, ha, h⟩
    obtain ⟨x, hx, e⟩ := List.mem_map.mp h
    cases e
    obtain ⟨h1, h2⟩ := List.mem_filter.mp hx
    rw [List.mem_range'_1] at h1
    refine ⟨ha, by omega, by omega, ?_⟩
    simpa using h2
  · rintro ⟨h1, h2, h3, h4⟩
    refine ⟨u, h1, List.mem_map.mpr ⟨v, List.mem_filter.mpr ⟨?_, by simpa using h4⟩, rfl⟩⟩
    rw [List.mem_range'_1]; omega
theorem pairs_nodup {W : List Nat} (h : W.Nodup) : (pairsOf W).Nodup := by
  have key : ∀ (l vs : List Nat), l.Nodup → vs.Nodup → (l.flatMap fun u => vs.map fun v => (u, v)).Nodup := by
    intro l vs hl hv
    induction l with
    | nil => simp
    | cons x l ih =>
      rw [List.nodup_cons] at hl
      rw [List.flatMap_cons, List.nodup_append]
      refine ⟨?_, ih hl.2, ?_⟩
      · exact List.Pairwise.map _ (fun a b hab e => hab (congrArg (·.2) e)) hv
      · intro a ha b hb e
        subst e
        obtain ⟨v, _, rfl⟩ := List.mem_map.mp ha
        rw [List.mem_flatMap] at hb
        obtain ⟨y, hy, hb⟩ := hb
        obtain ⟨v', _, e⟩ := List.mem_map.mp hb
        have : y = x := congrArg (·.1) e
        exact hl.1 (this ▸ hy)
  exact key W _ h ((by decide : (List.range' 1 4).Nodup).sublist List.filter_sublist)
theorem pairs_len {W : List Nat} (h : W.length ≤ 5) : (pairsOf W).length ≤ 20 := by
  have key : ∀ (l vs : List Nat), vs.length ≤ 4 → (l.flatMap fun u => vs.map fun v => (u, v)).length ≤ 4 * l.length := by
    intro l vs hv
    induction l with
    | nil => simp
    | cons x l ih => rw [List.flatMap_cons, List.length_append, List.length_map, List.length_cons]; omega
  have h1 := key W ((List.range' 1 4).filter fun v => !W.contains v) (by
    have := List.length_filter_le (fun v => !W.contains v) (List.range' 1 4)
    simpa using this)
  unfold pairsOf
  omega

/-- the state within a tree -/
structure WInv (nm : Nat → Str) (T : Nat → Nat → Int) (tk : List (Nat × Nat)) (ds : List (List (Str × Int))) (told : List Int) (c : Int) (W : List Nat) : Prop where
  inv : Inv nm T tk ds told
  nd : W.Nodup
  z : 0 ∈ W
  lt : ∀ x ∈ W, x < 5
  low : ∀ s, 0 < s → s < 16 → c - 1 ≤ (told[s]?).getD 0
  dis : ∀ s, 0 < s → s < 16 → (∀ k, k < 4 → bit s k = true → k + 1 ∉ W) → c ≤ (told[s]?).getD 0

theorem pow_bit : ∀ v, v < 4 → ∀ k, k < 4 → bit (2 ^ v) k = decide (k = v) := by decide +kernel
theorem pow_lt : ∀ v, v < 4 → 2 ^ v < 16 := by decide

theorem calls_eq {nm : Nat → Str} (hi : Inj5 nm) {T : Nat → Nat → Int} {tk : List (Nat × Nat)} {ds : List (List (Str × Int))} {told : List Int} (h : Inv nm T tk ds told) {u k : Nat} (hu : u < 5) (hk : k < 4) (hne : u ≠ k + 1) :
    callsOf nm ds (u, k + 1) = Lof T tk k u := by
  have hb := fun j hj => pow_bit k hk j hj
  have hd := h.door (2 ^ k) (pow_lt k hk)
  unfold callsOf
  simp only [Nat.add_sub_cancel]
  rw [hd.look u hu]
  have ho : outP (bit (2 ^ k)) u = false := by
    unfold outP
    by_cases hu0 : u = 0
    · subst hu0; rfl
    · rw [hb (u - 1) (by omega), decide_eq_false (p := u - 1 = k) (by omega), Bool.and_false]
  have hs : ∀ f : Nat → Int, sumB (bit (2 ^ k)) f = f k := by
    intro f
    unfold sumB
    rw [sum4_congr (g := fun j => if j = k then f k else 0) fun j hj => ?_, sum4_delta hk]
    rw [hb j hj]
    by_cases e : j = k
    · subst e; simp
    · simp [e]
  rw [ho, hs, hs]
  have h0 := h.nn k hk u hu
  have h1 := Lof_le (T := T) (tk := tk) (k := k) (u := u)
  by_cases hp : 0 < T k u
  · simp [hp]
  · simp [hp]; omega

theorem tight_mem {told : List Int} {c : Int} {s : Nat} : s ∈ tightOf told c ↔ 0 < s ∧ s < 16 ∧ (told[s]?).getD 0 < c := by
  unfold tightOf
  rw [List.mem_filter, List.mem_range'_1, decide_eq_true_eq]
  omega
theorem len_le_of_sub : ∀ (l W : List Nat), l.Nodup → (∀ x ∈ l, x ∈ W) → l.length ≤ W.length
  | [], W, _, _ => Nat.zero_le _
  | x :: l, W, hn, h => by
    rw [List.nodup_cons] at hn
    have hx := h x (List.mem_cons_self ..)
    have := len_le_of_sub l (W.erase x) hn.2 fun y hy => by
      have hne : y ≠ x := fun e => hn.1 (e ▸ hy)
      exact (List.mem_erase_of_ne hne).mpr (h y (List.mem_cons_of_mem _ hy))
    rw [List.length_erase_of_mem hx] at this
    have hpos : 0 < W.length := List.length_pos_of_mem hx
    rw [List.length_cons]
    omega
theorem WInv.goodW {nm : Nat → Str} {T : Nat → Nat → Int} {tk : List (Nat × Nat)} {ds : List (List (Str × Int))} {told : List Int} {c : Int} {W : List Nat} (h : WInv nm T tk ds told c W) (hc : 1 ≤ c) (hlen : W.length < 5) : Good (Lof T tk) c (fun x => W.contains x) := by
  refine good_exists h.inv.nn hc (by simpa using h.z) ?_ ?_ ?_
  · refine Classical.byContradiction fun hn => ?_
    have hall : ∀ k, k < 4 → k + 1 ∈ W := fun k hk => Classical.byContradiction fun z => hn ⟨k, hk, by simpa using z⟩
    have hsub : ∀ x ∈ List.range 5, x ∈ W := by
      intro x hx
      have hx5 : x < 5 := by simpa using hx
      by_cases e : x = 0
      · rw [e]; exact h.z
      · have := hall (x - 1) (by omega)
        rw [show x - 1 + 1 = x by omega] at this
        exact this
    have := len_le_of_sub (List.range 5) W (List.nodup_range (n := 5)) hsub
    simp at this
    omega
  · intro P hP
    obtain ⟨hm, hb⟩ := mask_bit P
    have h1 := h.low (mask P) (mask_pos hP) hm
    rw [h.inv.cuts _ hm, cut_congr hb] at h1
    exact h1
  · intro P hP hd
    obtain ⟨hm, hb⟩ := mask_bit P
    have h1 := h.dis (mask P) (mask_pos hP) hm fun k hk hk2 => by
      rw [hb k hk] at hk2
      simpa using hd k hk hk2
    rw [h.inv.cuts _ hm, cut_congr hb] at h1
    exact h1
theorem WInv.rows {nm : Nat → Str} (hi : Inj5 nm) {T : Nat → Nat → Int} {tk : List (Nat × Nat)} {ds : List (List (Str × Int))} {told : List Int} {c : Int} {W : List Nat} (h : WInv nm T tk ds told c W) (hc : 1 ≤ c) (hlen : W.length < 5) : rowsOf nm ds told c W ≠ [] := by
  obtain ⟨k, u, hk, hu, hWu, hWk, hL, hX⟩ := h.goodW hc hlen
  have hWu : u ∈ W := by simpa using hWu
  have hWk : k + 1 ∉ W := by simpa using hWk
  have hp : (u, k + 1) ∈ pairsOf W := pairs_mem.mpr ⟨hWu, by omega, by omega, hWk⟩
  have hok : rowOk nm ds told c (u, k + 1) = true := by
    unfold rowOk
    rw [calls_eq hi h.inv hu hk (fun e => hWk (e ▸ hWu)), Bool.and_eq_true]
    refine ⟨decide_eq_true hL, ?_⟩
    rw [List.isEmpty_iff, List.filter_eq_nil_iff]
    intro s hs
    obtain ⟨s0, s1, s2⟩ := tight_mem.mp hs
    rw [apart_mem s1, Nat.add_sub_cancel]
    rw [h.inv.cuts s s1] at s2
    intro hz
    rw [Bool.and_eq_true] at hz
    have := hX (bit s) s2 hz.1
    rw [this] at hz
    simp at hz
  intro e
  unfold rowsOf at e
  rw [List.map_eq_nil_iff, List.filter_eq_nil_iff] at e
  exact e _ hp hok
theorem rows_mem {nm : Nat → Str} {ds : List (List (Str × Int))} {told : List Int} {c : Int} {W : List Nat} {r : Row} (h : r ∈ rowsOf nm ds told c W) : r.1 ∈ W ∧ 1 ≤ r.2.1 ∧ r.2.1 < 5 ∧ r.2.1 ∉ W ∧ rowOk nm ds told c (r.1, r.2.1) = true := by
  unfold rowsOf at h
  obtain ⟨p, hp, rfl⟩ := List.mem_map.mp h
  obtain ⟨h1, h2⟩ := List.mem_filter.mp hp
  obtain ⟨a, b, c, d⟩ := pairs_mem.mp (show (p.1, p.2) ∈ pairsOf W from h1)
  exact ⟨a, b, c, d, h2⟩
theorem rows_dist {nm : Nat → Str} {ds : List (List (Str × Int))} {told : List Int} {c : Int} {W : List Nat} (hW : W.Nodup) : ∀ (i j : Nat) (a b : Row), (rowsOf nm ds told c W)[i]? = some a → (rowsOf nm ds told c W)[j]? = some b → a.1 = b.1 ∧ a.2.1 = b.2.1 → i = j := by
  intro i j a b ha hb ⟨e1, e2⟩
  unfold rowsOf at ha hb
  rw [List.getElem?_map] at ha hb
  have hn : ((pairsOf W).filter (rowOk nm ds told c)).Nodup := (pairs_nodup hW).sublist List.filter_sublist
  cases hpi : ((pairsOf W).filter (rowOk nm ds told c))[i]? with
  | none => rw [hpi] at ha; cases ha
  | some p =>
    cases hpj : ((pairsOf W).filter (rowOk nm ds told c))[j]? with
    | none => rw [hpj] at hb; cases hb
    | some q =>
      rw [hpi] at ha; rw [hpj] at hb
      cases ha; cases hb
      simp only at e1 e2
      have hpq : p = q := Prod.ext e1 e2
      obtain ⟨hi', ei⟩ := List.getElem?_eq_some_iff.mp hpi
      obtain ⟨hj', ej⟩ := List.getElem?_eq_some_iff.mp hpj
      have heq := ei.trans (hpq.trans ej.symm)
      have hpw := List.pairwise_iff_getElem.mp hn
      rcases Nat.lt_trichotomy i j with hlt | heq' | hlt
      · exact absurd heq (hpw i j hi' hj' hlt)
      · exact heq'
      · exact absurd heq.symm (hpw j i hj' hi' hlt)
theorem rows_len {nm : Nat → Str} {ds : List (List (Str × Int))} {told : List Int} {c : Int} {W : List Nat} (h : W.length ≤ 5) : (rowsOf nm ds told c W).length < 1000 := by
  unfold rowsOf
  have h1 := pairs_len h
  have h2 := List.length_filter_le (rowOk nm ds told c) (pairsOf W)
  rw [List.length_map]
  omega

theorem WInv.step {nm : Nat → Str} (hi : Inj5 nm) {T : Nat → Nat → Int} (hT : ∀ k, k < 4 → ∀ u, u < 5 → 0 ≤ T k u) {tk : List (Nat × Nat)} {ds : List (List (Str × Int))} {told : List Int} {c : Int} {W : List Nat} (h : WInv nm T tk ds told c W) {r : Row} (hr : r ∈ rowsOf nm ds told c W) :
    WInv nm T (tk ++ [(r.1, r.2.1)]) (dsUpd nm r.1 r.2.1 ds) (toldUpd r.1 r.2.1 told (dsUpd nm r.1 r.2.1 ds)) c (W ++ [r.2.1]) := by
  obtain ⟨u, v, cc⟩ := r
  obtain ⟨hu, hv1, hv5, hvW, hok⟩ := rows_mem hr
  simp only at hu hv1 hv5 hvW hok ⊢
  obtain ⟨k, rfl⟩ : ∃ k, v = k + 1 := ⟨v - 1, by omega⟩
  have hu5 := h.lt u hu
  have hne : u ≠ k + 1 := fun e => hvW (e ▸ hu)
  unfold rowOk at hok
  rw [calls_eq hi h.inv hu5 (by omega) hne, Bool.and_eq_true] at hok
  obtain ⟨hpos, htight⟩ := hok
  have hpos := of_decide_eq_true hpos
  rw [List.isEmpty_iff, List.filter_eq_nil_iff] at htight
  obtain ⟨hinv, hcut⟩ := h.inv.next hi hT hu5 (k0 := k) (by omega) hpos
  have hnew : ∀ s, s < 16 → ((toldUpd u (k + 1) told (dsUpd nm u (k + 1) ds))[s]?).getD 0 = (told[s]?).getD 0 - (if (bit s k && !outP (bit s) u) = true then 1 else 0) := by
    intro s hs
    rw [hinv.cuts s hs, hcut s hs, h.inv.cuts s hs]
  refine ⟨hinv, ?_, ?_, ?_, ?_, ?_⟩
  · rw [List.nodup_append]
    refine ⟨h.nd, by simp, fun a ha b hb e => ?_⟩
    simp only [List.mem_cons, List.not_mem_nil, or_false] at hb
    subst hb; subst e
    exact hvW ha
  · exact List.mem_append_left _ h.z
  · intro x hx
    rcases List.mem_append.mp hx with hx | hx
    · exact h.lt x hx
    · simp only [List.mem_cons, List.not_mem_nil, or_false] at hx
      omega
  · intro s h0 h16
    rw [hnew s h16]
    cases hc : (bit s k && !outP (bit s) u) with
    | false => have := h.low s h0 h16; simpa using this
    | true =>
      have : ¬ (told[s]?).getD 0 < c := fun hlt => by
        have := htight s (tight_mem.mpr ⟨h0, h16, hlt⟩)
        rw [apart_mem h16, Nat.add_sub_cancel, hc] at this
        exact this rfl
      simp
      omega
  · intro s h0 h16 hd
    rw [hnew s h16]
    have hk : bit s k = false := by
      cases hz : bit s k with
      | false => rfl
      | true => exact absurd (List.mem_append_right _ (by simp)) (hd k (by omega) hz)
    have := h.dis s h0 h16 fun j hj hb hm => hd j hj hb (List.mem_append_left _ hm)
    rw [hk]
    simpa using this
theorem WInv.start {nm : Nat → Str} {T : Nat → Nat → Int} {tk : List (Nat × Nat)} {ds : List (List (Str × Int))} {told : List Int} {c : Int} (h : Inv nm T tk ds told) (hc : ∀ s, 0 < s → s < 16 → c ≤ (told[s]?).getD 0) : WInv nm T tk ds told c [0] :=
  ⟨h, by simp, by simp, by simp, fun s h0 h1 => by have := hc s h0 h1; omega, fun s h0 h1 _ => hc s h0 h1⟩
end Mine

namespace Mine

noncomputable def dig (x : Int) (u : Nat) : Int := (x.fdiv (10 ^ u)).fmod 10
theorem dig_nonneg (x : Int) (u : Nat) : 0 ≤ dig x u := Int.fmod_nonneg_of_pos _ (by decide)
noncomputable def tOf (nums : List Int) (k u : Nat) : Int := dig ((nums[k]?).getD 0) u
noncomputable def rowsT (nums : List Int) : List (List Int) := nums.map fun x => (List.range 5).map (dig x)
noncomputable def tabsT (names : List Str) (nums : List Int) : List (List (Str × Int)) := (rowsT nums).map (tableOf names)
theorem tOf_nonneg {nums : List Int} : ∀ k, k < 4 → ∀ u, u < 5 → 0 ≤ tOf nums k u := fun _ _ _ _ => dig_nonneg _ _

theorem tab_row {names : List Str} (hi : Inj5 (nmOf names)) (x : Int) : tableOf names ((List.range 5).map (dig x)) = mkD (nmOf names) (fun u => decide (dig x u > 0)) (dig x) := tableOf_mk hi
theorem tabs_get {names : List Str} (hi : Inj5 (nmOf names)) {nums : List Int} (hl : nums.length = 4) {k : Nat} (hk : k < 4) : ((tabsT names nums)[k]?).getD [] = mkD (nmOf names) (fun u => decide (tOf nums k u > 0)) (tOf nums k) := by
  unfold tabsT rowsT
  rw [List.map_map, List.getElem?_map, List.getElem?_eq_getElem (by omega)]
  simp only [Option.map_some, Option.getD_some, Function.comp]
  rw [tab_row hi]
  unfold tOf
  rw [getD_at (by omega)]
theorem tabs_ok {names : List Str} (hi : Inj5 (nmOf names)) {nums : List Int} (hl : nums.length = 4) : ∀ k, k < 4 → Named (nmOf names) (((tabsT names nums)[k]?).getD []) ∧ ∀ u, u < 5 → (((tabsT names nums)[k]?).getD []).lookup (nmOf names u) = if 0 < tOf nums k u then some (tOf nums k u) else none := by
  intro k hk
  rw [tabs_get hi hl hk]
  refine ⟨mkD_named hi, fun u hu => ?_⟩
  rw [mkD_look hi hu]
  simp
theorem tabs_len {names : List Str} (hi : Inj5 (nmOf names)) {nums : List Int} : ∀ t ∈ tabsT names nums, t.length ≤ 5 := by
  intro t ht
  unfold tabsT rowsT at ht
  rw [List.map_map] at ht
  obtain ⟨x, _, rfl⟩ := List.mem_map.mp ht
  simp only [Function.comp]
  rw [tab_row hi]
  exact (mkD_named hi).le5 hi

noncomputable def ds0 (names : List Str) (nums : List Int) : List (List (Str × Int)) := (List.range 16).map fun s => doorOf names (mrg (tabsT names nums) s) s
theorem Lof_nil {T : Nat → Nat → Int} : Lof T [] = T := by funext k u; simp [Lof]
theorem ds0_door {names : List Str} (hi : Inj5 (nmOf names)) {nums : List Int} (hl : nums.length = 4) {s : Nat} (hs : s < 16) : DoorOk (nmOf names) (tOf nums) (tOf nums) (bit s) (((ds0 names nums)[s]?).getD []) := by
  unfold ds0
  rw [List.getElem?_map, List.getElem?_range hs]
  exact door_ok hi tOf_nonneg (tabs_ok hi hl) s
theorem inv0 {names : List Str} (hi : Inj5 (nmOf names)) {nums : List Int} (hl : nums.length = 4) : Inv (nmOf names) (tOf nums) [] (ds0 names nums) ((ds0 names nums).map sumV) := by
  have hdl : (ds0 names nums).length = 16 := by simp [ds0]
  refine ⟨hdl, by simp [hdl], ?_, ?_, fun s hs => ?_, fun m hm => ?_⟩
  · rw [Lof_nil]; exact tOf_nonneg
  · rw [Lof_nil]; exact fun s hs => ds0_door hi hl hs
  · have hd := ds0_door hi hl hs
    rw [Lof_nil, ← hd.sum hi tOf_nonneg (fun _ _ _ _ => Int.le_refl _), List.getElem?_map]
    rw [List.getElem?_eq_getElem (by omega)]; rfl
  · obtain ⟨i, hi', e⟩ := List.getElem_of_mem hm
    have := (ds0_door hi hl (s := i) (by omega)).named.le5 hi
    rw [getD_at hi', e] at this
    exact this

noncomputable def outerOf (s : Nat) : List Nat := 0 :: (List.range' 1 4).filter fun u => !bit s (u - 1)
noncomputable def dueS (T : Nat → Nat → Int) (s : Nat) : Int := ((bitsOf s).flatMap fun k => (outerOf s).map fun u => T k u).sum
theorem outer_one {s u : Nat} {g : Int} (h : 0 < u) : (if (!bit s (u - 1)) = true then g else 0) = if outP (bit s) u = true then 0 else g := by
  unfold outP
  rw [show decide (u > 0) = true from decide_eq_true h, Bool.true_and]
  cases bit s (u - 1) <;> rfl
theorem outer_sum {s : Nat} {g : Nat → Int} : ((outerOf s).map g).sum = sum5 fun u => if outP (bit s) u = true then 0 else g u := by
  unfold outerOf sum5
  rw [List.map_cons, List.sum_cons, filt_sum]
  have key : ∀ (a : Int) (F : Nat → Int), a + (F 1 + (F 2 + (F 3 + (F 4 + 0)))) = a + F 1 + F 2 + F 3 + F 4 := fun a F => by omega
  refine Eq.trans (key (g 0) fun u => if (!bit s (u - 1)) = true then g u else 0) ?_
  dsimp only
  rw [outer_one (s := s) (u := 1) (by decide), outer_one (s := s) (u := 2) (by decide), outer_one (s := s) (u := 3) (by decide), outer_one (s := s) (u := 4) (by decide)]
  rfl
theorem flat_sum {α : Type} {l : List α} {f : α → List Int} : (l.flatMap f).sum = (l.map fun k => (f k).sum).sum := by
  induction l with
  | nil => rfl
  | cons x l ih => rw [List.flatMap_cons, List.sum_append, ih, List.map_cons, List.sum_cons]
theorem due_cut {T : Nat → Nat → Int} {s : Nat} : dueS T s = cut T (bit s) := by
  unfold dueS
  rw [flat_sum, show ((bitsOf s).map fun k => ((outerOf s).map fun u => T k u).sum).sum = sumB (bit s) fun k => ((outerOf s).map fun u => T k u).sum from sum_range4]
  unfold sumB cut
  apply sum4_congr
  intro k hk
  show (if bit s k = true then ((outerOf s).map fun u => T k u).sum else 0) = _
  rw [outer_sum]
  unfold term
  cases bit s k with
  | true =>
    rw [if_pos rfl]
    apply sum5_congr
    intro u _
    cases outP (bit s) u <;> simp
  | false => simp [sum5]
theorem told0 {names : List Str} (hi : Inj5 (nmOf names)) {nums : List Int} (hl : nums.length = 4) : (ds0 names nums).map sumV = (List.range 16).map (dueS (tOf nums)) := by
  unfold ds0
  rw [List.map_map]
  apply List.map_congr_left
  intro s hs
  have hs16 : s < 16 := by simpa using hs
  have hd := ds0_door hi hl hs16
  unfold ds0 at hd
  rw [List.getElem?_map, List.getElem?_range hs16] at hd
  rw [due_cut]
  exact hd.sum hi tOf_nonneg (fun _ _ _ _ => Int.le_refl _)
theorem tabs_sum {names : List Str} (hi : Inj5 (nmOf names)) {nums : List Int} : (tabsT names nums).map sumV = (rowsT nums).map List.sum := by
  unfold tabsT
  rw [List.map_map]
  apply List.map_congr_left
  intro r hr
  unfold rowsT at hr
  obtain ⟨x, _, rfl⟩ := List.mem_map.mp hr
  simp only [Function.comp]
  rw [tab_row hi, sumV]
  refine Eq.trans ((mkD_named hi).sum hi fun i => i) ?_
  rw [show ((List.range 5).map (dig x)).sum = sum5 (dig x) by
    have e : List.range 5 = [0, 1, 2, 3, 4] := rfl
    rw [e]; unfold sum5; simp; omega]
  apply sum5_congr
  intro u hu
  rw [mkD_look hi hu]
  have := dig_nonneg x u
  by_cases h : dig x u > 0
  · simp [h]
  · simp [h]; omega
theorem told_nonneg {nm : Nat → Str} {T : Nat → Nat → Int} {tk : List (Nat × Nat)} {ds : List (List (Str × Int))} {told : List Int} (h : Inv nm T tk ds told) {s : Nat} (hs : s < 16) : 0 ≤ (told[s]?).getD 0 := by
  rw [h.cuts s hs]
  have := cut_le (L := fun _ _ => 0) (L' := Lof T tk) (P := bit s) (Q := bit s) fun k hk u hu => by
    have h0 := term_nonneg (P := bit s) (h.nn k hk u hu)
    have : term (fun _ _ => 0) (bit s) k u = 0 := by unfold term; split <;> rfl
    omega
  have hz : cut (fun _ _ => 0) (bit s) = 0 := by unfold cut term sum4 sum5; simp
  omega

/-- the last check -/
noncomputable def outerF (T : Nat → Nat → Int) (s u : Nat) : Bool := !((bitsOf s).map fun (k : Nat) => (k : Int)).contains ((u : Int) - 1) && decide (((bitsOf s).map fun k => T k u).sum > 0)
noncomputable def restOf (names : List Str) (T L : Nat → Nat → Int) (s : Nat) : List (Str × Int) := (((List.range 5).filter (outerF T s)).map fun u => pairD (nmOf names u, ((bitsOf s).map fun k => L k u).sum)).foldl putD []
theorem inner_out {s u : Nat} (hu : u < 5) : ((bitsOf s).map fun (k : Nat) => (k : Int)).contains ((u : Int) - 1) = outP (bit s) u := by
  unfold outP
  rw [Bool.eq_iff_iff, List.contains_iff_mem, Bool.and_eq_true, decide_eq_true_eq]
  constructor
  · intro h
    obtain ⟨k, hk, e⟩ := List.mem_map.mp h
    have : u - 1 = k := by omega
    rw [this]
    unfold bitsOf at hk
    exact ⟨by omega, (List.mem_filter.mp hk).2⟩
  · rintro ⟨h1, h2⟩
    refine List.mem_map.mpr ⟨u - 1, ?_, by omega⟩
    unfold bitsOf
    exact List.mem_filter.mpr ⟨by simp; omega, h2⟩
theorem rest_ok {names : List Str} (hi : Inj5 (nmOf names)) {T L : Nat → Nat → Int} {s : Nat} : DoorOk (nmOf names) T L (bit s) (restOf names T L s) := by
  have e : restOf names T L s = mkD (nmOf names) (outerF T s) fun u => ((bitsOf s).map fun k => L k u).sum := by
    unfold restOf
    have e2 : (((List.range 5).filter (outerF T s)).map fun u => pairD (nmOf names u, ((bitsOf s).map fun k => L k u).sum)) = (mkD (nmOf names) (outerF T s) fun u => ((bitsOf s).map fun k => L k u).sum).map pairD := by
      unfold mkD
      rw [List.map_map]; rfl
    rw [e2]
    exact putDs_nodup (mkD_named hi).keys
  rw [e]
  refine ⟨mkD_named hi, fun u hu => ?_⟩
  rw [mkD_look hi hu]
  unfold outerF
  rw [inner_out hu]
  have h1 : ((bitsOf s).map fun k => T k u).sum = sumB (bit s) fun k => T k u := sum_range4
  have h2 : ((bitsOf s).map fun k => L k u).sum = sumB (bit s) fun k => L k u := sum_range4
  rw [h1, h2]
theorem last_ok {names : List Str} (hi : Inj5 (nmOf names)) {T : Nat → Nat → Int} {tk : List (Nat × Nat)} {ds : List (List (Str × Int))} {told : List Int} (h : Inv (nmOf names) T tk ds told) {s : Nat} (hs : s < 16) :
    ((((ds[s]?).getD []).length == (restOf names T (Lof T tk) s).length && ((ds[s]?).getD []).all fun p => (restOf names T (Lof T tk) s).lookup p.1 == some p.2) = true) ∧ (told[s]?).getD 0 = sumV (restOf names T (Lof T tk) s) := by
  have hd := h.door s hs
  have hr := rest_ok hi (T := T) (L := Lof T tk) (s := s)
  obtain ⟨h1, h2⟩ := same_dict hi hd.named hr.named fun u hu => by rw [hd.look u hu, hr.look u hu]
  refine ⟨h1, ?_⟩
  rw [h.cuts s hs, hr.sum hi h.nn fun _ _ _ _ => Lof_le]

/-! the names -/
noncomputable def fmt (a : Str) (i : Int) (c : Str) : Str := ((((a ++ Str.ofString ":") ++ Str.ofString (toString i)) ++ Str.ofString "(") ++ c) ++ Str.ofString ")"
noncomputable def nmL (line : Int) : List Str := [n' "{z}", fmt (n' "a") line (n' "f"), n' "<g", n' "g>", fmt (n' "~") 1 (n' "<h>")]
theorem first_app {x y : Str} {c : Nat} (h : x.cps[0]? = some c) : (x ++ y).cps[0]? = some c := by
  show (x.cps ++ y.cps)[0]? = some c
  obtain ⟨hl, e⟩ := Array.getElem?_eq_some_iff.mp h
  rw [Array.getElem?_append_left hl]
  exact h
theorem fmt_first {a c : Str} {i : Int} {x : Nat} (h : a.cps[0]? = some x) : (fmt a i c).cps[0]? = some x := first_app (first_app (first_app (first_app (first_app h))))
theorem nm_inj (line : Int) : Inj5 (nmOf (nmL line)) := by
  have h : ∀ u, u < 5 → (nmOf (nmL line) u).cps[0]? = ([some 123, some 97, some 60, some 103, some 126][u]?).getD none := by
    intro u hu
    have hcase : u = 0 ∨ u = 1 ∨ u = 2 ∨ u = 3 ∨ u = 4 := by omega
    rcases hcase with rfl | rfl | rfl | rfl | rfl
    · show (n' "{z}").cps[0]? = some 123
      decide
    · exact fmt_first (a := n' "a") (by decide)
    · show (n' "<g").cps[0]? = some 60
      decide
    · show (n' "g>").cps[0]? = some 103
      decide
    · exact fmt_first (a := n' "~") (by decide)
  intro u hu v hv e
  have h1 := h u hu
  rw [e, h v hv] at h1
  have key : ∀ u, u < 5 → ∀ v, v < 5 → ([some 123, some 97, some 60, some 103, some 126][v]?).getD none = ([some 123, some 97, some 60, some 103, some 126][u]?).getD (none : Option Nat) → u = v := by decide
  exact key u hu v hv h1
theorem str_ext {x y : Str} (h : x.cps = y.cps) : x = y := by
  cases x; cases y; simp only at h; rw [h]
theorem nm_list (line : Int) : nmL line = [n' "{z}", (n' "a:" ++ Str.ofString (toString line)) ++ n' "(f)", n' "<g", n' "g>", n' "~:1(<h>)"] := by
  have e1 : fmt (n' "a") line (n' "f") = (n' "a:" ++ Str.ofString (toString line)) ++ n' "(f)" := by
    have a1 : n' "a:" = n' "a" ++ n' ":" := by decide
    have a2 : n' "(f)" = (n' "(" ++ n' "f") ++ n' ")" := by decide
    rw [a1, a2]
    apply str_ext
    unfold fmt
    show ((((_ ++ _) ++ _) ++ _) ++ _) ++ _ = ((_ ++ _) ++ _) ++ ((_ ++ _) ++ _)
    simp only [Array.append_assoc]
  have e2 : fmt (n' "~") 1 (n' "<h>") = n' "~:1(<h>)" := by decide +kernel
  unfold nmL
  rw [e1, e2]
end Mine

namespace Mine

noncomputable def lawB : List Stmt := bodyOf (stAt 10)
/-- a grid of numbers -/
noncomputable def gridD (L : Nat → Nat → Int) : D := .list ((List.range 4).map fun k => .list ((List.range 5).map fun u => .int (L k u)))
noncomputable def pairI (p : Nat × Nat) : D := .tup (intsD [(p.1 : Int), (p.2 : Int)])
noncomputable def takenD (tk : List (Nat × Nat)) : D := .list (tk.map pairI)
noncomputable def doorsD (ds : List (List (Str × Int))) : D := .list (ds.map .dict)
theorem pairI_inj {xs : List (Nat × Nat)} : ∀ x ∈ xs, ∀ y ∈ xs, pairI x = pairI y → x = y := by
  intro x _ y _ e
  obtain ⟨x1, x2⟩ := x
  obtain ⟨y1, y2⟩ := y
  simp only [pairI, intsD, List.map_cons, List.map_nil, D.tup.injEq, List.cons.injEq, D.int.injEq, and_true] at e
  obtain ⟨e1, e2⟩ := e
  have h1 : x1 = y1 := by omega
  have h2 : x2 = y2 := by omega
  rw [h1, h2]
theorem nats_ints {l : List Nat} : l.map natD = (l.map fun (k : Nat) => (k : Int)).map D.int := by
  rw [List.map_map]; rfl
theorem pair_beq {p : Nat × Nat} {u k : Nat} : ([(p.1 : Int), (p.2 : Int)] == [(u : Int), (k : Int) + 1]) = (p == (u, k + 1)) := by
  rw [Bool.eq_iff_iff, beq_iff_eq, beq_iff_eq]
  obtain ⟨a, b⟩ := p
  simp only [List.cons.injEq, and_true, Prod.mk.injEq]
  omega

section
variable {prog : Program} {w : World} {G : Glo prog w} {n : Nat} {Γ : Cx} {b : Bool}

theorem grid_ex {x : Str} {px p1 p2 : Pos} {e f : Expr} {L : Nat → Nat → Int} {k u : Nat} (hx : Ex G n Γ true (.Name x px) (gridD L)) (he : Ex G n Γ true e (.int (k : Int))) (hf : Ex G n Γ true f (.int (u : Int))) (hk : k < 4) (hu : u < 5)
    (hs1 : ∀ o j, subscripted e false o j = operate [o, j] (getItem o j) := by intro _ _; rfl) (hs2 : ∀ o j, subscripted f false o j = operate [o, j] (getItem o j) := by intro _ _; rfl) :
    Ex G n Γ b (.Subscript (.Subscript (.Name x px) e p1) f p2) (.int (L k u)) :=
  Ex.item (b1 := true) (i := (u : Int)) (Ex.item (b1 := true) (i := (k : Int)) hx he (by omega) (by omega) (seq_get (f := fun k => .list ((List.range 5).map fun u => .int (L k u))) hk) hs1) hf (by omega) (by omega) (seq_get (f := fun u => .int (L k u)) hu) hs2

theorem law_end {names : List Str} (hi : Inj5 (nmOf names)) (hn : names.length = 5) {T : Nat → Nat → Int} {tk : List (Nat × Nat)} {ds : List (List (Str × Int))} {told : List Int} (h : Inv (nmOf names) T tk ds told) (htk : tk.length ≤ 100) :
    Runs G n (cx 10 [(n' "taken", .own, takenD tk), (n' "told", .full, .list (intsD told)), (n' "doors", .full, doorsD ds), (n' "names", .full, .list (strsD names)), (n' "times", .full, gridD T)]) (lawB.drop 17) (fun o => o = .ret (.bool true)) := by
  refine Runs.assignCell (.lst _) (outs := (List.range 4).map fun k => .list ((List.range 5).map fun u => .int (Lof T tk k u))) (d := gridD (Lof T tk)) ?_ rfl ?_ ?_ ?_ ?_
  rotate_left 2
  · rfl
  · rfl
  · rfl
  · refine CompG.mp (emb := natD) (Src.rangeN (m := 4) Ex.cint (by decide)) ⟨_, _, rfl⟩ natD_inj (by simp; decide) (fun k hk => ?_)
    refine ⟨_, Asg.name rfl, Sub.all rfl rfl ⟨rfl, rfl, trivial⟩, ?_⟩
    show Ex _ _ _ _ _ _
    refine Ex.lcomp ?_ rfl
    refine CompG.mp (emb := natD) (Src.rangeN (m := 5) Ex.cint (by decide)) ⟨_, _, rfl⟩ natD_inj (by simp; decide) (fun u hu => ?_)
    refine ⟨_, Asg.name rfl, Sub.all rfl rfl ⟨rfl, rfl, rfl, trivial⟩, ?_⟩
    show Ex _ _ _ _ _ _
    refine Ex.sub (i := T k u) (j := ((tk.filter fun p => p == (u, k + 1)).length : Int)) ?_ ?_
    · exact grid_ex (Ex.nameF rfl) (Ex.nameF rfl) (Ex.nameF rfl) (by simpa using hk) (by simpa using hu)
    · refine Ex.lenN (b1 := true) (l := (tk.filter fun p => p == (u, k + 1)).map fun _ => .int 0) (Ex.lcomp ?_ rfl) (by rw [List.length_map]) ?_
      · refine CompG.filt (emb := pairI) (Src.list (l := tk.map pairI) (Ex.nameT rfl)) (.inl ⟨_, _, rfl⟩) pairI_inj (by have := big; omega) (fun p hp => ?_)
        refine ⟨_, Asg.name rfl, Sub.all rfl rfl ⟨rfl, rfl, trivial⟩, ?_, fun _ => ?_⟩
        · show Tst _ _ _ _ _
          rw [← pair_beq]
          exact Tst.cmp (b1 := true) (b2 := true) (Ex.nameF rfl) (Ex.tup (Exs.cons (Ex.nameF rfl) (Exs.cons (Ex.add (Ex.nameF rfl) Ex.cint) Exs.nil))) (Cmp.eqIntsT (x := [(p.1 : Int), (p.2 : Int)]) (y := [(u : Int), (k : Int) + 1]))
        · exact Ex.cint
      · have := List.length_filter_le (fun p => p == (u, k + 1)) tk
        omega
  refine Runs.for (fun i Γ' => Γ' = cx 10 [(n' "left", .full, gridD (Lof T tk)), (n' "told", .full, .list (intsD told)), (n' "doors", .full, doorsD ds), (n' "names", .full, .list (strsD names)), (n' "times", .full, gridD T)])
    (T := TName) (ds := (List.range 16).map natD) ?_ ?_ ?_ (fun s d Γi hd hi' => ?_) (fun Γe he => ?_)
  · exact Src.rangeN (m := 16) Ex.cint (by decide)
  · exact ⟨_, _, rfl⟩
  · exact ⟨_, rfl, Sub.all rfl rfl ⟨rfl, rfl, rfl, rfl, rfl, trivial⟩⟩
  · subst hi'
    obtain ⟨hs, rfl⟩ := natD_get hd
    obtain ⟨hl1, hl2⟩ := last_ok hi h hs
    have hdl := h.dl
    have htl := h.tl
    refine ⟨_, Asg.name rfl, ?_⟩
    show Runs _ _ _ _ _
    refine Runs.assignCell (.lst _) (outs := (bitsOf s).map natD) (d := .list ((bitsOf s).map natD)) ?_ rfl ?_ ?_ ?_ ?_
    rotate_left 2
    · rfl
    · rfl
    · rfl
    · refine CompG.filt (emb := natD) (Src.rangeN (m := 4) Ex.cint (by decide)) ⟨_, _, rfl⟩ natD_inj (by simp; decide) (fun k hk => ?_)
      refine ⟨_, Asg.name rfl, Sub.all rfl rfl ⟨rfl, trivial⟩, ?_, fun _ => ?_⟩
      · exact bit_tst (s := s) (k := k) (Ex.nameF rfl) (Ex.nameF rfl) hs (by simpa using hk)
      · exact Ex.nameF rfl
    have hbl : (bitsOf s).length ≤ sizeLine := by
      have := List.length_filter_le (fun k => bit s k) (List.range 4)
      have hb := big
      unfold bitsOf
      simp at this
      omega
    show Runs _ _ _ _ _
    refine Runs.assignCell (.lst _) (outs := ((List.range 5).filter (outerF T s)).map natD) (d := .list (((List.range 5).filter (outerF T s)).map natD)) ?_ rfl ?_ ?_ ?_ ?_
    rotate_left 2
    · rfl
    · rfl
    · rfl
    · refine CompG.filt (emb := natD) (Src.rangeN (m := 5) Ex.cint (by decide)) ⟨_, _, rfl⟩ natD_inj (by simp; decide) (fun u hu => ?_)
      refine ⟨_, Asg.name rfl, Sub.all rfl rfl ⟨rfl, rfl, trivial⟩, ?_, fun _ => ?_⟩
      · show Tst _ _ _ _ _
        refine Tst.and2 ?_ fun _ => ?_
        · exact Tst.cmp (b1 := true) (b2 := true) (Ex.sub (Ex.nameF rfl) Ex.cint) (Ex.nameF rfl) (Cmp.notInInts nats_ints)
        · refine Tst.cmp (b1 := true) (b2 := true) (Ex.sum (b1 := true) (ns := (bitsOf s).map fun k => T k u) (l := (bitsOf s).map fun k => .int (T k u)) (Ex.lcomp ?_ rfl) (by rw [List.map_map]; rfl)) Ex.cint Cmp.gt
          refine CompG.mp (emb := natD) (Src.list (l := (bitsOf s).map natD) (Ex.nameF rfl)) (.inl ⟨_, _, rfl⟩) natD_inj hbl (fun k hk => ?_)
          refine ⟨_, Asg.name rfl, Sub.all rfl rfl ⟨rfl, rfl, trivial⟩, ?_⟩
          exact grid_ex (Ex.nameF rfl) (Ex.nameF rfl) (Ex.nameF rfl) (bits_lt hk) (by simpa using hu)
      · exact Ex.nameF rfl
    refine Runs.assignLoc (.dct _ _) (outs := ((List.range 5).filter (outerF T s)).map fun u => pairD (nmOf names u, ((bitsOf s).map fun k => Lof T tk k u).sum)) (d := .dict (restOf names T (Lof T tk) s)) ?_ rfl ?_ ?_ ?_ ?_
    rotate_left 2
    · rfl
    · rfl
    · rfl
    · refine CompG.mp (emb := natD) (Src.list (l := ((List.range 5).filter (outerF T s)).map natD) (Ex.nameF rfl)) (.inl ⟨_, _, rfl⟩) natD_inj ?_ (fun u hu => ?_)
      · have := List.length_filter_le (outerF T s) (List.range 5)
        have hb := big
        simp at this
        omega
      · have hu5 : u < 5 := by
          have := (List.mem_filter.mp hu).1
          simpa using this
        refine ⟨_, Asg.name rfl, Sub.all rfl rfl ⟨rfl, rfl, rfl, trivial⟩, _, _, rfl, ?_, ?_⟩
        · refine Ex.item (b1 := true) (i := (u : Int)) (Ex.nameF rfl) (Ex.nameF rfl) (by omega) (by omega) ?_
          rw [Int.toNat_natCast, strsD, List.getElem?_map, List.getElem?_eq_getElem (by omega)]
          unfold nmOf
          rw [getD_at (by omega)]
          rfl
        · refine Ex.sum (b1 := true) (ns := (bitsOf s).map fun k => Lof T tk k u) (l := (bitsOf s).map fun k => .int (Lof T tk k u)) (Ex.lcomp ?_ rfl) (by rw [List.map_map]; rfl)
          refine CompG.mp (emb := natD) (Src.list (l := (bitsOf s).map natD) (Ex.nameF rfl)) (.inl ⟨_, _, rfl⟩) natD_inj hbl (fun k hk => ?_)
          refine ⟨_, Asg.name rfl, Sub.all rfl rfl ⟨rfl, rfl, trivial⟩, ?_⟩
          exact grid_ex (Ex.nameF rfl) (Ex.nameF rfl) (Ex.nameF rfl) (bits_lt hk) hu5
    refine Runs.skip ?_ ?_
    · rw [show false = ((!((((ds[s]?).getD []).length == (restOf names T (Lof T tk) s).length && ((ds[s]?).getD []).all fun p => (restOf names T (Lof T tk) s).lookup p.1 == some p.2))) || ((told[s]?).getD 0 != sumV (restOf names T (Lof T tk) s))) by rw [hl1, hl2]; simp]
      refine Tst.or2 ?_ fun _ => ?_
      · refine Tst.cmp (b1 := true) (b2 := true) (Ex.item (b1 := true) (i := (s : Int)) (d := .dict ((ds[s]?).getD [])) (Ex.nameF rfl) (Ex.nameF rfl) (by omega) (by omega) ?_) (Ex.nameF rfl) Cmp.neDict
        rw [Int.toNat_natCast, List.getElem?_map, List.getElem?_eq_getElem (by omega)]
        rfl
      · exact Tst.cmp (b1 := true) (b2 := true) (Ex.item (b1 := true) (i := (s : Int)) (d := .int ((told[s]?).getD 0)) (Ex.nameF rfl) (Ex.nameF rfl) (by omega) (by omega) (intsD_get (by omega))) (Ex.sumValues (b1 := true) (Ex.nameF rfl)) Cmp.neI
    exact Runs.nil ⟨_, rfl, Sub.all rfl rfl ⟨rfl, rfl, rfl, rfl, rfl, trivial⟩⟩
  · subst he
    refine Runs.ret (d := .bool true) ?_ ?_
    · exact Ex.cbool
    · rfl
end
end Mine

namespace Mine

theorem cast_contains {W : List Nat} {v : Nat} : (W.map fun (k : Nat) => (k : Int)).contains (v : Int) = W.contains v := by
  rw [Bool.eq_iff_iff, List.contains_iff_mem, List.contains_iff_mem, List.mem_map]
  constructor
  · rintro ⟨a, ha, e⟩
    have : a = v := by omega
    exact this ▸ ha
  · exact fun h => ⟨v, h, rfl⟩
noncomputable def enumK (q : List (Str × Int) × Nat) : D := .tup [.int (q.2 : Int), .dict q.1]
theorem enumK_inj {xs : List (List (Str × Int) × Nat)} : ∀ x ∈ xs, ∀ y ∈ xs, enumK x = enumK y → x = y := by
  intro x _ y _ e
  obtain ⟨x1, x2⟩ := x
  obtain ⟨y1, y2⟩ := y
  simp only [enumK, D.tup.injEq, List.cons.injEq, D.int.injEq, D.dict.injEq, and_true] at e
  obtain ⟨e1, e2⟩ := e
  have h1 : x2 = y2 := by omega
  rw [h1, e2]
theorem enum_doors {ds : List (List (Str × Int))} : enumD (ds.map D.dict) = ds.zipIdx.map enumK := by
  unfold enumD
  rw [List.zipIdx_map, List.map_map]
  rfl
theorem zip_mem {α : Type} {l : List α} {q : α × Nat} (h : q ∈ l.zipIdx) : q.2 < l.length ∧ q.1 ∈ l := by
  obtain ⟨i, hi, e⟩ := List.getElem_of_mem h
  rw [List.getElem_zipIdx] at e
  subst e
  simp at hi ⊢
  exact hi

section
variable {prog : Program} {w : World} {G : Glo prog w} {n : Nat} {Γ : Cx} {b : Bool}

theorem plain4 : PlainDef (paramsOf (stAt 4)) (bodyOf (stAt 4)) (scopeOf (stAt 4)) [n' "callers"] where
  kind := rfl
  co := rfl
  gen := rfl
  names := by decide
  free := by decide
  pk := by decide
  nodup := by decide
  bind := fun _ _ _ _ vals h => by
    obtain ⟨a, rfl⟩ := list1 h
    rfl
theorem count_ex (F4 : FnK G 4) {e : Expr} {px pos : Pos} {m : List (Str × Int)} (h1 : Ex G (n + 1) Γ true e (.dict m)) (hx : Γ.sc.names.lookup (n' "count_calls") = some .globalImplicit := by rfl)
    (he : ∀ env : Env, starEach [e] env = (false, eval e env) :: starEach [] env := by intro _; rfl) : Ex G (n + 1) Γ b (.Call (.Name (n' "count_calls") px) [e] [] pos) (.int (sumV m)) :=
  Ex.call (name := n' "count_calls") plain4 F4 (Arg.cons (fl := .full) h1 Arg.nil he) count_calls_runs rfl (by simp) hx (by decide) (fun env => ⟨_, _, he env⟩)
theorem plain8 : PlainDef (paramsOf (stAt 8)) (bodyOf (stAt 8)) (scopeOf (stAt 8)) [n' "u", n' "v"] where
  kind := rfl
  co := rfl
  gen := rfl
  names := by decide
  free := by decide
  pk := by decide
  nodup := by decide
  bind := fun _ _ _ _ vals h => by
    obtain ⟨a, b, rfl⟩ := list2 h
    rfl
theorem apart_ex (F8 : FnK G 8) {e f : Expr} {px pos : Pos} {u v : Nat} (h1 : Ex G (n + 1) Γ true e (.int (u : Int))) (h2 : Ex G (n + 1) Γ true f (.int (v : Int))) (hu : u < 5) (hv : 1 ≤ v) (hv5 : v < 5)
    (hx : Γ.sc.names.lookup (n' "_law_apart") = some .globalImplicit := by rfl)
    (he : ∀ env : Env, starEach [e, f] env = (false, eval e env) :: starEach [f] env := by intro _; rfl) (he1 : ∀ env : Env, starEach [f] env = (false, eval f env) :: starEach [] env := by intro _; rfl) :
    Ex G (n + 1) Γ b (.Call (.Name (n' "_law_apart") px) [e, f] [] pos) (.list ((apart u v).map natD)) :=
  Ex.call (name := n' "_law_apart") plain8 F8 (Arg.cons (fl := .full) h1 (Arg.cons (fl := .full) h2 Arg.nil he1) he) (law_apart_runs hu hv hv5) rfl (by simp) hx (by decide) (fun env => ⟨_, _, he env⟩)
theorem plain9 : PlainDef (paramsOf (stAt 9)) (bodyOf (stAt 9)) (scopeOf (stAt 9)) [n' "rows", n' "hands"] where
  kind := rfl
  co := rfl
  gen := rfl
  names := by decide
  free := by decide
  pk := by decide
  nodup := by decide
  bind := fun _ _ _ _ vals h => by
    obtain ⟨a, b, rfl⟩ := list2 h
    rfl
theorem first_ex (F9 : FnK G 9) {e f : Expr} {px pos : Pos} {rows : List Row} {hs : List Int} {r : Row} (hrun : Runs G (n + 1) (cx 9 [(n' "rows", .top, .list (rows.map rowD)), (n' "hands", .full, .list (intsD hs))]) (bodyOf (stAt 9)) (fun o => o = .ret (rowD r)))
    (h1 : Ex G (n + 2) Γ false e (.list (rows.map rowD))) (h2 : Ex G (n + 2) Γ true f (.list (intsD hs)))
    (hx : Γ.sc.names.lookup (n' "_law_first") = some .globalImplicit := by rfl)
    (he : ∀ env : Env, starEach [e, f] env = (false, eval e env) :: starEach [f] env := by intro _; rfl) (he1 : ∀ env : Env, starEach [f] env = (false, eval f env) :: starEach [] env := by intro _; rfl) :
    Ex G (n + 2) Γ b (.Call (.Name (n' "_law_first") px) [e, f] [] pos) (rowD r) :=
  Ex.call (name := n' "_law_first") plain9 F9 (Arg.cons (fl := .top) h1 (Arg.cons (fl := .full) h2 Arg.nil he1) he) hrun rfl (by simp) hx (by decide) (fun env => ⟨_, _, he env⟩)

noncomputable def treeS : Stmt := (lawB[16]?).getD (.Pass ⟨0, 0, 0, 0⟩)
noncomputable def treeB : List Stmt := bodyOf treeS
noncomputable def stepS : Stmt := (treeB[1]?).getD (.Pass ⟨0, 0, 0, 0⟩)
noncomputable def stepB : List Stmt := bodyOf stepS

noncomputable def vars0 (least : Int) (h0 h1 h2 : Int) (names : List Str) (T : Nat → Nat → Int) : List (Str × Fl × D) :=
  [(n' "hands", .full, .list (intsD [h0, h1, h2])), (n' "least", .full, .int least), (n' "names", .full, .list (strsD names)), (n' "times", .full, gridD T)]
noncomputable def vars1 (tk : List (Nat × Nat)) (told : List Int) (ds : List (List (Str × Int))) : List (Str × Fl × D) := [(n' "taken", .own, takenD tk), (n' "told", .full, .list (intsD told)), (n' "doors", .full, doorsD ds)]

theorem pairs_outs {W : List Nat} : ((W.filter fun _ => true).flatMap fun u => ((List.range' 1 4).filter fun v => !W.contains v).map fun v => pairI (u, v)) = (pairsOf W).map pairI := by
  rw [show W.filter (fun _ => true) = W by simp]
  unfold pairsOf
  rw [List.map_flatMap]
  congr 1
  funext u
  rw [List.map_map]; rfl
end
end Mine

namespace Mine
section
variable {prog : Program} {w : World} {G : Glo prog w} {n : Nat} {Γ : Cx} {b : Bool}

noncomputable def cxS (names : List Str) (T : Nat → Nat → Int) (least : Int) (h0 h1 h2 : Int) (tr : Nat) (tk : List (Nat × Nat)) (ds : List (List (Str × Int))) (told : List Int) (W : List Nat) : Cx :=
  cx 10 [(n' "within", .own, .list (W.map natD)), (n' "taken", .own, takenD tk), (n' "told", .full, .list (intsD told)), (n' "doors", .full, doorsD ds),
    (n' "hands", .full, .list (intsD [h0, h1, h2])), (n' "least", .full, .int least), (n' "names", .full, .list (strsD names)), (n' "times", .full, gridD T), (n' "tree", .full, .int (tr : Int))]

theorem capV_noOwn {vars : List (Str × Fl × D)} : ∀ (names : List (Str × NameKind)), ∀ p ∈ capV vars names, p.2.1 ≠ .own
  | [], p, h => nomatch h
  | (x, k) :: r, p, h => by
    unfold capV at h
    by_cases hk : k = .free
    · rw [if_pos hk] at h
      cases hv : vars.lookup x with
      | none => rw [hv] at h; exact capV_noOwn r p h
      | some q =>
        obtain ⟨fl, d⟩ := q
        rw [hv] at h
        rcases List.mem_cons.mp h with rfl | h
        · cases fl <;> simp [capFl]
        · exact capV_noOwn r p h
    · rw [if_neg hk] at h; exact capV_noOwn r p h
theorem set_noOwn {x : Str} {d : D} {scope : Scope} : ∀ p ∈ ((Γ.inner scope).set x .full d).vars, p.2.1 ≠ .own := by
  intro p hp
  rcases List.mem_cons.mp hp with rfl | hp
  · simp
  · exact capV_noOwn _ p hp
theorem name_get {names : List Str} (hn : names.length = 5) {u : Nat} (hu : u < 5) : (strsD names)[((u : Nat) : Int).toNat]? = some (.str (nmOf names u)) := by
  rw [Int.toNat_natCast, strsD, List.getElem?_map, List.getElem?_eq_getElem (by omega)]
  unfold nmOf
  rw [getD_at (by omega)]; rfl
theorem door_get {ds : List (List (Str × Int))} {i : Nat} (h : i < ds.length) : (ds.map D.dict)[((i : Nat) : Int).toNat]? = some (.dict ((ds[i]?).getD [])) := by
  rw [Int.toNat_natCast, List.getElem?_map, List.getElem?_eq_getElem h]; rfl

theorem step_runs (C : ClsK G) (P : ClsP C) (F3 : FnK G 3) (F4 : FnK G 4) (F8 : FnK G 8) (F9 : FnK G 9) {names : List Str} (hi : Inj5 (nmOf names)) (hn : names.length = 5) {T : Nat → Nat → Int} {tk : List (Nat × Nat)} {ds : List (List (Str × Int))} {told : List Int}
    {least c : Int} {tr : Nat} (hcl : c = least - tr) {h0 h1 h2 : Int} (g0 : Hand h0) (g1 : Hand h1) (g2 : Hand h2) {W : List Nat} (h : WInv (nmOf names) T tk ds told c W) (hc : 1 ≤ c) (hW : W.length < 5) (htk : tk.length ≤ 100) :
    Runs G (n + 2) (cxS names T least h0 h1 h2 tr tk ds told W) stepB (fun o => ∃ r, r ∈ rowsOf (nmOf names) ds told c W ∧ ∃ Γ', o = .next Γ' ∧
      Sub (cxS names T least h0 h1 h2 tr (tk ++ [(r.1, r.2.1)]) (dsUpd (nmOf names) r.1 r.2.1 ds) (toldUpd r.1 r.2.1 told (dsUpd (nmOf names) r.1 r.2.1 ds)) (W ++ [r.2.1])) Γ') := by
  have hdl := h.inv.dl
  have htl := h.inv.tl
  have hrne := h.rows hi hc hW
  have hrlen := rows_len (nm := nmOf names) (ds := ds) (told := told) (c := c) (W := W) (by omega)
  obtain ⟨k0, r, hr, hfirst⟩ := law_first_runs (n := n) C P (rows := rowsOf (nmOf names) ds told c W) g0 g1 g2 (List.length_pos_iff.mpr hrne) hrlen
    (fun r hr => ⟨h.lt _ (rows_mem hr).1, (rows_mem hr).2.2.1⟩) (rows_dist h.nd)
  have hrm := List.mem_of_getElem? hr
  obtain ⟨hrW, hr1, hr5, hrn, _⟩ := rows_mem hrm
  have hru := h.lt _ hrW
  show Runs _ _ _ _ _
  -- tight
  refine Runs.assignLoc (.lst _) (outs := (tightOf told c).map natD) (d := .list ((tightOf told c).map natD)) ?_ rfl ?_ ?_ ?_ ?_
  rotate_left 2
  · rfl
  · rfl
  · rfl
  · refine CompG.filt (emb := natD) (Src.rangeNN (a := 1) (m := 16) Ex.cint Ex.cint (by decide) (by decide)) ⟨_, _, rfl⟩ natD_inj (by simp; decide) (fun s hs => ?_)
    have hs16 : s < 16 := by rw [List.mem_range'_1] at hs; omega
    refine ⟨_, Asg.name rfl, Sub.all rfl rfl ⟨rfl, rfl, rfl, trivial⟩, ?_, fun _ => ?_⟩
    · show Tst _ _ _ _ _
      rw [hcl]
      exact Tst.cmp (b1 := true) (b2 := true) (Ex.item (b1 := true) (i := (s : Int)) (d := .int ((told[s]?).getD 0)) (Ex.nameF rfl) (Ex.nameF rfl) (by omega) (by omega) (intsD_get (by omega))) (Ex.sub (Ex.nameF rfl) (Ex.nameF rfl)) Cmp.lt
    · exact Ex.nameF rfl
  -- rows
  refine Runs.assignOwn (d := .list []) (ExN.list Exs.nil) ?_ ?_ ?_
  rotate_left
  · rfl
  · intro _ _; rfl
  refine Runs.for (fun i Γ' => Γ' = cx 10 [(n' "rows", .own, .list (((((pairsOf W).take i).filter (rowOk (nmOf names) ds told c)).map fun p => (p.1, p.2, callsOf (nmOf names) ds p)).map rowD)), (n' "tight", .full, .list ((tightOf told c).map natD)),
    (n' "within", .own, .list (W.map natD)), (n' "taken", .own, takenD tk), (n' "told", .full, .list (intsD told)), (n' "doors", .full, doorsD ds),
    (n' "hands", .full, .list (intsD [h0, h1, h2])), (n' "least", .full, .int least), (n' "names", .full, .list (strsD names)), (n' "times", .full, gridD T), (n' "tree", .full, .int (tr : Int))])
    (T := fun t => TName t ∨ TTup t) (ds := (pairsOf W).map pairI) ?_ ?_ ?_ (fun i d Γi hd hi' => ?_) (fun Γe he => ?_)
  · refine Src.list (l := (pairsOf W).map pairI) ?_
    rw [← pairs_outs]
    refine Ex.lcomp ?_ rfl
    refine CompG.bind (emb := natD) (Src.list (l := W.map natD) (Ex.nameT rfl)) (.inl ⟨_, _, rfl⟩) natD_inj ?_ (fun u hu => ?_)
    · rw [pairs_outs, List.length_map]
      have := pairs_len (W := W) (by omega)
      have := big
      omega
    · refine ⟨_, Asg.name rfl, Sub.all rfl rfl ⟨rfl, trivial⟩, rfl, fun _ => ?_⟩
      refine EmG.filt (emb := natD) ?_ (Src.rangeNN (a := 1) (m := 5) Ex.cint Ex.cint (by decide) (by decide)) ⟨_, _, rfl⟩ natD_inj (fun v hv => ?_)
      · exact set_noOwn
      · refine ⟨_, Asg.name rfl, Sub.all rfl rfl ⟨rfl, rfl, trivial⟩, ?_, fun _ => ?_⟩
        · show Tst _ _ _ _ _
          rw [← cast_contains]
          exact Tst.cmp (b1 := true) (b2 := false) (Ex.nameF rfl) (Ex.nameT rfl) (Cmp.notInInts nats_ints)
        · exact Ex.tup (Exs.cons (Ex.nameF rfl) (Exs.cons (Ex.nameF rfl) Exs.nil))
  · exact .inr ⟨_, _, _, rfl⟩
  · exact ⟨_, rfl, Sub.all rfl rfl ⟨rfl, rfl, rfl, rfl, rfl, rfl, rfl, rfl, rfl, rfl, rfl, trivial⟩⟩
  · subst hi'
    rw [List.getElem?_map] at hd
    cases hk : (pairsOf W)[i]? with
    | none => rw [hk] at hd; cases hd
    | some p =>
      rw [hk] at hd
      cases hd
      obtain ⟨u, v⟩ := p
      have hpm := List.mem_of_getElem? hk
      obtain ⟨hu, hv1, hv5, hvW⟩ := pairs_mem.mp hpm
      have hu5 := h.lt u hu
      have hp16 : 2 ^ (v - 1) < 16 := pow_lt (v - 1) (by omega)
      have hp63 : ((2 ^ (v - 1) : Nat) : Int) < 2 ^ 63 := by
        have : ((2 ^ (v - 1) : Nat) : Int) < ((16 : Nat) : Int) := Int.ofNat_lt.mpr hp16
        omega
      have hsh : ((2 ^ (v - 1) : Nat) : Int) = 1 * 2 ^ ((v : Int) - 1).toNat := by
        rw [show ((v : Int) - 1).toNat = v - 1 by omega, Int.one_mul, Int.natCast_pow]; rfl
      have hplen := pairs_len (W := W) (by omega)
      have hnext : (((pairsOf W).take (i + 1)).filter (rowOk (nmOf names) ds told c)) = ((pairsOf W).take i).filter (rowOk (nmOf names) ds told c) ++ (if rowOk (nmOf names) ds told c (u, v) = true then [(u, v)] else []) := by
        rw [List.take_add_one, hk, List.filter_append]
        congr 1
        cases hz : rowOk (nmOf names) ds told c (u, v) <;> simp [hz]
      have hrl : ((((pairsOf W).take i).filter (rowOk (nmOf names) ds told c)).map fun p => (p.1, p.2, callsOf (nmOf names) ds p)).length ≤ 100 := by
        rw [List.length_map]
        have := List.length_filter_le (rowOk (nmOf names) ds told c) ((pairsOf W).take i)
        have h3 : ((pairsOf W).take i).length ≤ (pairsOf W).length := by rw [List.length_take]; omega
        omega
      refine ⟨_, Asg.pair rfl rfl, ?_⟩
      show Runs _ _ _ _ _
      refine Runs.assign (d := .int (callsOf (nmOf names) ds (u, v))) ?_ ?_ ?_
      · refine Ex.get2 (b1 := true) (kvs := (ds[2 ^ (v - 1)]?).getD []) (x := nmOf names u) (i := 0) ?_ ?_ Ex.cint
        · refine Ex.item (b1 := true) (i := ((2 ^ (v - 1) : Nat) : Int)) (Ex.nameF rfl) ?_ (Int.natCast_nonneg _) hp63 (door_get (by omega))
          rw [hsh]
          exact Ex.shl Ex.cint (Ex.sub (Ex.nameF rfl) Ex.cint) (by omega) (by omega) (by decide)
        · exact Ex.item (b1 := true) (i := (u : Int)) (Ex.nameF rfl) (Ex.nameF rfl) (by omega) (by omega) (name_get hn hu5)
      rotate_left
      · rfl
      refine Runs.ife (c := rowOk (nmOf names) ds told c (u, v)) ?_ (fun hz => ?_) fun hz => ?_
      · refine Tst.and2 (Tst.cmp (b1 := true) (b2 := true) (Ex.nameF rfl) Ex.cint Cmp.gt) fun _ => ?_
        rw [show ((tightOf told c).filter fun s => (apart u v).contains s).isEmpty = (((tightOf told c).filter fun s => (apart u v).contains s).map fun (k : Nat) => (k : Int)).isEmpty by simp]
        refine Tst.cmp (b1 := true) (b2 := true) (d1 := .list (((tightOf told c).filter fun s => (apart u v).contains s).map natD)) (Ex.lcomp ?_ rfl) (Ex.list Exs.nil) ?_
        · refine CompG.filt (emb := natD) (Src.list (l := (tightOf told c).map natD) (Ex.nameF rfl)) (.inl ⟨_, _, rfl⟩) natD_inj ?_ (fun s hs => ?_)
          · have := List.length_filter_le (fun s => decide ((told[s]?).getD 0 < c)) (List.range' 1 15)
            have := big
            unfold tightOf
            simp at *
            omega
          · refine ⟨_, Asg.name rfl, Sub.all rfl rfl ⟨rfl, rfl, trivial⟩, ?_, fun _ => ?_⟩
            · show Tst _ _ _ _ _
              rw [← cast_contains]
              exact Tst.cmp (b1 := true) (b2 := true) (Ex.nameF rfl) (apart_ex F8 (Ex.nameF rfl) (Ex.nameF rfl) hu5 hv1 hv5) (Cmp.inInts nats_ints)
            · exact Ex.nameF rfl
        · rw [nats_ints]
          exact Cmp.eqNilI
      · refine Runs.append (x := n' "rows") (l := ((((pairsOf W).take i).filter (rowOk (nmOf names) ds told c)).map fun p => (p.1, p.2, callsOf (nmOf names) ds p)).map rowD) (d := rowD (u, v, callsOf (nmOf names) ds (u, v))) ?_ ?_ ?_ ?_
        · rfl
        · exact Ex.tup (Exs.cons (Ex.nameF rfl) (Exs.cons (Ex.nameF rfl) (Exs.cons (Ex.nameF rfl) Exs.nil)))
        rotate_left
        · rw [List.length_map]
          have := big
          omega
        refine Runs.nil ?_
        show Runs _ _ _ _ _
        refine Runs.nil ⟨_, rfl, Sub.all rfl rfl ⟨?_, rfl, rfl, rfl, rfl, rfl, rfl, rfl, rfl, rfl, rfl, trivial⟩⟩
        rw [hnext, if_pos hz, List.map_append, List.map_append]
        rfl
      · refine Runs.nil ?_
        show Runs _ _ _ _ _
        refine Runs.nil ⟨_, rfl, Sub.all rfl rfl ⟨?_, rfl, rfl, rfl, rfl, rfl, rfl, rfl, rfl, rfl, rfl, trivial⟩⟩
        rw [hnext, hz, if_neg (by decide), List.append_nil]
        rfl
  · subst he
    rw [List.length_map, List.take_length]
    show Runs _ _ _ (List.drop 3 stepB) _
    rw [show (((pairsOf W).filter (rowOk (nmOf names) ds told c)).map fun p => (p.1, p.2, callsOf (nmOf names) ds p)) = rowsOf (nmOf names) ds told c W from rfl]
    generalize hR : rowsOf (nmOf names) ds told c W = rows at *
    obtain ⟨u, v, cc⟩ := r
    simp only at hrW hr1 hr5 hrn hru
    show Runs _ _ _ _ _
    refine Runs.skip ?_ ?_
    · rw [show false = (rows.map rowI).isEmpty by cases rows with | nil => exact absurd rfl hrne | cons => rfl]
      rw [show rows.map rowD = tupsD (rows.map rowI) by unfold tupsD; rw [List.map_map]; rfl]
      exact Tst.cmp (b1 := false) (b2 := true) (Ex.nameT rfl) (Ex.list Exs.nil) Cmp.eqNil
    refine Runs.assign (d := rowD (u, v, cc)) ?_ ?_ ?_
    · exact first_ex F9 (rows := rows) (hs := [h0, h1, h2]) hfirst (Ex.nameT rfl) (Ex.nameF rfl)
    rotate_left
    · rfl
    refine Runs.skip ?_ ?_
    · rw [show false = isNone (rowD (u, v, cc)) from rfl]
      exact Tst.cmp (b1 := true) (b2 := true) (Ex.nameF rfl) Ex.cnone Cmp.isNone
    refine Runs.append (x := n' "within") (l := W.map natD) (d := natD v) ?_ ?_ ?_ ?_
    · rfl
    · exact Ex.itemT (b1 := true) (i := 1) (Ex.nameF rfl) Ex.cint (by decide) (by decide) rfl
    rotate_left
    · rw [List.length_map]
      have := big
      omega
    refine Runs.append (x := n' "taken") (l := tk.map pairI) (d := pairI (u, v)) ?_ ?_ ?_ ?_
    · rfl
    · exact Ex.takeT (b1 := true) (i := 2) (l := intsD (rowI (u, v, cc))) (Ex.nameF rfl) Ex.cint (by simp [intsD, rowI]) (by have := big; simp [intsD, rowI]; omega)
    rotate_left
    · rw [List.length_map]
      have := big
      omega
    refine Runs.assign (d := .list ((apart u v).map natD)) ?_ ?_ ?_
    · exact apart_ex F8 (Ex.itemT (b1 := true) (i := 0) (Ex.nameF rfl) Ex.cint (by decide) (by decide) rfl) (Ex.itemT (b1 := true) (i := 1) (Ex.nameF rfl) Ex.cint (by decide) (by decide) rfl) hru hr1 hr5
    rotate_left
    · rfl
    have hbigz : ds.zipIdx.length ≤ sizeLine := by
      have := big
      rw [List.length_zipIdx]
      omega
    show Runs _ _ _ _ _
    refine Runs.assignLoc (.lst _) (outs := ds.zipIdx.map fun q => .dict (if (apart u v).contains q.2 then addC q.1 [(nmOf names u, -1)] else q.1)) (d := doorsD (dsUpd (nmOf names) u v ds)) ?_ ?_ ?_ ?_ ?_ ?_
    rotate_left 3
    · rfl
    · rfl
    · rfl
    · refine CompG.mp (emb := enumK) (T := TTup) ?_ ⟨_, _, _, rfl⟩ enumK_inj hbigz (fun q hq => ?_)
      · rw [← enum_doors]
        exact Src.enum (l := ds.map .dict) (Ex.nameF rfl)
      · obtain ⟨hq1, hq2⟩ := zip_mem hq
        have hq5 := h.inv.dlen _ hq2
        refine ⟨_, Asg.pair rfl rfl, Sub.all rfl rfl ⟨rfl, rfl, rfl, trivial⟩, ?_⟩
        show Ex _ _ _ _ _ _
        refine Ex.ife (c := (apart u v).contains q.2) ?_ (fun hz => ?_) fun hz => ?_
        · rw [← cast_contains]
          exact Tst.cmp (b1 := true) (b2 := true) (Ex.nameF rfl) (Ex.nameF rfl) (Cmp.inInts nats_ints)
        · rw [if_pos hz]
          refine add_ex F3 (Ex.nameF rfl) (Ex.dict1 ?_ (Ex.neg Ex.cint)) (by simp; omega)
          exact Ex.item (b1 := true) (i := (u : Int)) (Ex.nameF rfl) (Ex.itemT (b1 := true) (i := 0) (Ex.nameF rfl) Ex.cint (by decide) (by decide) rfl) (by omega) (by omega) (name_get hn hru)
        · rw [if_neg (by rw [hz]; decide)]
          exact Ex.nameF rfl
    · show D.list _ = D.list _
      unfold dsUpd
      rw [List.map_map]
      rfl
    have hbigz2 : (dsUpd (nmOf names) u v ds).zipIdx.length ≤ sizeLine := by
      have := big
      rw [List.length_zipIdx]
      unfold dsUpd
      rw [List.length_map, List.length_zipIdx]
      omega
    have hdl2 : (dsUpd (nmOf names) u v ds).length = 16 := by
      unfold dsUpd
      rw [List.length_map, List.length_zipIdx, hdl]
    generalize hds : dsUpd (nmOf names) u v ds = ds2 at *
    show Runs _ _ _ _ _
    refine Runs.assignCell (.lst _) (outs := ds2.zipIdx.map fun q => .int (if (apart u v).contains q.2 then sumV q.1 else (told[q.2]?).getD 0)) (d := .list (intsD (toldUpd u v told ds2))) ?_ ?_ ?_ ?_ ?_ ?_
    rotate_left 3
    · rfl
    · rfl
    · rfl
    · refine CompG.mp (emb := enumK) (T := TTup) ?_ ⟨_, _, _, rfl⟩ enumK_inj hbigz2 (fun q hq => ?_)
      · rw [← enum_doors]
        exact Src.enum (l := ds2.map .dict) (Ex.nameF rfl)
      · obtain ⟨hq1, hq2⟩ := zip_mem hq
        refine ⟨_, Asg.pair rfl rfl, Sub.all rfl rfl ⟨rfl, rfl, trivial⟩, ?_⟩
        show Ex _ _ _ _ _ _
        refine Ex.ife (c := (apart u v).contains q.2) ?_ (fun hz => ?_) fun hz => ?_
        · rw [← cast_contains]
          exact Tst.cmp (b1 := true) (b2 := true) (Ex.nameF rfl) (Ex.nameF rfl) (Cmp.inInts nats_ints)
        · rw [if_pos hz]
          exact count_ex F4 (Ex.nameF rfl)
        · rw [if_neg (by rw [hz]; decide)]
          exact Ex.item (b1 := true) (i := (q.2 : Int)) (Ex.nameF rfl) (Ex.nameF rfl) (by omega) (by omega) (intsD_get (by omega))
    · show D.list _ = D.list _
      unfold toldUpd intsD
      rw [List.map_map]
      rfl
    refine Runs.nil ⟨(u, v, cc), hrm, _, rfl, ?_⟩
    rw [hds]
    refine Sub.all rfl rfl ⟨?_, ?_, rfl, rfl, rfl, rfl, rfl, rfl, rfl, trivial⟩
    · show some _ = some _
      rw [List.map_append]; rfl
    · show some _ = some _
      unfold takenD
      rw [List.map_append]; rfl
end
end Mine

namespace Mine
section
variable {prog : Program} {w : World} {G : Glo prog w} {n : Nat} {Γ : Cx} {b : Bool}

noncomputable def cxT (names : List Str) (T : Nat → Nat → Int) (least : Int) (h0 h1 h2 : Int) (tk : List (Nat × Nat)) (ds : List (List (Str × Int))) (told : List Int) : Cx :=
  cx 10 [(n' "taken", .own, takenD tk), (n' "told", .full, .list (intsD told)), (n' "doors", .full, doorsD ds),
    (n' "hands", .full, .list (intsD [h0, h1, h2])), (n' "least", .full, .int least), (n' "names", .full, .list (strsD names)), (n' "times", .full, gridD T)]

theorem law_trees (C : ClsK G) (P : ClsP C) (F3 : FnK G 3) (F4 : FnK G 4) (F8 : FnK G 8) (F9 : FnK G 9) {names : List Str} (hi : Inj5 (nmOf names)) (hn : names.length = 5) {T : Nat → Nat → Int} (hT : ∀ k, k < 4 → ∀ u, u < 5 → 0 ≤ T k u)
    {ds : List (List (Str × Int))} {told : List Int} {least : Int} {h0 h1 h2 : Int} (g0 : Hand h0) (g1 : Hand h1) (g2 : Hand h2) (h : Inv (nmOf names) T [] ds told) (hl0 : 0 ≤ least) (hl : ∀ s, 0 < s → s < 16 → least ≤ (told[s]?).getD 0) :
    Runs G (n + 2) (cxT names T least h0 h1 h2 [] ds told) (lawB.drop 16) (fun o => o = .ret (.bool true)) := by
  refine Runs.for (fun i Γ' => ∃ tk ds told, Inv (nmOf names) T tk ds told ∧ (∀ s, 0 < s → s < 16 → least - i ≤ (told[s]?).getD 0) ∧ tk.length = 4 * i ∧ Γ' = cxT names T least h0 h1 h2 tk ds told)
    (T := TName) (ds := (List.range (if least < 2 then least else 2).toNat).map natD) ?_ ?_ ?_ (fun i d Γi hd hi' => ?_) (fun Γe he => ?_)
  · refine Src.rangeN (m := (if least < 2 then least else 2).toNat) ?_ (by split <;> omega)
    rw [show (((if least < 2 then least else 2).toNat : Nat) : Int) = if least < 2 then least else 2 by split <;> omega]
    exact Ex.min2 Ex.cint (Ex.nameF rfl)
  · exact ⟨_, _, rfl⟩
  · exact ⟨_, ⟨[], ds, told, h, (fun s h0 h1 => by simpa using hl s h0 h1), rfl, rfl⟩, Sub.refl _⟩
  · obtain ⟨tk, ds, told, hinv, hlow, htk, rfl⟩ := hi'
    obtain ⟨hi2, rfl⟩ := natD_get hd
    have hi3 : (i : Int) < least ∧ i < 2 := by split at hi2 <;> omega
    refine ⟨_, Asg.name rfl, ?_⟩
    show Runs _ _ _ _ _
    refine Runs.assignOwn (d := .list ([0].map natD)) (ExN.list (Exs.cons Ex.cint Exs.nil)) ?_ ?_ ?_
    rotate_left
    · rfl
    · intro _ _; rfl
    refine Runs.for (fun j Γ' => ∃ tk ds told W, WInv (nmOf names) T tk ds told (least - i) W ∧ W.length = j + 1 ∧ tk.length = 4 * i + j ∧ Γ' = cxS names T least h0 h1 h2 i tk ds told W)
      (T := TName) (ds := (List.range 4).map natD) ?_ ?_ ?_ (fun j d Γj hd2 hj => ?_) (fun Γe he => ?_)
    · exact Src.rangeN (m := 4) Ex.cint (by decide)
    · exact ⟨_, _, rfl⟩
    · exact ⟨_, ⟨tk, ds, told, [0], WInv.start hinv hlow, rfl, by omega, rfl⟩, Sub.all rfl rfl ⟨rfl, rfl, rfl, rfl, rfl, rfl, rfl, rfl, rfl, trivial⟩⟩
    · obtain ⟨tk, ds, told, W, hW, hWl, htk2, rfl⟩ := hj
      obtain ⟨hj4, rfl⟩ := natD_get hd2
      refine ⟨_, Asg.name rfl, ?_⟩
      show Runs _ _ _ stepB _
      refine @Runs.sub _ _ _ _ (cxS names T least h0 h1 h2 i tk ds told W) _ _ _ ?_ (Sub.all rfl rfl ⟨rfl, rfl, rfl, rfl, rfl, rfl, rfl, rfl, rfl, trivial⟩)
      refine @Runs.mono _ _ _ _ _ _ _ _ (step_runs (n := n) C P F3 F4 F8 F9 hi hn rfl g0 g1 g2 hW (by omega) (by omega) (by omega)) ?_
      rintro o ⟨r, hr, Γ', rfl, hsub⟩
      refine ⟨_, ⟨_, _, _, _, hW.step hi hT hr, ?_, ?_, rfl⟩, hsub⟩
      · rw [List.length_append, hWl]; rfl
      · rw [List.length_append, htk2]; rfl
    · obtain ⟨tk, ds, told, W, hW, hWl, htk2, rfl⟩ := he
      refine Runs.nil ⟨_, ⟨tk, ds, told, hW.inv, fun s h0 h1 => ?_, ?_, rfl⟩, Sub.all rfl rfl ⟨rfl, rfl, rfl, rfl, rfl, rfl, rfl, trivial⟩⟩
      · have := hW.low s h0 h1
        omega
      · rw [htk2]; simp; omega
  · obtain ⟨tk, ds, told, hinv, hlow, htk, rfl⟩ := he
    refine @Runs.sub _ _ _ _ (cx 10 [(n' "taken", .own, takenD tk), (n' "told", .full, .list (intsD told)), (n' "doors", .full, doorsD ds), (n' "names", .full, .list (strsD names)), (n' "times", .full, gridD T)]) _ _ _ ?_ (Sub.all rfl rfl ⟨rfl, rfl, rfl, rfl, rfl, trivial⟩)
    refine law_end hi hn hinv ?_
    rw [htk]
    simp
    split <;> omega
end
end Mine

namespace Mine

theorem strOk_of (s : String) : PyData.strOk (Str.ofString s) = true := by
  unfold PyData.strOk
  rw [Str.ofString_eq_toList]
  simp only [Array.all_eq_true]
  intro i hi
  simp only [List.getElem_toArray, List.getElem_map, decide_eq_true_eq]
  generalize s.toList[i]'(by simpa using hi) = c
  have := c.valid
  unfold UInt32.isValidChar Nat.isValidChar at this
  show c.val.toNat < 1114112
  omega
theorem nm_ok (line : Int) : ∀ s ∈ nmL line, PyData.strOk s = true := by
  intro s hs
  rw [nm_list] at hs
  simp only [List.mem_cons, List.not_mem_nil, or_false] at hs
  rcases hs with rfl | rfl | rfl | rfl | rfl
  · exact strOk_of _
  · exact strOk_append (strOk_append (strOk_of _) (strOk_of _)) (strOk_of _)
  · exact strOk_of _
  · exact strOk_of _
  · exact strOk_of _

theorem numsOf4_nonneg (script : List Int) : ∀ x ∈ numsOf4 script, 0 ≤ x := by
  have key : ∀ (l : List (Int × Nat)) (ns : List Int), (∀ x ∈ ns, 0 ≤ x) → ∀ x ∈ l.foldl numStep ns, 0 ≤ x := by
    intro l
    induction l with
    | nil => exact fun ns h => h
    | cons p l ih =>
      intro ns h
      rw [List.foldl_cons]
      refine ih _ fun x hx => ?_
      unfold numStep at hx
      rcases List.mem_or_eq_of_mem_set hx with hx | rfl
      · exact h x hx
      · have h1 : 0 ≤ (ns[p.2 % 4]?).getD 0 := by
          cases e : ns[p.2 % 4]? with
          | none => simp
          | some y => exact h y (List.mem_of_getElem? e)
        have h2 := Int.fmod_nonneg_of_pos p.1 (b := 1000000) (by decide)
        omega
  refine key _ _ ?_
  decide
theorem numsOf4_len (script : List Int) : (numsOf4 script).length = 4 := by
  unfold numsOf4
  rw [numSteps_len]; rfl
theorem sum_nonneg {l : List Int} (h : ∀ x ∈ l, 0 ≤ x) : 0 ≤ l.sum := by
  induction l with
  | nil => simp
  | cons x l ih =>
    rw [List.sum_cons]
    have := h x (List.mem_cons_self ..)
    have := ih fun y hy => h y (List.mem_cons_of_mem _ hy)
    omega
theorem and_one {x : Int} (h : 0 ≤ x) : Builtin.bitAnd x 1 = 0 ∨ Builtin.bitAnd x 1 = 1 := by
  obtain ⟨m, rfl⟩ := Int.eq_ofNat_of_zero_le h
  have : Builtin.bitAnd (m : Int) 1 = ((m % 2 : Nat) : Int) := by
    rw [← Nat.and_one_is_mod]
    rfl
  rw [this]
  omega
noncomputable def handOf (whole : Int) (p : Nat) : Int := if Builtin.bitAnd ((whole.fdiv 2).fdiv (2 ^ p)) 1 = 0 then 1 else -1
theorem handOf_hand (whole : Int) (p : Nat) : Hand (handOf whole p) := by
  unfold handOf Hand; split <;> simp
theorem list_min {l : List Int} (h : l ≠ []) : ∃ M, M ∈ l ∧ ∀ a ∈ l, M ≤ a := by
  induction l with
  | nil => exact absurd rfl h
  | cons x l ih =>
    by_cases hl : l = []
    · subst hl; exact ⟨x, by simp, by simp⟩
    · obtain ⟨M, h1, h2⟩ := ih hl
      by_cases hx : x ≤ M
      · refine ⟨x, List.mem_cons_self .., fun a ha => ?_⟩
        rcases List.mem_cons.mp ha with rfl | ha
        · omega
        · have := h2 a ha; omega
      · refine ⟨M, List.mem_cons_of_mem _ h1, fun a ha => ?_⟩
        rcases List.mem_cons.mp ha with rfl | ha
        · omega
        · exact h2 a ha

/-- the functions, and what is written of them -/
noncomputable abbrev Fn := Str × Int × Str
noncomputable def fnD (t : Fn) : D := .tup [.str t.1, .int t.2.1, .str t.2.2]
noncomputable def fnsL (line : Int) : List Fn := [(n' "~", 0, n' "<z>"), (n' "a", line, n' "f"), (n' "~", 0, n' "<g"), (n' "~", 0, n' "g>"), (n' "~", 1, n' "<h>")]
noncomputable def stdS (t : Fn) : Str := if t.1 = n' "~" then (if t.2.1 = 0 then (if t.2.2 = n' "<z>" then n' "{z}" else t.2.2) else fmt t.1 t.2.1 t.2.2) else fmt t.1 t.2.1 t.2.2
theorem fnD_inj {xs : List Fn} : ∀ x ∈ xs, ∀ y ∈ xs, fnD x = fnD y → x = y := by
  intro x _ y _ e
  obtain ⟨x1, x2, x3⟩ := x
  obtain ⟨y1, y2, y3⟩ := y
  simp only [fnD, D.tup.injEq, List.cons.injEq, D.str.injEq, D.int.injEq, and_true] at e
  obtain ⟨e1, e2, e3⟩ := e
  rw [e1, e2, e3]
theorem fns_names (line : Int) : (fnsL line).map stdS = nmL line := by
  unfold fnsL nmL
  simp only [List.map_cons, List.map_nil]
  rw [show stdS (n' "~", 0, n' "<z>") = n' "{z}" by decide, show stdS (n' "~", 0, n' "<g") = n' "<g" by decide, show stdS (n' "~", 0, n' "g>") = n' "g>" by decide]
  rw [show stdS (n' "a", line, n' "f") = fmt (n' "a") line (n' "f") by unfold stdS; rw [if_neg (show ¬ n' "a" = n' "~" by decide)],
    show stdS (n' "~", 1, n' "<h>") = fmt (n' "~") 1 (n' "<h>") by unfold stdS; rw [if_pos rfl, if_neg (by decide)]]

theorem grid_rows {nums : List Int} (hl : nums.length = 4) : gridD (tOf nums) = .list ((rowsT nums).map fun r => .list (intsD r)) := by
  match nums, hl with
  | [a, b, c, d], _ => rfl
noncomputable def enumI (q : Int × Nat) : D := .tup [.int (q.2 : Int), .int q.1]
theorem enumI_inj {xs : List (Int × Nat)} : ∀ x ∈ xs, ∀ y ∈ xs, enumI x = enumI y → x = y := by
  intro x _ y _ e
  obtain ⟨x1, x2⟩ := x
  obtain ⟨y1, y2⟩ := y
  simp only [enumI, D.tup.injEq, List.cons.injEq, D.int.injEq, and_true] at e
  obtain ⟨e1, e2⟩ := e
  have h1 : x2 = y2 := by omega
  rw [h1, e2]
theorem enum_ints {l : List Int} : enumD (intsD l) = l.zipIdx.map enumI := by
  unfold enumD intsD
  rw [List.zipIdx_map, List.map_map]
  rfl
theorem intD_inj {xs : List Int} : ∀ x ∈ xs, ∀ y ∈ xs, D.int x = D.int y → x = y := fun x _ y _ e => by simpa using e
theorem dictD_inj {xs : List (List (Str × Int))} : ∀ x ∈ xs, ∀ y ∈ xs, D.dict x = D.dict y → x = y := fun x _ y _ e => by simpa using e
theorem rowL_inj {xs : List (List Int)} : ∀ x ∈ xs, ∀ y ∈ xs, D.list (intsD x) = D.list (intsD y) → x = y := by
  intro x _ y _ e
  simp only [D.list.injEq] at e
  have key : ∀ a b : List Int, intsD a = intsD b → a = b := by
    intro a
    induction a with
    | nil => intro b e; cases b with | nil => rfl | cons => simp [intsD] at e
    | cons x a ih => intro b e; cases b with
      | nil => simp [intsD] at e
      | cons y b =>
        simp only [intsD, List.map_cons, List.cons.injEq, D.int.injEq] at e
        rw [e.1, ih b e.2]
  exact key x y e

section
variable {prog : Program} {w : World} {G : Glo prog w} {n : Nat} {Γ : Cx} {b : Bool}
theorem plain6 : PlainDef (paramsOf (stAt 6)) (bodyOf (stAt 6)) (scopeOf (stAt 6)) [n' "script"] where
  kind := rfl
  co := rfl
  gen := rfl
  names := by decide
  free := by decide
  pk := by decide
  nodup := by decide
  bind := fun _ _ _ _ vals h => by
    obtain ⟨a, rfl⟩ := list1 h
    rfl
theorem numbers_ex (F6 : FnK G 6) {e : Expr} {px pos : Pos} {script : List Int} (hl : script.length ≤ 63) (h1 : Ex G (n + 1) Γ true e (.list (intsD script))) (hx : Γ.sc.names.lookup (n' "_law_numbers") = some .globalImplicit := by rfl)
    (he : ∀ env : Env, starEach [e] env = (false, eval e env) :: starEach [] env := by intro _; rfl) : Ex G (n + 1) Γ b (.Call (.Name (n' "_law_numbers") px) [e] [] pos) (.list (intsD (numsOf4 script))) :=
  Ex.call (name := n' "_law_numbers") plain6 F6 (Arg.cons (fl := .full) h1 Arg.nil he) (law_numbers_runs hl) rfl (by simp) hx (by decide) (fun env => ⟨_, _, he env⟩)
theorem plain2 : PlainDef (paramsOf (stAt 2)) (bodyOf (stAt 2)) (scopeOf (stAt 2)) [n' "func_name"] where
  kind := rfl
  co := rfl
  gen := rfl
  names := by decide
  free := by decide
  pk := by decide
  nodup := by decide
  bind := fun _ _ _ _ vals h => by
    obtain ⟨a, rfl⟩ := list1 h
    rfl
theorem std_ex (F2 : FnK G 2) {e : Expr} {px pos : Pos} {t : Fn} {s : Str} (hrun : Runs G n (cx 2 [(n' "func_name", .full, fnD t)]) (bodyOf (stAt 2)) (fun o => o = .ret (.str s))) (h1 : Ex G (n + 1) Γ true e (fnD t)) (hx : Γ.sc.names.lookup (n' "func_std_string") = some .globalImplicit := by rfl)
    (he : ∀ env : Env, starEach [e] env = (false, eval e env) :: starEach [] env := by intro _; rfl) : Ex G (n + 1) Γ b (.Call (.Name (n' "func_std_string") px) [e] [] pos) (.str s) :=
  Ex.call (name := n' "func_std_string") plain2 F2 (Arg.cons (fl := .full) h1 Arg.nil he) hrun rfl (by simp) hx (by decide) (fun env => ⟨_, _, he env⟩)
theorem plain7 : PlainDef (paramsOf (stAt 7)) (bodyOf (stAt 7)) (scopeOf (stAt 7)) [n' "tables", n' "names"] where
  kind := rfl
  co := rfl
  gen := rfl
  names := by decide
  free := by decide
  pk := by decide
  nodup := by decide
  bind := fun _ _ _ _ vals h => by
    obtain ⟨a, b, rfl⟩ := list2 h
    rfl
theorem doors_ex (F3 : FnK G 3) (F7 : FnK G 7) {e f : Expr} {px pos : Pos} {tables : List (List (Str × Int))} {names : List Str} (ht : ∀ t ∈ tables, t.length ≤ 5) (htl : tables.length = 4) (hn : names.length = 5)
    (h1 : Ex G (n + 2) Γ true e (.list (tables.map .dict))) (h2 : Ex G (n + 2) Γ true f (.list (strsD names)))
    (hx : Γ.sc.names.lookup (n' "_law_doors") = some .globalImplicit := by rfl)
    (he : ∀ env : Env, starEach [e, f] env = (false, eval e env) :: starEach [f] env := by intro _; rfl) (he1 : ∀ env : Env, starEach [f] env = (false, eval f env) :: starEach [] env := by intro _; rfl) :
    Ex G (n + 2) Γ b (.Call (.Name (n' "_law_doors") px) [e, f] [] pos) (.list ((List.range 16).map fun s => .dict (doorOf names (mrg tables s) s))) :=
  Ex.call (name := n' "_law_doors") plain7 F7 (Arg.cons (fl := .full) h1 (Arg.cons (fl := .full) h2 Arg.nil he1) he) (law_doors_runs F3 ht htl hn) rfl (by simp) hx (by decide) (fun env => ⟨_, _, he env⟩)

theorem std_runs {line : Int} (h0 : 0 ≤ line) (h1 : line < 1000) {t : Fn} (ht : t ∈ fnsL line) : Runs G n (cx 2 [(n' "func_name", .full, fnD t)]) (bodyOf (stAt 2)) (fun o => o = .ret (.str (stdS t))) := by
  unfold fnsL at ht
  simp only [List.mem_cons, List.not_mem_nil, or_false] at ht
  rcases ht with rfl | rfl | rfl | rfl | rfl
  · rw [show stdS (n' "~", 0, n' "<z>") = n' "{z}" by decide]
    exact std1
  · rw [show stdS (n' "a", line, n' "f") = fmt (n' "a") line (n' "f") by unfold stdS; rw [if_neg (show ¬ n' "a" = n' "~" by decide)]]
    exact std3 (strOk_of _) (by rw [show (n' "a" == n' "~") = false by decide]; rfl) h0 h1 (show (n' "a").length ≤ 10 by decide) (show (n' "f").length ≤ 10 by decide)
  · rw [show stdS (n' "~", 0, n' "<g") = n' "<g" by decide]
    exact std2 (by decide)
  · rw [show stdS (n' "~", 0, n' "g>") = n' "g>" by decide]
    exact std2 (by decide)
  · rw [show stdS (n' "~", 1, n' "<h>") = fmt (n' "~") 1 (n' "<h>") by unfold stdS; rw [if_pos rfl, if_neg (by decide)]]
    exact std3 (strOk_of _) (by decide) (by decide) (by decide) (by decide) (by decide)
end
end Mine

namespace Mine
section
variable {prog : Program} {w : World} {G : Glo prog w} {n : Nat} {Γ : Cx} {b : Bool}

/-- from the doors on -/
theorem law_late (C : ClsK G) (P : ClsP C) (F3 : FnK G 3) (F4 : FnK G 4) (F7 : FnK G 7) (F8 : FnK G 8) (F9 : FnK G 9) {line : Int} {nums : List Int} (hnl : nums.length = 4) (hw : 0 ≤ nums.sum) :
    Runs G (n + 2) (cx 10 [(n' "due", .own, .list (intsD ((List.range 16).map (dueS (tOf nums))))), (n' "tables", .full, .list ((tabsT (nmL line) nums).map .dict)), (n' "times", .full, gridD (tOf nums)), (n' "names", .full, .list (strsD (nmL line))), (n' "whole", .full, .int nums.sum)])
      (lawB.drop 10) (fun o => o = .ret (.bool true)) := by
  refine Runs.assign (d := doorsD (ds0 (nmL line) nums)) ?_ ?_ ?_
  · rw [show doorsD (ds0 (nmL line) nums) = .list ((List.range 16).map fun s => .dict (doorOf (nmL line) (mrg (tabsT (nmL line) nums) s) s)) by unfold doorsD ds0; rw [List.map_map]; rfl]
    exact doors_ex F3 F7 (tabs_len (nm_inj line)) (by unfold tabsT rowsT; simp [hnl]) rfl (Ex.nameF rfl) (Ex.nameF rfl)
  rotate_left
  · rfl
  have hinv := inv0 (nm_inj line) hnl
  have hdl := hinv.dl
  have ht0 := told0 (nm_inj line) hnl
  have htabs := tabs_sum (nm_inj line) (nums := nums)
  have htl : (tabsT (nmL line) nums).length = 4 := by unfold tabsT rowsT; simp [hnl]
  generalize hds : ds0 (nmL line) nums = ds at *
  show Runs _ _ _ _ _
  refine Runs.assignCell (.lst _) (outs := ds.map fun m => .int (sumV m)) (d := .list (intsD (ds.map sumV))) ?_ ?_ ?_ ?_ ?_ ?_
  rotate_left 3
  · rfl
  · rfl
  · rfl
  · refine CompG.mp (emb := D.dict) (Src.list (l := ds.map .dict) (Ex.nameF rfl)) (.inl ⟨_, _, rfl⟩) dictD_inj (by have := big; omega) (fun m hm => ?_)
    exact ⟨_, Asg.name rfl, Sub.all rfl rfl trivial, count_ex F4 (Ex.nameF rfl)⟩
  · show D.list _ = D.list _
    unfold intsD
    rw [List.map_map]; rfl
  refine Runs.skip ?_ ?_
  · rw [show false = (ds.map sumV != (List.range 16).map (dueS (tOf nums)) || (tabsT (nmL line) nums).map sumV != (rowsT nums).map List.sum) by rw [ht0, htabs]; simp]
    refine Tst.or2 ?_ fun _ => ?_
    · exact Tst.cmp (b1 := true) (b2 := false) (Ex.nameF rfl) (Ex.nameT rfl) Cmp.neInts
    · refine Tst.cmp (b1 := true) (b2 := true) (d1 := .list (intsD ((tabsT (nmL line) nums).map sumV))) (d2 := .list (intsD ((rowsT nums).map List.sum))) ?_ ?_ Cmp.neInts
      · rw [show intsD ((tabsT (nmL line) nums).map sumV) = (tabsT (nmL line) nums).map fun m => .int (sumV m) by unfold intsD; rw [List.map_map]; rfl]
        refine Ex.lcomp ?_ rfl
        refine CompG.mp (emb := D.dict) (Src.list (l := (tabsT (nmL line) nums).map .dict) (Ex.nameF rfl)) (.inl ⟨_, _, rfl⟩) dictD_inj (by have := big; omega) (fun m hm => ?_)
        exact ⟨_, Asg.name rfl, Sub.all rfl rfl trivial, count_ex F4 (Ex.nameF rfl)⟩
      · rw [show intsD ((rowsT nums).map List.sum) = (rowsT nums).map fun r => .int r.sum by unfold intsD; rw [List.map_map]; rfl]
        refine Ex.lcomp ?_ rfl
        refine CompG.mp (emb := fun r => .list (intsD r)) (Src.list (l := (rowsT nums).map fun r => .list (intsD r)) ?_) (.inl ⟨_, _, rfl⟩) rowL_inj (by unfold rowsT; have := big; simp; omega) (fun r hr => ?_)
        · rw [← grid_rows hnl]
          exact Ex.nameF rfl
        · exact ⟨_, Asg.name rfl, Sub.all rfl rfl trivial, Ex.sum (b1 := true) (l := intsD r) (Ex.nameF rfl) rfl⟩
  have htoldl := hinv.tl
  obtain ⟨least, hm1, hm2⟩ := list_min (l := (ds.map sumV).drop 1) (by intro e; have := congrArg List.length e; simp at this; omega)
  have hle : ∀ s, 0 < s → s < 16 → least ≤ ((ds.map sumV)[s]?).getD 0 := by
    intro s h0 h16
    refine hm2 _ ?_
    rw [getD_at (by omega)]
    have : (ds.map sumV)[s] = ((ds.map sumV).drop 1)[s - 1]'(by rw [List.length_drop]; omega) := by
      rw [List.getElem_drop]
      congr 1
      omega
    rw [this]
    exact List.getElem_mem _
  have hl0 : 0 ≤ least := by
    obtain ⟨i, hi, e⟩ := List.getElem_of_mem hm1
    rw [List.length_drop] at hi
    rw [List.getElem_drop] at e
    rw [← e]
    have := told_nonneg hinv (s := 1 + i) (by omega)
    rw [getD_at (by omega)] at this
    exact this
  show Runs _ _ _ _ _
  refine Runs.assign (d := .int least) ?_ ?_ ?_
  · refine Ex.min (b1 := true) (l := (intsD (ds.map sumV)).drop 1) (ns := (ds.map sumV).drop 1) (Ex.dropL (b1 := true) (i := 1) (Ex.nameF rfl) Ex.cint ?_) ?_ hm1 hm2
    · have := big
      simp only [intsD, List.length_map] at *
      omega
    · unfold intsD; rw [List.map_drop]
  rotate_left
  · rfl
  refine Runs.assignLoc (.lst _) (outs := (List.range 3).map fun p => .int (handOf nums.sum p)) (d := .list (intsD [handOf nums.sum 0, handOf nums.sum 1, handOf nums.sum 2])) ?_ rfl ?_ ?_ ?_ ?_
  rotate_left 2
  · rfl
  · rfl
  · rfl
  · refine CompG.mp (emb := natD) (Src.rangeN (m := 3) Ex.cint (by decide)) ⟨_, _, rfl⟩ natD_inj (by simp; decide) (fun p hp => ?_)
    have hp3 : p < 3 := by simpa using hp
    refine ⟨_, Asg.name rfl, Sub.all rfl rfl ⟨rfl, trivial⟩, ?_⟩
    show Ex _ _ _ _ _ _
    have hx : 0 ≤ (nums.sum.fdiv 2).fdiv (2 ^ p) := Int.fdiv_nonneg (Int.fdiv_nonneg hw (by decide)) (by have : (0 : Int) ≤ 2 ^ p := Int.pow_nonneg (by decide); exact this)
    have hand := and_one hx
    show Ex _ _ _ _ _ _
    refine Ex.itemT (b1 := true) (l := [.int 1, .int (-1)]) (i := Builtin.bitAnd ((nums.sum.fdiv 2).fdiv (2 ^ ((p : Int)).toNat)) 1) (Ex.tup (Exs.cons Ex.cint (Exs.cons (Ex.neg Ex.cint) Exs.nil))) (Ex.and (Ex.shr (Ex.fdiv (Ex.nameF rfl) Ex.cint (by decide) (by rfl)) (Ex.nameF rfl) (by omega)) Ex.cint) ?_ ?_ ?_
    · rw [Int.toNat_natCast]; omega
    · rw [Int.toNat_natCast]; omega
    · rw [Int.toNat_natCast]
      unfold handOf
      rcases hand with h | h <;> rw [h] <;> rfl
  refine Runs.assignOwn (d := .list []) (ExN.list Exs.nil) ?_ ?_ ?_
  rotate_left
  · rfl
  · intro _ _; rfl
  refine @Runs.sub _ _ _ _ (cxT (nmL line) (tOf nums) least (handOf nums.sum 0) (handOf nums.sum 1) (handOf nums.sum 2) [] ds (ds.map sumV)) _ _ _ ?_ (Sub.all rfl rfl ⟨rfl, rfl, rfl, rfl, rfl, rfl, rfl, trivial⟩)
  exact law_trees C P F3 F4 F8 F9 (nm_inj line) rfl tOf_nonneg (handOf_hand _ _) (handOf_hand _ _) (handOf_hand _ _) hinv hl0 hle
end
end Mine

namespace Mine
section
variable {prog : Program} {w : World} {G : Glo prog w} {n : Nat} {Γ : Cx} {b : Bool}

theorem row_len {nums : List Int} {r : List Int} (h : r ∈ rowsT nums) : r.length = 5 := by
  unfold rowsT at h
  obtain ⟨x, _, rfl⟩ := List.mem_map.mp h
  simp
theorem times_outs {nums : List Int} (hl : nums.length = 4) : D.list (nums.map fun x => .list ((List.range 5).map fun u => .int (dig x u))) = gridD (tOf nums) := by
  rw [grid_rows hl]
  unfold rowsT intsD
  rw [List.map_map]
  congr 1
theorem due_outs {T : Nat → Nat → Int} {s : Nat} : (((List.range 4).filter fun k => bit s k).flatMap fun k => (outerOf s).map fun u => D.int (T k u)) = ((bitsOf s).flatMap fun k => (outerOf s).map fun u => T k u).map D.int := by
  rw [List.map_flatMap]
  unfold bitsOf
  congr 1
  funext k
  rw [List.map_map]; rfl

theorem due_len {T : Nat → Nat → Int} {s : Nat} (p : Nat → Bool) : (((List.range 4).filter p).flatMap fun k => (outerOf s).map fun u => D.int (T k u)).length ≤ sizeLine := by
  have ho : (outerOf s).length ≤ 5 := by
    unfold outerOf
    have := List.length_filter_le (fun u => !bit s (u - 1)) (List.range' 1 4)
    rw [List.length_range'] at this
    rw [List.length_cons]
    omega
  have key : ∀ l : List Nat, (l.flatMap fun k => (outerOf s).map fun u => D.int (T k u)).length ≤ 5 * l.length := by
    intro l
    induction l with
    | nil => simp
    | cons x l ih => rw [List.flatMap_cons, List.length_append, List.length_map, List.length_cons]; omega
  have h1 := key ((List.range 4).filter p)
  have h2 := List.length_filter_le p (List.range 4)
  rw [List.length_range] at h2
  have := big
  omega

theorem law_runs (C : ClsK G) (P : ClsP C) (F2 : FnK G 2) (F3 : FnK G 3) (F4 : FnK G 4) (F6 : FnK G 6) (F7 : FnK G 7) (F8 : FnK G 8) (F9 : FnK G 9) {script : List Int} (hl : script.length ≤ 63) :
    Runs G (n + 2) (cx 10 [(n' "script", .full, .list (intsD script))]) lawB (fun o => o = .ret (.bool true)) := by
  refine Runs.assign (d := .list (intsD (numsOf4 script))) ?_ ?_ ?_
  · exact numbers_ex F6 hl (Ex.nameF rfl)
  rotate_left
  · rfl
  have hnl := numsOf4_len script
  have hnn := sum_nonneg (numsOf4_nonneg script)
  generalize numsOf4 script = nums at *
  have hline0 := Int.fmod_nonneg_of_pos nums.sum (b := 1000) (by decide)
  have hline1 := Int.fmod_lt_of_pos nums.sum (b := 1000) (by decide)
  show Runs _ _ _ _ _
  refine Runs.assign (d := .int nums.sum) ?_ ?_ ?_
  · exact Ex.sum (b1 := true) (l := intsD nums) (Ex.nameF rfl) rfl
  rotate_left
  · rfl
  refine Runs.assign (d := .int (nums.sum.fmod 1000)) ?_ ?_ ?_
  · exact Ex.mod (Ex.nameF rfl) Ex.cint (by decide)
  rotate_left
  · rfl
  generalize nums.sum.fmod 1000 = line at *
  refine Runs.assign (d := .list ((fnsL line).map fnD)) ?_ ?_ ?_
  · refine Ex.list (Exs.cons (Ex.tup (Exs.cons Ex.cstr (Exs.cons Ex.cint (Exs.cons Ex.cstr Exs.nil)))) (Exs.cons (Ex.tup (Exs.cons Ex.cstr (Exs.cons (Ex.nameF rfl) (Exs.cons Ex.cstr Exs.nil)))) (Exs.cons (Ex.tup (Exs.cons Ex.cstr (Exs.cons Ex.cint (Exs.cons Ex.cstr Exs.nil)))) (Exs.cons (Ex.tup (Exs.cons Ex.cstr (Exs.cons Ex.cint (Exs.cons Ex.cstr Exs.nil)))) (Exs.cons (Ex.tup (Exs.cons Ex.cstr (Exs.cons Ex.cint (Exs.cons Ex.cstr Exs.nil)))) Exs.nil)))))
  rotate_left
  · rfl
  refine Runs.assignCell (.lst _) (outs := (fnsL line).map fun t => .str (stdS t)) (d := .list (strsD (nmL line))) ?_ ?_ ?_ ?_ ?_ ?_
  rotate_left 3
  · rfl
  · rfl
  · rfl
  · refine CompG.mp (emb := fnD) (Src.list (l := (fnsL line).map fnD) (Ex.nameF rfl)) (.inl ⟨_, _, rfl⟩) fnD_inj (by have := big; simp [fnsL]; omega) (fun t ht => ?_)
    exact ⟨_, Asg.name rfl, Sub.all rfl rfl trivial, std_ex F2 (std_runs hline0 hline1 ht) (Ex.nameF rfl)⟩
  · show D.list _ = D.list _
    rw [← fns_names]
    unfold strsD
    rw [List.map_map]; rfl
  refine Runs.skip ?_ ?_
  · rw [show false = (nmL line != [n' "{z}", (n' "a:" ++ Str.ofString (toString line)) ++ n' "(f)", n' "<g", n' "g>", n' "~:1(<h>)"]) by rw [← nm_list]; simp]
    refine Tst.cmp (b1 := true) (b2 := true) (d2 := .list (strsD [n' "{z}", (n' "a:" ++ Str.ofString (toString line)) ++ n' "(f)", n' "<g", n' "g>", n' "~:1(<h>)"])) (Ex.nameF rfl) ?_ (Cmp.neStrs (nm_ok line) (by rw [← nm_list]; exact nm_ok line))
    have hd : line.natAbs.log2 < 1920 := shown (N := 2 ^ 1920) (by omega) (by omega) (Int.le_refl _)
    have hlen : (Str.ofString (toString line)).length ≤ 500 := by
      have : (Str.ofString (toString line)).length ≤ 10 := toString_length_le (k := 10) (by omega) (by decide) (by omega)
      omega
    have hb := big
    show Ex _ _ _ _ _ _
    refine Ex.list (Exs.cons Ex.cstr (Exs.cons (Ex.addS (Ex.addS Ex.cstr (Ex.strOf (Ex.nameF rfl) hd) ?_) Ex.cstr ?_) (Exs.cons Ex.cstr (Exs.cons Ex.cstr (Exs.cons Ex.cstr Exs.nil)))))
    · have : (n' "a:").length = 2 := by decide
      omega
    · have h2 : (n' "a:").length = 2 := by decide
      have h3 : (n' "(f)").length = 3 := by decide
      have h4 : (n' "a:" ++ Str.ofString (toString line)).length = (n' "a:").length + (Str.ofString (toString line)).length := Array.size_append
      omega
  refine Runs.assignCell (.lst _) (outs := nums.map fun x => .list ((List.range 5).map fun u => .int (dig x u))) (d := gridD (tOf nums)) ?_ (times_outs hnl) ?_ ?_ ?_ ?_
  rotate_left 2
  · rfl
  · rfl
  · rfl
  · refine CompG.mp (emb := D.int) (Src.list (l := intsD nums) (Ex.nameF rfl)) (.inl ⟨_, _, rfl⟩) intD_inj (by have := big; omega) (fun x hx => ?_)
    refine ⟨_, Asg.name rfl, Sub.all rfl rfl trivial, ?_⟩
    show Ex _ _ _ _ _ _
    refine Ex.lcomp ?_ rfl
    refine CompG.mp (emb := natD) (Src.rangeN (m := 5) Ex.cint (by decide)) ⟨_, _, rfl⟩ natD_inj (by simp; decide) (fun u hu => ?_)
    have hu5 : u < 5 := by simpa using hu
    refine ⟨_, Asg.name rfl, Sub.all rfl rfl ⟨rfl, trivial⟩, ?_⟩
    show Ex _ _ _ _ _ _
    unfold dig
    have hpw : (10 : Int) ^ u ≠ 0 := by
      have : (0 : Int) < 10 ^ u := Int.pow_pos (by decide)
      omega
    have hpy : Builtin.divisionGoesByPylong x (10 ^ u) = false := by
      have hcase : u = 0 ∨ u = 1 ∨ u = 2 ∨ u = 3 ∨ u = 4 := by omega
      rcases hcase with rfl | rfl | rfl | rfl | rfl <;> rfl
    have e : (10 : Int) ^ u = 10 ^ ((u : Int)).toNat := by rw [Int.toNat_natCast]
    rw [e] at hpw hpy ⊢
    show Ex _ _ _ _ _ _
    exact Ex.mod (Ex.fdiv (Ex.nameF rfl) (Ex.pow Ex.cint (Ex.nameF rfl) (by omega) (by omega) (by decide)) hpw hpy) Ex.cint (by decide)
  refine Runs.assignLoc (.lst _) (outs := (rowsT nums).map fun r => .dict (tableOf (nmL line) r)) (d := .list ((tabsT (nmL line) nums).map .dict)) ?_ ?_ ?_ ?_ ?_ ?_
  rotate_left 3
  · rfl
  · rfl
  · rfl
  · refine CompG.mp (emb := fun r => .list (intsD r)) (Src.list (l := (rowsT nums).map fun r => .list (intsD r)) ?_) (.inl ⟨_, _, rfl⟩) rowL_inj (by unfold rowsT; have := big; simp; omega) (fun r hr => ?_)
    · rw [← grid_rows hnl]
      exact Ex.nameF rfl
    · have hrl := row_len hr
      refine ⟨_, Asg.name rfl, Sub.all rfl rfl ⟨rfl, trivial⟩, ?_⟩
      show Ex _ _ _ _ _ _
      refine Ex.dcomp (outs := (r.zipIdx.filter fun q => decide (q.1 > 0)).map fun q => pairD (((nmL line)[q.2]?).getD (n' ""), q.1)) ?_ rfl
      refine CompG.filt (emb := enumI) (T := TTup) ?_ ⟨_, _, _, rfl⟩ enumI_inj (by rw [List.length_zipIdx]; have := big; omega) (fun q hq => ?_)
      · rw [← enum_ints]
        exact Src.enum (l := intsD r) (Ex.nameF rfl)
      · obtain ⟨hq1, hq2⟩ := zip_mem hq
        refine ⟨_, Asg.pair rfl rfl, Sub.all rfl rfl ⟨rfl, trivial⟩, ?_, fun _ => ?_⟩
        · exact Tst.cmp (b1 := true) (b2 := true) (Ex.nameF rfl) Ex.cint Cmp.gt
        · refine ⟨_, _, rfl, ?_, Ex.nameF rfl⟩
          exact Ex.item (b1 := true) (i := (q.2 : Int)) (Ex.nameF rfl) (Ex.nameF rfl) (by omega) (by omega) (name_get (names := nmL line) rfl (by omega))
  · show D.list _ = D.list _
    unfold tabsT
    rw [List.map_map]; rfl
  refine Runs.assignOwn (d := .list []) (ExN.list Exs.nil) ?_ ?_ ?_
  rotate_left
  · rfl
  · intro _ _; rfl
  refine Runs.for (fun i Γ' => Γ' = cx 10 [(n' "due", .own, .list (intsD ((List.range i).map (dueS (tOf nums))))), (n' "tables", .full, .list ((tabsT (nmL line) nums).map .dict)), (n' "times", .full, gridD (tOf nums)), (n' "names", .full, .list (strsD (nmL line))), (n' "whole", .full, .int nums.sum)])
    (T := TName) (ds := (List.range 16).map natD) ?_ ?_ ?_ (fun s d Γi hd hi' => ?_) (fun Γe he => ?_)
  · exact Src.rangeN (m := 16) Ex.cint (by decide)
  · exact ⟨_, _, rfl⟩
  · exact ⟨_, rfl, Sub.all rfl rfl ⟨rfl, rfl, rfl, rfl, rfl, trivial⟩⟩
  · subst hi'
    obtain ⟨hs, rfl⟩ := natD_get hd
    refine ⟨_, Asg.name rfl, ?_⟩
    show Runs _ _ _ _ _
    refine Runs.assign (d := .list ((outerOf s).map natD)) ?_ ?_ ?_
    · refine Ex.addL (b1 := true) (b2 := true) (x := [.int 0]) (y := ((List.range' 1 4).filter fun u => !bit s (u - 1)).map natD) (Ex.list (Exs.cons Ex.cint Exs.nil)) (Ex.lcomp ?_ rfl) ?_
      · refine CompG.filt (emb := natD) (Src.rangeNN (a := 1) (m := 5) Ex.cint Ex.cint (by decide) (by decide)) ⟨_, _, rfl⟩ natD_inj (by simp; decide) (fun u hu => ?_)
        have hu2 : 1 ≤ u ∧ u < 5 := by rw [List.mem_range'_1] at hu; omega
        refine ⟨_, Asg.name rfl, Sub.all rfl rfl ⟨rfl, trivial⟩, ?_, fun _ => ?_⟩
        · show Tst _ _ _ _ _
          refine Tst.not (bit_tst (s := s) (k := u - 1) (Ex.nameF rfl) ?_ hs (by omega))
          rw [show ((u - 1 : Nat) : Int) = (u : Int) - 1 by omega]
          exact Ex.sub (Ex.nameF rfl) Ex.cint
        · exact Ex.nameF rfl
      · have := List.length_filter_le (fun u => !bit s (u - 1)) (List.range' 1 4)
        have := big
        simp at *
        omega
    rotate_left
    · rfl
    refine Runs.append (x := n' "due") (l := intsD ((List.range s).map (dueS (tOf nums)))) (d := .int (dueS (tOf nums) s)) ?_ ?_ ?_ ?_
    · rfl
    · unfold dueS
      refine Ex.sum (b1 := true) (l := (((List.range 4).filter fun k => bit s k).flatMap fun k => (outerOf s).map fun u => D.int (tOf nums k u))) (Ex.lcomp ?_ rfl) due_outs
      refine CompG.bind (emb := natD) (Src.rangeN (m := 4) Ex.cint (by decide)) ⟨_, _, rfl⟩ natD_inj ?_ (fun k hk => ?_)
      · exact due_len _
      · have hk4 : k < 4 := by simpa using hk
        refine ⟨_, Asg.name rfl, Sub.all rfl rfl ⟨rfl, rfl, rfl, trivial⟩, ?_, fun _ => ?_⟩
        · exact bit_tst (s := s) (k := k) (Ex.nameF rfl) (Ex.nameF rfl) hs hk4
        · refine EmG.mp (emb := natD) set_noOwn (Src.list (l := (outerOf s).map natD) (Ex.nameF rfl)) (.inl ⟨_, _, rfl⟩) natD_inj (fun u hu => ?_)
          have hu5 : u < 5 := by
            unfold outerOf at hu
            rcases List.mem_cons.mp hu with rfl | hu
            · decide
            · have := (List.mem_filter.mp hu).1
              rw [List.mem_range'_1] at this
              omega
          exact ⟨_, Asg.name rfl, Sub.all rfl rfl ⟨rfl, rfl, rfl, rfl, trivial⟩, grid_ex (Ex.nameF rfl) (Ex.nameF rfl) (Ex.nameF rfl) hk4 hu5⟩
    rotate_left
    · have := big
      simp [intsD]
      omega
    refine Runs.nil ⟨_, rfl, Sub.all rfl rfl ⟨?_, rfl, rfl, rfl, rfl, trivial⟩⟩
    show some _ = some _
    unfold intsD
    rw [List.range_succ, List.map_append, List.map_append]
    rfl
  · subst he
    rw [show ((List.range 16).map natD).length = 16 by simp]
    show Runs _ _ _ (lawB.drop 10) _
    exact law_late C P F3 F4 F7 F8 F9 hnl hnn
end
end Mine

namespace Mine
set_option maxRecDepth 100000 in
set_option maxHeartbeats 8000000 in
open_top hd for PySem.Challenge.rw_xb0044_01
end Mine

set_option maxHeartbeats 4000000
namespace Mine
noncomputable def fdOf (K : Frag) (a : Addr) : FuncData := match K.lookup a with
  | some ⟨_, _, .func fd, _⟩ => fd
  | _ => Calls.docDef (n' "") ⟨[], [], none, [], [], none, []⟩ [] ⟨.module, [], false, false, []⟩ .none .none .none
section
variable (P : Params)
theorem f1 : makesIn (hd.heap_39 P) 38 = true := by kernel_rfl
theorem f2 : findIn (hd.heap_39 P) (.ref 38) "__init__" = some (some (.ref 28)) := by kernel_rfl
theorem f3 : isFn (hd.heap_39 P) (.ref 28) = true := by kernel_rfl
theorem f4 : findIn (hd.heap_39 P) (.ref 38) "__setattr__" = some (some (.builtin "object.__setattr__")) := by kernel_rfl
theorem f5 : plainOver (hd.heap_39 P) 38 = true := by kernel_rfl
theorem f6 : takerIn (hd.heap_39 P) 38 "comp_select_list" = some none := by kernel_rfl
theorem f7 : hasDictIn (hd.heap_39 P) 38 = true := by kernel_rfl
theorem f8 : plainGet (hd.heap_39 P) 38 "comp_select_list" = true := by kernel_rfl
theorem f9 : findIn (hd.heap_39 P) (.ref 38) "comp_select_list" = some none := by kernel_rfl
theorem f10 : plainGet (hd.heap_39 P) 38 "compare" = true := by kernel_rfl
theorem f11 : findIn (hd.heap_39 P) (.ref 38) "compare" = some (some (.ref 35)) := by kernel_rfl
theorem f12 : isFn (hd.heap_39 P) (.ref 35) = true := by kernel_rfl
theorem f13 : keepIn (hd.heap_39 P) (.ref 38) = true := by kernel_rfl
theorem f14 : keepIn (hd.heap_39 P) (.ref 35) = true := by kernel_rfl
theorem f15 : ∃ c od sl, (hd.heap_39 P).lookup 28 = some ⟨c, od, .func (fdOf (hd.heap_39 P) 28), sl⟩ := ⟨_, _, _, rfl⟩
theorem f16 : ∃ c od sl, (hd.heap_39 P).lookup 35 = some ⟨c, od, .func (fdOf (hd.heap_39 P) 35), sl⟩ := ⟨_, _, _, rfl⟩
theorem f17 : codeIn (hd.heap_39 P) (fdOf (hd.heap_39 P) 28).code (fdOf (hd.heap_39 P) 28).qualname = true := by kernel_rfl
theorem f18 : codeIn (hd.heap_39 P) (fdOf (hd.heap_39 P) 35).code (fdOf (hd.heap_39 P) 35).qualname = true := by kernel_rfl
theorem f19 : (fdOf (hd.heap_39 P) 35).scope = scM ∧ (fdOf (hd.heap_39 P) 35).globals = mainGlobals ∧ (fdOf (hd.heap_39 P) 35).builtins = builtinsNs ∧ (fdOf (hd.heap_39 P) 35).closure = [] ∧ (fdOf (hd.heap_39 P) 35).body = .stmts (bodyOf (methAt 1)) := ⟨rfl, rfl, rfl, rfl, rfl⟩
theorem f20 : (fdOf (hd.heap_39 P) 28).scope = scopeOf (methAt 0) ∧ (fdOf (hd.heap_39 P) 28).globals = mainGlobals ∧ (fdOf (hd.heap_39 P) 28).builtins = builtinsNs ∧ (fdOf (hd.heap_39 P) 28).closure = [] ∧ (fdOf (hd.heap_39 P) 28).body = .stmts (bodyOf (methAt 0)) := ⟨rfl, rfl, rfl, rfl, rfl⟩
theorem f21 (vals : List Value) (h : vals.length = 2) : bindArgs (fdOf (hd.heap_39 P) 28) ⟨vals, []⟩ = pure ([n' "self", csl].zip vals) := by
  obtain ⟨a, b, rfl⟩ := list2 h
  rfl
theorem f22 (vals : List Value) (h : vals.length = 3) : bindArgs (fdOf (hd.heap_39 P) 35) ⟨vals, []⟩ = pure ([n' "self", n' "left", n' "right"].zip vals) := by
  obtain ⟨a, b, c, rfl⟩ := list3 h
  rfl
theorem f230 : ∃ es0 ep0, (((hd.heap_39 P).lookup 3).getD default).data = .dict es0 ep0 ∧ nsFind es0 "TupleComp" = some (.ref 38) := ⟨_, _, rfl, by kernel_rfl⟩
theorem f23 {s : Heap} {mg : Str → Option Value} (KX : (hd.heap_39 P).In s) (h : s.Ns mainGlobals mg) : mg "TupleComp" = some (.ref 38) := by
  obtain ⟨o, es, ep, ho, hd', h3, hm⟩ := h
  have e : (hd.heap_39 P).lookup 3 = some ((((hd.heap_39 P).lookup 3)).getD default) := rfl
  have := KX 3 _ e
  rw [show (mainGlobals : Addr) = 3 from rfl, this] at ho
  cases ho
  obtain ⟨es0, ep0, h1, h2⟩ := f230 P
  rw [h1] at hd'
  cases hd'
  rw [← hm]
  exact h2
end

theorem g1 : ∀ x ∈ ourBuiltins, x ∉ startupNames ∧ x ∉ looseW hd.view_39 [] ∧ x ∉ (recsOf hd.view_39).map (·.name) ∧ x ∉ (litsOf hd.view_39).map (·.1) ∧ x ∉ (clssOf hd.view_39 (looseW hd.view_39 [])).map (·.name) := by decide +kernel
end Mine

set_option maxHeartbeats 4000000
namespace Mine

theorem codeAny_plain {prog : Program} {w : World} {G : Glo prog w} {n : Nat} {name : Str} {params : Arguments} {body : List Stmt} {scope : Scope} {ps : List Str} {ds : List (Fl × D)} {d : D} {A : Around} {X : Addr → Prop} {s : Shared} {a : Addr} {pm cd doc : Value} {vals : List Value} {R : Result → Shared → Prop}
    (P : PlainDef params body scope ps) (rm : Room (n + 1) A) (gl : G.P s.heap) (live : ∀ a, X a → s.heap.get? a ≠ none) (f : FnAt G.mg s.heap name params body scope a pm cd doc) (hfl : ∀ p ∈ ds, p.1 ≠ .own) (hlen : ps.length = ds.length) (hra : RepA G X s.heap ds vals)
    (hrun : Runs G n ⟨scope, cellNames scope.names, ps.zip ds⟩ body (fun o => o = .ret d))
    (k : ∀ v s', Ext s s' → RepF G X s'.heap d true v → R (.ok (.ret v)) s') : codeAny (model prog w) A (.call (.ref a) ⟨vals, []⟩) R s := by
  obtain ⟨o, ho, hd⟩ := f.obj
  have hlen2 : vals.length = ps.length := by rw [hra.length]; exact hlen.symm
  refine codeAny_call_cells (fd := Calls.docDef name params body scope pm cd doc) (binds := ps.zip vals) (Nat.lt_of_lt_of_le (by have := rm.2.1; show A.depth < 900; omega) (by decide)) ho hd (G.lim gl) f.code rfl (P.bind name pm cd doc vals hlen2) rfl (fun x hx => ?_) (fun s1 I => ?_) P.co P.gen P.kind
  · have hxp : x.1 ∈ ps := (List.of_mem_zip (a := x.1) (b := x.2) hx).1
    rcases P.pk _ hxp with h | h
    · exact .inl h
    · exact .inr ⟨h, cellsFrom_some _ _ _ (.inl h)⟩
  · have H := fn_here (fd := Calls.docDef name params body scope pm cd doc) (h0 := s.heap) gl live P.kind rfl rfl P.names P.free P.pk P.nodup hfl hra hlen I
    obtain ⟨h1, tk, hs1⟩ := I.toInCall.same
    refine hrun rm.deep H fun o' fl s' e q => ?_
    subst e
    obtain ⟨v, rfl, r, c⟩ := q
    refine k v s' ⟨fun b ob e => ?_, c.gens.trans (by rw [hs1]), c.os.trans (by rw [hs1])⟩ r
    exact c.keep b ob (.inl (by rw [e]; exact Option.some_ne_none _)) (I.toInCall.keep b ob e)

theorem plain10 : PlainDef (paramsOf (stAt 10)) (bodyOf (stAt 10)) (scopeOf (stAt 10)) [n' "script"] where
  kind := rfl
  co := rfl
  gen := rfl
  names := by decide
  free := by decide
  pk := by decide
  nodup := by decide
  bind := fun _ _ _ _ vals h => by
    obtain ⟨a, rfl⟩ := list1 h
    rfl

section
variable {prog : Program} {w : World} {mg mb : Str → Option Value} {mean : ExcName → Option Value} {s₁ : Shared}

/-- the module's names at the top -/
noncomputable def gloAt (prog : Program) (T : Top hd.view_39 (looseW hd.view_39 []) mean mg mb s₁.heap) : Glo prog w where
  mg := mg
  mb := mb
  P := fun h => Keeps s₁.heap h
  C := 38
  keeps := fun hk h b o e => hk b o (h b o e)
  g := fun h => T.g.keeps h
  b := fun h => T.b.keeps h
  lim := fun h => T.nolimit.keeps h
  bi := fun x v hv hn => by rw [T.builtins x hn]; exact hv
  free := fun x hx => by
    obtain ⟨h1, h2, h3, h4, h5⟩ := g1 x hx
    exact T.free x h1 h2 h3 h4 h5

structure RecAt (j k : Nat) : Prop where
  name : ((recsOf hd.view_39)[j]?).map (fun d => d.name) = some (nameOf (stAt k))
  params : ((recsOf hd.view_39)[j]?).map (fun d => d.params) = some (paramsOf (stAt k))
  body : ((recsOf hd.view_39)[j]?).map (fun d => d.body) = some (bodyOf (stAt k))
  scope : ((recsOf hd.view_39)[j]?).map (fun d => d.scope) = some (scopeOf (stAt k))
theorem fnk (T : Top hd.view_39 (looseW hd.view_39 []) mean mg mb s₁.heap) {j k : Nat} (h : RecAt j k) : FnK (gloAt (w := w) prog T) k := by
  intro h' hk
  obtain ⟨h1, h2, h3, h4⟩ := h
  cases hd' : (recsOf hd.view_39)[j]? with
  | none => rw [hd'] at h1; cases h1
  | some d =>
    rw [hd'] at h1 h2 h3 h4
    obtain ⟨a, o, pm, cd, doc, e1, e2, e3, e4⟩ := T.fn d (List.mem_of_getElem? hd')
    have n1 : d.name = nameOf (stAt k) := Option.some.inj h1
    have n2 : d.params = paramsOf (stAt k) := Option.some.inj h2
    have n3 : d.body = bodyOf (stAt k) := Option.some.inj h3
    have n4 : d.scope = scopeOf (stAt k) := Option.some.inj h4
    rw [n1, n2, n3, n4] at e3
    rw [n1] at e1 e4
    have f : FnAt mg s₁.heap (nameOf (stAt k)) (paramsOf (stAt k)) (bodyOf (stAt k)) (scopeOf (stAt k)) a pm cd doc := ⟨e1, ⟨o, e2, e3⟩, e4⟩
    exact ⟨a, pm, cd, doc, f.keep hk⟩

theorem fdAtI (KX : (hd.heap_39 w.params).In s₁.heap) (T : Top hd.view_39 (looseW hd.view_39 []) mean mg mb s₁.heap) : FdAt (gloAt (w := w) prog T) 28 (fdOf (hd.heap_39 w.params) 28) (bodyOf (methAt 0)) [n' "self", csl] := by
  obtain ⟨e1, e2, e3, e4, e5⟩ := f20 w.params
  exact {
    obj := fun {h} hk => by
      obtain ⟨c, od, sl, e⟩ := f15 w.params
      exact ⟨_, hk _ _ (KX _ _ e), rfl⟩
    code := fun {h} hk => codeRec_of (KX.keeps hk) (f17 w.params)
    glb := e2
    blt := e3
    clo := e4
    bod := e5
    kind := by rw [e1]; rfl
    co := by rw [e1]; rfl
    gen := by rw [e1]; rfl
    names := by rw [e1]; decide
    free := by rw [e1]; decide
    pk := by rw [e1]; decide
    nocell := by rw [e1]; decide
    nodup := by decide
    bind := f21 w.params }
theorem fdAtC (KX : (hd.heap_39 w.params).In s₁.heap) (T : Top hd.view_39 (looseW hd.view_39 []) mean mg mb s₁.heap) : FdAt (gloAt (w := w) prog T) 35 (fdOf (hd.heap_39 w.params) 35) (bodyOf (methAt 1)) [n' "self", n' "left", n' "right"] := by
  obtain ⟨e1, e2, e3, e4, e5⟩ := f19 w.params
  exact {
    obj := fun {h} hk => by
      obtain ⟨c, od, sl, e⟩ := f16 w.params
      exact ⟨_, hk _ _ (KX _ _ e), rfl⟩
    code := fun {h} hk => codeRec_of (KX.keeps hk) (f18 w.params)
    glb := e2
    blt := e3
    clo := e4
    bod := e5
    kind := by rw [e1]; rfl
    co := by rw [e1]; rfl
    gen := by rw [e1]; rfl
    names := by rw [e1]; decide
    free := by rw [e1]; decide
    pk := by rw [e1]; decide
    nocell := by rw [e1]; decide
    nodup := by decide
    bind := f22 w.params }
noncomputable def clsK (KX : (hd.heap_39 w.params).In s₁.heap) (T : Top hd.view_39 (looseW hd.view_39 []) mean mg mb s₁.heap) : ClsK (gloAt (w := w) prog T) where
  K := hd.heap_39 w.params
  kin := fun hk => KX.keeps hk
  fI := 28
  fC := 35
  fdI := fdOf (hd.heap_39 w.params) 28
  fdC := fdOf (hd.heap_39 w.params) 35
  bI := bodyOf (methAt 0)
  bC := bodyOf (methAt 1)
  makes := f1 _
  init := f2 _
  initFn := f3 _
  set := f4 _
  over := f5 _
  taker := f6 _
  hasD := f7 _
  getI := f8 _
  attr := f9 _
  getC := f10 _
  cmp := f11 _
  cmpFn := f12 _
  keepC := f13 _
  keepF := f14 _
  glob := f23 _ KX T.g
  atI := fdAtI KX T
  atC := fdAtC KX T
  initBody := ⟨_, _, _, _, rfl, fun _ => rfl⟩

theorem well_ints {P : Params} {h : Heap} {X : Addr → Prop} {G : Glo prog w} : ∀ {ns : List Int} {vs : List Value}, WellAll P h vs (ns.map fun i => WData.int i) → RepL G X h (intsD ns) vs
  | [], vs, x => by cases x; exact RepL.nil
  | i :: ns, vs, x => by
    rw [List.map_cons] at x
    cases x with
    | cons a b =>
      cases a
      exact RepL.cons (repI.mpr ⟨_, rfl⟩) (well_ints b)

theorem core (KX : (hd.heap_39 w.params).In s₁.heap) (T : Top hd.view_39 (looseW hd.view_39 []) mean mg mb s₁.heap) {fa : Addr} (hfa : mg (nameOf (stAt 10)) = some (.ref fa)) {la : Addr} {vs : List Value} {ns : List Int} (hL : s₁.heap.get? la = some { cls := .type "list", data := .seq vs.toArray })
    (hv : WellAll w.params s₁.heap vs (ns.map fun i => WData.int i)) (hlen : ns.length ≤ 63) {R : Result → Shared → Prop} (k : ∀ s', Keeps s₁.heap s'.heap → s'.gens = s₁.gens → s'.os = s₁.os → R (.ok (.ret (.bool true))) s') :
    codeAny (model prog w) callerA (.call (.ref fa) ⟨[.ref la], []⟩) R s₁ := by
  have F10 : FnK (gloAt (w := w) prog T) 10 := fnk T (j := 7) ⟨rfl, rfl, rfl, rfl⟩
  obtain ⟨a, pm, cd, doc, f⟩ := F10 (h := s₁.heap) fun _ _ e => e
  have ea : a = fa := by
    have := f.glob
    rw [show (gloAt (w := w) prog T).mg = mg from rfl, hfa] at this
    cases this; rfl
  subst ea
  refine codeAny_plain (n := 2) (G := gloAt (w := w) prog T) (X := fun _ => False) (ds := [(.full, .list (intsD ns))]) (d := .bool true) plain10 ⟨rfl, by decide, by decide⟩ (fun _ _ e => e) (fun _ h => h.elim) f (by simp) rfl ?_ ?_ fun v s' e r => ?_
  · exact ⟨.ref la, [], rfl, repL.mpr ⟨la, vs.toArray, 0, rfl, fun _ h => h, hL, well_ints hv⟩, rfl⟩
  · exact law_runs (n := 0) (clsK KX T) ⟨(f19 w.params).1, rfl⟩ (fnk T (j := 0) ⟨rfl, rfl, rfl, rfl⟩) (fnk T (j := 1) ⟨rfl, rfl, rfl, rfl⟩) (fnk T (j := 2) ⟨rfl, rfl, rfl, rfl⟩) (fnk T (j := 3) ⟨rfl, rfl, rfl, rfl⟩) (fnk T (j := 4) ⟨rfl, rfl, rfl, rfl⟩) (fnk T (j := 5) ⟨rfl, rfl, rfl, rfl⟩) (fnk T (j := 6) ⟨rfl, rfl, rfl, rfl⟩) hlen
  · cases repB.mp r
    exact k s' e.keep e.gens e.os
end
end Mine

set_option maxHeartbeats 4000000
namespace Mine
theorem well_list {P : Params} {h : Heap} {a : Addr} {ns : List Int} (x : Well P h (.ref a) (ofPy (PyData.list (ns.map PyData.int)))) : ∃ vs : List Value, h.get? a = some { cls := .type "list", data := .seq vs.toArray } ∧ WellAll P h vs (ns.map fun i => WData.int i) := by
  have e : ofPy (PyData.list (ns.map PyData.int)) = .list (ns.map fun i => WData.int i) := by
    simp only [ofPy, ofPys_eq, List.map_map]
    congr 1
  rw [e] at x
  cases x with
  | list h1 h2 => exact ⟨_, h1, h2⟩
end Mine
theorem PySem.Challenge.cw_xb0044_01_holds : PySem.Challenge.rw_xb0044_01.Holds := by
  refine Mine.hd ?_
  k_fill
  intro w s₀ s₁ mg mb G Y fa o pm cd doc dV kV ho hd hcd hD hmg hg args vals as hpre hlay hrd hwl hlo
  have KX := kIn_of Y
  have X := (Ground.X G).1
  have V := (Ground.X G).2
  refine Ground.open G ?_
  intro T B D TE TW
  have hmg' : mg (Mine.nameOf (Mine.stAt 10)) = some (.ref fa) := hmg
  wrow_args hpre hlay hrd hwl hlo
  all_goals (
    first | refine callC_kw (enter_call ?_) | refine enter_call ?_ | refine callC_kw (enter_callW ?_) | refine enter_callW ?_ | w_how
    w_top on
    try refine codeAny_mono ?_ (fun _ _ g => GoodW.toG g)
    clear hd hcd hD hmg
    rename_i ns _ _ _ _ _ _ _ la _ _ _ _ w1 _ _ _ hlen _)
  obtain ⟨vs, hL, hv⟩ := Mine.well_list w1
  refine Mine.core KX T hmg' hL hv (by omega) fun s' hk hg' hos => ?_
  refine ⟨.inl ⟨_, .bool true, [], rfl, raisesW_false ?_, .bool true, ?_, unshared_nil⟩, hk, hos, hg'.trans hg⟩
  · wrow_none_raised
  · wrow_post

