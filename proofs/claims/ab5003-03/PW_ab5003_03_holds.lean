import PyProof.Rows.All
import Wide.All
import OpenK.AllK
import Wide.FinOn
import Lean
import PySem.Challenge.RW_ab5003_03
open PySem PySem.W PyProof.Rows
set_option Elab.async false
set_option maxRecDepth 100000
set_option linter.unusedVariables false
set_option linter.unusedSimpArgs false
namespace Mine

/-- abstract data -/
inductive D where
  | none
  | bool (b : Bool)
  | int (i : Int)
  | str (x : Str)
  | val (v : Value)
  | tup (ds : List D)
  | list (ds : List D)
  | rng (a b : Int)

abbrev Part := Addr → Option Obj

mutual
inductive Rep (G : Part) : Value → D → Prop
  | none : Rep G Value.none D.none
  | bool (b : Bool) : Rep G (Value.bool b) (D.bool b)
  | int (i : Int) (t : Tok) : Rep G (Value.int i t) (D.int i)
  | str (x : Str) (t : Tok) : Rep G (Value.str x t) (D.str x)
  | val (v : Value) : Rep G v (D.val v)
  | tup {a : Addr} {vs : List Value} {n : Nat} {ds : List D} : G a = some { cls := .type "tuple", dict := Option.none, data := .seq vs.toArray n, slots := #[] } → Reps G vs ds → Rep G (Value.ref a) (D.tup ds)
  | list {a : Addr} {vs : List Value} {n : Nat} {ds : List D} : G a = some { cls := .type "list", dict := Option.none, data := .seq vs.toArray n, slots := #[] } → Reps G vs ds → Rep G (Value.ref a) (D.list ds)
  | rng {r : Addr} {a b : Int} {t u v : Tok} : G r = some { cls := .type "range", dict := Option.none, data := .fields #[.int a t, .int b u, .int 1 v], slots := #[] } → Rep G (Value.ref r) (D.rng a b)
inductive Reps (G : Part) : List Value → List D → Prop
  | nil : Reps G [] []
  | cons {v : Value} {vs : List Value} {d : D} {ds : List D} : Rep G v d → Reps G vs ds → Reps G (v :: vs) (d :: ds)
end

/-- objects that data are made of -/
def Solid (o : Obj) : Prop := (∃ xs n, o.data = .seq xs n) ∨ (o.cls = .type "range" ∧ ∃ vs, o.data = .fields vs)
def Le (G G' : Part) : Prop := ∀ a o, Solid o → G a = some o → G' a = some o
theorem not_solid_dict {o : Obj} {es ep} (h : o.data = .dict es ep) : ¬ Solid o := by
  rintro (⟨xs, n, e⟩ | ⟨_, vs, e⟩) <;> rw [h] at e <;> cases e
theorem not_solid_cell {o : Obj} {v} (h : o.data = .cell v) : ¬ Solid o := by
  rintro (⟨xs, n, e⟩ | ⟨_, vs, e⟩) <;> rw [h] at e <;> cases e
theorem Le.refl (G : Part) : Le G G := fun _ _ _ h => h
theorem Le.trans {G G' G'' : Part} (h : Le G G') (k : Le G' G'') : Le G G'' := fun a o s e => k a o s (h a o s e)

mutual
theorem Rep.mono {G G' : Part} (h : Le G G') : ∀ {v : Value} {d : D}, Rep G v d → Rep G' v d
  | _, _, .none => .none
  | _, _, .bool b => .bool b
  | _, _, .int i t => .int i t
  | _, _, .str x t => .str x t
  | _, _, .val v => .val v
  | _, _, .tup e r => .tup (h _ _ (.inl ⟨_, _, rfl⟩) e) (Reps.mono h r)
  | _, _, .list e r => .list (h _ _ (.inl ⟨_, _, rfl⟩) e) (Reps.mono h r)
  | _, _, .rng e => .rng (h _ _ (.inr ⟨rfl, _, rfl⟩) e)
theorem Reps.mono {G G' : Part} (h : Le G G') : ∀ {vs : List Value} {ds : List D}, Reps G vs ds → Reps G' vs ds
  | _, _, .nil => .nil
  | _, _, .cons r rs => .cons (Rep.mono h r) (Reps.mono h rs)
end

theorem Reps.length {G : Part} : ∀ {vs : List Value} {ds : List D}, Reps G vs ds → vs.length = ds.length
  | _, _, .nil => rfl
  | _, _, .cons _ r => by rw [List.length_cons, List.length_cons, r.length]
theorem Reps.append {G : Part} : ∀ {vs : List Value} {ds : List D} {ws : List Value} {es : List D}, Reps G vs ds → Reps G ws es → Reps G (vs ++ ws) (ds ++ es)
  | _, _, _, _, .nil, k => k
  | _, _, _, _, .cons h r, k => .cons h (r.append k)
theorem Reps.get {G : Part} : ∀ {vs : List Value} {ds : List D}, Reps G vs ds → ∀ {k : Nat} {d : D}, ds[k]? = some d → ∃ v, vs[k]? = some v ∧ Rep G v d
  | _, _, .nil, _, _, h => by cases h
  | _, _, .cons (v := v) h r, 0, _, e => by cases e; exact ⟨v, rfl, h⟩
  | _, _, .cons h r, k + 1, _, e => by simpa using r.get (by simpa using e)
theorem Reps.get' {G : Part} : ∀ {vs : List Value} {ds : List D}, Reps G vs ds → ∀ {k : Nat} {v : Value}, vs[k]? = some v → ∃ d, ds[k]? = some d ∧ Rep G v d
  | _, _, .nil, _, _, h => by cases h
  | _, _, .cons (d := d) h r, 0, _, e => by cases e; exact ⟨d, rfl, h⟩
  | _, _, .cons h r, k + 1, _, e => by simpa using r.get' (by simpa using e)
theorem Reps.one {G : Part} {v : Value} {d : D} (h : Rep G v d) : Reps G [v] [d] := .cons h .nil

abbrev iL (ns : List Int) : List D := ns.map D.int
theorem Reps.toI {G : Part} : ∀ {ns : List Int} {vs : List Value}, Reps G vs (iL ns) → IntsAre vs ns
  | [], _, h => by cases h; exact .nil
  | n :: ns, _, h => by
    cases h with
    | cons h r => cases h; exact .cons n _ r.toI
theorem Reps.ofI {G : Part} : ∀ {vs : List Value} {ns : List Int}, IntsAre vs ns → Reps G vs (iL ns)
  | _, _, .nil => .nil
  | _, _, .cons n t r => .cons (.int n t) (Reps.ofI r)

/-- the part of a heap without some places -/
def hid (H : List Addr) (h : Heap) : Part := fun a => if a ∈ H then none else h.get? a
theorem hid_get {H : List Addr} {h : Heap} {a : Addr} {o : Obj} (e : hid H h a = some o) : h.get? a = some o ∧ a ∉ H := by
  unfold hid at e
  split at e
  · cases e
  · rename_i hn; exact ⟨e, hn⟩
theorem hid_of {H : List Addr} {h : Heap} {a : Addr} {o : Obj} (e : h.get? a = some o) (hn : a ∉ H) : hid H h a = some o := by
  unfold hid; rw [if_neg hn]; exact e
theorem le_hid {H : List Addr} {h h' : Heap} (k : ∀ b o, Solid o → h.get? b = some o → h'.get? b = some o) : Le (hid H h) (hid H h') := fun a o s e => by
  obtain ⟨e, hn⟩ := hid_get e
  exact hid_of (k a o s e) hn
theorem hid_nil {h : Heap} : hid [] h = h.get? := by funext a; unfold hid; simp
theorem le_unhide {H H' : List Addr} {h : Heap} (k : ∀ a ∈ H, a ∈ H') : Le (hid H' h) (hid H h) := fun a o _ e => by
  obtain ⟨e, hn⟩ := hid_get e
  exact hid_of e fun hm => hn (k a hm)

/-- the fixed ground -/
structure Wd where
  prog : Program
  w : World
  hB : Heap
  gl : Str → Option Value
  ok : ∃ mg mb, hB.Ns mainGlobals mg ∧ hB.Ns builtinsNs mb ∧ ∀ x v, gl x = some v → mg x = some v ∨ (mg x = none ∧ mb x = some v)
  lim : hB.NoLimit
  tc : Addr
  P : Around → Env → Part → Prop
  Pm : ∀ A env G G', P A env G → (∀ b o, G b = some o → G' b = some o) → P A env G'
abbrev Wd.M (W : Wd) : Model := model W.prog W.w

def Room (n : Nat) (A : Around) : Prop := A.handled = none ∧ A.depth + n < recursionLimit ∧ A.units + 4 * n + 200 < cLine
theorem Room.le {n m : Nat} {A : Around} (h : Room n A) (k : m ≤ n) : Room m A := ⟨h.1, by have := h.2.1; omega, by have := h.2.2; omega⟩

/-- what a name says -/
def Sees (env : Env) (h : Heap) (x : Str) (v : Value) : Prop :=
  (env.kindOf x = some .local ∧ ∃ m, h.Ns env.locals m ∧ m x = some v) ∨
  ((env.kindOf x = some .cell ∨ env.kindOf x = some .free) ∧ ∃ c, env.cells.lookup x = some c ∧ h.IsCell c (some v))

theorem Sees.keeps {env : Env} {h h' : Heap} {x : Str} {v : Value} (S : Sees env h x v) (k : ∀ b o, h.get? b = some o → h'.get? b = some o) : Sees env h' x v := by
  rcases S with ⟨a, m, hn, e⟩ | ⟨a, c, e, hc⟩
  · exact .inl ⟨a, m, hn.keeps k, e⟩
  · exact .inr ⟨a, c, e, hc.keeps k⟩

abbrev Names := List (Str × D)
/-- what an expression may lean on -/
structure Cx (W : Wd) (env : Env) (H : List Addr) (σ : Names) (s : Shared) : Prop where
  kind : env.scope.kind = .function
  gl : env.globals = mainGlobals
  bl : env.builtins = builtinsNs
  base : ∀ b o, W.hB.get? b = some o → s.heap.get? b = some o
  old : ∀ a ∈ H, ∃ o, s.heap.get? a = some o
  see : ∀ x d, σ.lookup x = some d → ∃ v, Sees env s.heap x v ∧ Rep (hid H s.heap) v d

/-- the heap has grown, nothing that stood has changed -/
def Kp (s s' : Shared) : Prop := ∃ h' tk, s' = { s with heap := h', toks := tk } ∧ ∀ b o, s.heap.get? b = some o → h'.get? b = some o
theorem Kp.get {s s' : Shared} (k : Kp s s') : ∀ b o, s.heap.get? b = some o → s'.heap.get? b = some o := by
  obtain ⟨h', tk, rfl, k⟩ := k; exact k
theorem Kp.refl (s : Shared) : Kp s s := ⟨s.heap, s.toks, rfl, fun _ _ e => e⟩
theorem Kp.trans {s s' s'' : Shared} (h : Kp s s') (k : Kp s' s'') : Kp s s'' := by
  obtain ⟨h', tk, rfl, h⟩ := h
  obtain ⟨h'', tk', rfl, k⟩ := k
  exact ⟨h'', tk', rfl, fun b o e => k b o (h b o e)⟩
theorem Kp.toks (s : Shared) (tk : Nat) : Kp s { s with toks := tk } := ⟨s.heap, tk, rfl, fun _ _ e => e⟩
theorem Kp.push (s : Shared) (o : Obj) (tk : Nat) : Kp s { s with heap := s.heap.push o, toks := tk } := ⟨_, tk, rfl, fun _ _ e => Heap.get?_push_of_some _ e⟩
theorem Kp.push' (s : Shared) (o : Obj) : Kp s { s with heap := s.heap.push o } := ⟨_, s.toks, rfl, fun _ _ e => Heap.get?_push_of_some _ e⟩

theorem get?_below {h : Heap} {a : Addr} (e : h.get? a = none) {b : Addr} {o : Obj} (k : h.get? b = some o) : b ≠ a := fun q => by rw [q, e] at k; cases k

end Mine

namespace Mine

theorem Cx.keeps {W : Wd} {env : Env} {H : List Addr} {σ : Names} {s s' : Shared} (C : Cx W env H σ s) (k : Kp s s') : Cx W env H σ s' :=
  ⟨C.kind, C.gl, C.bl, fun b o e => k.get b o (C.base b o e), fun a ha => let ⟨o, e⟩ := C.old a ha; ⟨o, k.get a o e⟩,
    fun x d e => let ⟨v, S, R⟩ := C.see x d e; ⟨v, S.keeps k.get, R.mono (le_hid fun b o _ e => k.get b o e)⟩⟩
theorem Rep.keeps {H : List Addr} {s s' : Shared} {v : Value} {d : D} (R : Rep (hid H s.heap) v d) (k : Kp s s') : Rep (hid H s'.heap) v d := R.mono (le_hid fun b o _ e => k.get b o e)
theorem Reps.keeps {H : List Addr} {s s' : Shared} {v : List Value} {d : List D} (R : Reps (hid H s.heap) v d) (k : Kp s s') : Reps (hid H s'.heap) v d := R.mono (le_hid fun b o _ e => k.get b o e)

structure Ev (W : Wd) (n : Nat) (sc : Scope) (σ : Names) (e : Expr) (d : D) : Prop where
  run : ∀ (A : Around) (env : Env) (H : List Addr) (s : Shared) (E : Value → Shared → Prop) (Q : Value → Shared → Prop),
    Room n A → env.scope = sc → Cx W env H σ s → (∀ v s', Kp s s' → Rep (hid H s'.heap) v d → Q v s') → wpAny W.M A (eval e env) Q E s
structure EvB (W : Wd) (n : Nat) (sc : Scope) (σ : Names) (e : Expr) (b : Bool) : Prop where
  run : ∀ (A : Around) (env : Env) (H : List Addr) (s : Shared) (E : Value → Shared → Prop) (Q : Bool → Shared → Prop),
    Room n A → env.scope = sc → Cx W env H σ s → (∀ s', Kp s s' → Q b s') → wpAny W.M A (isTrue e env (eval e env)) Q E s
structure Evs (W : Wd) (n : Nat) (sc : Scope) (σ : Names) (es : List Expr) (ds : List D) : Prop where
  run : ∀ (A : Around) (env : Env) (H : List Addr) (s : Shared) (E : Value → Shared → Prop) (Q : List Value → Shared → Prop) (pos : Pos),
    Room n A → env.scope = sc → Cx W env H σ s → (∀ vs s', Kp s s' → Reps (hid H s'.heap) vs ds → Q vs s') → wpAny W.M A (spliced (backTo pos (starEach es env))) Q E s
/-- a binary operation's, a comparison's, a call's value -/
structure Bin (W : Wd) (n : Nat) (op : Operator) (a b d : D) : Prop where
  run : ∀ (A : Around) (H : List Addr) (s : Shared) (E : Value → Shared → Prop) (Q : Value → Shared → Prop) (v u : Value), Room n A → (∀ b o, W.hB.get? b = some o → s.heap.get? b = some o) → (∀ a ∈ H, ∃ o, s.heap.get? a = some o) →
    Rep (hid H s.heap) v a → Rep (hid H s.heap) u b → (∀ v s', Kp s s' → Rep (hid H s'.heap) v d → Q v s') → wpAny W.M A (binaryOp op v u) Q E s
structure Cmp (W : Wd) (n : Nat) (op : CmpOp) (a b : D) (c : Bool) : Prop where
  run : ∀ (A : Around) (H : List Addr) (s : Shared) (E : Value → Shared → Prop) (Q : Value → Shared → Prop) (v u : Value), Room n A →
    Rep (hid H s.heap) v a → Rep (hid H s.heap) u b → Q (.bool c) s → wpAny W.M A (compareOp op v u) Q E s
structure CallV (W : Wd) (n : Nat) (f : Value) (ds : List D) (d : D) : Prop where
  run : ∀ (A : Around) (H : List Addr) (s : Shared) (E : Value → Shared → Prop) (Q : Value → Shared → Prop) (vs : List Value), Room n A → (∀ b o, W.hB.get? b = some o → s.heap.get? b = some o) → (∀ a ∈ H, ∃ o, s.heap.get? a = some o) →
    Reps (hid H s.heap) vs ds → (∀ v s', Kp s s' → Rep (hid H s'.heap) v d → Q v s') → wpAny W.M A (call f vs) Q E s

/-- a value that is a new list of ints -/
structure EvF (W : Wd) (n : Nat) (sc : Scope) (σ : Names) (e : Expr) (ns : List Int) : Prop where
  run : ∀ (A : Around) (env : Env) (H : List Addr) (s : Shared) (E : Value → Shared → Prop) (Q : Value → Shared → Prop),
    Room n A → env.scope = sc → Cx W env H σ s → (∀ a vs c s', Kp s s' → s.heap.get? a = none → s'.heap.get? a = some ({ cls := .type "list", dict := none, data := .seq vs.toArray c, slots := #[] }) → IntsAre vs ns → Q (.ref a) s') → wpAny W.M A (eval e env) Q E s

section
variable {W : Wd} {n : Nat} {sc : Scope} {σ : Names}

theorem ev_name {x : Str} {p : Pos} {d : D} (h : σ.lookup x = some d) (hd : (x == ("__debug__" : Str)) = false := by decide) (hc : (x == ("__classdict__" : Str)) = false := by decide) : Ev W n sc σ (.Name x p) d := by
  refine ⟨fun A env H s E Q hr hs C hQ => ?_⟩
  obtain ⟨v, S, R⟩ := C.see x d h
  refine wpAny_Name ?_ hd
  rcases S with ⟨k, m, hn, e⟩ | ⟨k | k, c, e, hcl⟩
  · exact wpAny_loadName_local C.kind k hn e (hQ v s (Kp.refl s) R)
  · exact wpAny_loadName_cell C.kind k e hcl (hQ v s (Kp.refl s) R)
  · exact wpAny_loadName_free C.kind k e hcl (hQ v s (Kp.refl s) R) hc

theorem ev_glob {x : Str} {p : Pos} {v : Value} (h : W.gl x = some v) (hk : sc.names.lookup x = some .globalImplicit) (hd : (x == ("__debug__" : Str)) = false := by decide) : Ev W n sc σ (.Name x p) (.val v) := by
  refine ⟨fun A env H s E Q hr hs C hQ => ?_⟩
  refine Calls.Name_function_global C.kind (by show env.scope.names.lookup x = _; rw [hs]; exact hk) ?_ hd
  obtain ⟨mg, mb, hg, hb, k⟩ := W.ok
  have q := hQ v s (Kp.refl s) (.val v)
  rw [show loadGlobal env x = loadGlobal env x from rfl]
  unfold loadGlobal
  rw [C.gl, C.bl]
  refine wpAny_bind (wpAny_nsGet (hg.keeps C.base) ?_)
  rcases k x v h with e | ⟨e, e'⟩
  · rw [e]; exact wpAny_pure q
  · rw [e]
    refine wpAny_bind (wpAny_nsGet (hb.keeps C.base) ?_)
    rw [e']; exact wpAny_pure q

theorem ev_int {i : Int} {k : Nat} {p : Pos} : Ev W n sc σ (.Constant (.int i) k p) (.int i) := ⟨fun A env H s E Q hr hs C hQ =>
  wpAny_Constant_int (hQ _ _ (Kp.toks s _) (.int i _))⟩
theorem ev_str {x : Str} {k : Nat} {p : Pos} : Ev W n sc σ (.Constant (.str x) k p) (.str x) := ⟨fun A env H s E Q hr hs C hQ =>
  wpAny_Constant_str (hQ _ _ (Kp.toks s _) (.str x _))⟩
theorem ev_bool {b : Bool} {k : Nat} {p : Pos} : Ev W n sc σ (.Constant (.bool b) k p) (.bool b) := ⟨fun A env H s E Q hr hs C hQ =>
  wpAny_Constant_bool (hQ _ _ (Kp.refl s) (.bool b))⟩
theorem ev_none {k : Nat} {p : Pos} : Ev W n sc σ (.Constant .none k p) .none := ⟨fun A env H s E Q hr hs C hQ =>
  wpAny_Constant_none (hQ _ _ (Kp.refl s) .none)⟩

theorem ev_bin {l r : Expr} {op : Operator} {p : Pos} {a b d : D} (hl : Ev W n sc σ l a) (hr : Ev W n sc σ r b) (h : Bin W n op a b d) : Ev W n sc σ (.BinOp l op r p) d := by
  refine ⟨fun A env H s E Q hA hs C hQ => ?_⟩
  refine wpAny_BinOp (hl.run A env H s E _ hA hs C fun v s₁ k₁ R₁ => hr.run A env H s₁ E _ hA hs (C.keeps k₁) fun u s₂ k₂ R₂ => ?_)
  exact h.run A H s₂ E Q v u hA ((C.keeps k₁).keeps k₂).base ((C.keeps k₁).keeps k₂).old (R₁.keeps k₂) R₂ fun v s₃ k₃ R₃ => hQ v s₃ ((k₁.trans k₂).trans k₃) R₃

theorem evb_cmp {l r : Expr} {op : CmpOp} {p : Pos} {a b : D} {c : Bool} (hl : Ev W n sc σ l a) (hr : Ev W n sc σ r b) (h : Cmp W n op a b c) (hm : behindInMarks op r = false := by with_unfolding_all rfl) : EvB W n sc σ (.Compare l [op] [r] p) c := by
  refine ⟨fun A env H s E Q hA hs C hQ => ?_⟩
  refine wpAny_isTrue_Compare1 (hl.run A env H s E _ hA hs C fun v s₁ k₁ R₁ => hr.run A env H s₁ E _ hA hs (C.keeps k₁) fun u s₂ k₂ R₂ => ?_) hm
  exact h.run A H s₂ E _ v u hA (R₁.keeps k₂) R₂ (wpAny_truthy_bool (hQ s₂ (k₁.trans k₂)))
theorem ev_cmp {l r : Expr} {op : CmpOp} {p : Pos} {a b : D} {c : Bool} (hl : Ev W n sc σ l a) (hr : Ev W n sc σ r b) (h : Cmp W n op a b c) (hm : behindInMarks op r = false := by with_unfolding_all rfl) : Ev W n sc σ (.Compare l [op] [r] p) (.bool c) := by
  refine ⟨fun A env H s E Q hA hs C hQ => ?_⟩
  refine wpAny_Compare1 (hl.run A env H s E _ hA hs C fun v s₁ k₁ R₁ => hr.run A env H s₁ E _ hA hs (C.keeps k₁) fun u s₂ k₂ R₂ => ?_) hm
  exact h.run A H s₂ E _ v u hA (R₁.keeps k₂) R₂ (hQ _ s₂ (k₁.trans k₂) (.bool c))
theorem evb_of {e : Expr} {b : Bool} (h : Ev W n sc σ e (.bool b)) (he : ∀ env whole, isTrue e env whole = (do let v ← whole; standAt e.pos; holding [v] (truthy v)) := by intro _ _; rfl) : EvB W n sc σ e b := by
  refine ⟨fun A env H s E Q hA hs C hQ => ?_⟩
  refine wpAny_isTrue_value (h.run A env H s E _ hA hs C fun v s₁ k₁ R₁ => ?_) (he _ _)
  cases R₁ with
  | bool b => exact wpAny_truthy_bool (hQ s₁ k₁)
theorem evb_not {x : Expr} {p : Pos} {b : Bool} (h : EvB W n sc σ x b) : EvB W n sc σ (.UnaryOp .Not x p) (!b) := by
  refine ⟨fun A env H s E Q hA hs C hQ => ?_⟩
  exact wpAny_isTrue_Not (h.run A env H s E _ hA hs C hQ)
theorem ev_if {t e o : Expr} {p : Pos} {b : Bool} {d : D} (ht : EvB W n sc σ t b) (h1 : b = true → Ev W n sc σ e d) (h2 : b = false → Ev W n sc σ o d) : Ev W n sc σ (.IfExp t e o p) d := by
  refine ⟨fun A env H s E Q hA hs C hQ => ?_⟩
  refine wpAny_IfExp (ht.run A env H s E _ hA hs C fun s₁ k₁ => ?_)
  cases b with
  | true => exact (h1 rfl).run A env H s₁ E Q hA hs (C.keeps k₁) fun v s₂ k₂ R => hQ v s₂ (k₁.trans k₂) R
  | false => exact (h2 rfl).run A env H s₁ E Q hA hs (C.keeps k₁) fun v s₂ k₂ R => hQ v s₂ (k₁.trans k₂) R

/-- and, or -/
structure EvAll (W : Wd) (n : Nat) (sc : Scope) (σ : Names) (op : BoolOp) (es : List Expr) (b : Bool) : Prop where
  run : ∀ (A : Around) (env : Env) (H : List Addr) (s : Shared) (E : Value → Shared → Prop) (Q : Bool → Shared → Prop),
    Room n A → env.scope = sc → Cx W env H σ s → (∀ s', Kp s s' → Q b s') → wpAny W.M A (allTrue op es env) Q E s
theorem evb_bool {op : BoolOp} {es : List Expr} {p : Pos} {b : Bool} (h : EvAll W n sc σ op es b) : EvB W n sc σ (.BoolOp op es p) b := by
  refine ⟨fun A env H s E Q hA hs C hQ => ?_⟩
  exact wpAny_isTrue_BoolOp (h.run A env H s E Q hA hs C hQ)
theorem all_and_nil : EvAll W n sc σ .And [] true := ⟨fun A env H s E Q hA hs C hQ => wpAny_allTrue_And_nil (hQ s (Kp.refl s))⟩
theorem all_or_nil : EvAll W n sc σ .Or [] false := ⟨fun A env H s E Q hA hs C hQ => wpAny_allTrue_Or_nil (hQ s (Kp.refl s))⟩
theorem all_and {e : Expr} {es : List Expr} {b c : Bool} (h : EvB W n sc σ e b) (k : b = true → EvAll W n sc σ .And es c) : EvAll W n sc σ .And (e :: es) (b && c) := by
  refine ⟨fun A env H s E Q hA hs C hQ => ?_⟩
  refine wpAny_allTrue_And_cons (h.run A env H s E _ hA hs C fun s₁ k₁ => ?_)
  cases b with
  | false => exact hQ s₁ k₁
  | true => exact (k rfl).run A env H s₁ E Q hA hs (C.keeps k₁) fun s₂ k₂ => hQ s₂ (k₁.trans k₂)
theorem all_or {e : Expr} {es : List Expr} {b c : Bool} (h : EvB W n sc σ e b) (k : b = false → EvAll W n sc σ .Or es c) : EvAll W n sc σ .Or (e :: es) (b || c) := by
  refine ⟨fun A env H s E Q hA hs C hQ => ?_⟩
  show wpAny W.M A (do match BoolOp.Or, ← isTrue e env (eval e env) with | .And, false => pure false | .Or, true => pure true | _, _ => allTrue .Or es env) Q E s
  refine wpAny_bind (h.run A env H s E _ hA hs C fun s₁ k₁ => ?_)
  cases b with
  | true => exact wpAny_pure (hQ s₁ k₁)
  | false => exact (k rfl).run A env H s₁ E Q hA hs (C.keeps k₁) fun s₂ k₂ => hQ s₂ (k₁.trans k₂)

/-- an argument that stands alone -/
def notStar : Expr → Bool
  | .Starred _ _ => false
  | _ => true
theorem star_plain {e : Expr} {es : List Expr} {env : Env} (h : notStar e = true) : starEach (e :: es) env = (false, eval e env) :: starEach es env := by
  cases e <;> first | rfl | cases h
theorem star_none : ∀ {es : List Expr} {env : Env} {p : Pos}, es.all notStar = true → (backTo p (starEach es env)).any (·.1) = false
  | [], _, _, _ => rfl
  | e :: es, env, p, h => by
    rw [List.all_cons, Bool.and_eq_true] at h
    rw [star_plain h.1]
    show (false || (backTo p (starEach es env)).any (·.1)) = false
    rw [star_none h.2]; rfl

theorem evs_nil : Evs W n sc σ [] [] := ⟨fun A env H s E Q pos hA hs C hQ => wpAny_items_nil (hQ [] s (Kp.refl s) .nil)⟩
theorem evs_cons {e : Expr} {es : List Expr} {d : D} {ds : List D} (h : Ev W n sc σ e d) (k : Evs W n sc σ es ds) (he : notStar e = true := by rfl) : Evs W n sc σ (e :: es) (d :: ds) := by
  refine ⟨fun A env H s E Q pos hA hs C hQ => ?_⟩
  exact wpAny_items_cons (h.run A env H s E _ hA hs C fun v s₁ k₁ R₁ => k.run A env H s₁ E _ pos hA hs (C.keeps k₁) fun vs s₂ k₂ R₂ => hQ _ s₂ (k₁.trans k₂) (.cons (R₁.keeps k₂) R₂)) (star_plain he)

theorem new_hid {W : Wd} {env : Env} {H : List Addr} {σ : Names} {s : Shared} (C : Cx W env H σ s) : s.heap.objs.size ∉ H := fun hm => by
  obtain ⟨o, e⟩ := C.old _ hm
  exact absurd (Heap.lt_size e) (Nat.lt_irrefl _)
theorem new_hid' {H : List Addr} {s : Shared} (C : ∀ a ∈ H, ∃ o, s.heap.get? a = some o) {a : Addr} (ha : s.heap.objs.size ≤ a) : a ∉ H := fun hm => by
  obtain ⟨o, e⟩ := C _ hm
  exact absurd (Heap.lt_size e) (Nat.not_lt.mpr ha)

theorem ev_list {es : List Expr} {p : Pos} {ds : List D} (h : Evs W n sc σ es ds) (hz : ds.length ≤ 1000) : Ev W n sc σ (.List es p) (.list ds) := by
  refine ⟨fun A env H s E Q hA hs C hQ => ?_⟩
  refine wpAny_List (h.run A env H s E _ p hA hs C fun vs s₁ k₁ R₁ => ⟨by rw [R₁.length, sizeLine_eq]; omega, hQ _ _ (k₁.trans (Kp.push' s₁ _)) ?_⟩)
  exact .list (hid_of (Heap.get?_push_size _ rfl) (new_hid (C.keeps k₁))) (R₁.keeps (Kp.push' s₁ _))
theorem ev_tup {es : List Expr} {k : Nat} {p : Pos} {ds : List D} (h : Evs W n sc σ es ds) (hz : ds.length ≤ 1000) : Ev W n sc σ (.Tuple es k p) (.tup ds) := by
  refine ⟨fun A env H s E Q hA hs C hQ => ?_⟩
  refine wpAny_Tuple (h.run A env H s E _ p hA hs C fun vs s₁ k₁ R₁ => ⟨by rw [R₁.length, sizeLine_eq]; omega, hQ _ _ (k₁.trans (Kp.push' s₁ _)) ?_⟩)
  exact .tup (hid_of (Heap.get?_push_size _ rfl) (new_hid (C.keeps k₁))) (R₁.keeps (Kp.push' s₁ _))

/-- what may be called -/
def Callee (W : Wd) (f : Value) : Prop := (∃ id, f = .builtin id) ∨ (∃ T, f = .type T) ∨ ∃ a o fd, f = .ref a ∧ W.hB.get? a = some o ∧ o.data = .func fd

theorem ev_call {x : Str} {fp p : Pos} {e : Expr} {es : List Expr} {f : Value} {ds : List D} {d : D} (hf : Ev W n sc σ (.Name x fp) (.val f)) (ha : Evs W n sc σ (e :: es) ds) (hc : Callee W f) (h : CallV W n f ds d)
    (hn : (e :: es).all notStar = true := by rfl) : Ev W n sc σ (.Call (.Name x fp) (e :: es) [] p) d := by
  have hn' : notStar e = true ∧ es.all notStar = true := by rw [List.all_cons, Bool.and_eq_true] at hn; exact hn
  have he : ∀ env, starEach (e :: es) env = (false, eval e env) :: starEach es env := fun env => star_plain hn'.1
  have hp : ∀ env p, (backTo p (starEach es env)).any (·.1) = false := fun env p => star_none hn'.2
  refine ⟨fun A env H s E Q hA hs C hQ => ?_⟩
  show wpAny W.M A (do callWith p (← eval (.Name x fp) env) [] (backTo p (starEach (e :: es) env)) (backToKw p (keywordEach [] env))) Q E s
  refine wpAny_bind (hf.run A env H s E _ hA hs C fun v s₁ k₁ R₁ => ?_)
  cases R₁
  have fin : wpAny W.M A (spliced (backTo p (starEach (e :: es) env))) (fun vs s₂ => (∀ b o, W.hB.get? b = some o → s₂.heap.get? b = some o) ∧ wpAny W.M A (call f vs) Q E s₂) E s₁ := by
    refine ha.run A env H s₁ E _ p hA hs (C.keeps k₁) fun vs s₂ k₂ R₂ => ⟨((C.keeps k₁).keeps k₂).base, ?_⟩
    exact h.run A H s₂ E Q vs hA ((C.keeps k₁).keeps k₂).base ((C.keeps k₁).keeps k₂).old R₂ fun v s₃ k₃ R₃ => hQ v s₃ ((k₁.trans k₂).trans k₃) R₃
  show wpAny W.M A (callWith p f [] (backTo p (starEach (e :: es) env)) []) Q E s₁
  have hall : ((backTo p (starEach (e :: es) env)).any (·.1)) = false := by rw [he]; show (false || (backTo p (starEach es env)).any (·.1)) = false; rw [hp]; rfl
  rcases hc with ⟨id, rfl⟩ | ⟨T, rfl⟩ | ⟨a, o, fd, rfl, ho, hd⟩
  · refine Calls.callWith_builtin hall ?_
    rw [he] at fin ⊢
    exact Calls.evalArgs_plain (wpAny_mono fin (fun vs s₂ q => q.2) fun _ _ q => q)
  · refine PySem.callWith_type hall ?_
    rw [he] at fin ⊢
    exact Calls.evalArgs_plain (wpAny_mono fin (fun vs s₂ q => q.2) fun _ _ q => q)
  · refine Calls.callWith_function (o := o) (fd := fd) ?_
    rw [he] at fin ⊢
    exact Calls.evalArgs_plain (wpAny_mono fin (fun vs s₂ q => ⟨⟨q.1 _ _ ho, hd⟩, q.2⟩) fun _ _ q => q)
theorem ev_call0 {x : Str} {fp p : Pos} {f : Value} {d : D} (hf : Ev W n sc σ (.Name x fp) (.val f)) (hc : ∃ a o fd, f = .ref a ∧ W.hB.get? a = some o ∧ o.data = .func fd) (h : CallV W n f [] d) : Ev W n sc σ (.Call (.Name x fp) [] [] p) d := by
  refine ⟨fun A env H s E Q hA hs C hQ => ?_⟩
  show wpAny W.M A (do callWith p (← eval (.Name x fp) env) [] (backTo p (starEach [] env)) (backToKw p (keywordEach [] env))) Q E s
  refine wpAny_bind (hf.run A env H s E _ hA hs C fun v s₁ k₁ R₁ => ?_)
  cases R₁
  show wpAny W.M A (callWith p f [] [] []) Q E s₁
  obtain ⟨a, o, fd, rfl, ho, hd⟩ := hc
  refine Calls.callWith_function (o := o) (fd := fd) (PyProof.Rows.evalArgs_none ⟨⟨(C.keeps k₁).base _ _ ho, hd⟩, ?_⟩)
  exact h.run A H s₁ E Q [] hA (C.keeps k₁).base (C.keeps k₁).old .nil fun v s₃ k₃ R₃ => hQ v s₃ (k₁.trans k₃) R₃
end
end Mine

namespace Mine
section
variable {W : Wd} {n : Nat}

/-- ints of a size that asks no room -/
def Sm (a : Int) : Prop := a.natAbs < 2 ^ 600
theorem sm_bits {a : Int} (h : Sm a) : Builtin.Int.intBits a ≤ 2 ^ 20 := by
  have e : Builtin.Int.intBits a ≤ 601 := by
    unfold Builtin.Int.intBits
    by_cases h0 : a.natAbs = 0
    · simp [h0]; split <;> omega
    · have := (Nat.log2_lt h0).mpr h
      first | omega | (split <;> omega)
  exact Nat.le_trans e (by decide)
theorem sm_mul {a b : Int} (h : Sm a) (k : Sm b) : IntMulOk a b := IntMulOk.of_bits (sm_bits h) (sm_bits k)
theorem sm_div {a b : Int} (h : Sm b) : Builtin.divisionGoesByPylong a b = false := by
  refine PyProof.noPylong_of_log2 ?_
  by_cases h0 : b.natAbs = 0
  · rw [h0]; decide +kernel
  · have := (Nat.log2_lt h0).mpr h
    omega

theorem bin_add {a b : Int} : Bin W n .Add (.int a) (.int b) (.int (a + b)) := by
  refine ⟨fun A H s E Q v u hA hb ho Ra Rb hQ => ?_⟩
  cases Ra; cases Rb
  exact P.add_int (hQ _ _ (Kp.toks s _) (.int _ _))
theorem bin_sub {a b : Int} : Bin W n .Sub (.int a) (.int b) (.int (a - b)) := by
  refine ⟨fun A H s E Q v u hA hb ho Ra Rb hQ => ?_⟩
  cases Ra; cases Rb
  exact P.sub_int (hQ _ _ (Kp.toks s _) (.int _ _))
theorem bin_mul {a b : Int} (h : IntMulOk a b) : Bin W n .Mult (.int a) (.int b) (.int (a * b)) := by
  refine ⟨fun A H s E Q v u hA hb ho Ra Rb hQ => ?_⟩
  cases Ra; cases Rb
  exact P.mul_int (hQ _ _ (Kp.toks s _) (.int _ _)) h
theorem bin_div {a b : Int} (h0 : b ≠ 0) (h : Sm b) : Bin W n .FloorDiv (.int a) (.int b) (.int (a.fdiv b)) := by
  refine ⟨fun A H s E Q v u hA hb ho Ra Rb hQ => ?_⟩
  cases Ra; cases Rb
  exact floordiv_int h0 (hQ _ _ (Kp.toks s _) (.int _ _)) (.inl (sm_div h))
theorem bin_mod {a b : Int} (h0 : b ≠ 0) : Bin W n .Mod (.int a) (.int b) (.int (a.fmod b)) := by
  refine ⟨fun A H s E Q v u hA hb ho Ra Rb hQ => ?_⟩
  cases Ra; cases Rb
  exact mod_int' h0 (hQ _ _ (Kp.toks s _) (.int _ _))
theorem bin_pow12 : Bin W n .Pow (.int 10) (.int 12) (.int (10 ^ 12)) := by
  refine ⟨fun A H s E Q v u hA hb ho Ra Rb hQ => ?_⟩
  cases Ra; cases Rb
  exact AutoIntOps.pow_4 (by decide) (by decide) (by decide) (by decide) (by decide +kernel) (hQ _ _ (Kp.toks s _) (.int _ _))
theorem bin_addL {ds es : List D} (hz : ds.length + es.length ≤ 2000) : Bin W n .Add (.list ds) (.list es) (.list (ds ++ es)) := by
  refine ⟨fun A H s E Q v u hA hb ho Ra Rb hQ => ?_⟩
  cases Ra with
  | list e r =>
    cases Rb with
    | list e' r' =>
      rename_i a vs m b ws m'
      have hz' : vs.toArray.size + ws.toArray.size ≤ sizeLine := by rw [List.size_toArray, List.size_toArray, r.length, r'.length, sizeLine_eq]; omega
      refine P.add_list (hid_get e).1 (hid_get e').1 (hQ _ _ (Kp.push' s _) ?_) hz'
      have e1 : vs.toArray ++ ws.toArray = (vs ++ ws).toArray := by simp
      rw [e1]
      exact .list (hid_of (Heap.get?_push_size _ rfl) (new_hid' ho (Nat.le_refl _))) ((r.append r').keeps (Kp.push' s _))

theorem neg_int' {σ : Names} {sc : Scope} {x : Expr} {p : Pos} {a : Int} (h : Ev W n sc σ x (.int a)) : Ev W n sc σ (.UnaryOp .USub x p) (.int (-a)) := by
  refine ⟨fun A env H s E Q hA hs C hQ => ?_⟩
  show wpAny W.M A (do let v ← eval x env; standAt p; holding [v] (unaryOp .USub v)) Q E s
  refine wpAny_bind (h.run A env H s E _ hA hs C fun v s₁ k₁ R₁ => wpAny_bind (wpAny_standAt (wpAny_holding ?_)))
  cases R₁
  exact P.neg_int (hQ _ _ (k₁.trans (Kp.toks s₁ _)) (.int _ _))

theorem cmp_lt {a b : Int} : Cmp W n .Lt (.int a) (.int b) (decide (a < b)) := by
  refine ⟨fun A H s E Q v u hA Ra Rb hQ => ?_⟩; cases Ra; cases Rb; exact P.lt_int hQ
theorem cmp_le {a b : Int} : Cmp W n .LtE (.int a) (.int b) (decide (a ≤ b)) := by
  refine ⟨fun A H s E Q v u hA Ra Rb hQ => ?_⟩; cases Ra; cases Rb; exact P.le_int hQ
theorem cmp_gt {a b : Int} : Cmp W n .Gt (.int a) (.int b) (decide (a > b)) := by
  refine ⟨fun A H s E Q v u hA Ra Rb hQ => ?_⟩; cases Ra; cases Rb; exact P.gt_int hQ
theorem cmp_ge {a b : Int} : Cmp W n .GtE (.int a) (.int b) (decide (a ≥ b)) := by
  refine ⟨fun A H s E Q v u hA Ra Rb hQ => ?_⟩; cases Ra; cases Rb; exact P.ge_int hQ
theorem cmp_eq {a b : Int} : Cmp W n .Eq (.int a) (.int b) (a == b) := by
  refine ⟨fun A H s E Q v u hA Ra Rb hQ => ?_⟩; cases Ra; cases Rb; exact P.eq_int hQ
theorem cmp_ne {a b : Int} : Cmp W n .NotEq (.int a) (.int b) (a != b) := by
  refine ⟨fun A H s E Q v u hA Ra Rb hQ => ?_⟩; cases Ra; cases Rb; exact P.ne_int hQ
theorem cmp_eqS {a b : Str} : Cmp W n .Eq (.str a) (.str b) (a == b) := by
  refine ⟨fun A H s E Q v u hA Ra Rb hQ => ?_⟩; cases Ra; cases Rb; exact PyProof.Rows.eq_str hQ
theorem cmp_isNotNone_list {ds : List D} : Cmp W n .IsNot (.list ds) .none true := by
  refine ⟨fun A H s E Q v u hA Ra Rb hQ => ?_⟩; cases Ra; cases Rb; exact isNot_none hQ
theorem cmp_isNotNone_none : Cmp W n .IsNot .none .none false := by
  refine ⟨fun A H s E Q v u hA Ra Rb hQ => ?_⟩; cases Ra; cases Rb; exact isNot_none hQ

theorem isList_of {h : Heap} {H : List Addr} {a : Addr} {vs : List Value} {m : Nat} (e : hid H h a = some { cls := .type "list", dict := none, data := .seq vs.toArray m, slots := #[] }) : h.IsList a vs.toArray := ⟨_, (hid_get e).1, rfl, m, rfl⟩
theorem isTup_of {h : Heap} {H : List Addr} {a : Addr} {vs : List Value} {m : Nat} (e : hid H h a = some { cls := .type "tuple", dict := none, data := .seq vs.toArray m, slots := #[] }) : IsTup h a vs.toArray := ⟨_, (hid_get e).1, rfl, m, rfl⟩

/-- equality of two things that can be told -/
def Eqs (A : Around) (s : Shared) (v u : Value) (c : Bool) : Prop := SeqAt.EqAt A s v u c

theorem Reps.strs {G : Part} : ∀ {xs : List Str} {vs : List Value}, Reps G vs (xs.map D.str) → ∀ v ∈ vs, ∃ x t, v = .str x t
  | [], _, h, v, hv => by cases h; cases hv
  | x :: xs, _, h, v, hv => by
    cases h with
    | cons h r =>
      cases h
      rcases List.mem_cons.mp hv with rfl | hv
      · exact ⟨_, _, rfl⟩
      · exact r.strs v hv

theorem any_strs {G : Part} (y : Str) : ∀ {xs : List Str} {vs : List Value}, Reps G vs (xs.map D.str) → vs.any (fun v => match v with | .str x _ => x == y | _ => false) = xs.any (· == y)
  | [], _, h => by cases h; rfl
  | x :: xs, _, h => by
    cases h with
    | cons h r =>
      cases h
      rw [List.any_cons, List.any_cons, any_strs y r]
theorem any_ints {G : Part} (y : Int) : ∀ {xs : List Int} {vs : List Value}, Reps G vs (iL xs) → vs.any (fun v => match v with | .int x _ => x == y | _ => false) = xs.any (· == y)
  | [], _, h => by cases h; rfl
  | x :: xs, _, h => by
    cases h with
    | cons h r =>
      cases h
      rw [List.any_cons, List.any_cons, any_ints y r]

theorem cmp_inS {x : Str} {xs : List Str} : Cmp W n .In (.str x) (.list (xs.map .str)) (xs.any (· == x)) := by
  refine ⟨fun A H s E Q v u hA Ra Rb hQ => ?_⟩
  cases Ra with
  | str x t =>
    cases Rb with
    | list e r =>
      refine SeqAt.in_listAt (fun v => match v with | .str y _ => y == x | _ => false) (isList_of e) (fun y hy => ?_) ?_
      · obtain ⟨z, tk, rfl⟩ := r.strs y (by simpa using hy)
        exact SeqAt.EqAt.str_str _ _ _ _
      · rw [List.any_toArray, any_strs x r]; exact hQ
theorem cmp_notInS {x : Str} {xs : List Str} : Cmp W n .NotIn (.str x) (.list (xs.map .str)) (!xs.any (· == x)) := by
  refine ⟨fun A H s E Q v u hA Ra Rb hQ => ?_⟩
  cases Ra with
  | str x t =>
    cases Rb with
    | list e r =>
      refine SeqAt.notIn_listAt (fun v => match v with | .str y _ => y == x | _ => false) (isList_of e) (fun y hy => ?_) ?_
      · obtain ⟨z, tk, rfl⟩ := r.strs y (by simpa using hy)
        exact SeqAt.EqAt.str_str _ _ _ _
      · rw [List.any_toArray, any_strs x r]; exact hQ
theorem intsAll {vs : List Value} {ns : List Int} (h : IntsAre vs ns) : ∀ v ∈ vs, ∃ x t, v = .int x t := by
  induction h with
  | nil => intro v hv; cases hv
  | cons n t _ ih =>
    intro v hv
    rcases List.mem_cons.mp hv with rfl | hv
    · exact ⟨_, _, rfl⟩
    · exact ih v hv
theorem cmp_inI {x : Int} {xs : List Int} : Cmp W n .In (.int x) (.list (iL xs)) (xs.any (· == x)) := by
  refine ⟨fun A H s E Q v u hA Ra Rb hQ => ?_⟩
  cases Ra with
  | int x t =>
    cases Rb with
    | list e r =>
      refine SeqAt.in_listAt (fun v => match v with | .int y _ => y == x | _ => false) (isList_of e) (fun y hy => ?_) ?_
      · obtain ⟨z, tk, rfl⟩ := intsAll r.toI y (by simpa using hy)
        exact SeqAt.EqAt.int_int _ _ _ _
      · rw [List.any_toArray, any_ints x r]; exact hQ

theorem intsAt {vs : List Value} {ns : List Int} (h : IntsAre vs ns) : ∀ (i : Nat) (hi : i < vs.length) (hj : i < ns.length), ∃ t, vs[i] = .int ns[i] t := by
  induction h with
  | nil => intro i hi; cases hi
  | cons n t _ ih =>
    intro i hi hj
    cases i with
    | zero => exact ⟨t, rfl⟩
    | succ i => simpa using ih i (by simpa using hi) (by simpa using hj)

theorem all_eq : ∀ (xs ys : List Int), xs.length = ys.length → (List.range xs.length).all (fun j => xs.getD j 0 == ys.getD j 0) = decide (xs = ys)
  | [], [], _ => rfl
  | [], _ :: _, h => by cases h
  | _ :: _, [], h => by cases h
  | x :: xs, y :: ys, h => by
    have ih := all_eq xs ys (by simpa using h)
    rw [List.length_cons, List.range_succ_eq_map, List.all_cons, List.all_map]
    have e : (fun j => (x :: xs).getD j 0 == (y :: ys).getD j 0) ∘ Nat.succ = fun j => xs.getD j 0 == ys.getD j 0 := by funext j; simp
    rw [e, ih]
    by_cases hx : x = y <;> by_cases hxs : xs = ys <;> simp [hx, hxs]

/-- two lists of ints -/
theorem eqI {A : Around} {s : Shared} {a b : Addr} {vs ws : List Value} {xs ys : List Int} (hu : A.units < cLine) (ha : s.heap.IsList a vs.toArray) (hb : s.heap.IsList b ws.toArray) (hx : IntsAre vs xs) (hy : IntsAre ws ys) :
    SeqAt.RcAt A s (.ref a) (.ref b) (decide (xs = ys)) := by
  by_cases hl : xs.length = ys.length
  · have h1 := SeqAt.RcAt.lists (e := fun j => xs.getD j 0 == ys.getD j 0) ha hb (by simp [hx.length, hy.length, hl]) hu (fun j h1 h2 => by
      have h1' : j < vs.length := by simpa using h1
      have h2' : j < ws.length := by simpa using h2
      have g1 : j < xs.length := by rw [← hx.length]; exact h1'
      have g2 : j < ys.length := by rw [← hy.length]; exact h2'
      obtain ⟨t, e1⟩ := intsAt hx j h1' g1
      obtain ⟨t', e2⟩ := intsAt hy j h2' g2
      have e1' : vs.toArray[j] = .int xs[j] t := by simpa using e1
      have e2' : ws.toArray[j] = .int ys[j] t' := by simpa using e2
      rw [e1', e2']
      have q : (xs.getD j 0 == ys.getD j 0) = (xs[j] == ys[j]) := by
        simp [List.getD, g1, g2]
      rw [q]
      exact SeqAt.EqAt.int_int _ _ _ _)
    have q : ((List.range vs.toArray.size).all fun j => xs.getD j 0 == ys.getD j 0) = decide (xs = ys) := by
      rw [List.size_toArray, hx.length]; exact all_eq xs ys hl
    rw [q] at h1
    exact h1
  · have h1 := SeqAt.RcAt.lists_lengths ha hb (by simp [hx.length, hy.length, hl]) hu
    have q : decide (xs = ys) = false := decide_eq_false fun e => hl (by rw [e])
    rw [q]; exact h1
theorem neI {A : Around} {s : Shared} {a b : Addr} {vs ws : List Value} {xs ys : List Int} (hu : A.units < cLine) (ha : s.heap.IsList a vs.toArray) (hb : s.heap.IsList b ws.toArray) (hx : IntsAre vs xs) (hy : IntsAre ws ys) :
    SeqAt.RcNeAt A s (.ref a) (.ref b) (decide (xs ≠ ys)) := by
  by_cases hl : xs.length = ys.length
  · have h1 := SeqAt.RcNeAt.lists (e := fun j => xs.getD j 0 == ys.getD j 0) ha hb (by simp [hx.length, hy.length, hl]) hu (fun j h1 h2 => by
      have h1' : j < vs.length := by simpa using h1
      have h2' : j < ws.length := by simpa using h2
      have g1 : j < xs.length := by rw [← hx.length]; exact h1'
      have g2 : j < ys.length := by rw [← hy.length]; exact h2'
      obtain ⟨t, e1⟩ := intsAt hx j h1' g1
      obtain ⟨t', e2⟩ := intsAt hy j h2' g2
      have e1' : vs.toArray[j] = .int xs[j] t := by simpa using e1
      have e2' : ws.toArray[j] = .int ys[j] t' := by simpa using e2
      rw [e1', e2']
      have q : (xs.getD j 0 == ys.getD j 0) = (xs[j] == ys[j]) := by
        simp [List.getD, g1, g2]
      rw [q]
      exact SeqAt.EqAt.int_int _ _ _ _)
    have q : (!(List.range vs.toArray.size).all fun j => xs.getD j 0 == ys.getD j 0) = decide (xs ≠ ys) := by
      rw [List.size_toArray, hx.length, all_eq xs ys hl]; simp
    rw [q] at h1
    exact h1
  · have h1 := SeqAt.RcNeAt.lists_lengths ha hb (by simp [hx.length, hy.length, hl]) hu
    have q : decide (xs ≠ ys) = true := decide_eq_true fun e => hl (by rw [e])
    rw [q]; exact h1
theorem cmp_neL {xs ys : List Int} : Cmp W n .NotEq (.list (iL xs)) (.list (iL ys)) (decide (xs ≠ ys)) := by
  refine ⟨fun A H s E Q v u hA Ra Rb hQ => ?_⟩
  cases Ra with
  | list e r =>
    cases Rb with
    | list e' r' =>
      refine cmp_ofNotEq (neI (by have := hA.2.2; omega) (isList_of e) (isList_of e') r.toI r'.toI _ _ _ _ ?_)
      exact hQ
end
end Mine

namespace Mine

/-- the sorted list -/
def sortL (ns : List Int) : List Int := ns.mergeSort (fun a b => decide (a ≤ b))
theorem sortL_perm (ns : List Int) : (sortL ns).Perm ns := List.mergeSort_perm ..
theorem sortL_sorted (ns : List Int) : (sortL ns).Pairwise (· ≤ ·) := by
  have h := List.pairwise_mergeSort (le := fun a b : Int => decide (a ≤ b)) (by intro a b c; simp only [decide_eq_true_eq]; omega) (by intro a b; simp only [Bool.or_eq_true, decide_eq_true_eq]; omega) ns
  exact h.imp fun h => by simpa using h
theorem sortL_unique {ns ms : List Int} (h : ms.Perm ns) (k : ms.Pairwise (· ≤ ·)) : ms = sortL ns :=
  List.Perm.eq_of_pairwise (fun a b _ _ x y => Int.le_antisymm x y) k (sortL_sorted ns) (h.trans (sortL_perm ns).symm)

section
variable {W : Wd} {n : Nat}

theorem call_len {ds : List D} (hz : ds.length ≤ 100000) : CallV W n (.builtin "len") [.list ds] (.int ds.length) := by
  refine ⟨fun A H s E Q vs hA hb ho R hQ => ?_⟩
  cases R with
  | cons r t =>
    cases t
    cases r with
    | list e r =>
      rename_i a ws m
      refine PyProof.Rows.len_list (isList_of e) (by rw [List.size_toArray, r.length]; omega) ?_
      have q : ((ws.toArray.size : Nat) : Int) = ((ds.length : Nat) : Int) := by rw [List.size_toArray, r.length]
      rw [q]
      exact hQ _ _ (Kp.toks s _) (.int _ _)
theorem call_abs {a : Int} : CallV W n (.builtin "abs") [.int a] (.int a.natAbs) := by
  refine ⟨fun A H s E Q vs hA hb ho R hQ => ?_⟩
  cases R with
  | cons r t =>
    cases t; cases r
    refine call_abs_int fun u tk => ?_
    have q : (if a < 0 then -a else a) = (a.natAbs : Int) := by split <;> omega
    rw [q]
    exact hQ _ _ (Kp.toks s _) (.int _ _)
theorem call_int {a : Int} : CallV W n (.type "int") [.int a] (.int a) := by
  refine ⟨fun A H s E Q vs hA hb ho R hQ => ?_⟩
  cases R with
  | cons r t =>
    cases t; cases r
    exact call_int_int (hQ _ _ (Kp.refl s) (.int _ _))
theorem call_intB {a : Bool} : CallV W n (.type "int") [.bool a] (.int (if a then 1 else 0)) := by
  refine ⟨fun A H s E Q vs hA hb ho R hQ => ?_⟩
  cases R with
  | cons r t =>
    cases t; cases r
    exact call_int_bool (hQ _ _ (Kp.toks s _) (.int _ _))
theorem call_sum {ns : List Int} : CallV W n (.builtin "sum") [.list (iL ns)] (.int ns.sum) := by
  refine ⟨fun A H s E Q vs hA hb ho R hQ => ?_⟩
  cases R with
  | cons r t =>
    cases t
    cases r with
    | list e r =>
      rename_i a ws m
      have hi := r.toI
      obtain ⟨xs, ex⟩ := AllInts.items hi.allInts
      have hl := isList_of e
      rw [ex] at hl
      refine sum_intListG hA.1 hl fun h' tk t' hk => ?_
      have q : preSum (numAt xs) xs.size = ns.sum := by
        rw [preSum_eq, List.take_of_length_le (by simp), ← nums_intItems, ← ex]
        show (numsOf ws).sum = _
        rw [hi.numsOf]
      rw [q]
      exact hQ _ _ ⟨h', tk, rfl, hk⟩ (.int _ _)
theorem call_sorted {ns : List Int} (h64 : ns.length < 64) : CallV W n (.builtin "sorted") [.list (iL ns)] (.list (iL (sortL ns))) := by
  refine ⟨fun A H s E Q vs hA hb ho R hQ => ?_⟩
  cases R with
  | cons r t =>
    cases t
    cases r with
    | list e r =>
      rename_i a ws m
      have hi := r.toI
      refine sorted_ints (isList_of e) hi (by rw [hi.length]; exact h64) fun out ns' a1 a2 a3 => ?_
      obtain ⟨c, hc⟩ := sortedAll_at s.heap ws out
      have k : Kp s { s with heap := sortedAll s.heap ws out } := ⟨_, s.toks, rfl, fun _ _ e => sortedAll_old e⟩
      refine hQ _ _ k ?_
      rw [← sortL_unique a2 a3]
      refine .list (vs := out.toList) (n := c) (hid_of ?_ (new_hid' ho (Nat.le_succ _))) (Reps.ofI a1)
      simpa using hc
theorem call_range1 {b : Int} : CallV W n (.type "range") [.int b] (.rng 0 b) := by
  refine ⟨fun A H s E Q vs hA hb ho R hQ => ?_⟩
  cases R with
  | cons r t =>
    cases t; cases r
    refine call_range_1 (hQ _ _ (Kp.push s _ _) (.rng (hid_of (Heap.get?_push_size _ rfl) (new_hid' ho (Nat.le_refl _)))))
theorem call_range2 {a b : Int} : CallV W n (.type "range") [.int a, .int b] (.rng a b) := by
  refine ⟨fun A H s E Q vs hA hb ho R hQ => ?_⟩
  cases R with
  | cons r t =>
    cases t with
    | cons r' t =>
      cases t; cases r; cases r'
      refine call_range_2 (hQ _ _ (Kp.push s _ _) (.rng (hid_of (Heap.get?_push_size _ rfl) (new_hid' ho (Nat.le_refl _)))))
theorem call_list {ds : List D} (hz : ds.length ≤ 100000) : CallV W n (.type "list") [.list ds] (.list ds) := by
  refine ⟨fun A H s E Q vs hA hb ho R hQ => ?_⟩
  cases R with
  | cons r t =>
    cases t
    cases r with
    | list e r =>
      rename_i a ws m
      refine call_list_seq a (.inl rfl) (hid_get e).1 rfl rfl (fun h' c' hk hn => ?_) (by rw [List.size_toArray, r.length, sizeLine_eq]; omega)
      have k : Kp s { s with heap := h' } := ⟨h', s.toks, rfl, hk⟩
      exact hQ _ _ k (.list (hid_of hn (new_hid' ho (Nat.le_refl _))) (r.keeps k))
theorem call_isBool {a : Int} : CallV W n (.builtin "isinstance") [.int a, .val (.type "bool")] (.bool false) := by
  refine ⟨fun A H s E Q vs hA hb ho R hQ => ?_⟩
  cases R with
  | cons r t =>
    cases t with
    | cons r' t =>
      cases t; cases r; cases r'
      exact IsiPair.int_bool (hQ _ _ (Kp.toks s _) (.bool _))
theorem call_isInt {a : Int} : CallV W n (.builtin "isinstance") [.int a, .val (.type "int")] (.bool true) := by
  refine ⟨fun A H s E Q vs hA hb ho R hQ => ?_⟩
  cases R with
  | cons r t =>
    cases t with
    | cons r' t =>
      cases t; cases r; cases r'
      exact IsiPair.int_int (hQ _ _ (Kp.refl s) (.bool _))

variable {sc : Scope} {σ : Names}

/-- an item -/
def itemOf (ds : List D) (k : Int) : Option D := if 0 ≤ k then ds[k.toNat]? else if -(ds.length : Int) ≤ k then ds[(k + ds.length).toNat]? else none

theorem item_list_of {A : Around} {H : List Addr} {s : Shared} {E : Value → Shared → Prop} {Q : Value → Shared → Prop} {v u : Value} {ds : List D} {k : Int} {d : D} (hz : ds.length ≤ 100000)
    (hv : Rep (hid H s.heap) v (.list ds)) (hu : Rep (hid H s.heap) u (.int k)) (hk : itemOf ds k = some d) (hQ : ∀ x, Rep (hid H s.heap) x d → Q x s) : wpAny W.M A (getItem v u) Q E s := by
  cases hv with
  | list e r =>
    cases hu
    unfold itemOf at hk
    split at hk
    · rename_i h0
      obtain ⟨x, hx, rx⟩ := r.get hk
      have hlt : k.toNat < ds.length := by
        rcases Nat.lt_or_ge k.toNat ds.length with h | h
        · exact h
        · rw [List.getElem?_eq_none h] at hk; cases hk
      exact wpAny_getItem_list (isList_of e) h0 (by omega) (by simpa using hx) (hQ x rx)
    · rename_i h0
      split at hk
      · rename_i h1
        obtain ⟨x, hx, rx⟩ := r.get hk
        refine wpAny_getItem_list_neg (isList_of e) (by omega) (by rw [List.size_toArray, r.length]; exact h1) (by omega) (x := x) ?_ (hQ x rx)
        rw [List.size_toArray, r.length]
        simpa using hx
      · cases hk
theorem item_tup_of {A : Around} {H : List Addr} {s : Shared} {E : Value → Shared → Prop} {Q : Value → Shared → Prop} {v u : Value} {ds : List D} {k : Nat} {d : D} (hz : ds.length ≤ 100000)
    (hv : Rep (hid H s.heap) v (.tup ds)) (hu : Rep (hid H s.heap) u (.int k)) (hk : ds[k]? = some d) (hQ : ∀ x, Rep (hid H s.heap) x d → Q x s) : wpAny W.M A (getItem v u) Q E s := by
  cases hv with
  | tup e r =>
    cases hu
    obtain ⟨x, hx, rx⟩ := r.get hk
    have hlt : k < ds.length := by
      rcases Nat.lt_or_ge k ds.length with h | h
      · exact h
      · rw [List.getElem?_eq_none h] at hk; cases hk
    refine PyProof.Rows.getItem_tuple (j := k) (isTup_of e) (by omega) (by omega) ?_ (by simpa using hx) (hQ x rx)
    rw [List.size_toArray, r.length]
    unfold seqIndex?
    simp only [show ¬ ((k : Int) < 0) by omega, if_false]
    simp; omega

theorem subs_tail {A : Around} {value slice : Expr} {v u : Value} {s : Shared} {T id : String} {E : Value → Shared → Prop} {Q : Value → Shared → Prop} (hT : s.TypeIs v T)
    (hl : typeLookup (.type T) "__getitem__" = pure (some (.builtin id)))
    (hs : ∀ o i, subscripted slice false o i = operate [o, i] (getItem o i))
    (h : wpAny W.M A (getItem v u) Q E s) : wpAny W.M A (subscriptTail value slice v u) Q E s := by
  unfold subscriptTail
  rw [getitemInPython_of_ne hT.not_modules]
  refine wpAny_bind (wpAny_bind (wpAny_specialOf hT hl ?_))
  have fin : wpAny W.M A (operate [v, u] (getItem v u)) (fun r s₃ => wpAny W.M A (letTemporaryGo value v r >>= fun _ => pure r) Q E s₃) E s :=
    wpAny_operating (wpAny_mono h (fun r s₃ h₃ => wpAny_bind (wpAny_letTemporaryGo (wpAny_pure h₃))) fun _ _ x => x)
  rw [← hs] at fin
  refine wpAny_pure ?_
  exact wpAny_bind fin

/-- an index that is no slice -/
def notSlice : Expr → Bool
  | .Slice .. => false
  | _ => true
theorem sub_plain {e : Expr} {o i : Value} (h : notSlice e = true) : subscripted e false o i = operate [o, i] (getItem o i) := by
  cases e <;> first | rfl | cases h
theorem ev_item {value slice : Expr} {p : Pos} {ds : List D} {k : Int} {d : D} (hv : Ev W n sc σ value (.list ds)) (hk : Ev W n sc σ slice (.int k)) (hd : itemOf ds k = some d) (hz : ds.length ≤ 100000)
    (hn : notSlice slice = true := by rfl) : Ev W n sc σ (.Subscript value slice p) d := by
  refine ⟨fun A env H s E Q hA hsc C hQ => ?_⟩
  refine Subscript_ (hv.run A env H s E _ hA hsc C fun v s₁ k₁ R₁ => hk.run A env H s₁ E _ hA hsc (C.keeps k₁) fun u s₂ k₂ R₂ => ?_)
  have R₁' := R₁.keeps k₂
  have hT : s₂.TypeIs v "list" := by cases R₁' with | list e r => exact (isList_of e).typeIs
  refine subs_tail hT slot_list_getitem.lookup (fun _ _ => sub_plain hn) (item_list_of hz R₁' R₂ hd fun x rx => hQ x s₂ (k₁.trans k₂) rx)
theorem ev_itemT {value : Expr} {slice : Expr} {p : Pos} {ds : List D} {k : Nat} {d : D} (hv : Ev W n sc σ value (.tup ds)) (hk : Ev W n sc σ slice (.int k)) (hd : ds[k]? = some d) (hz : ds.length ≤ 100000)
    (hn : notSlice slice = true := by rfl) : Ev W n sc σ (.Subscript value slice p) d := by
  refine ⟨fun A env H s E Q hA hsc C hQ => ?_⟩
  refine Subscript_ (hv.run A env H s E _ hA hsc C fun v s₁ k₁ R₁ => hk.run A env H s₁ E _ hA hsc (C.keeps k₁) fun u s₂ k₂ R₂ => ?_)
  have R₁' := R₁.keeps k₂
  have hT : s₂.TypeIs v "tuple" := by cases R₁' with | tup e r => exact ⟨_, (hid_get e).1, rfl⟩
  refine subs_tail hT slot_tuple_getitem.lookup (fun _ _ => sub_plain hn) (item_tup_of hz R₁' R₂ hd fun x rx => hQ x s₂ (k₁.trans k₂) rx)

/-- [c] * k -/
theorem rep_flat (v : Value) : ∀ k : Nat, List.foldl (fun (x1 x2 : Array Value) => x1 ++ x2) #[] (List.replicate k #[v]) = (List.replicate k v).toArray := by
  have h : ∀ (k : Nat) (acc : Array Value), List.foldl (fun (x1 x2 : Array Value) => x1 ++ x2) acc (List.replicate k #[v]) = acc ++ (List.replicate k v).toArray := by
    intro k
    induction k with
    | zero => intro acc; simp
    | succ k ih => intro acc; rw [List.replicate_succ, List.foldl_cons, ih, List.replicate_succ]; apply Array.ext'; simp
  intro k; rw [h]; simp
theorem reps_rep {G : Part} {v : Value} {d : D} (r : Rep G v d) : ∀ k : Nat, Reps G (List.replicate k v) (List.replicate k d)
  | 0 => .nil
  | k + 1 => .cons r (reps_rep r k)
theorem bin_rep {d : D} {k : Int} (h0 : 0 ≤ k) (hz : k ≤ 100000) : Bin W n .Mult (.list [d]) (.int k) (.list (List.replicate k.toNat d)) := by
  refine ⟨fun A H s E Q v u hA hb ho Ra Rb hQ => ?_⟩
  cases Ra with
  | list e r =>
    cases Rb
    rename_i a ws m t
    cases r with
    | cons r t' =>
      cases t'
      rename_i v'
      have hl := (hid_get e).1
      refine wpAny_binaryOp_repeat_ref (T := "list") (U := "int") (by decide) ⟨_, hl, rfl⟩ (fun s' => typeIs_int s' k _) noFill_list_mul F.fills_int_mul F.slot_int_rmul repeat_list F.slot_int_index.lookup
        (call_meets F.slot_int_rmul (typeIs_int s k _) F.entry_int_rmul (F.args_int_rmul_2 _ _) (int___rmul___int_list k _ a #[v'] m)
          ⟨hl, rfl, ⟨_, hl, rfl⟩, call_meets F.slot_list_mul ⟨_, hl, rfl⟩ F.entry_list_mul (F.args_list_mul_2 _ _)
            (AutoListH.list___mul___list_int_3 a #[v'] m k _ (by simp [Builtin.List.listFitsIndex]; omega) (by simp; omega) (by simp [Builtin.List.listTooLong, sizeLine]; omega)) ⟨hl, ?_⟩⟩)
      have q : (if (#[v'] : Array Value).isEmpty = true then 0 else k.toNat) = k.toNat := by simp
      rw [q, rep_flat]
      exact hQ _ _ (Kp.push s _ _) (.list (hid_of (Heap.get?_push_size _ rfl) (new_hid' ho (Nat.le_refl _))) ((reps_rep r _).keeps (Kp.push s _ _)))
end
end Mine

namespace Mine

/-! ### the things a loop goes over -/
def itemsOf : D → Option (List D)
  | .list ds => some ds
  | .rng a b => some ((List.range (b - a).toNat).map fun (i : Nat) => D.int (a + (i : Int)))
  | _ => none

section
variable {W : Wd} {A : Around} {H : List Addr} {s : Shared} {E : Value → Shared → Prop} {Q : Value → Shared → Prop}
theorem iter_of {v : Value} {d : D} {ds : List D} (hA : A.handled = none) (R : Rep (hid H s.heap) v d) (hi : itemsOf d = some ds) (hz : ∀ a b, d = .rng a b → -(2 ^ 62) ≤ a ∧ a < 2 ^ 62 ∧ -(2 ^ 62) ≤ b ∧ b < 2 ^ 62)
    (hQ : ∀ (I : Addr) (fp wr : List Addr) (P : Nat → Value → Prop) (St : Nat → Heap → Prop) (h' : Heap), Walks W.prog W.w A I fp wr ds.length P St → (∀ b o, s.heap.get? b = some o → h'.get? b = some o) → St 0 h' →
      (∀ b ∈ wr, s.heap.get? b = none) → (∀ b ∈ fp, b < h'.objs.size) → (∀ b ∈ fp, (∃ o, h'.get? b = some o ∧ Solid o ∧ s.heap.get? b = some o ∧ b ∉ H) ∨ b ∈ wr) → (∀ i h, St i h → ∀ b ∈ wr, ∃ o, h.get? b = some o ∧ ¬ Solid o ∧ ∃ vs, o.data = .fields vs) → (∀ a b, d = .rng a b → ∀ b ∈ fp, b ∈ wr) → (∀ i v, P i v → ∃ d, ds[i]? = some d ∧ Rep (hid H s.heap) v d) →
      (∀ ds', d = .list ds' → ∀ i h, St i h → ∃ l, h.IsListIter I l i) →
      Q (.ref I) { s with heap := h' }) : wpAny W.M A (pyIter v) Q E s := by
  cases R with
  | list e r =>
    rename_i a vs n es
    cases hi
    have hl := isList_of e
    have hlt : a < s.heap.objs.size := Heap.lt_size (hid_get e).1
    have hne : a ≠ s.heap.objs.size := Nat.ne_of_lt hlt
    refine wpAny_pyIter_list hl ?_
    have Wk := Walks.list (prog := W.prog) (w := W.w) hA s.heap.objs.size a hne vs.toArray
    have ez : vs.toArray.size = ds.length := by rw [List.size_toArray, r.length]
    rw [ez] at Wk
    refine hQ _ _ _ _ _ _ Wk (fun b o e => Heap.get?_push_of_some _ e) ⟨⟨_, Heap.get?_push_size _ rfl, rfl, rfl⟩, hl.at fun o e => Heap.get?_push_of_some _ e⟩ ?_ ?_ ?_ ?_ (fun _ _ q => by cases q) ?_ (fun _ _ i h st => ⟨_, st.1⟩)
    · intro b hb
      rw [List.mem_singleton.mp hb]
      cases q : s.heap.get? s.heap.objs.size with
      | none => rfl
      | some o => exact absurd (Heap.lt_size q) (Nat.lt_irrefl _)
    · intro b hb
      rw [Heap.size_push]
      rcases List.mem_cons.mp hb with rfl | hb
      · exact Nat.lt_succ_self _
      · rw [List.mem_singleton.mp hb]; exact Nat.lt_succ_of_lt hlt
    · intro b hb
      rcases List.mem_cons.mp hb with rfl | hb
      · exact .inr (List.mem_singleton.mpr rfl)
      · rw [List.mem_singleton.mp hb]
        exact .inl ⟨_, Heap.get?_push_of_some _ (hid_get e).1, .inl ⟨_, _, rfl⟩, (hid_get e).1, (hid_get e).2⟩
    · rintro i h ⟨⟨o', e1, e2, e3⟩, _⟩ b hb
      rw [List.mem_singleton.mp hb]
      refine ⟨o', e1, ?_, _, e3⟩
      rintro (⟨xs, n, e⟩ | ⟨e, _⟩)
      · rw [e3] at e; cases e
      · rw [e2] at e; exact absurd e (by decide)
    · intro i v hv
      obtain ⟨d, hd, rd⟩ := r.get' (k := i) (v := v) (by simpa using hv)
      exact ⟨d, hd, rd⟩
  | rng e =>
    rename_i r a b t u v
    cases hi
    obtain ⟨z1, z2, z3, z4⟩ := hz a b rfl
    refine wpAny_pyIter_range (hid_get e).1 (small_one z1 z2 z3 z4) ?_
    have Wk := (Walks.range (prog := W.prog) (w := W.w) hA s.heap.objs.size a 1 (b - a).toNat).bound
    have ez : (b - a).toNat = ((List.range (b - a).toNat).map fun (i : Nat) => D.int (a + (i : Int))).length := by simp
    generalize hN : (b - a).toNat = N at Wk ez
    rw [hN] at hQ
    refine hQ s.heap.objs.size [s.heap.objs.size] [s.heap.objs.size] (fun i v => i < N ∧ ∃ t, v = .int (a + i * 1) t) (fun i h => IsRangeIter h s.heap.objs.size (a + (i : Nat) * 1) ((N : Int) - (i : Nat)) 1) _ (by rw [← ez]; exact Wk) (fun b o e => Heap.get?_push_of_some _ e) ?_ ?_ ?_ ?_ ?_ (fun _ _ _ _ h => h) ?_ (fun _ q => by cases q)
    · have q : Builtin.Range.rangeSize a b 1 = (N : Int) := by rw [rangeSize_one]; split <;> omega
      rw [q]
      simpa using Heap.get?_push_size _ rfl
    · intro b hb
      rw [List.mem_singleton.mp hb]
      cases q : s.heap.get? s.heap.objs.size with
      | none => rfl
      | some o => exact absurd (Heap.lt_size q) (Nat.lt_irrefl _)
    · intro b hb
      rw [Heap.size_push, List.mem_singleton.mp hb]; exact Nat.lt_succ_self _
    · intro b hb
      exact .inr hb
    · intro i h e1 b hb
      rw [List.mem_singleton.mp hb]
      refine ⟨_, e1, ?_, _, rfl⟩
      rintro (⟨xs, n, e⟩ | ⟨e, _⟩)
      · cases e
      · have e' : (Value.type "range_iterator" : Value) = .type "range" := e
        exact absurd e' (by decide)
    · rintro i v ⟨hi, t, rfl⟩
      rw [Int.mul_one]
      exact ⟨.int (a + i), by rw [List.getElem?_map, List.getElem?_range hi]; rfl, .int _ t⟩
  | none => cases hi
  | bool _ => cases hi
  | int _ _ => cases hi
  | str _ _ => cases hi
  | val _ => cases hi
  | tup _ _ => cases hi
end
end Mine

namespace Mine

/-! ### closures and cells -/
def clos (cells : List (Str × Addr)) : List (Str × NameKind) → List (Str × Addr) → List (Str × Addr)
  | [], acc => acc
  | (n, k) :: r, acc => if k == .free then (match cells.lookup n with | some c => clos cells r ((n, c) :: acc) | none => clos cells r acc) else clos cells r acc

theorem closureFor_eq {scope : Scope} {env : Env} (h : ∀ y, (y, NameKind.free) ∈ scope.names → ∃ c, env.cells.lookup y = some c) : closureFor scope env = pure (clos env.cells scope.names []) := by
  have key : ∀ (names : List (Str × NameKind)) (acc : List (Str × Addr)), (∀ y, (y, NameKind.free) ∈ names → ∃ c, env.cells.lookup y = some c) →
      (forIn names acc fun (x : Str × NameKind) (cs : List (Str × Addr)) => (if (x.2 == NameKind.free) = true then (do let c ← cellOf env x.1; pure (ForInStep.yield ((x.1, c) :: cs))) else pure (ForInStep.yield cs) : Sem (ForInStep (List (Str × Addr))))) = (pure (clos env.cells names acc) : Sem _) := by
    intro names
    induction names with
    | nil => intro acc _; rfl
    | cons x r ih =>
      intro acc hx
      obtain ⟨n, k⟩ := x
      rw [List.forIn_cons]
      have hr := fun y hy => hx y (List.mem_cons_of_mem _ hy)
      cases hk : (k == NameKind.free) with
      | false =>
        simp only [clos, hk, Bool.false_eq_true, if_false, pure_bind]
        exact ih acc hr
      | true =>
        have hk' : k = .free := by simpa using hk
        subst hk'
        obtain ⟨c, hc⟩ := hx n List.mem_cons_self
        simp only [clos, hk, if_true, hc, cellOf, pure_bind]
        exact ih _ hr
  have := key scope.names [] h
  unfold closureFor
  simp only
  rw [show (forIn scope.names ([] : List (Str × Addr)) fun x r => (match x with | (name, kind) => let cs := r; if (kind == NameKind.free) = true then do let __do_lift ← cellOf env name; let cs := (name, __do_lift) :: cs; pure PUnit.unit; pure (ForInStep.yield cs) else do pure PUnit.unit; pure (ForInStep.yield cs) : Sem (ForInStep (List (Str × Addr))))) = _ from this]
  rfl

theorem clos_lookup {cells : List (Str × Addr)} {y : Str} {c : Addr} (hc : cells.lookup y = some c) : ∀ (names : List (Str × NameKind)) (acc : List (Str × Addr)),
    (acc.lookup y = some c ∨ (y, NameKind.free) ∈ names) → (clos cells names acc).lookup y = some c
  | [], acc, h => h.elim id (fun x => by cases x)
  | (n, k) :: r, acc, h => by
    unfold clos
    by_cases hk : (k == NameKind.free) = true
    · rw [if_pos hk]
      have hk' : k = .free := by simpa using hk
      subst hk'
      by_cases hn : n = y
      · subst hn
        rw [hc]
        exact clos_lookup hc r _ (.inl (by simp [List.lookup_cons]))
      · have hny : (y == n) = false := by simpa using fun e => hn e.symm
        have h' : acc.lookup y = some c ∨ (y, NameKind.free) ∈ r := h.imp id fun hm => by
          rcases List.mem_cons.mp hm with e | hm
          · cases e; exact absurd rfl hn
          · exact hm
        cases cells.lookup n with
        | none => exact clos_lookup hc r acc h'
        | some c' => exact clos_lookup hc r _ (h'.imp (fun e => by rw [List.lookup_cons, hny]; exact e) id)
    · rw [if_neg hk]
      refine clos_lookup hc r acc (h.imp id fun hm => ?_)
      rcases List.mem_cons.mp hm with e | hm
      · cases e; exact absurd rfl hk
      · exact hm

theorem cellsFrom_app : ∀ (names : List (Str × NameKind)) (n : Nat) (acc : List (Str × Addr)), cellsFrom n names acc = cellsFrom n names [] ++ acc
  | [], _, _ => rfl
  | (x, k) :: r, n, acc => by
    unfold cellsFrom
    split
    · rw [cellsFrom_app r (n + 1) ((x, n) :: acc), cellsFrom_app r (n + 1) [(x, n)]]; simp
    · exact cellsFrom_app r n acc
theorem cellsFrom_mem : ∀ (names : List (Str × NameKind)) (n : Nat) {z : Str} {c : Addr}, (z, c) ∈ cellsFrom n names [] → (z, NameKind.cell) ∈ names
  | [], _, _, _, h => by cases h
  | (x, k) :: r, n, z, c, h => by
    unfold cellsFrom at h
    split at h
    · rename_i hk
      rw [cellsFrom_app] at h
      rcases List.mem_append.mp h with h | h
      · exact List.mem_cons_of_mem _ (cellsFrom_mem r _ h)
      · have hk' : k = .cell := by simpa using hk
        have := List.mem_singleton.mp h
        cases this; rw [hk']; exact List.mem_cons_self
    · exact List.mem_cons_of_mem _ (cellsFrom_mem r _ h)
theorem lookup_none_of {α : Type} : ∀ {l : List (Str × α)} {y : Str}, (∀ c, (y, c) ∉ l) → l.lookup y = none
  | [], _, _ => rfl
  | (z, v) :: r, y, h => by
    have hn : (y == z) = false := by
      cases q : (y == z) with
      | false => rfl
      | true =>
        rw [beq_iff_eq] at q; subst q
        exact absurd List.mem_cons_self (h v)
    rw [List.lookup_cons, hn]
    exact lookup_none_of fun c hm => h c (List.mem_cons_of_mem _ hm)
theorem nodup_kind : ∀ {names : List (Str × NameKind)} {y : Str} {k k' : NameKind}, (names.map (·.1)).Nodup → (y, k) ∈ names → (y, k') ∈ names → k = k'
  | (z, q) :: r, y, k, k', hn, h, h' => by
    rw [List.map_cons, List.nodup_cons] at hn
    rcases List.mem_cons.mp h with e | h <;> rcases List.mem_cons.mp h' with e' | h'
    · cases e; cases e'; rfl
    · cases e; exact absurd (List.mem_map.mpr ⟨_, h', rfl⟩) hn.1
    · cases e'; exact absurd (List.mem_map.mpr ⟨_, h, rfl⟩) hn.1
    · exact nodup_kind hn.2 h h'
theorem lookup_of_mem {α : Type} : ∀ {l : List (Str × α)} {y : Str} {k : α}, (l.map (·.1)).Nodup → (y, k) ∈ l → l.lookup y = some k
  | (z, q) :: r, y, k, hn, h => by
    rw [List.map_cons, List.nodup_cons] at hn
    rcases List.mem_cons.mp h with e | h2
    · cases e; simp
    · have hy : y ≠ z := fun e => hn.1 (List.mem_map.mpr ⟨(y, k), h2, e⟩)
      have hne : (y == z) = false := by simpa using hy
      rw [List.lookup_cons, hne]; exact lookup_of_mem hn.2 h2

theorem lookup_append {α : Type} : ∀ (l r : List (Str × α)) (y : Str), (l ++ r).lookup y = (l.lookup y).or (r.lookup y)
  | [], _, _ => rfl
  | (z, v) :: l, r, y => by
    rw [List.cons_append, List.lookup_cons, List.lookup_cons]
    cases (y == z) with
    | true => rfl
    | false => exact lookup_append l r y

theorem relabel_lookup {scope : Scope} {env : Env} {y : Str} {k : NameKind} (h : scope.names.lookup y = some k) :
    (relabel scope env).names.lookup y = some (if k == .free && env.scope.kind == .function && env.kindOf y == some .cell then .cell else k) := by
  have key : ∀ names : List (Str × NameKind), names.lookup y = some k →
      (names.map fun (n, k) => if (k == NameKind.free && env.scope.kind == .function && env.kindOf n == some .cell) then (n, NameKind.cell) else (n, k)).lookup y = some (if k == .free && env.scope.kind == .function && env.kindOf y == some .cell then .cell else k) := by
    intro names
    induction names with
    | nil => intro h; cases h
    | cons x r ih =>
      obtain ⟨n, q⟩ := x
      intro h
      rw [List.lookup_cons] at h
      rw [List.map_cons]
      cases hy : (y == n) with
      | true =>
        rw [hy] at h; cases h
        rw [beq_iff_eq] at hy; subst hy
        show List.lookup y ((if _ then _ else _) :: _) = _
        split <;> simp_all [List.lookup_cons]
      | false =>
        rw [hy] at h
        show List.lookup y ((if _ then _ else _) :: _) = _
        split <;> (rw [List.lookup_cons, hy]; exact ih h)
  exact key _ h

/-- the comprehension's own place -/
def compPlace (scope : Scope) (env : Env) (C : Addr) : Env :=
  { scope := relabel scope env, locals := C, globals := env.globals, cells := cellsFrom (C + 1) scope.names (clos env.cells scope.names []), qual := env.qual, func := none, code := env.code, frame := env.frame, builtins := env.builtins }

section
variable {M : Model} {A : Around} {E : Value → Shared → Prop} {s : Shared}
theorem newCompEnv {scope : Scope} {env : Env} {Q : Env → Shared → Prop}
    (hQ : ∀ (env' : Env) h', { env' with scope := relabel scope env } = compPlace scope env s.heap.objs.size → env'.locals = s.heap.objs.size → h' = pushCells (s.heap.push { cls := .type "dict", data := .dict #[] }) scope.names → Q env' { s with heap := h' }) :
    wpAny M A (newFunctionEnv scope env.globals (clos env.cells scope.names []) [] env.qual none .none (some env)) Q E s := by
  simp only [newFunctionEnv, Option.isSome_some, if_true]
  refine wpAny_bind (wpAny_alloc ?_)
  refine wpAny_bind (wpAny_layCells _ (fun name kind cells => by cases hkc : kind == NameKind.cell <;> simp [hkc]) _ _ _ _ ?_)
  rw [show ({ s with heap := s.heap.push { cls := .type "dict", data := .dict #[] } } : Shared).heap.objs.size = s.heap.objs.size + 1 from Heap.size_push ..]
  refine wpAny_bind (wpAny_pure (wpAny_pure ?_))
  exact hQ _ _ rfl rfl rfl

theorem pushCells_ok (h : Heap) (scope : Scope) : CellsOk (pushCells (h.push { cls := .type "dict", data := .dict #[] }) scope.names) (h.objs.size + 1) (cellsFrom (h.objs.size + 1) scope.names []) := by
  have ok := cellsFrom_ok scope.names (h.push { cls := .type "dict", data := .dict #[] }) (h.objs.size + 1) [] ⟨fun _ _ hm => (nomatch hm), List.Pairwise.nil⟩ (by rw [Heap.size_push]; exact Nat.le_refl _)
  rw [Heap.size_push] at ok
  exact ok
end
end Mine

namespace Mine

def relS (scope sc : Scope) : Scope :=
  { scope with names := scope.names.map fun (n, k) => if (k == .free && sc.kind == .function && sc.names.lookup n == some .cell) then (n, .cell) else (n, k) }
def innerN (σ : Names) (scope : Scope) (x : Str) (d : D) : Names := (x, d) :: σ.filter fun p => scope.names.lookup p.1 == some .free

theorem lookup_filter {σ : Names} {q : Str → Bool} {y : Str} {d : D} : (σ.filter fun p => q p.1).lookup y = some d → σ.lookup y = some d ∧ q y = true := by
  induction σ with
  | nil => intro h; cases h
  | cons a r ih =>
    obtain ⟨z, e⟩ := a
    intro h
    rw [List.filter_cons] at h
    cases hq : q z with
    | true =>
      simp only [hq, if_true] at h
      rw [List.lookup_cons] at h ⊢
      cases hy : (y == z) with
      | true =>
        rw [hy] at h
        rw [beq_iff_eq] at hy; subst hy
        exact ⟨h, hq⟩
      | false => rw [hy] at h; exact ih h
    | false =>
      simp only [hq, Bool.false_eq_true, if_false] at h
      have := ih h
      rw [List.lookup_cons]
      cases hy : (y == z) with
      | true =>
        rw [beq_iff_eq] at hy; subst hy
        rw [hq] at this; exact absurd this.2 (by decide)
      | false => exact this

/-- the tests of a comprehension -/
structure EvT (W : Wd) (n : Nat) (sc : Scope) (σ : Names) (ifs : List Expr) (b : Bool) : Prop where
  run : ∀ (A : Around) (env : Env) (H : List Addr) (s : Shared) (E : Value → Shared → Prop) (Q : Bool → Shared → Prop), Room n A → env.scope = sc → Cx W env H σ s → (∀ s', Kp s s' → Q b s') →
    wpAny W.M A (forIn ifs true fun c r => if r = true then do let ok ← isTrue c env (eval c env); pure (ForInStep.yield ok) else pure (ForInStep.yield r)) Q E s
theorem evt_nil {W : Wd} {n : Nat} {sc : Scope} {σ : Names} : EvT W n sc σ [] true := ⟨fun A env H s E Q hA hs C hQ => wpAny_tests_nil (hQ s (Kp.refl s))⟩
theorem evt_one {W : Wd} {n : Nat} {sc : Scope} {σ : Names} {c : Expr} {b : Bool} (h : EvB W n sc σ c b) : EvT W n sc σ [c] b := ⟨fun A env H s E Q hA hs C hQ => wpAny_tests_one (h.run A env H s E Q hA hs C hQ)⟩

abbrev listObj (vs : List Value) (n : Nat) : Obj := { cls := .type "list", dict := none, data := .seq vs.toArray n, slots := #[] }

/-- what a comprehension's walk leans on: B is kept, Da is the list, Cc the table, own the cells -/
structure CGround (W : Wd) (A : Around) (V : Part) (B : Part) (Da Cc : Addr) (own : List Addr) (cenv : Env) (x : Str) (I : Addr) (fp wr : List Addr) (P : Nat → Value → Prop) (St : Nat → Heap → Prop) {α : Type} (ds : List α) (g : α → Mine.D) : Prop where
  walks : Walks W.prog W.w A I fp wr ds.length P St
  BD : B Da = none
  BC : B Cc = none
  Bo : ∀ c ∈ own, B c = none
  Df : Da ∉ fp
  Cf : Cc ∉ fp
  of : ∀ c ∈ own, c ∉ fp
  wrN : ∀ b ∈ wr, B b = none
  wrS : ∀ i h, St i h → ∀ b ∈ wr, ∃ o, h.get? b = some o ∧ ¬ Solid o ∧ ∃ vs, o.data = .fields vs
  items : ∀ i v, P i v → ∃ d, ds[i]? = some d ∧ Rep V v (g d)
  DC : Da ≠ Cc
  ownC : ∀ c ∈ own, c ≠ Cc ∧ c ≠ Da
  loc : cenv.locals = Cc
  kind : cenv.scope.kind = .function
  name : cenv.kindOf x = some .local ∨ (cenv.kindOf x = some .cell ∧ ∃ cx, cenv.cells.lookup x = some cx ∧ cx ∈ own)

/-- the loop's own places, and the list's items -/
structure CSt (H : List Addr) (Da Cc : Addr) (own : List Addr) (B : Part) (outs : List Mine.D) (h : Heap) : Prop where
  acc : ∃ ys c, h.get? Da = some (listObj ys c) ∧ Reps (hid (Da :: H) h) ys outs
  ns : ∃ m, h.Ns Cc m
  cells : ∀ cx ∈ own, ∃ v, h.IsCell cx v
  keep : ∀ b o, B b = some o → h.get? b = some o

/-- a loop of a comprehension, by what holds between two turns -/
def LoopRule (W : Wd) (A : Around) (cenv : Env) (x : Str) (px : Pos) (I : Addr) (ifs : List Expr) (emit : Sem Unit) (code : Code) (R : Result → Shared → Prop) : Prop :=
  ∀ (J : Nat → Shared → Prop), (∀ n s, J n s → wpAny W.M A (pyNext (.ref I)) (fun r s₁ => match r with
      | none => R (.ok .next) s₁
      | some v => wpAny W.M A (assign (.Name x px) cenv v) (fun _ s₂ =>
          wpAny W.M A (forIn ifs true fun c r => if r = true then do let ok ← isTrue c cenv (eval c cenv); pure (ForInStep.yield ok) else pure (ForInStep.yield r)) (fun ok s₃ =>
            if ok = true then wpAny W.M A emit (fun _ s₅ => ∃ m, m < n ∧ J m s₅) (notedBy W.M A cenv fun e s' => R (.error e) s') s₃
            else ∃ m, m < n ∧ J m s₃) (notedBy W.M A cenv fun e s' => R (.error e) s') s₂) (notedBy W.M A cenv fun e s' => R (.error e) s') s₁) (notedBy W.M A cenv fun e s' => R (.error e) s') s) →
    ∀ n s, J n s → codeAny W.M A code R s

section
variable {W : Wd} {n : Nat} {A : Around} {s₁ : Shared} {V B : Part} {H own : List Addr} {Da Cc : Addr} {cenv : Env} {x : Str} {I : Addr} {fp wr : List Addr} {P : Nat → Value → Prop} {St : Nat → Heap → Prop} {α : Type} {ds : List α} {g : α → D} {σi : α → Names}

theorem comp_turn {px : Pos} {ifs : List Expr} {emit : Sem Unit} {code : Code} {R : Result → Shared → Prop} {pre : List D} (p : α → Bool) (f : α → List D)
    (rule : LoopRule W A cenv x px I ifs emit code R)
    (G : CGround W A V B Da Cc own cenv x I fp wr P St ds g) (hA : Room n A)
    (place : ∀ (h : Heap) tk v d, d ∈ ds → Rep V v (g d) → (∀ b o, B b = some o → h.get? b = some o) → (∃ o, h.get? Da = some o) → Sees cenv h x v → Cx W cenv (Da :: H) (σi d) { s₁ with heap := h, toks := tk })
    (htest : ∀ d ∈ ds, EvT W n cenv.scope (σi d) ifs (p d))
    (hemit : ∀ d ∈ ds, p d = true → ∀ (i : Nat) (h : Heap) (tk : Nat) (pre' : List D) (E : Value → Shared → Prop) (Q : Unit → Shared → Prop), pre'.length ≤ (pre ++ ((ds.take i).filter p).flatMap f).length → Cx W cenv (Da :: H) (σi d) { s₁ with heap := h, toks := tk } → St (i + 1) h → CSt H Da Cc own B pre' h →
      (∀ h' tk', CSt H Da Cc own B (pre' ++ f d) h' → St (i + 1) h' → Q () { s₁ with heap := h', toks := tk' }) → wpAny W.M A emit Q E { s₁ with heap := h, toks := tk })
    (hR : ∀ h tk, CSt H Da Cc own B (pre ++ (ds.filter p).flatMap f) h → R (.ok .next) { s₁ with heap := h, toks := tk })
    {h₀ : Heap} {t₀ : Nat} (hst₀ : St 0 h₀) (h0 : CSt H Da Cc own B pre h₀) :
    codeAny W.M A code R { s₁ with heap := h₀, toks := t₀ } := by
  refine rule (fun k s' => ∃ h tk i, s' = { s₁ with heap := h, toks := tk } ∧ St i h ∧ CSt H Da Cc own B (pre ++ ((ds.take i).filter p).flatMap f) h ∧ i ≤ ds.length ∧ k = ds.length + 1 - i) ?_ (ds.length + 1) _
    ⟨h₀, t₀, 0, rfl, hst₀, by simpa using h0, Nat.zero_le _, rfl⟩
  rintro k s' ⟨h, tk, i, rfl, hst, ⟨⟨ys, c, hacc, hys⟩, ⟨m, hns⟩, hcx, kp⟩, hi', rfl⟩
  have hlw : Da ∉ wr := fun hw => G.Df (G.walks.sub _ hw)
  have hCw : Cc ∉ wr := fun hw => G.Cf (G.walks.sub _ hw)
  have how : ∀ c ∈ own, c ∉ wr := fun c hc hw => G.of c hc (G.walks.sub _ hw)
  by_cases hlt : i < ds.length
  · refine G.walks.item i _ _ _ hlt hst fun v h' tk' hPv hst' hk' => ?_
    obtain ⟨d', hd', rd'⟩ := G.items i v hPv
    have hmem : d' ∈ ds := List.mem_of_getElem? hd'
    have kp' : ∀ b o, B b = some o → h'.get? b = some o := fun b o e => hk' b o (fun hw => by rw [G.wrN b hw] at e; cases e) (kp b o e)
    have so' : ∀ b o, Solid o → h.get? b = some o → h'.get? b = some o := fun b o so e => hk' b o (fun hw => let ⟨o', e', n', _⟩ := G.wrS _ _ hst b hw; by rw [e'] at e; cases e; exact n' so) e
    have rest : ∀ (h'' : Heap) tk'' (a : Addr), B a = none → a ≠ Da → a ∉ fp → Heap.SameBut a h' h'' → (∀ o, h'.get? a = some o → ¬ Solid o) → Sees cenv h'' x v → (∃ m, h''.Ns Cc m) → (∀ cx ∈ own, ∃ v, h''.IsCell cx v) →
        wpAny W.M A (forIn ifs true fun c r => if r = true then do let ok ← isTrue c cenv (eval c cenv); pure (ForInStep.yield ok) else pure (ForInStep.yield r)) (fun ok s₃ =>
          if ok = true then wpAny W.M A emit (fun _ s₅ => ∃ m, m < ds.length + 1 - i ∧ ∃ h tk i, s₅ = { s₁ with heap := h, toks := tk } ∧ St i h ∧ CSt H Da Cc own B (pre ++ ((ds.take i).filter p).flatMap f) h ∧ i ≤ ds.length ∧ m = ds.length + 1 - i) (notedBy W.M A cenv fun e s' => R (.error e) s') s₃
          else ∃ m, m < ds.length + 1 - i ∧ ∃ h tk i, s₃ = { s₁ with heap := h, toks := tk } ∧ St i h ∧ CSt H Da Cc own B (pre ++ ((ds.take i).filter p).flatMap f) h ∧ i ≤ ds.length ∧ m = ds.length + 1 - i) (notedBy W.M A cenv fun e s' => R (.error e) s') { s₁ with heap := h'', toks := tk'' } := by
      intro h'' tk'' a haB haD haf hsb hna hsx hns'' hcx''
      have kp'' : ∀ b o, B b = some o → h''.get? b = some o := fun b o e => hsb.extBut b o (fun q => by rw [q, haB] at e; cases e) (kp' b o e)
      have hD'' : h''.get? Da = some (listObj ys c) := hsb.extBut Da _ (Ne.symm haD) (hk' Da _ hlw hacc)
      have hst'' : St (i + 1) h'' := G.walks.frame _ _ _ hst' fun b hb o e => hsb.extBut b o (fun q => haf (q ▸ hb)) e
      have so'' : ∀ b o, Solid o → h.get? b = some o → h''.get? b = some o := fun b o so e => hsb.extBut b o (fun q => hna o (q ▸ so' b o so e) so) (so' b o so e)
      have hys'' : Reps (hid (Da :: H) h'') ys (pre ++ ((ds.take i).filter p).flatMap f) := hys.mono (le_hid so'')
      have Cx₂ := place h'' tk'' v d' hmem rd' kp'' ⟨_, hD''⟩ hsx
      have htake : ds.take (i + 1) = ds.take i ++ [d'] := by rw [List.take_add_one, hd']; rfl
      refine (htest d' hmem).run A cenv (Da :: H) _ _ _ hA rfl Cx₂ fun s₃ k₃ => ?_
      obtain ⟨h₃, tk₃, rfl, hk₃⟩ := id k₃
      have cst₃ : CSt H Da Cc own B (pre ++ ((ds.take i).filter p).flatMap f) h₃ := ⟨⟨ys, c, hk₃ _ _ hD'', hys''.mono (le_hid fun b o _ e => hk₃ b o e)⟩, let ⟨m, hm⟩ := hns''; ⟨m, hm.keeps hk₃⟩,
        fun cx hc => let ⟨v, hv⟩ := hcx'' cx hc; ⟨v, hv.keeps hk₃⟩, fun b o e => hk₃ b o (kp'' b o e)⟩
      have st₃ : St (i + 1) h₃ := G.walks.frame _ _ _ hst'' fun b _ o e => hk₃ b o e
      cases hp : p d' with
      | false =>
        simp only [Bool.false_eq_true, if_false]
        refine ⟨ds.length + 1 - (i + 1), by omega, h₃, tk₃, i + 1, rfl, st₃, ?_, hlt, rfl⟩
        rw [htake, List.filter_append]; simpa [hp] using cst₃
      | true =>
        simp only [if_true]
        refine hemit d' hmem hp i h₃ tk₃ _ _ _ (Nat.le_refl _) (Cx₂.keeps k₃) st₃ cst₃ fun h₅ tk₅ cst₅ st₅ => ?_
        refine ⟨ds.length + 1 - (i + 1), by omega, h₅, tk₅, i + 1, rfl, st₅, ?_, hlt, rfl⟩
        rw [htake, List.filter_append]; simpa [hp, List.append_assoc] using cst₅
    have hns' : h'.Ns Cc m := hns.at' fun o e => hk' _ o hCw e
    have hcx' : ∀ cx ∈ own, ∃ v, h'.IsCell cx v := fun cx hc => by
      obtain ⟨v, o, e, hd⟩ := hcx cx hc
      exact ⟨v, o, hk' _ o (how cx hc) e, hd⟩
    rcases G.name with hl | ⟨hc, cx, ec, hm⟩
    · refine wpAny_assign_Name (wpAny_storeName_local hl (by rw [G.loc]; exact hns') (fun h'' hn'' hs'' => ?_) (by rw [G.kind]; rfl))
      rw [G.loc] at hn'' hs''
      refine rest h'' _ Cc G.BC (Ne.symm G.DC) G.Cf hs'' (fun o e => ?_) (.inl ⟨hl, _, by rw [G.loc]; exact hn'', by simp⟩) ⟨_, hn''⟩ fun cx hc => ?_
      · obtain ⟨o', es, ep, e1, e2, _⟩ := hns'
        rw [e1] at e; cases e; exact not_solid_dict e2
      · obtain ⟨v, hv⟩ := hcx' cx hc; exact ⟨v, hv.sameBut hs'' (G.ownC cx hc).1⟩
    · obtain ⟨v₀, hv₀⟩ := hcx' cx hm
      have hCx := G.ownC cx hm
      refine wpAny_assign_Name (wpAny_storeName_cell G.kind hc ec hv₀ fun h'' hc'' hs'' => ?_)
      refine rest h'' _ cx (G.Bo cx hm) hCx.2 (G.of cx hm) hs'' (fun o e => ?_) (.inr ⟨.inl hc, cx, ec, hc''⟩) ⟨m, hns'.sameBut hs'' (Ne.symm hCx.1)⟩ fun c' hc' => ?_
      · obtain ⟨o', e1, e2⟩ := hv₀
        rw [e1] at e; cases e; exact not_solid_cell e2
      · by_cases q : c' = cx
        · rw [q]; exact ⟨_, hc''⟩
        · obtain ⟨v, hv⟩ := hcx' c' hc'; exact ⟨v, hv.sameBut hs'' q⟩
  · have hin : i = ds.length := by omega
    subst hin
    refine G.walks.done _ _ _ hst fun h' tk' hk' => ?_
    rw [List.take_length] at hys
    refine hR h' tk' ⟨⟨ys, c, hk' _ _ hlw hacc, ?_⟩, ⟨m, hns.at' fun o e => hk' _ o hCw e⟩, fun cx hc => ?_, fun b o e => hk' b o (fun hw => by rw [G.wrN b hw] at e; cases e) (kp b o e)⟩
    · exact hys.mono (le_hid fun b o so e => hk' b o (fun hw => let ⟨o', e', n', _⟩ := G.wrS _ _ hst b hw; by rw [e'] at e; cases e; exact n' so) e)
    · obtain ⟨v, o, e, hd⟩ := hcx cx hc
      exact ⟨v, o, hk' _ o (how cx hc) e, hd⟩

/-- the last clause: one item is appended -/
theorem emit_append {elt : Expr} {σ' : Names} {d : D} {pre' : List D} {h : Heap} {tk i : Nat} {E : Value → Shared → Prop} {Q : Unit → Shared → Prop} (G : CGround W A V B Da Cc own cenv x I fp wr P St ds g) (hA : Room n A) (hlen : pre'.length ≤ 200000)
    (helt : Ev W n cenv.scope σ' elt d) (C : Cx W cenv (Da :: H) σ' { s₁ with heap := h, toks := tk }) (hst : St (i + 1) h) (hc : CSt H Da Cc own B pre' h)
    (hQ : ∀ h' tk', CSt H Da Cc own B (pre' ++ [d]) h' → St (i + 1) h' → Q () { s₁ with heap := h', toks := tk' }) :
    wpAny W.M A (do let _ ← call (.builtin "list.append") [.ref Da, ← eval elt cenv]) Q E { s₁ with heap := h, toks := tk } := by
  obtain ⟨⟨ys, c, hacc, hys⟩, ⟨m, hns⟩, hcx, kp⟩ := hc
  refine wpAny_bind (helt.run A cenv (Da :: H) _ _ _ hA rfl C fun y s₄ k₄ R₄ => ?_)
  obtain ⟨h₄, tk₄, rfl, hk₄⟩ := id k₄
  have hD₄ : h₄.get? Da = some (listObj ys c) := hk₄ _ _ hacc
  have hylen : ys.length ≤ 200000 := by rw [hys.length]; exact hlen
  refine wpAny_bind (wpAny_list_append_plain (items := ys.toArray) ⟨c, hD₄⟩ (fun h₅ hl₅ hs₅ => wpAny_pure ?_) (by rw [List.size_toArray, sizeLine_eq]; omega))
  obtain ⟨c₅, hD₅⟩ := hl₅
  refine hQ h₅ tk₄ ⟨⟨ys ++ [y], c₅, by rw [hD₅]; simp, ?_⟩, ⟨m, (hns.keeps hk₄).sameBut hs₅ (Ne.symm G.DC)⟩, fun cx hc => ?_, fun b o e => hs₅.extBut b o (fun q => by rw [q, G.BD] at e; cases e) (hk₄ b o (kp b o e))⟩ ?_
  · have up : Le (hid (Da :: H) h₄) (hid (Da :: H) h₅) := fun b o _ e => by
      obtain ⟨e, hn⟩ := hid_get e
      exact hid_of (hs₅.extBut b o (fun q => hn (q ▸ List.mem_cons_self)) e) hn
    exact ((hys.mono (le_hid fun b o _ e => hk₄ b o e)).append (Reps.one R₄)).mono up
  · obtain ⟨v, hv⟩ := hcx cx hc
    exact ⟨v, (hv.keeps hk₄).sameBut hs₅ (G.ownC cx hc).2⟩
  · exact G.walks.frame _ _ _ hst fun b hb o e => hs₅.extBut b o (fun q => G.Df (q ▸ hb)) (hk₄ b o e)

theorem rule_one {elt iter : Expr} {px : Pos} {ifs : List Expr} {scope : Scope} {pos : Pos} {R : Result → Shared → Prop} :
    LoopRule W A cenv x px I ifs (do let _ ← call (.builtin "list.append") [.ref Da, ← eval elt cenv]) (.compLoop (.ListComp elt [⟨.Name x px, iter, ifs, 0⟩] scope pos) 0 (.ref I) (.ref Da) cenv) R := by
  intro J turn k s h
  refine codeAny_loop rfl J (fun k s hJ => ?_) k h
  show wpAny _ A ((compTurn (.ListComp elt [⟨.Name x px, iter, ifs, 0⟩] scope pos) 0 (.ref I) (.ref Da) cenv).onRaise (fun x => do noteFrame x cenv; theTreesLotGoes x)) _ _ s
  refine wpAny_noted ?_
  rw [compTurn_list]
  refine wpAny_bind (wpAny_standAt (wpAny_bind (wpAny_mono (turn k s hJ) (fun r s₁ h₁ => ?_) fun _ _ h' => h')))
  cases r with
  | none => exact wpAny_pure h₁
  | some v =>
    refine wpAny_bind (wpAny_pure ?_)
    refine wpAny_bind (wpAny_mono h₁ (fun _ s₂ h₂ => wpAny_bind (wpAny_mono h₂ (fun ok s₃ h₃ => ?_) fun _ _ h' => h')) fun _ _ h' => h')
    cases ok with
    | false => exact wpAny_pure ⟨rfl, h₃⟩
    | true => exact wpAny_bind (wpAny_mono h₃ (fun _ s₅ h₅ => wpAny_pure ⟨rfl, h₅⟩) fun _ _ h' => h')
end
end Mine

namespace Mine
section
variable {W : Wd} {n : Nat} {sc : Scope} {σ : Names}

/-- what a comprehension's table of names must be -/
structure CompOk (scope sc : Scope) (σ : Names) (x : Str) : Prop where
  kind : scope.kind = .function
  nodup : (scope.names.map (·.1)).Nodup
  name : scope.names.lookup x = some .local ∨ scope.names.lookup x = some .cell
  free : ∀ y, (y, NameKind.free) ∈ scope.names → (sc.names.lookup y = some .cell ∨ sc.names.lookup y = some .free) ∧ ∃ d, σ.lookup y = some d

def compOkB (scope sc : Scope) (σ : Names) (x : Str) : Bool :=
  scope.kind == .function && decide (scope.names.map (·.1)).Nodup && (scope.names.lookup x == some .local || scope.names.lookup x == some .cell) &&
  scope.names.all fun y => y.2 != .free || ((sc.names.lookup y.1 == some .cell || sc.names.lookup y.1 == some .free) && (σ.lookup y.1).isSome)
theorem CompOk.of {scope sc : Scope} {σ : Names} {x : Str} (h : compOkB scope sc σ x = true) : CompOk scope sc σ x := by
  unfold compOkB at h
  simp only [Bool.and_eq_true, Bool.or_eq_true, beq_iff_eq, decide_eq_true_eq, List.all_eq_true] at h
  obtain ⟨⟨⟨h1, h2⟩, h3⟩, h4⟩ := h
  refine ⟨h1, h2, h3, fun y hy => ?_⟩
  have := h4 _ hy
  simp only [bne_self_eq_false, Bool.false_eq_true, false_or] at this
  exact ⟨this.1, Option.isSome_iff_exists.mp this.2⟩

/-- a comprehension up to its loop -/
theorem comp_pre {e iter : Expr} {x : Str} {scope : Scope} {ps : Pos} {use : Option (Value → Sem Unit)} {d : D} {α : Type} {ds : List α} (g : α → D) {elt target : Expr} {ifs : List Expr} {rest : List Comprehension} {pos : Pos}
    (he : e = .ListComp elt (⟨target, iter, ifs, 0⟩ :: rest) scope pos)
    (ok : CompOk scope sc σ x)
    (hit : Ev W n sc σ iter d) (hi : itemsOf d = some (ds.map g)) (hz : ∀ a b, d = .rng a b → -(2 ^ 62) ≤ a ∧ a < 2 ^ 62 ∧ -(2 ^ 62) ≤ b ∧ b < 2 ^ 62)
    {A : Around} {env : Env} {H : List Addr} {s : Shared} {E : Value → Shared → Prop} {Q : Value → Shared → Prop} (hA : Room n A) (hsc : env.scope = sc) (C : Cx W env H σ s)
    (hs : ∀ x, foldedSetIterable iter env x = pure x)
    (loop : ∀ (s₁ : Shared) (V B : Part) (Da Cc : Addr) (own : List Addr) (cenv : Env) (I : Addr) (fp wr : List Addr) (P : Nat → Value → Prop) (St : Nat → Heap → Prop) (h₃ : Heap), Kp s s₁ → s₁.heap.get? Da = none → s₁.heap.get? Cc = none → B = s₁.heap.get? → V = hid H s₁.heap →
      CGround W A V B Da Cc own cenv x I fp wr P St ds g → cenv.scope = relS scope sc → (∀ y, scope.names.lookup y = some .local → cenv.kindOf y = some .local) →
      (∀ y (h : Heap) tk v d, Rep V v d → (∀ b o, B b = some o → h.get? b = some o) → (∃ o, h.get? Da = some o) → Sees cenv h y v → Cx W cenv (Da :: H) (innerN σ scope y d) { s₁ with heap := h, toks := tk }) →
      St 0 h₃ → CSt H Da Cc own B [] h₃ →
      codeAny W.M A (.compLoop e 0 (.ref I) (.ref Da) cenv) (compPost W.M A E use Q (.ref Da) Cc) { s₁ with heap := h₃ }) :
    wpAny W.M A (comprehension e scope env ps (newList []) false (eval iter env) use) Q E s := by
  obtain ⟨hk, hnd, hx, hfree⟩ := ok
  have hcells : ∀ y, (y, NameKind.free) ∈ scope.names → ∃ v c, env.cells.lookup y = some c ∧ s.heap.IsCell c (some v) := fun y hy => by
    obtain ⟨k1, d1, e1⟩ := hfree y hy
    obtain ⟨v, S, _⟩ := C.see y d1 e1
    rcases S with ⟨k, _⟩ | ⟨_, c, e, hc⟩
    · have k' : sc.names.lookup y = some .local := by rw [← hsc]; exact k
      rcases k1 with q | q <;> rw [q] at k' <;> cases k'
    · exact ⟨v, c, e, hc⟩
  subst he
  refine wpAny_comprehension_free (cl := clos env.cells scope.names []) rfl hs (closureFor_eq fun y hy => let ⟨_, c, e, _⟩ := hcells y hy; ⟨c, e⟩) hk (fun y hy hl => lookup_of_mem hnd (hl ▸ hy)) ?_
  refine hit.run A env H s E _ hA hsc C fun v s₁ k₁ R₁ => ?_
  refine iter_of hA.1 R₁ hi hz fun I fp wr P St h₁ Wk keep₁ hst₀ hwr hfp hfpo hwo hrg hP hLi0 => ?_
  refine wpAny_newObj_type ?_ (by show (0 : Nat) ≤ sizeLine; omega)
  refine newCompEnv fun env' h₃ he hl h3 => ?_
  rw [he, hl]
  -- places
  obtain ⟨Da, hD⟩ : ∃ Da : Nat, Da = h₁.objs.size := ⟨_, rfl⟩
  obtain ⟨h₂, hH2⟩ : ∃ h₂ : Heap, h₂ = h₁.push { cls := .type "list", dict := none, data := .seq ([] : List Value).toArray } := ⟨_, rfl⟩
  have hC : h₂.objs.size = Da + 1 := by rw [hH2, Heap.size_push, hD]
  have h3' : h₃ = pushCells (h₂.push { cls := .type "dict", data := .dict #[] }) scope.names := by rw [hH2]; exact h3
  show codeAny W.M A (.compStart (.ListComp elt (⟨target, iter, ifs, 0⟩ :: rest) scope pos) 0 (.ref I) (.ref h₁.objs.size) (compPlace scope env (h₁.push { cls := .type "list", dict := none, data := .seq ([] : List Value).toArray }).objs.size))
    (compPost W.M A E use Q (.ref h₁.objs.size) (h₁.push { cls := .type "list", dict := none, data := .seq ([] : List Value).toArray }).objs.size) { s₁ with heap := h₃ }
  rw [← hH2, hC, ← hD]
  have keep₃ : ∀ b o, h₁.get? b = some o → h₃.get? b = some o := fun b o e => by
    rw [h3']; refine pushCells_keeps _ _ b o (Heap.get?_push_of_some _ ?_)
    rw [hH2]; exact Heap.get?_push_of_some _ e
  have hcok : CellsOk h₃ (Da + 2) (cellsFrom (Da + 2) scope.names []) := by
    have := pushCells_ok h₂ scope
    rw [hC, ← h3'] at this; exact this
  have hns₃ : h₃.Ns (Da + 1) fun _ => none := by
    have := (Heap.Ns.new h₂ (.type "dict")).keeps (pushCells_keeps scope.names (h₂.push { cls := .type "dict", data := .dict #[] }))
    rw [hC, ← h3'] at this; exact this
  have hacc₃ : h₃.get? Da = some (listObj [] 0) := by
    rw [h3']; refine pushCells_keeps _ _ Da _ (Heap.get?_push_of_some _ ?_)
    rw [hH2, hD]; exact Heap.get?_push_size _ rfl
  have fresh : ∀ a : Nat, Da ≤ a → s₁.heap.get? a = none := fun a ha => by
    cases q : s₁.heap.get? a with
    | none => rfl
    | some o =>
      have h1 : @LT.lt Nat _ a h₁.objs.size := Heap.lt_size (keep₁ _ _ q)
      rw [← hD] at h1
      exact absurd h1 (Nat.not_lt.mpr ha)
  have below : ∀ b ∈ fp, @LT.lt Nat _ b Da := fun b hb => by rw [hD]; exact hfp b hb
  have notfp : ∀ a : Nat, Da ≤ a → a ∉ fp := fun a ha hm => Nat.lt_irrefl _ (Nat.lt_of_lt_of_le (below a hm) ha)
  have C₁ := C.keeps k₁
  have hcell : ∀ y, (compPlace scope env (Da + 1)).cells.lookup y = ((cellsFrom (Da + 2) scope.names []).lookup y).or ((clos env.cells scope.names []).lookup y) := fun y => by
    show (cellsFrom (Da + 1 + 1) scope.names (clos env.cells scope.names [])).lookup y = _
    rw [cellsFrom_app, lookup_append]
  have hown : ∀ y, (y, NameKind.free) ∈ scope.names → (cellsFrom (Da + 2) scope.names []).lookup y = none := fun y hy =>
    lookup_none_of fun c hm => by cases nodup_kind hnd hy (cellsFrom_mem _ _ hm)
  have hkindOf : ∀ y k, scope.names.lookup y = some k → (compPlace scope env (Da + 1)).kindOf y = some (if k == .free && env.scope.kind == .function && env.kindOf y == some .cell then .cell else k) := fun y k h => relabel_lookup h
  have hxk : (compPlace scope env (Da + 1)).kindOf x = some .local ∨ ((compPlace scope env (Da + 1)).kindOf x = some .cell ∧ ∃ cx, (compPlace scope env (Da + 1)).cells.lookup x = some cx ∧ cx ∈ (cellsFrom (Da + 2) scope.names []).map (·.2)) := by
    rcases hx with h | h
    · exact .inl (hkindOf x _ h)
    · refine .inr ⟨hkindOf x _ h, ?_⟩
      obtain ⟨cx, e⟩ := Option.isSome_iff_exists.mp (cellsFrom_some (x := x) scope.names (Da + 2) [] (.inl h))
      exact ⟨cx, by rw [hcell, e]; rfl, List.mem_map.mpr ⟨_, mem_of_lookup e, rfl⟩⟩
  have hrel : (compPlace scope env (Da + 1)).scope = relS scope sc := by rw [← hsc]; rfl
  have place : ∀ y (h : Heap) tk v d, Rep (hid H s₁.heap) v d → (∀ b o, s₁.heap.get? b = some o → h.get? b = some o) → (∃ o, h.get? Da = some o) → Sees (compPlace scope env (Da + 1)) h y v →
      Cx W (compPlace scope env (Da + 1)) (Da :: H) (innerN σ scope y d) { s₁ with heap := h, toks := tk } := fun x h tk v d rv kp hDo hsx => by
    have up : Le (hid H s₁.heap) (hid (Da :: H) h) := fun a o _ e => by
      obtain ⟨e, hn⟩ := hid_get e
      refine hid_of (kp a o e) fun hm => ?_
      rcases List.mem_cons.mp hm with rfl | hm
      · rw [fresh a (Nat.le_refl _)] at e; cases e
      · exact hn hm
    refine ⟨hk, C.gl, C.bl, fun b o e => kp b o (C₁.base b o e), fun a ha => ?_, fun y e hy => ?_⟩
    · rcases List.mem_cons.mp ha with rfl | ha
      · exact hDo
      · obtain ⟨o, e⟩ := C₁.old a ha; exact ⟨o, kp a o e⟩
    · unfold innerN at hy
      rw [List.lookup_cons] at hy
      cases hyx : (y == x) with
      | true =>
        rw [hyx] at hy; cases hy
        rw [beq_iff_eq] at hyx; subst hyx
        exact ⟨v, hsx, rv.mono up⟩
      | false =>
        rw [hyx] at hy
        obtain ⟨hσ, hf⟩ := lookup_filter (q := fun z => scope.names.lookup z == some .free) hy
        have hf' : scope.names.lookup y = some .free := by simpa using hf
        obtain ⟨u, S, R⟩ := C₁.see y e hσ
        refine ⟨u, ?_, R.mono up⟩
        have hm := mem_of_lookup hf'
        obtain ⟨kk, _⟩ := hfree y hm
        rcases S with ⟨k, _⟩ | ⟨_, c, ec, hc⟩
        · have k' : sc.names.lookup y = some .local := by rw [← hsc]; exact k
          rcases kk with q | q <;> rw [q] at k' <;> cases k'
        · refine .inr ⟨?_, c, ?_, hc.keeps kp⟩
          · rw [hkindOf y _ hf']
            split
            · exact .inl rfl
            · exact .inr rfl
          · rw [hcell, hown y hm, Option.none_or]
            exact clos_lookup ec _ _ (.inr hm)
  have hge : ∀ c ∈ (cellsFrom (Da + 2) scope.names []).map (·.2), @LE.le Nat _ (Da + 2) c ∧ h₃.IsCell c none := fun c hc => by
    obtain ⟨q, hq, rfl⟩ := List.mem_map.mp hc
    exact ⟨(hcok.empty _ _ hq).2, (hcok.empty _ _ hq).1⟩
  have le1 : Da ≤ Da + 1 := Nat.le_succ _
  have G : CGround W A (hid H s₁.heap) s₁.heap.get? Da (Da + 1) ((cellsFrom (Da + 2) scope.names []).map (·.2)) (compPlace scope env (Da + 1)) x I fp wr P St ds g :=
    ⟨by simpa using Wk, fresh _ (Nat.le_refl _), fresh _ le1, fun c hc => fresh c (Nat.le_trans (Nat.le_add_right _ 2) (hge c hc).1), notfp _ (Nat.le_refl _), notfp _ le1, fun c hc => notfp c (Nat.le_trans (Nat.le_add_right _ 2) (hge c hc).1), hwr, hwo, fun i v h => by
      obtain ⟨d, e, r⟩ := hP i v h
      rw [List.getElem?_map] at e
      cases q : ds[i]? with
      | none => rw [q] at e; cases e
      | some y => rw [q] at e; cases e; exact ⟨y, rfl, r⟩, Nat.ne_of_lt (Nat.lt_succ_self _), fun c hc => ⟨Ne.symm (Nat.ne_of_lt (Nat.lt_of_lt_of_le (Nat.lt_succ_self _) (hge c hc).1)), Ne.symm (Nat.ne_of_lt (Nat.lt_of_lt_of_le (Nat.lt_succ_of_lt (Nat.lt_succ_self _)) (hge c hc).1))⟩, rfl, hk, hxk⟩
  have lp := loop s₁ _ _ Da (Da + 1) _ _ I fp wr P St h₃ k₁ (fresh _ (Nat.le_refl _)) (fresh _ le1) rfl rfl G hrel (fun y hy => by rw [hkindOf y _ hy]; rfl) place (Wk.frame _ _ _ hst₀ (fun b hb o e => keep₃ b o e))
    ⟨⟨[], 0, hacc₃, .nil⟩, ⟨_, hns₃⟩, fun cx hc => ⟨none, (hge cx hc).2⟩, fun b o e => keep₃ b o (keep₁ b o e)⟩
  exact codeAny_compStart_list lp (Wk.self 0 _ _ _ (Wk.frame _ _ _ hst₀ (fun b hb o e => keep₃ b o e)) lp)

theorem flat_one {α : Type} (f : α → D) : ∀ l : List α, l.flatMap (fun d => [f d]) = l.map f
  | [] => rfl
  | a :: l => by rw [List.flatMap_cons, flat_one f l]; rfl

theorem comp_core {elt iter : Expr} {x : Str} {px : Pos} {ifs : List Expr} {scope : Scope} {pos ps : Pos} {use : Option (Value → Sem Unit)} {d : D} {α : Type} {ds : List α} (g : α → D) (p : α → Bool) (f : α → D)
    (ok : CompOk scope sc σ x)
    (hit : Ev W n sc σ iter d) (hi : itemsOf d = some (ds.map g)) (hz : ∀ a b, d = .rng a b → -(2 ^ 62) ≤ a ∧ a < 2 ^ 62 ∧ -(2 ^ 62) ≤ b ∧ b < 2 ^ 62) (hlen : ds.length ≤ 100000)
    (htest : ∀ d ∈ ds, EvT W n (relS scope sc) (innerN σ scope x (g d)) ifs (p d))
    (helt : ∀ d ∈ ds, p d = true → Ev W n (relS scope sc) (innerN σ scope x (g d)) elt (f d))
    {A : Around} {env : Env} {H : List Addr} {s : Shared} {E : Value → Shared → Prop} {Q : Value → Shared → Prop} (hA : Room n A) (hsc : env.scope = sc) (C : Cx W env H σ s)
    (hs : ∀ x, foldedSetIterable iter env x = pure x)
    (hfin : ∀ s₁ Da Cc h' tk m ys c, Kp s s₁ → s₁.heap.get? Da = none → s₁.heap.get? Cc = none → Da ≠ Cc → h'.Ns Cc m → (∀ b o, s₁.heap.get? b = some o → h'.get? b = some o) → h'.get? Da = some (listObj ys c) →
      Reps (hid (Da :: H) h') ys ((ds.filter p).map f) → compPost W.M A E use Q (.ref Da) Cc (.ok .next) { s₁ with heap := h', toks := tk }) :
    wpAny W.M A (comprehension (.ListComp elt [⟨.Name x px, iter, ifs, 0⟩] scope pos) scope env ps (newList []) false (eval iter env) use) Q E s := by
  refine comp_pre g rfl ok hit hi hz hA hsc C hs fun s₁ V B Da Cc own cenv I fp wr P St h₃ k₁ hDn hCn hB hV G hrel hloc place hst₀ hc₀ => ?_
  subst hB; subst hV
  refine comp_turn (pre := []) p (fun d => [f d]) rule_one G hA (fun h tk v d _ rv kp hDo hsx => place x h tk v (g d) rv kp hDo hsx) (by rw [hrel]; exact htest) (fun d hd hp i h tk pre' E Q hlen' C hst hcs hQ => ?_) (fun h tk hcs => ?_) hst₀ hc₀
  · refine emit_append G hA ?_ (hrel ▸ helt d hd hp) C hst hcs hQ
    refine Nat.le_trans hlen' ?_
    rw [List.nil_append, flat_one, List.length_map]
    exact Nat.le_trans (List.length_filter_le _ _) (Nat.le_trans (List.length_take_le' _ _) (by omega))
  · obtain ⟨⟨ys, c, hacc, hys⟩, ⟨m, hns⟩, _, kp⟩ := hcs
    rw [List.nil_append, flat_one] at hys
    exact hfin s₁ Da Cc h tk m ys c k₁ hDn hCn G.DC hns kp hacc hys

/-- a comprehension's value -/
theorem ev_comp {elt iter : Expr} {x : Str} {px : Pos} {ifs : List Expr} {scope : Scope} {pos : Pos} {d : D} {α : Type} {ds : List α} (g : α → D) (p : α → Bool) (f : α → D)
    (ok : CompOk scope sc σ x) (hit : Ev W n sc σ iter d) (hi : itemsOf d = some (ds.map g)) (hz : ∀ a b, d = .rng a b → -(2 ^ 62) ≤ a ∧ a < 2 ^ 62 ∧ -(2 ^ 62) ≤ b ∧ b < 2 ^ 62) (hlen : ds.length ≤ 100000)
    (htest : ∀ d ∈ ds, EvT W n (relS scope sc) (innerN σ scope x (g d)) ifs (p d))
    (helt : ∀ d ∈ ds, p d = true → Ev W n (relS scope sc) (innerN σ scope x (g d)) elt (f d))
    (hs : ∀ env x, foldedSetIterable iter env x = pure x := by intro _ _; rfl) :
    Ev W n sc σ (.ListComp elt [⟨.Name x px, iter, ifs, 0⟩] scope pos) (.list ((ds.filter p).map f)) := by
  refine ⟨fun A env H s E Q hA hsc C hQ => ?_⟩
  rw [eval_ListComp]
  refine comp_core g p f ok hit hi hz hlen htest helt hA hsc C (hs env) fun s₁ Da Cc h' tk m ys c k₁ hDn hCn hDC hns kp hD hys => ?_
  refine ⟨m, hns, fun h'' hsb => ?_⟩
  have hne : ∀ b o, s₁.heap.get? b = some o → b ≠ Cc := fun b o e q => by rw [q, hCn] at e; cases e
  have k₂ : Kp s₁ { s₁ with heap := h'', toks := tk } := ⟨h'', tk, rfl, fun b o e => hsb.extBut b o (hne b o e) (kp b o e)⟩
  refine hQ _ _ (k₁.trans k₂) ?_
  have hDH : Da ∉ H := fun hm => by obtain ⟨o, e⟩ := (C.keeps k₁).old Da hm; rw [hDn] at e; cases e
  refine .list (hid_of (hsb.extBut _ _ hDC hD) hDH) ?_
  refine hys.mono ((le_unhide (fun a ha => List.mem_cons_of_mem _ ha)).trans (le_hid fun b o so e => ?_))
  refine hsb.extBut b o (fun q => ?_) e
  obtain ⟨o', es, ep, e1, e2, _⟩ := hns
  rw [q, e1] at e; cases e; exact not_solid_dict e2 so

/-- the same, as a new list of ints -/
theorem evf_comp {elt iter : Expr} {x : Str} {px : Pos} {ifs : List Expr} {scope : Scope} {pos : Pos} {d : D} {α : Type} {ds : List α} (g : α → D) (p : α → Bool) (f : α → Int)
    (ok : CompOk scope sc σ x) (hit : Ev W n sc σ iter d) (hi : itemsOf d = some (ds.map g)) (hz : ∀ a b, d = .rng a b → -(2 ^ 62) ≤ a ∧ a < 2 ^ 62 ∧ -(2 ^ 62) ≤ b ∧ b < 2 ^ 62) (hlen : ds.length ≤ 100000)
    (htest : ∀ d ∈ ds, EvT W n (relS scope sc) (innerN σ scope x (g d)) ifs (p d))
    (helt : ∀ d ∈ ds, p d = true → Ev W n (relS scope sc) (innerN σ scope x (g d)) elt (.int (f d)))
    (hs : ∀ env x, foldedSetIterable iter env x = pure x := by intro _ _; rfl) :
    EvF W n sc σ (.ListComp elt [⟨.Name x px, iter, ifs, 0⟩] scope pos) ((ds.filter p).map f) := by
  refine ⟨fun A env H s E Q hA hsc C hQ => ?_⟩
  rw [eval_ListComp]
  refine comp_core g p (fun y => .int (f y)) ok hit hi hz hlen htest helt hA hsc C (hs env) fun s₁ Da Cc h' tk m ys c k₁ hDn hCn hDC hns kp hD hys => ?_
  refine ⟨m, hns, fun h'' hsb => ?_⟩
  have hne : ∀ b o, s₁.heap.get? b = some o → b ≠ Cc := fun b o e q => by rw [q, hCn] at e; cases e
  have k₂ : Kp s₁ { s₁ with heap := h'', toks := tk } := ⟨h'', tk, rfl, fun b o e => hsb.extBut b o (hne b o e) (kp b o e)⟩
  refine hQ Da ys c _ (k₁.trans k₂) ?_ (hsb.extBut _ _ hDC hD) ?_
  · cases q : s.heap.get? Da with
    | none => rfl
    | some o => have := k₁.get _ _ q; rw [hDn] at this; cases this
  · have e : (ds.filter p).map (fun y => D.int (f y)) = iL ((ds.filter p).map f) := by simp [iL]
    rw [e] at hys; exact hys.toI
end
end Mine

namespace Mine

/-! ### frames and statements -/
structure FrC (G : Part) (env : Env) (h : Heap) (m : Str → Option Value) : Prop where
  ns : ∃ ml, h.Ns env.locals ml ∧ ∀ x, env.kindOf x = some .local → ml x = m x
  nsG : G env.locals = none
  cell : ∀ x, env.kindOf x = some .cell → ∃ c, env.cells.lookup x = some c ∧ h.IsCell c (m x) ∧ G c = none ∧ c ≠ env.locals
  inj : ∀ x y c, env.kindOf x = some .cell → env.kindOf y = some .cell → env.cells.lookup x = some c → env.cells.lookup y = some c → x = y

theorem FrC.keeps {G : Part} {env : Env} {h h' : Heap} {m : Str → Option Value} (F : FrC G env h m) (k : ∀ b o, h.get? b = some o → h'.get? b = some o) : FrC G env h' m :=
  ⟨let ⟨ml, a, b⟩ := F.ns; ⟨ml, a.keeps k, b⟩, F.nsG, fun x hx => let ⟨c, a, b, d, e⟩ := F.cell x hx; ⟨c, a, b.keeps k, d, e⟩, F.inj⟩
/-- a change at a place that is neither the table nor a cell -/
theorem FrC.keepsSolid {G : Part} {env : Env} {h h' : Heap} {m : Str → Option Value} {a : Addr} {o : Obj} (F : FrC G env h m) (k : Heap.SameBut a h h') (ha : h.get? a = some o) (so : Solid o) : FrC G env h' m := by
  refine ⟨?_, F.nsG, fun x hx => ?_, F.inj⟩
  · obtain ⟨ml, hn, b⟩ := F.ns
    refine ⟨ml, hn.sameBut k fun q => ?_, b⟩
    obtain ⟨o', es, ep, e1, e2, _⟩ := hn
    rw [q, ha] at e1; cases e1; exact not_solid_dict e2 so
  · obtain ⟨c, a1, b, d, e⟩ := F.cell x hx
    refine ⟨c, a1, b.sameBut k fun q => ?_, d, e⟩
    obtain ⟨o', e1, e2⟩ := b
    rw [q, ha] at e1; cases e1; exact not_solid_cell e2 so

def own (x : Str) (env : Env) : Prop := env.kindOf x = some .local ∨ env.kindOf x = some .cell
abbrev Ow := Option (Str × List Int)
/-- the owned list -/
def OwnIs (G : Part) (env : Env) (h : Heap) (m : Str → Option Value) : Ow → List Addr → Prop
  | none, rs => rs = []
  | some (x, ns), rs => ∃ a vs c, rs = [a] ∧ G a = none ∧ own x env ∧ m x = some (.ref a) ∧ h.get? a = some (listObj vs c) ∧ IntsAre vs ns

structure Fx (W : Wd) (G : Part) (H : List Addr) (env : Env) (σ : Names) (ow : Ow) (s : Shared) : Prop where
  kind : env.scope.kind = .function
  gl : env.globals = mainGlobals
  bl : env.builtins = builtinsNs
  base : ∀ b o, W.hB.get? b = some o → G b = some o
  old : ∀ a ∈ H, ∃ o, G a = some o
  keep : ∀ b o, G b = some o → s.heap.get? b = some o
  fr : ∃ m rs, FrC G env s.heap m ∧ OwnIs G env s.heap m ow rs ∧ ∀ x d, σ.lookup x = some d → own x env ∧ ∃ v, m x = some v ∧ Rep (hid (rs ++ H) s.heap) v d

/-- the owned list as a name among the others -/
def full (σ : Names) : Ow → Names
  | none => σ
  | some (x, ns) => (x, .list (iL ns)) :: σ

theorem FrC.sees {G : Part} {env : Env} {h : Heap} {m : Str → Option Value} (F : FrC G env h m) {x : Str} {v : Value} (hx : own x env) (e : m x = some v) : Sees env h x v := by
  rcases hx with k | k
  · obtain ⟨ml, hn, hm⟩ := F.ns
    exact .inl ⟨k, ml, hn, (hm x k).trans e⟩
  · obtain ⟨c, a, b, _⟩ := F.cell x k
    exact .inr ⟨.inl k, c, a, e ▸ b⟩

section
variable {W : Wd} {G : Part} {H : List Addr} {env : Env} {σ : Names} {ow : Ow} {s : Shared}

theorem Fx.keeps {s' : Shared} (F : Fx W G H env σ ow s) (k : Kp s s') : Fx W G H env σ ow s' := by
  obtain ⟨m, rs, f, o, v⟩ := F.fr
  refine ⟨F.kind, F.gl, F.bl, F.base, F.old, fun b o e => k.get b o (F.keep b o e), m, rs, f.keeps k.get, ?_, fun x d e => let ⟨h1, u, e1, r⟩ := v x d e; ⟨h1, u, e1, r.mono (le_hid fun b o _ e => k.get b o e)⟩⟩
  cases ow with
  | none => exact o
  | some p => obtain ⟨x, ns⟩ := p; obtain ⟨a, vs, c, e1, e2, e3, e4, e5, e6⟩ := o; exact ⟨a, vs, c, e1, e2, e3, e4, k.get _ _ e5, e6⟩

theorem rs_notH {ns : Str × List Int} {m : Str → Option Value} {rs : List Addr} (F : Fx W G H env σ ow s) (o : OwnIs G env s.heap m (some ns) rs) : ∀ a ∈ rs, a ∉ H := by
  obtain ⟨x, n⟩ := ns
  obtain ⟨a, vs, c, rfl, e2, _⟩ := o
  intro b hb hm
  rw [List.mem_singleton.mp hb] at hm
  obtain ⟨o, e⟩ := F.old a hm
  rw [e2] at e; cases e

theorem Fx.cx (F : Fx W G H env σ ow s) : Cx W env H (full σ ow) s := by
  obtain ⟨m, rs, f, o, v⟩ := F.fr
  refine ⟨F.kind, F.gl, F.bl, fun b o e => F.keep b o (F.base b o e), fun a ha => let ⟨o, e⟩ := F.old a ha; ⟨o, F.keep a o e⟩, fun x d e => ?_⟩
  have up : Le (hid (rs ++ H) s.heap) (hid H s.heap) := le_unhide fun a ha => List.mem_append_right _ ha
  cases ow with
  | none =>
    obtain ⟨h1, u, e1, r⟩ := v x d e
    exact ⟨u, f.sees h1 e1, r.mono up⟩
  | some p =>
    obtain ⟨y, ns⟩ := p
    have hn := rs_notH F o
    obtain ⟨a, vs, c, e1, e2, e3, e4, e5, e6⟩ := o
    unfold full at e
    rw [List.lookup_cons] at e
    cases hy : (x == y) with
    | true =>
      rw [hy] at e; cases e
      rw [beq_iff_eq] at hy; subst hy
      exact ⟨_, f.sees e3 e4, .list (hid_of e5 (hn a (e1 ▸ List.mem_singleton.mpr rfl))) (Reps.ofI e6)⟩
    | false =>
      rw [hy] at e
      obtain ⟨h1, u, q1, r⟩ := v x d e
      exact ⟨u, f.sees h1 q1, r.mono up⟩

/-- letting go of what is owned -/
theorem Fx.release (F : Fx W G H env σ ow s) : Fx W G H env (full σ ow) none s := by
  obtain ⟨m, rs, f, o, v⟩ := F.fr
  refine ⟨F.kind, F.gl, F.bl, F.base, F.old, F.keep, m, [], f, rfl, fun x d e => ?_⟩
  have up : Le (hid (rs ++ H) s.heap) (hid ([] ++ H) s.heap) := le_unhide fun a ha => List.mem_append_right _ (by simpa using ha)
  cases ow with
  | none =>
    obtain ⟨h1, u, e1, r⟩ := v x d e
    exact ⟨h1, u, e1, r.mono up⟩
  | some p =>
    obtain ⟨y, ns⟩ := p
    have hn := rs_notH F o
    obtain ⟨a, vs, c, e1, e2, e3, e4, e5, e6⟩ := o
    unfold full at e
    rw [List.lookup_cons] at e
    cases hy : (x == y) with
    | true =>
      rw [hy] at e; cases e
      rw [beq_iff_eq] at hy; subst hy
      exact ⟨e3, _, e4, .list (hid_of e5 (by simpa using hn a (e1 ▸ List.mem_singleton.mpr rfl))) (Reps.ofI e6)⟩
    | false =>
      rw [hy] at e
      obtain ⟨h1, u, q1, r⟩ := v x d e
      exact ⟨h1, u, q1, r.mono up⟩

/-- fewer names -/
theorem Fx.weaken {σ' : Names} (F : Fx W G H env σ ow s) (h : ∀ x d, σ'.lookup x = some d → σ.lookup x = some d) : Fx W G H env σ' ow s := by
  obtain ⟨m, rs, f, o, v⟩ := F.fr
  exact ⟨F.kind, F.gl, F.bl, F.base, F.old, F.keep, m, rs, f, o, fun x d e => v x d (h x d e)⟩

def updM (m : Str → Option Value) (x : Str) (v : Value) : Str → Option Value := fun y => if y = x then some v else m y

/-- a name is stored -/
theorem FrC.store {M : Model} {A : Around} {E : Value → Shared → Prop} {Q : Unit → Shared → Prop} {m : Str → Option Value} {x : Str} {v : Value} (F : FrC G env s.heap m) (hk : env.scope.kind = .function) (hx : own x env)
    (h : ∀ h' tk a, FrC G env h' (updM m x v) → Heap.SameBut a s.heap h' → G a = none → (∀ o, s.heap.get? a = some o → ¬ Solid o) → (∃ o, s.heap.get? a = some o) → Q () { s with heap := h', toks := tk }) :
    wpAny M A (storeName env x v) Q E s := by
  obtain ⟨ml, hn, hm⟩ := F.ns
  rcases hx with k | k
  · refine wpAny_storeName_local k hn (fun h' hn' hs' => ?_) (by rw [hk]; rfl)
    refine h h' _ env.locals ⟨⟨_, hn', fun y hy => ?_⟩, F.nsG, fun y hy => ?_, F.inj⟩ hs' F.nsG (fun o e => ?_) (let ⟨o, _, _, e, _⟩ := hn; ⟨o, e⟩)
    · show (if y = x then some v else ml y) = if y = x then some v else m y
      rw [hm y hy]
    · obtain ⟨c, a, b, d, e⟩ := F.cell y hy
      have hyx : y ≠ x := fun q => by rw [q, k] at hy; cases hy
      refine ⟨c, a, ?_, d, e⟩
      show h'.IsCell c (if y = x then some v else m y)
      rw [if_neg hyx]; exact b.sameBut hs' e
    · obtain ⟨o', es, ep, e1, e2, _⟩ := hn
      rw [e1] at e; cases e; exact not_solid_dict e2
  · obtain ⟨c, a, b, d, e⟩ := F.cell x k
    refine wpAny_storeName_cell hk k a b fun h' hc' hs' => ?_
    refine h h' s.toks c ⟨⟨ml, hn.sameBut hs' (Ne.symm e), fun y hy => ?_⟩, F.nsG, fun y hy => ?_, F.inj⟩ hs' d (fun o q => ?_) (let ⟨o, e, _⟩ := b; ⟨o, e⟩)
    · have hyx : y ≠ x := fun q => by rw [q, k] at hy; cases hy
      show ml y = if y = x then some v else m y
      rw [if_neg hyx]; exact hm y hy
    · obtain ⟨c', a', b', d', e'⟩ := F.cell y hy
      refine ⟨c', a', ?_, d', e'⟩
      show h'.IsCell c' (if y = x then some v else m y)
      by_cases hyx : y = x
      · subst hyx
        rw [a] at a'; cases a'
        rw [if_pos rfl]; exact hc'
      · rw [if_neg hyx]
        exact b'.sameBut hs' fun q => hyx (F.inj y x c hy k (q ▸ a') a)
    · obtain ⟨o', e1, e2⟩ := b
      rw [e1] at q; cases q; exact not_solid_cell e2
end

/-- the same run, another heap -/
def Run (s s' : Shared) : Prop := ∃ h tk, s' = { s with heap := h, toks := tk }
theorem Run.refl (s : Shared) : Run s s := ⟨_, _, rfl⟩
theorem Run.trans {s s' s'' : Shared} (a : Run s s') (b : Run s' s'') : Run s s'' := by
  obtain ⟨h, t, rfl⟩ := a; obtain ⟨h', t', rfl⟩ := b; exact ⟨h', t', rfl⟩
theorem Kp.run {s s' : Shared} (k : Kp s s') : Run s s' := by obtain ⟨h, t, e, _⟩ := k; exact ⟨h, t, e⟩

section
variable {W : Wd} {G : Part} {H : List Addr} {env : Env} {σ : Names} {ow : Ow} {s : Shared} {A : Around} {E : Value → Shared → Prop} {Q : Unit → Shared → Prop}

/-- a value is bound; what is owned stays so -/
theorem Fx.bind {x : Str} {v : Value} {d : D} (F : Fx W G H env σ ow s) (hx : own x env) (hne : ∀ p, ow = some p → p.1 ≠ x)
    (R : ∀ m rs, FrC G env s.heap m → OwnIs G env s.heap m ow rs → Rep (hid (rs ++ H) s.heap) v d)
    (h : ∀ s', Run s s' → Fx W G H env ((x, d) :: σ) ow s' → Q () s') : wpAny W.M A (storeName env x v) Q E s := by
  obtain ⟨m, rs, f, o, vals⟩ := F.fr
  have r := R m rs f o
  refine f.store F.kind hx fun h' tk a f' hsb hGa hna hex => h _ ⟨h', tk, rfl⟩ ?_
  have so : ∀ b o, Solid o → s.heap.get? b = some o → h'.get? b = some o := fun b o so e => hsb.extBut b o (fun q => hna o (q ▸ e) so) e
  refine ⟨F.kind, F.gl, F.bl, F.base, F.old, fun b o e => hsb.extBut b o (fun q => by rw [q, hGa] at e; cases e) (F.keep b o e), updM m x v, rs, f', ?_, fun y e hy => ?_⟩
  · cases ow with
    | none => exact o
    | some p =>
      obtain ⟨y, ns⟩ := p
      obtain ⟨a', vs, c, e1, e2, e3, e4, e5, e6⟩ := o
      refine ⟨a', vs, c, e1, e2, e3, ?_, so _ _ (.inl ⟨_, _, rfl⟩) e5, e6⟩
      show (if y = x then some v else m y) = _
      rw [if_neg (hne _ rfl)]; exact e4
  · rw [List.lookup_cons] at hy
    cases hyx : (y == x) with
    | true =>
      rw [hyx] at hy; cases hy
      rw [beq_iff_eq] at hyx; subst hyx
      exact ⟨hx, v, by show (if y = y then some v else m y) = _; rw [if_pos rfl], r.mono (le_hid so)⟩
    | false =>
      rw [hyx] at hy
      obtain ⟨h1, u, e1, r1⟩ := vals y e hy
      have hne' : y ≠ x := by simpa using hyx
      exact ⟨h1, u, by show (if y = x then some v else m y) = _; rw [if_neg hne']; exact e1, r1.mono (le_hid so)⟩

/-- a new list of ints is bound and owned -/
theorem Fx.acquire {x : Str} {a : Addr} {vs : List Value} {c : Nat} {ns : List Int} {s₀ : Shared} (F : Fx W G H env σ none s₀) (k : Kp s₀ s) (hx : own x env) (hne : ∀ d, σ.lookup x ≠ some d)
    (ha : s₀.heap.get? a = none) (hl : s.heap.get? a = some (listObj vs c)) (hi : IntsAre vs ns)
    (h : ∀ s', Run s s' → Fx W G H env σ (some (x, ns)) s' → Q () s') : wpAny W.M A (storeName env x (.ref a)) Q E s := by
  obtain ⟨m, rs, f, o, vals⟩ := F.fr
  have o' : rs = [] := o
  subst o'
  have hGa' : G a = none := by
    cases q : G a with
    | none => rfl
    | some o => have := F.keep a o q; rw [ha] at this; cases this
  refine (f.keeps k.get).store F.kind hx fun h' tk b f' hsb hGb hna hex => h _ ⟨h', tk, rfl⟩ ?_
  have so : ∀ b o, Solid o → s.heap.get? b = some o → h'.get? b = some o := fun b o so e => hsb.extBut b o (fun q => hna o (q ▸ e) so) e
  refine ⟨F.kind, F.gl, F.bl, F.base, F.old, fun b o e => hsb.extBut b o (fun q => by rw [q, hGb] at e; cases e) (k.get b o (F.keep b o e)), updM m x (.ref a), [a], f', ?_, fun y e hy => ?_⟩
  · exact ⟨a, vs, c, rfl, hGa', hx, by show (if x = x then _ else m x) = _; rw [if_pos rfl], so _ _ (.inl ⟨_, _, rfl⟩) hl, hi⟩
  · obtain ⟨h1, u, e1, r1⟩ := vals y e hy
    have hne' : y ≠ x := fun q => hne e (q ▸ hy)
    refine ⟨h1, u, by show (if y = x then _ else m y) = _; rw [if_neg hne']; exact e1, r1.mono fun b o sb e => ?_⟩
    obtain ⟨e, hn⟩ := hid_get e
    refine hid_of (so b o sb (k.get b o e)) fun hm => ?_
    rcases List.mem_append.mp hm with hm | hm
    · rw [List.mem_singleton.mp hm, ha] at e; cases e
    · exact hn (List.mem_append_right _ hm)

/-- an item of the owned list is stored -/
theorem setItem_exact {a : Addr} {vs : List Value} {c : Nat} {k : Int} {t : Tok} {v : Value} {Q : Unit → Shared → Prop} (hl : s.heap.get? a = some (listObj vs c)) (h0 : 0 ≤ k) (hk : k < vs.length) (hz : k < 100000)
    (h : ∀ h' c', h'.get? a = some (listObj (vs.set k.toNat v) c') → Heap.SameBut a s.heap h' → Q () { s with heap := h' }) : wpAny W.M A (setItem (.ref a) (.int k t) v) Q E s := by
  have hL : s.heap.IsList a vs.toArray := ⟨_, hl, rfl, c, rfl⟩
  unfold setItem
  refine wpAny_holding (wpAny_bind (wpAny_sequenceKey hL.typeIs (by decide) ?_))
  refine wpAny_bind (wpAny_callSpecial?_slot (name := Str.ofString "__setitem__") hL.typeIs slot_list_setitem
    (wpAny_call_entry slot_list_setitem hL.typeIs entry_list_setitem ?_ (args_list_setitem _ _ _)))
  show wpAny _ _ (Builtin.List.listSubscript? (.int k t) >>= _) _ _ s
  refine wpAny_bind (wpAny_listSubscript_int (fitsIndex_of h0 (by omega)) ?_)
  clear hz
  obtain ⟨j, rfl⟩ := Int.eq_ofNat_of_zero_le h0
  have hj : j < vs.length := by omega
  have hx : vs.toArray[j]? = some vs[j] := by simp [hj]
  have stored : (s.heap.update a (Obj.mapSeq (·.setIfInBounds j v))).get? a = some (listObj (vs.set j v) c) := by
    rw [Heap.get?_update_self _ hl rfl]
    simp [Obj.mapSeq]
  show wpAny _ _ ((seqItemAt a j >>= fun r => pure (r.map (j, ·))) >>= _) _ _ s
  refine wpAny_bind (wpAny_bind (wpAny_seqItemAt hl rfl (wpAny_pure ?_)))
  rw [hx]
  show wpAny _ _ (setSeqItemAt a j v >>= _) _ _ s
  refine wpAny_bind (wpAny_setSeqItemAt hl rfl ?_)
  first
    | exact wpAny_bind (wpAny_pure (wpAny_pure ⟨.none, rfl, wpAny_pure (h _ c stored (Heap.SameBut.update ..))⟩))
    | exact wpAny_pure ⟨.none, rfl, wpAny_pure (h _ c stored (Heap.SameBut.update ..))⟩
end
/-- the stack's frames in a heap -/
def FOk (W : Wd) (h : Heap) (l : List Env) : Prop := ∀ env ∈ l, env.scope.kind ≠ .module ∧ ∃ L o, env.frame = some L ∧ W.hB.get? L = none ∧ h.get? L = some o ∧ ∀ vs, o.data ≠ .fields vs
/-- the same, in a part -/
def FG (hB : Heap) (G : Part) (l : List Env) : Prop := ∀ env ∈ l, env.scope.kind ≠ .module ∧ ∃ L o, env.frame = some L ∧ hB.get? L = none ∧ G L = some o ∧ ∀ vs, o.data ≠ .fields vs
theorem FG.mono {hB : Heap} {G G' : Part} {l : List Env} (F : FG hB G l) (k : ∀ b o, G b = some o → G' b = some o) : FG hB G' l := fun env he =>
  let ⟨a, L, o, b, c, d, e⟩ := F env he; ⟨a, L, o, b, c, k _ _ d, e⟩
theorem FOk.keeps {W : Wd} {h h' : Heap} {l : List Env} (F : FOk W h l) (k : ∀ b o, h.get? b = some o → h'.get? b = some o) : FOk W h' l := fun env he =>
  let ⟨a, L, o, b, c, d, e⟩ := F env he; ⟨a, L, o, b, c, k _ _ d, e⟩
/-- an exception of the text's class flies through the stack's frames -/
structure Flown (W : Wd) (h₀ : Heap) (l : List Env) (e : Addr) (h : Heap) : Prop where
  fly : ∃ B t, Heap.FlyingW B l e (.ref W.tc) (.ref t) h ∧ (∀ b o, h₀.get? b = some o → (∀ env ∈ l, env.frame ≠ some b) → B.get? b = some o)
  slots : h₀.UpToSlots h

end Mine

namespace Mine

/-- a raise of the text's own exception -/
def RaisesTo (W : Wd) (A : Around) (G : Part) (H : List Addr) (env : Env) (s : Shared) (E : Value → Shared → Prop) : Prop :=
  (∀ h h' tk tk₀ e args, (∃ σ ow, Fx W G H env σ ow { s with heap := h, toks := tk₀ }) → Heap.MadeExcOf h h' e (.ref W.tc) args → E (.ref e) { s with heap := h', toks := tk }) ∧
  (∀ l h h' tk tk₀ e, A.frames = some l → (∃ σ ow, Fx W G H env σ ow { s with heap := h, toks := tk₀ }) → Flown W h l e h' → E (.ref e) { s with heap := h', toks := tk })

structure Hs (W : Wd) (n : Nat) (sc : Scope) (σ : Names) (ow : Ow) (st : Stmt) (N : Names → Ow → Prop) (R : D → Prop) (X : Prop) : Prop where
  run : ∀ (A : Around) (env : Env) (G : Part) (H : List Addr) (s : Shared) (Q : Flow → Shared → Prop) (E : Value → Shared → Prop), Room n A → env.scope = sc → W.P A env G → Fx W G H env σ ow s → PassesOwn W.M A env E →
    (∀ σ' ow' s', N σ' ow' → Run s s' → Fx W G H env σ' ow' s' → Q .next s') →
    (∀ d v s', R d → Run s s' → (∀ b o, G b = some o → s'.heap.get? b = some o) → Rep (hid H s'.heap) v d → Q (.ret v) s') →
    (X → RaisesTo W A G H env s E) → wpAny W.M A (exec st env) Q E s
structure Hx (W : Wd) (n : Nat) (sc : Scope) (σ : Names) (ow : Ow) (sts : List Stmt) (N : Names → Ow → Prop) (R : D → Prop) (X : Prop) : Prop where
  run : ∀ (A : Around) (env : Env) (G : Part) (H : List Addr) (s : Shared) (Q : Flow → Shared → Prop) (E : Value → Shared → Prop), Room n A → env.scope = sc → W.P A env G → Fx W G H env σ ow s → PassesOwn W.M A env E →
    (∀ σ' ow' s', N σ' ow' → Run s s' → Fx W G H env σ' ow' s' → Q .next s') →
    (∀ d v s', R d → Run s s' → (∀ b o, G b = some o → s'.heap.get? b = some o) → Rep (hid H s'.heap) v d → Q (.ret v) s') →
    (X → RaisesTo W A G H env s E) → wpAny W.M A (execs sts env) Q E s

theorem RaisesTo.run {W : Wd} {A : Around} {G : Part} {H : List Addr} {env : Env} {s s' : Shared} {E : Value → Shared → Prop} (h : RaisesTo W A G H env s E) (k : Run s s') : RaisesTo W A G H env s' E := by
  obtain ⟨h₁, t, rfl⟩ := k
  exact ⟨fun h2 h3 tk tk₀ e args hf hm => h.1 h2 h3 tk tk₀ e args hf hm, fun l h2 h3 tk tk₀ e hl hf hm => h.2 l h2 h3 tk tk₀ e hl hf hm⟩

def look (x : Str) (sc : Scope) : Prop := sc.names.lookup x = some .local ∨ sc.names.lookup x = some .cell
theorem own_of {x : Str} {sc : Scope} {env : Env} (h : env.scope = sc) (k : look x sc) : own x env := by
  unfold own Env.kindOf; rw [h]; exact k

/-- data without objects -/
def Flat : D → Prop
  | .none | .bool _ | .int _ | .str _ => True
  | _ => False
theorem Rep.flat {G G' : Part} {v : Value} {d : D} (h : Rep G v d) (f : Flat d) : Rep G' v d := by
  cases h <;> first | exact .none | exact .bool _ | exact .int _ _ | exact .str _ _ | exact f.elim

section
variable {W : Wd} {n : Nat} {sc : Scope} {σ σ' : Names} {ow : Ow} {N N' : Names → Ow → Prop} {R : D → Prop} {X : Prop}

theorem hx_nil (h : N σ ow) : Hx W n sc σ ow [] N R X := ⟨fun A env G H s Q E hA hs hPw F hE hN hR hX => wpAny_execs_nil (hN _ _ _ h (Run.refl s) F)⟩
theorem hx_cons {st : Stmt} {rest : List Stmt} (h : Hs W n sc σ ow st N' R X) (k : ∀ σ' ow', N' σ' ow' → Hx W n sc σ' ow' rest N R X) : Hx W n sc σ ow (st :: rest) N R X := by
  refine ⟨fun A env G H s Q E hA hs hPw F hE hN hR hX => ?_⟩
  refine wpAny_execs_cons (h.run A env G H s _ E hA hs hPw F hE (fun σ' ow' s' hn r F' => ?_) (fun d v s' hd r kp rp => hR d v s' hd r kp rp) hX)
  exact (k σ' ow' hn).run A env G H s' Q E hA hs hPw F' hE (fun σ'' ow'' s'' hn' r' F'' => hN _ _ _ hn' (r.trans r') F'') (fun d v s'' hd r' kp rp => hR d v s'' hd (r.trans r') kp rp) (fun x => (hX x).run r)
theorem Hx.weaken (h : Hx W n sc σ' ow sts N R X) (k : ∀ p ∈ σ', σ.lookup p.1 = some p.2) : Hx W n sc σ ow sts N R X :=
  ⟨fun A env G H s Q E hA hs hPw F hE hN hR hX => h.run A env G H s Q E hA hs hPw (F.weaken fun x d e => k _ (mem_of_lookup e)) hE hN hR hX⟩
theorem Hx.mono {R' : D → Prop} (h : Hx W n sc σ ow sts N R X) (k : ∀ σ ow, N σ ow → N' σ ow) (r : ∀ d, R d → R' d) : Hx W n sc σ ow sts N' R' X :=
  ⟨fun A env G H s Q E hA hs hPw F hE hN hR hX => h.run A env G H s Q E hA hs hPw F hE (fun σ ow s' a b c => hN σ ow s' (k σ ow a) b c) (fun d v s' a b c e => hR d v s' (r d a) b c e) hX⟩
theorem Hx.release (h : Hx W n sc (full σ ow) none sts N R X) : Hx W n sc σ ow sts N R X :=
  ⟨fun A env G H s Q E hA hs hPw F hE hN hR hX => h.run A env G H s Q E hA hs hPw F.release hE hN hR hX⟩

theorem hs_if {t : Expr} {b o : List Stmt} {p : Pos} {c : Bool} (ht : EvB W n sc (full σ ow) t c) (h1 : c = true → Hx W n sc σ ow b N R X) (h2 : c = false → Hx W n sc σ ow o N R X) : Hs W n sc σ ow (.If t b o p) N R X := by
  refine ⟨fun A env G H s Q E hA hs hPw F hE hN hR hX => ?_⟩
  refine wpAny_If (ht.run A env H s E _ hA hs F.cx fun s₁ k₁ => ?_)
  cases c with
  | true => exact (h1 rfl).run A env G H s₁ Q E hA hs hPw (F.keeps k₁) hE (fun σ' ow' s' a b c => hN _ _ _ a (k₁.run.trans b) c) (fun d v s' a b c e => hR d v s' a (k₁.run.trans b) c e) fun x => (hX x).run k₁.run
  | false => exact (h2 rfl).run A env G H s₁ Q E hA hs hPw (F.keeps k₁) hE (fun σ' ow' s' a b c => hN _ _ _ a (k₁.run.trans b) c) (fun d v s' a b c e => hR d v s' a (k₁.run.trans b) c e) fun x => (hX x).run k₁.run
theorem hs_ret {e : Expr} {p : Pos} {d : D} (he : Ev W n sc (full σ ow) e d) (hd : R d) : Hs W n sc σ ow (.Return (some e) p) N R X := by
  refine ⟨fun A env G H s Q E hA hs hPw F hE hN hR hX => ?_⟩
  refine wpAny_Return_some (he.run A env H s E _ hA hs F.cx fun v s₁ k₁ r₁ => hR d v s₁ hd k₁.run (fun b o e => k₁.get b o (F.keep b o e)) r₁)

theorem hs_assign {x : Str} {px pos : Pos} {e : Expr} {d : D} (he : Ev W n sc (full σ ow) e d) (hx : look x sc) (ho : ow = none ∨ (Flat d ∧ ∀ p, ow = some p → p.1 ≠ x)) (hN' : N ((x, d) :: σ) ow)
    (hsw : ∀ env : Env, env.scope = sc → swapsWith e (some (.Name x px)) pos.line env = pure false := by intro _ _; rfl) : Hs W n sc σ ow (.Assign [.Name x px] e pos) N R X := by
  refine ⟨fun A env G H s Q E hA hs hPw F hE hN hR hX => ?_⟩
  refine wpAny_Assign_Name (he.run A env H s E _ hA hs F.cx fun v s₁ k₁ r₁ => ?_) (hsw env hs)
  refine (F.keeps k₁).bind (own_of hs hx) ?_ ?_ fun s' r F' => hN _ _ _ hN' (k₁.run.trans r) F'
  · rcases ho with rfl | ⟨_, h⟩
    · intro p hp; cases hp
    · exact h
  · intro m rs f o
    rcases ho with rfl | ⟨h, _⟩
    · have o' : rs = [] := o
      subst o'; exact r₁
    · exact r₁.flat h

theorem hs_own {x : Str} {px pos : Pos} {e : Expr} {ns : List Int} (he : EvF W n sc σ e ns) (hx : look x sc) (hσ : ∀ p ∈ σ', σ.lookup p.1 = some p.2) (hn : σ'.lookup x = none) (hN' : N σ' (some (x, ns)))
    (hsw : ∀ env : Env, env.scope = sc → swapsWith e (some (.Name x px)) pos.line env = pure false := by intro _ _; rfl) : Hs W n sc σ none (.Assign [.Name x px] e pos) N R X := by
  refine ⟨fun A env G H s Q E hA hs hPw F hE hN hR hX => ?_⟩
  refine wpAny_Assign_Name (he.run A env H s E _ hA hs F.cx fun a vs c s₁ k₁ ha hl hi => ?_) (hsw env hs)
  exact (F.weaken fun x d e => hσ _ (mem_of_lookup e)).acquire k₁ (own_of hs hx) (fun d q => by rw [hn] at q; cases q) ha hl hi fun s' r F' => hN _ _ _ hN' (k₁.run.trans r) F'

/-- the owned list's own place, and a store into it -/
theorem own_ref {env : Env} {G : Part} {H : List Addr} {s : Shared} {x : Str} {ns : List Int} (F : Fx W G H env σ (some (x, ns)) s) :
    ∃ a, Sees env s.heap x (.ref a) ∧ (∃ vs c, s.heap.get? a = some (listObj vs c) ∧ IntsAre vs ns) ∧ ∀ (A : Around) (E : Value → Shared → Prop) (Q : Unit → Shared → Prop) (s' : Shared) (i j : Int) (t t' : Tok), Kp s s' → 0 ≤ i → i < ns.length → ns.length ≤ 100000 →
      (∀ s'', Run s' s'' → Fx W G H env σ (some (x, ns.set i.toNat j)) s'' → Q () s'') → wpAny W.M A (setItem (.ref a) (.int i t) (.int j t')) Q E s' := by
  obtain ⟨m, rs, f, o, vals⟩ := F.fr
  obtain ⟨a, vs, c, e1, e2, e3, e4, e5, e6⟩ := o
  refine ⟨a, f.sees e3 e4, ⟨vs, c, e5, e6⟩, fun A E Q s' i j t t' k h0 hi hz h => ?_⟩
  have hl := e6.length
  have e5' := k.get _ _ e5
  refine setItem_exact e5' h0 (by omega) (by omega) fun h' c' hl' hsb => h _ ⟨h', s'.toks, rfl⟩ ?_
  have so : Solid (listObj vs c) := .inl ⟨_, _, rfl⟩
  refine ⟨F.kind, F.gl, F.bl, F.base, F.old, fun b o e => hsb.extBut b o (fun q => by rw [q, e2] at e; cases e) (k.get b o (F.keep b o e)), m, rs, (f.keeps k.get).keepsSolid hsb e5' so, ⟨a, _, c', e1, e2, e3, e4, hl', ?_⟩, fun y d e => ?_⟩
  · have key : ∀ (k : Nat) {vs : List Value} {ns : List Int}, IntsAre vs ns → IntsAre (vs.set k (.int j t')) (ns.set k j) := by
      intro k vs ns hI
      induction hI generalizing k with
      | nil => exact .nil
      | cons n t hI ih =>
        cases k with
        | zero => exact .cons j t' hI
        | succ k => exact .cons n t (ih k)
    exact key _ e6
  · obtain ⟨h1, w, q1, r1⟩ := vals y d e
    refine ⟨h1, w, q1, r1.mono fun b o sb e => ?_⟩
    obtain ⟨e, hn⟩ := hid_get e
    refine hid_of (hsb.extBut b o (fun q => hn (List.mem_append_left _ (by rw [e1, q]; exact List.mem_singleton.mpr rfl))) (k.get b o e)) hn

theorem load_of {M : Model} {A : Around} {env : Env} {s : Shared} {E : Value → Shared → Prop} {Q : Value → Shared → Prop} {x : Str} {v : Value} {p : Pos} (hk : env.scope.kind = .function) (S : Sees env s.heap x v) (h : Q v s)
    (hd : (x == ("__debug__" : Str)) = false := by decide) (hc : (x == ("__classdict__" : Str)) = false := by decide) : wpAny M A (eval (.Name x p) env) Q E s := by
  refine wpAny_Name ?_ hd
  rcases S with ⟨k, m, hn, e⟩ | ⟨k | k, c, e, hcl⟩
  · exact wpAny_loadName_local hk k hn e h
  · exact wpAny_loadName_cell hk k e hcl h
  · exact wpAny_loadName_free hk k e hcl h hc

theorem hs_set {x : Str} {px p2 pos : Pos} {ie e : Expr} {ns : List Int} {i j : Int} (he : Ev W n sc (full σ (some (x, ns))) e (.int j)) (hi : Ev W n sc (full σ (some (x, ns))) ie (.int i)) (h0 : 0 ≤ i) (hlt : i < ns.length) (hz : ns.length ≤ 100000)
    (hN' : N σ (some (x, ns.set i.toNat j))) (hd : (x == ("__debug__" : Str)) = false := by decide) (hc : (x == ("__classdict__" : Str)) = false := by decide)
    (hsw : ∀ env : Env, env.scope = sc → swapsWith e (some (.Subscript (.Name x px) ie p2)) pos.line env = pure false := by intro _ _; rfl) :
    Hs W n sc σ (some (x, ns)) (.Assign [.Subscript (.Name x px) ie p2] e pos) N R X := by
  refine ⟨fun A env G H s Q E hA hs hPw F hE hN hR hX => ?_⟩
  refine wpAny_Assign_Subscript (he.run A env H s E _ hA hs F.cx fun v s₁ k₁ r₁ => ?_) (hsw env hs)
  have F₁ := F.keeps k₁
  obtain ⟨a, S, _, st⟩ := own_ref F₁
  refine load_of F.kind S ?_ hd hc
  refine hi.run A env H s₁ E _ hA hs F₁.cx fun u s₂ k₂ r₂ => ?_
  cases r₁; cases r₂
  exact st A E _ s₂ i j _ _ k₂ h0 hlt hz fun s₃ r₃ F₃ => hN _ _ _ hN' ((k₁.run.trans k₂.run).trans r₃) F₃

theorem hs_aug {x y : Str} {px py p2 pos : Pos} {e : Expr} {ns : List Int} {i j k : Int} (hy : Ev W n sc (full σ (some (x, ns))) (.Name y py) (.int i)) (he : Ev W n sc (full σ (some (x, ns))) e (.int j)) (h0 : 0 ≤ i) (hlt : i < ns.length) (hz : ns.length ≤ 100000)
    (hk : ns[i.toNat]? = some k) (hN' : N σ (some (x, ns.set i.toNat (k + j)))) (hd : (x == ("__debug__" : Str)) = false := by decide) (hc : (x == ("__classdict__" : Str)) = false := by decide) :
    Hs W n sc σ (some (x, ns)) (.AugAssign (.Subscript (.Name x px) (.Name y py) p2) .Add e pos) N R X := by
  refine ⟨fun A env G H s Q E hA hs hPw F hE hN hR hX => ?_⟩
  refine wpAny_AugAssign_Subscript ?_
  obtain ⟨a, S, ⟨vs, c, e5, e6⟩, st⟩ := own_ref F
  refine load_of F.kind S ?_ hd hc
  refine hy.run A env H s E _ hA hs F.cx fun u s₁ k₁ r₁ => ?_
  cases r₁
  have C₁ := (F.keeps k₁).cx
  have hkl : i.toNat < ns.length := by omega
  obtain ⟨t, hg⟩ := e6.get _ _ hk
  refine wpAny_getItem_list (items := vs.toArray) ⟨_, k₁.get _ _ e5, rfl, c, rfl⟩ h0 (by omega) (x := .int k t) (by simpa using hg) ?_
  refine he.run A env H s₁ E _ hA hs C₁ fun u s₂ k₂ r₂ => ?_
  cases r₂
  refine P.iadd_int ?_
  exact st A E _ _ i (k + j) _ _ ((k₁.trans k₂).trans (Kp.toks s₂ _)) h0 hlt hz fun s₃ r₃ F₃ => hN _ _ _ hN' (((k₁.trans k₂).trans (Kp.toks s₂ _)).run.trans r₃) F₃
end
end Mine

namespace Mine
section
variable {W : Wd} {n : Nat} {sc : Scope} {σ σ' : Names} {ow : Ow} {N N' : Names → Ow → Prop} {R : D → Prop} {X : Prop}

theorem Fx.widen {G Gt : Part} {H : List Addr} {env : Env} {σ₀ : Names} {ow₀ : Ow} {s₀ s : Shared} (F₀ : Fx W G H env σ₀ ow₀ s₀) (F : Fx W Gt H env σ ow s) (h : ∀ b o, G b = some o → Gt b = some o) : Fx W G H env σ ow s := by
  obtain ⟨m, rs, f, o, v⟩ := F.fr
  have hn : ∀ b, Gt b = none → G b = none := fun b e => by
    cases q : G b with
    | none => rfl
    | some o => rw [h b o q] at e; cases e
  refine ⟨F.kind, F.gl, F.bl, F₀.base, F₀.old, fun b o e => F.keep b o (h b o e), m, rs, ⟨f.ns, hn _ f.nsG, fun x hx => let ⟨c, a, b, d, e⟩ := f.cell x hx; ⟨c, a, b, hn _ d, e⟩, f.inj⟩, ?_, v⟩
  cases ow with
  | none => exact o
  | some p => obtain ⟨x, ns⟩ := p; obtain ⟨a, vs, c, e1, e2, e3⟩ := o; exact ⟨a, vs, c, e1, hn _ e2, e3⟩

/-- more is kept: all but the frame's own -/
theorem Fx.narrow {G : Part} {H : List Addr} {env : Env} {s : Shared} (F : Fx W G H env σ ow s) : ∃ Gt : Part, Fx W Gt H env σ ow s ∧ (∀ b o, G b = some o → Gt b = some o) ∧
    (∀ b o, s.heap.get? b = some o → (∀ es ep, o.data ≠ .dict es ep) → (∀ v, o.data ≠ .cell v) → (ow = none ∨ ¬ Solid o) → Gt b = some o) := by
  obtain ⟨m, rs, f, o, v⟩ := F.fr
  let Ex : Addr → Prop := fun b => b = env.locals ∨ (∃ x c, env.kindOf x = some .cell ∧ env.cells.lookup x = some c ∧ b = c) ∨ b ∈ rs
  classical
  let Gt : Part := fun b => if Ex b then G b else s.heap.get? b
  have hle : ∀ b o, G b = some o → Gt b = some o := fun b o e => by
    show (if Ex b then G b else s.heap.get? b) = some o
    split
    · exact e
    · exact F.keep b o e
  have hex : ∀ b, Ex b → G b = none → Gt b = none := fun b hb e => by
    show (if Ex b then G b else s.heap.get? b) = none
    rw [if_pos hb]; exact e
  refine ⟨Gt, ⟨F.kind, F.gl, F.bl, fun b o e => hle b o (F.base b o e), fun a ha => let ⟨o, e⟩ := F.old a ha; ⟨o, hle a o e⟩, fun b o e => ?_, m, rs, ⟨f.ns, hex _ (.inl rfl) f.nsG, fun x hx => ?_, f.inj⟩, ?_, v⟩, hle, fun b ob e nd nc hso => ?_⟩
  · have e' : (if Ex b then G b else s.heap.get? b) = some o := e
    split at e'
    · exact F.keep b o e'
    · exact e'
  · obtain ⟨c, a, b, d, e⟩ := f.cell x hx
    exact ⟨c, a, b, hex _ (.inr (.inl ⟨x, c, hx, a, rfl⟩)) d, e⟩
  · cases ow with
    | none => exact o
    | some p => obtain ⟨x, ns⟩ := p; obtain ⟨a, vs, c, e1, e2, e3⟩ := o; exact ⟨a, vs, c, e1, hex _ (.inr (.inr (e1 ▸ List.mem_singleton.mpr rfl))) e2, e3⟩
  · show (if Ex b then G b else s.heap.get? b) = some ob
    rw [if_neg]
    · exact e
    · rintro (q | ⟨x, c, hx, ec, q⟩ | q)
      · obtain ⟨ml, ⟨o', es, ep, e1, e2, _⟩, _⟩ := f.ns
        rw [q, e1] at e; cases e; exact nd _ _ e2
      · obtain ⟨c', a, ⟨o', e1, e2⟩, _⟩ := f.cell x hx
        rw [ec] at a; cases a
        rw [q, e1] at e; cases e; exact nc _ e2
      · cases ow with
        | none => have o' : rs = [] := o; rw [o'] at q; cases q
        | some p =>
          obtain ⟨x, ns⟩ := p
          obtain ⟨a, vs, c, e1, e2, e3, e4, e5, e6⟩ := o
          rw [e1] at q
          rw [List.mem_singleton.mp q, e5] at e; cases e
          rcases hso with h | h
          · cases h
          · exact h (.inl ⟨_, _, rfl⟩)

theorem mark_none (A : Around) : A.mark none = A := by cases A; rfl

/-- an iterator has moved, nothing else -/
theorem moved {G : Part} {H : List Addr} {env : Env} {σ₁ : Names} {ow₁ : Ow} {s₁ s' : Shared} {wr : List Addr} {h₂ : Heap} {tk₂ : Nat} (hwd : ∀ b ∈ wr, ∀ o, s'.heap.get? b = some o → ¬ Solid o ∧ ∃ vs, o.data = .fields vs)
    (hwr : ∀ b ∈ wr, s₁.heap.get? b = none) (F₁ : Fx W G H env σ ow s₁) (F' : Fx W G H env σ₁ ow₁ s') (hk₂ : ∀ b o, b ∉ wr → s'.heap.get? b = some o → h₂.get? b = some o) : Fx W G H env σ₁ ow₁ { s' with heap := h₂, toks := tk₂ } := by
  have hG : ∀ b ∈ wr, G b = none := fun b hb => by
    cases q : G b with
    | none => rfl
    | some o => have := F₁.keep b o q; rw [hwr b hb] at this; cases this
  obtain ⟨m, rs, f, o, vals⟩ := F'.fr
  have so : ∀ b o, Solid o → s'.heap.get? b = some o → h₂.get? b = some o := fun b o so e => hk₂ b o (fun hw => (hwd b hw o e).1 so) e
  refine ⟨F'.kind, F'.gl, F'.bl, F'.base, F'.old, fun b o e => hk₂ b o (fun hw => by rw [hG b hw] at e; cases e) (F'.keep b o e), m, rs, ⟨?_, f.nsG, fun y hy => ?_, f.inj⟩, ?_, fun y e hy => ?_⟩
  · obtain ⟨ml, hn, hm⟩ := f.ns
    refine ⟨ml, hn.at' fun o e => hk₂ _ o (fun hw => ?_) e, hm⟩
    obtain ⟨_, vs, q⟩ := hwd _ hw o e
    obtain ⟨o', es, ep, e1, e2, _⟩ := hn
    rw [e1] at e; cases e; rw [e2] at q; cases q
  · obtain ⟨c, a, ⟨o', e1, e2⟩, d0, e0⟩ := f.cell y hy
    refine ⟨c, a, ⟨o', hk₂ _ o' (fun hw => ?_) e1, e2⟩, d0, e0⟩
    obtain ⟨_, vs, q⟩ := hwd _ hw o' e1
    rw [e2] at q; cases q
  · cases ow₁ with
    | none => exact o
    | some p => obtain ⟨y, ns⟩ := p; obtain ⟨a, vs, c, e1, e2, e3, e4, e5, e6⟩ := o; exact ⟨a, vs, c, e1, e2, e3, e4, so _ _ (.inl ⟨_, _, rfl⟩) e5, e6⟩
  · obtain ⟨q1, w, q2, q3⟩ := vals y e hy
    exact ⟨q1, w, q2, q3.mono (le_hid so)⟩

theorem hs_for {x : Str} {px pos : Pos} {iter : Expr} {body : List Stmt} {d : D} {ds : List D} (I : Nat → Names → Ow → Prop)
    (he : Ev W n sc (full σ ow) iter d) (hi : itemsOf d = some ds) (hz : ∀ a b, d = .rng a b → -(2 ^ 62) ≤ a ∧ a < 2 ^ 62 ∧ -(2 ^ 62) ≤ b ∧ b < 2 ^ 62) (hx : look x sc)
    (hmode : (∃ a b, d = .rng a b) ∨ (∀ i σ' ow', I i σ' ow' → ow' = none))
    (h0 : I 0 σ ow) (hxo : ∀ i σ' p, I i σ' (some p) → p.1 ≠ x)
    (turn : ∀ i d' σ' ow', ds[i]? = some d' → I i σ' ow' → Hx W n sc ((x, d') :: σ') ow' body (I (i + 1)) R X)
    (done : ∀ σ' ow', I ds.length σ' ow' → N σ' ow')
    (hfold : ∀ env x, foldedSetIterable iter env x = pure x := by intro _ _; rfl) : Hs W n sc σ ow (.For (.Name x px) iter body [] pos) N R X := by
  refine ⟨fun A env G H s Q E hA hs hPw F hE hN hR hX => ?_⟩
  show wpAny W.M A (do standAt pos; let x' ← foldedSetIterable iter env (← eval iter env); standAt iter.pos; runOwn (.forLoop (.Name x px) (← holding [x'] (pyIter x')) body [] env) env) Q E s
  refine wpAny_bind (wpAny_standAt (wpAny_bind (he.run A env H s E _ hA hs F.cx fun v s₁ k₁ r₁ => ?_)))
  rw [hfold]
  refine wpAny_bind (wpAny_pure (wpAny_bind (wpAny_standAt (wpAny_bind (wpAny_holding ?_)))))
  refine iter_of hA.1 r₁ hi hz fun It fp wr P St h₁ Wk keep₁ hst₀ hwr hfp hfpo hwo hrg hP hLi0 => ?_
  refine wpAny_runOwn ?_
  rw [mark_none]
  have F₁ := F.keeps k₁
  have kk : Kp s₁ { s₁ with heap := h₁ } := ⟨h₁, s₁.toks, rfl, keep₁⟩
  -- between two turns
  let J : Nat → Shared → Prop := fun k s' => ∃ i σ' ow', I i σ' ow' ∧ Fx W G H env σ' ow' s' ∧ Run s s' ∧ St i s'.heap ∧ i ≤ ds.length ∧ k = ds.length + 1 - i ∧ ((∃ a b, d = .rng a b) ∨ ∀ b o, Solid o → s₁.heap.get? b = some o → s'.heap.get? b = some o)
  refine codeAny_forLoop_any J ?_ (ds.length + 1) ⟨0, σ, ow, h0, F₁.keeps kk, k₁.run.trans kk.run, hst₀, Nat.zero_le _, rfl, .inr fun b o _ e => keep₁ b o e⟩
  rintro k s' ⟨i, σ₁, ow₁, hI, F', r', hst, hi', rfl, hkeep⟩
  by_cases hlt : i < ds.length
  · refine Wk.item i _ _ _ hlt hst fun v' h₂ tk₂ hPv hst₂ hk₂ => ?_
    obtain ⟨d', hd', rd'⟩ := hP i v' hPv
    have hwd : ∀ b ∈ wr, ∀ o, s'.heap.get? b = some o → ¬ Solid o ∧ ∃ vs, o.data = .fields vs := fun b hb o e => by
      obtain ⟨o', e', n', f'⟩ := hwo _ _ hst b hb
      rw [e'] at e; cases e; exact ⟨n', f'⟩
    have F₂ : Fx W G H env σ₁ ow₁ { s' with heap := h₂, toks := tk₂ } := moved hwd hwr F₁ F' hk₂
    -- all but the frame's own is kept from here on
    obtain ⟨Gt, F₂t, hle, hnar⟩ := F₂.narrow
    have hlist : (∀ a b, d ≠ .rng a b) → ow₁ = none ∧ ∀ b o, Solid o → s₁.heap.get? b = some o → h₂.get? b = some o := fun hd => by
      refine ⟨?_, fun b o so e => ?_⟩
      · rcases hmode with ⟨a, b, q⟩ | hm
        · exact absurd q (hd a b)
        · exact hm i σ₁ ow₁ hI
      · rcases hkeep with ⟨a, b, q⟩ | hk
        · exact absurd q (hd a b)
        · have e' := hk b o so e
          exact hk₂ b o (fun hw => (hwd b hw o e').1 so) e'
    have hfpt : ∀ b ∈ fp, ∀ o, h₂.get? b = some o → Gt b = some o := fun b hb o e => by
      have inw : b ∈ wr → Gt b = some o := fun hw => by
        obtain ⟨o', e', n', vs, f'⟩ := hwo _ _ hst₂ b hw
        rw [e'] at e; cases e
        exact hnar b _ e' (fun _ _ q => by rw [f'] at q; cases q) (fun _ q => by rw [f'] at q; cases q) (.inr n')
      by_cases hr : ∃ a b, d = .rng a b
      · obtain ⟨a, c, q⟩ := hr
        exact inw (hrg a c q b hb)
      · obtain ⟨hn, hk⟩ := hlist (fun a b q => hr ⟨a, b, q⟩)
        rcases hfpo b hb with ⟨o', e1, so, e2, _⟩ | hw
        · have e3 := hk b o' so e2
          rw [e3] at e; cases e
          refine hnar b _ e3 ?_ ?_ (.inl hn)
          · rintro es ep q; exact not_solid_dict q so
          · rintro v q; exact not_solid_cell q so
        · exact inw hw
    have item : ∀ m rs, FrC Gt env h₂ m → OwnIs Gt env h₂ m ow₁ rs → Rep (hid (rs ++ H) h₂) v' d' := by
      intro m rs f o
      by_cases hr : ∃ a b, d = .rng a b
      · obtain ⟨a, b, rfl⟩ := hr
        cases hi
        rw [List.getElem?_map] at hd'
        cases q : (List.range (b - a).toNat)[i]? with
        | none => rw [q] at hd'; cases hd'
        | some j => rw [q] at hd'; cases hd'; exact rd'.flat trivial
      · obtain ⟨hn, hk⟩ := hlist (fun a b q => hr ⟨a, b, q⟩)
        subst hn
        have o' : rs = [] := o
        subst o'
        exact rd'.mono (le_hid hk)
    refine wpAny_pure ?_
    refine wpAny_assign_Name ?_
    refine F₂t.bind (d := d') (own_of hs hx) (fun p hp => hxo i σ₁ p (hp ▸ hI)) item fun s₃ r₃ F₃ => ?_
    have rt : Run s s₃ := (r'.trans (⟨_, _, rfl⟩ : Run s' { s' with heap := h₂, toks := tk₂ })).trans r₃
    refine wpAny_passesOwn hE ((turn i d' σ₁ ow₁ hd' hI).run A env Gt H s₃ _ E hA hs (W.Pm _ _ _ _ hPw hle) F₃ hE (fun σ₄ ow₄ s₄ hI₄ r₄ F₄ => ?_) (fun e v s₄ he r₄ kp rp => ?_) fun x => ?_)
    · refine ⟨ds.length + 1 - (i + 1), by omega, i + 1, σ₄, ow₄, hI₄, F'.widen F₄ hle, rt.trans r₄, Wk.frame _ _ _ hst₂ (fun b hb o e => F₄.keep b o (hfpt b hb o e)), hlt, rfl, ?_⟩
      by_cases hr : ∃ a b, d = .rng a b
      · exact .inl hr
      · obtain ⟨hn, hk⟩ := hlist (fun a b q => hr ⟨a, b, q⟩)
        refine .inr fun b o so e => F₄.keep b o (hnar b o (hk b o so e) ?_ ?_ (.inl hn))
        · rintro es ep q; exact not_solid_dict q so
        · rintro v q; exact not_solid_cell q so
    · exact hR e v s₄ he (rt.trans r₄) (fun b o e => kp b o (hle b o e)) rp
    · have hx := (hX x).run rt
      exact ⟨fun h h' tk tk₀ e args hf hm => let ⟨σ₆, ow₆, F₆⟩ := hf; hx.1 h h' tk tk₀ e args ⟨σ₆, ow₆, F'.widen F₆ hle⟩ hm, fun l h h' tk tk₀ e hl hf hm => let ⟨σ₆, ow₆, F₆⟩ := hf; hx.2 l h h' tk tk₀ e hl ⟨σ₆, ow₆, F'.widen F₆ hle⟩ hm⟩
  · have hin : i = ds.length := by omega
    subst hin
    refine Wk.done _ _ _ hst fun h₂ tk₂ hk₂ => wpAny_execs_nil ?_
    have hwd : ∀ b ∈ wr, ∀ o, s'.heap.get? b = some o → ¬ Solid o ∧ ∃ vs, o.data = .fields vs := fun b hb o e => by
      obtain ⟨o', e', n', f'⟩ := hwo _ _ hst b hb
      rw [e'] at e; cases e; exact ⟨n', f'⟩
    refine hN _ _ _ (done σ₁ ow₁ hI) (r'.trans ⟨_, _, rfl⟩) ?_
    exact moved hwd hwr F₁ F' hk₂
end
end Mine

namespace Mine

theorem bindL_notin {k : Str → Option NameKind} : ∀ (binds : List (Str × Value)) (m : Str → Option Value) {y : Str}, y ∉ binds.map (·.1) → bindL k binds m y = m y
  | [], _, _, _ => rfl
  | (z, v) :: r, m, y, h => by
    rw [List.map_cons, List.mem_cons, not_or] at h
    unfold bindL
    rw [bindL_notin r _ h.2]
    split
    · show (if y = z then some v else m y) = m y
      rw [if_neg h.1]
    · rfl
theorem bindC_notin {k : Str → Option NameKind} : ∀ (binds : List (Str × Value)) (m : Str → Option Value) {y : Str}, y ∉ binds.map (·.1) → bindC k binds m y = m y
  | [], _, _, _ => rfl
  | (z, v) :: r, m, y, h => by
    rw [List.map_cons, List.mem_cons, not_or] at h
    unfold bindC
    rw [bindC_notin r _ h.2]
    split
    · rfl
    · show (if y = z then some v else m y) = m y
      rw [if_neg h.1]
theorem bindL_of {k : Str → Option NameKind} : ∀ (binds : List (Str × Value)) (m : Str → Option Value) {y : Str} {v : Value}, (binds.map (·.1)).Nodup → binds.lookup y = some v → k y = some .local → bindL k binds m y = some v
  | [], _, _, _, _, h, _ => by cases h
  | (z, u) :: r, m, y, v, hn, h, hk => by
    rw [List.map_cons, List.nodup_cons] at hn
    rw [List.lookup_cons] at h
    unfold bindL
    cases hy : (y == z) with
    | true =>
      rw [hy] at h; cases h
      rw [beq_iff_eq] at hy; subst hy
      rw [bindL_notin r _ hn.1, if_pos hk]
      exact if_pos rfl
    | false => rw [hy] at h; exact bindL_of r _ hn.2 h hk
theorem bindC_of {k : Str → Option NameKind} : ∀ (binds : List (Str × Value)) (m : Str → Option Value) {y : Str} {v : Value}, (binds.map (·.1)).Nodup → binds.lookup y = some v → k y ≠ some .local → bindC k binds m y = some v
  | [], _, _, _, _, h, _ => by cases h
  | (z, u) :: r, m, y, v, hn, h, hk => by
    rw [List.map_cons, List.nodup_cons] at hn
    rw [List.lookup_cons] at h
    unfold bindC
    cases hy : (y == z) with
    | true =>
      rw [hy] at h; cases h
      rw [beq_iff_eq] at hy; subst hy
      rw [bindC_notin r _ hn.1, if_neg hk]
      exact if_pos rfl
    | false => rw [hy] at h; exact bindC_of r _ hn.2 h hk

/-- a function of the text's -/
structure Fn (W : Wd) (f : Addr) (fd : FuncData) (body : List Stmt) (names : List Str) (dv : List Value) : Prop where
  at_ : ∃ o, W.hB.get? f = some o ∧ o.data = .func fd
  code : W.hB.CodeRec fd.code fd.qualname
  body : fd.body = .stmts body
  globals : fd.globals = mainGlobals
  closure : fd.closure = []
  builtins : fd.builtins = builtinsNs
  co : fd.scope.isCoroutine = false
  gen : fd.scope.isGenerator = false
  kind : fd.scope.kind = .function
  nodup : names.Nodup
  look : ∀ y ∈ names, look y fd.scope
  binds : ∀ (s : Shared) (vs : List Value), (∀ b o, W.hB.get? b = some o → s.heap.get? b = some o) → vs.length + dv.length = names.length → BindsTo s fd ⟨vs, []⟩ (names.zip (vs ++ dv))

theorem lookup_zip : ∀ {names : List Str} {ds : List D} {vs : List Value} {G : Part} {y : Str} {d : D}, Reps G vs ds → (names.zip ds).lookup y = some d → ∃ v, (names.zip vs).lookup y = some v ∧ Rep G v d ∧ y ∈ names
  | [], _, _, _, _, _, _, h => by cases h
  | z :: r, [], _, _, _, _, _, h => by cases h
  | z :: r, e :: ds, _, G, y, d, .cons (v := v) (vs := vs) h1 h2, h => by
    rw [List.zip_cons_cons, List.lookup_cons] at h
    rw [List.zip_cons_cons, List.lookup_cons]
    cases hy : (y == z) with
    | true =>
      rw [hy] at h; cases h
      rw [beq_iff_eq] at hy
      exact ⟨v, rfl, h1, hy ▸ List.mem_cons_self⟩
    | false =>
      rw [hy] at h
      obtain ⟨u, a, b, c⟩ := lookup_zip h2 h
      exact ⟨u, a, b, List.mem_cons_of_mem _ c⟩

section
variable {W : Wd} {n : Nat}
theorem zip_keys {α : Type} {names : List Str} {vs : List α} (h : vs.length = names.length) : (names.zip vs).map (·.1) = names := by
  rw [List.map_fst_zip]; omega

/-- the frame of a call -/
theorem frame_of {f : Addr} {fd : FuncData} {body : List Stmt} {names : List Str} {dv : List Value} {ds dd : List D} (F : Fn W f fd body names dv) {s s' : Shared} {vs : List Value} {H : List Addr} {env : Env}
    (hb : ∀ b o, W.hB.get? b = some o → s.heap.get? b = some o) (ho : ∀ a ∈ H, ∃ o, s.heap.get? a = some o) (R : Reps (hid H s.heap) vs ds) (hdv : ∀ G, Reps G dv dd) (hlen : vs.length + dv.length = names.length)
    (he : env = newEnv fd.scope s.heap.objs.size mainGlobals (cellsFrom (s.heap.objs.size + 1) fd.scope.names []) (env.qual) (some f) fd.code none builtinsNs)
    (x : InCallC s env.locals (bindL env.kindOf (names.zip (vs ++ dv)) fun _ => none) env.cells (bindC env.kindOf (names.zip (vs ++ dv)) fun _ => none) s') :
    Fx W s.heap.get? H env (names.zip (ds ++ dd)) none s' := by
  have hsc : env.scope = fd.scope := by rw [he]; rfl
  have hcells : env.cells = cellsFrom (s.heap.objs.size + 1) fd.scope.names [] := by rw [he]; rfl
  have hL : env.locals = s.heap.objs.size := by rw [he]; rfl
  have keep := x.toInCall.keep
  have hnone : ∀ a : Nat, s.heap.objs.size ≤ a → s.heap.get? a = none := fun a ha => by
    cases q : s.heap.get? a with
    | none => rfl
    | some o => exact absurd (Heap.lt_size q) (Nat.not_lt.mpr ha)
  have hkeys : ((names.zip (vs ++ dv)).map (·.1)).Nodup := by rw [zip_keys (by rw [List.length_append]; exact hlen)]; exact F.nodup
  refine ⟨by rw [hsc]; exact F.kind, by rw [he]; rfl, by rw [he]; rfl, hb, ho, keep, fun y => if env.kindOf y = some .local then bindL env.kindOf (names.zip (vs ++ dv)) (fun _ => none) y else bindC env.kindOf (names.zip (vs ++ dv)) (fun _ => none) y, [], ⟨?_, ?_, fun y hy => ?_, fun y z c hy hz ec ec' => ?_⟩, rfl, fun y d hy => ?_⟩
  · exact ⟨_, x.toInCall.ns, fun y hy => (if_pos hy).symm⟩
  · rw [hL]; exact hnone _ (Nat.le_refl _)
  · have hs' : (cellsFrom (s.heap.objs.size + 1) fd.scope.names []).lookup y |>.isSome := cellsFrom_some (x := y) fd.scope.names _ [] (.inl (by rw [← hsc]; exact hy))
    obtain ⟨c, ec⟩ := Option.isSome_iff_exists.mp hs'
    rw [← hcells] at ec
    have hab : @LT.lt Nat _ env.locals c := x.above y c (mem_of_lookup ec)
    refine ⟨c, ec, ?_, hnone c (Nat.le_of_lt (hL ▸ hab)), Ne.symm (Nat.ne_of_lt hab)⟩
    have := x.cell y c ec
    have e' : (if env.kindOf y = some .local then bindL env.kindOf (names.zip (vs ++ dv)) (fun _ => none) y else bindC env.kindOf (names.zip (vs ++ dv)) (fun _ => none) y) = bindC env.kindOf (names.zip (vs ++ dv)) (fun _ => none) y := if_neg (by rw [hy]; decide)
    exact e'.symm ▸ this
  · exact name_of_addr x.apart (mem_of_lookup ec) (mem_of_lookup ec')
  · have RR : Reps (hid H s.heap) (vs ++ dv) (ds ++ dd) := R.append (hdv _)
    obtain ⟨v, hv, rv, hm⟩ := lookup_zip RR hy
    have hlk := F.look y hm
    have hown : own y env := by unfold own Env.kindOf; rw [hsc]; exact hlk
    refine ⟨hown, v, ?_, rv.mono (le_hid fun b o _ e => keep b o e)⟩
    rcases hown with h | h
    · exact (if_pos h).trans (bindL_of _ _ hkeys hv h)
    · have : env.kindOf y ≠ some .local := by rw [h]; decide
      exact (if_neg this).trans (bindC_of _ _ hkeys hv this)

theorem call_fn {f : Addr} {fd : FuncData} {body : List Stmt} {names : List Str} {dv : List Value} {ds dd : List D} {d : D} (F : Fn W f fd body names dv) (np : ∀ A env G, env.scope = fd.scope → W.P A env G) (hdv : ∀ G, Reps G dv dd) (hlen : ds.length + dv.length = names.length)
    (hbody : Hx W n fd.scope (names.zip (ds ++ dd)) none body (fun _ _ => False) (fun d' => d' = d) False) : CallV W (n + 1) (.ref f) ds d := by
  refine ⟨fun A H s E Q vs hA hb ho R hQ => ?_⟩
  obtain ⟨o, hof, hod⟩ := F.at_
  refine wpAny_call (codeAny_call_function (by have := hA.2.1; omega) (hb _ _ hof) hod F.co F.gen F.body (F.code.keeps hb) ?_)
  have hlen' : vs.length + dv.length = names.length := by rw [R.length]; exact hlen
  refine F.binds s vs hb hlen' _ _ _ _ ?_
  rw [F.globals, F.closure, F.builtins]
  have hkeys : (names.zip (vs ++ dv)).map (·.1) = names := zip_keys (by rw [List.length_append]; exact hlen')
  refine wpAny_newFunctionEnv_cells F.kind (fun y hy => ?_) fun env he s' x => ?_
  · have hm : y.1 ∈ names := hkeys ▸ List.mem_map.mpr ⟨y, hy, rfl⟩
    rcases F.look _ hm with h | h
    · exact .inl h
    · exact .inr ⟨h, cellsFrom_some (x := y.1) fd.scope.names _ [] (.inl h)⟩
  have hq : env = newEnv fd.scope s.heap.objs.size mainGlobals (cellsFrom (s.heap.objs.size + 1) fd.scope.names []) (env.qual) (some f) fd.code none builtinsNs := by rw [he]; rfl
  have Fx₀ := frame_of F hb ho R hdv hlen' hq x
  refine ⟨(W.lim.keeps hb).keeps x.toInCall.keep, codeAny_func ?_⟩
  have hrun : Run s s' := x.toInCall.same
  refine hbody.run (A.deeper env) env s.heap.get? H s' _ _ ⟨hA.1, ?_, ?_⟩ (by rw [hq]; rfl) (np _ _ _ (by rw [hq]; rfl)) Fx₀ PassesOwn.leaving (fun _ _ _ h => h.elim) (fun d' v s'' hd r kp rp => ?_) fun h => h.elim
  · have := hA.2.1; show A.depth + 1 + n < recursionLimit; omega
  · have := hA.2.2; show A.units + 3 + 4 * n + 200 < cLine; omega
  · subst hd
    obtain ⟨h', t, rfl⟩ := hrun.trans r
    exact hQ v _ ⟨h', t, rfl, kp⟩ rp
end
end Mine

namespace Mine
section
variable {W : Wd} {n : Nat} {sc : Scope} {σ : Names}

abbrev two (elt i1 i2 : Expr) (x y : Str) (px py : Pos) (scope : Scope) (pos : Pos) : Expr := .ListComp elt [⟨.Name x px, i1, [], 0⟩, ⟨.Name y py, i2, [], 0⟩] scope pos

def emit0 (e i2 : Expr) (acc : Value) (cenv : Env) : Sem Unit := do
  let v ← eval i2 cenv
  standAt i2.pos
  let v ← foldedSetIterable i2 cenv v
  let _ ← runOwn (.compStart e 1 (← holding [v] (pyIter v)) acc cenv) cenv

theorem turn_two0 (elt i1 i2 : Expr) (x y : Str) (px py : Pos) (scope : Scope) (pos : Pos) (it acc : Value) (env : Env) :
    compTurn (two elt i1 i2 x y px py scope pos) 0 it acc env = (do
      standAt i1.pos
      match ← pyNext it with
      | none => pure (.done .next)
      | some v =>
        letOwnedTupleGo (.Name x px) it v
        assign (.Name x px) env v
        let v ← eval i2 env
        standAt i2.pos
        let v ← foldedSetIterable i2 env v
        let it2 ← holding [v] (pyIter v)
        let _ ← runOwn (.compStart (two elt i1 i2 x y px py scope pos) 1 it2 acc env) env
        again (.compLoop (two elt i1 i2 x y px py scope pos) 0 it acc env)) := by rfl
theorem turn_two1 (elt i1 i2 : Expr) (x y : Str) (px py : Pos) (scope : Scope) (pos : Pos) (it acc : Value) (env : Env) :
    compTurn (two elt i1 i2 x y px py scope pos) 1 it acc env = (do
      standAt i2.pos
      match ← pyNext it with
      | none => pure (.done .next)
      | some v =>
        letOwnedTupleGo (.Name y py) it v
        assign (.Name y py) env v
        (do let _ ← call (.builtin "list.append") [acc, ← eval elt env])
        again (.compLoop (two elt i1 i2 x y px py scope pos) 1 it acc env)) := by rfl

variable {A : Around} {s₁ : Shared} {V B : Part} {H own : List Addr} {Da Cc : Addr} {cenv : Env} {I : Addr} {fp wr : List Addr} {P : Nat → Value → Prop} {St : Nat → Heap → Prop}

theorem rule_two1 {elt i1 i2 : Expr} {x y : Str} {px py : Pos} {scope : Scope} {pos : Pos} {R : Result → Shared → Prop} :
    LoopRule W A cenv y py I [] (do let _ ← call (.builtin "list.append") [.ref Da, ← eval elt cenv]) (.compLoop (two elt i1 i2 x y px py scope pos) 1 (.ref I) (.ref Da) cenv) R := by
  intro J turn k s h
  refine codeAny_loop rfl J (fun k s hJ => ?_) k h
  show wpAny _ A ((compTurn (two elt i1 i2 x y px py scope pos) 1 (.ref I) (.ref Da) cenv).onRaise (fun x => do noteFrame x cenv; theTreesLotGoes x)) _ _ s
  refine wpAny_noted ?_
  rw [turn_two1]
  refine wpAny_bind (wpAny_standAt (wpAny_bind (wpAny_mono (turn k s hJ) (fun r s₁ h₁ => ?_) fun _ _ h' => h')))
  cases r with
  | none => exact wpAny_pure h₁
  | some v =>
    refine wpAny_bind (wpAny_pure ?_)
    refine wpAny_bind (wpAny_mono h₁ (fun _ s₂ h₂ => ?_) fun _ _ h' => h')
    refine wpAny_bind (m := (pure true : Sem Bool)) (f := fun ok => if ok = true then (do let _ ← call (.builtin "list.append") [.ref Da, ← eval elt cenv]) >>= fun _ => again (.compLoop (two elt i1 i2 x y px py scope pos) 1 (.ref I) (.ref Da) cenv) else again (.compLoop (two elt i1 i2 x y px py scope pos) 1 (.ref I) (.ref Da) cenv)) (wpAny_mono h₂ (fun ok s₃ h₃ => ?_) fun _ _ h' => h')
    cases ok with
    | false => exact wpAny_pure ⟨rfl, h₃⟩
    | true => exact wpAny_bind (wpAny_mono h₃ (fun _ s₅ h₅ => wpAny_pure ⟨rfl, h₅⟩) fun _ _ h' => h')

theorem rule_two0 {elt i1 i2 : Expr} {x y : Str} {px py : Pos} {scope : Scope} {pos : Pos} {R : Result → Shared → Prop} :
    LoopRule W A cenv x px I [] (emit0 (two elt i1 i2 x y px py scope pos) i2 (.ref Da) cenv) (.compLoop (two elt i1 i2 x y px py scope pos) 0 (.ref I) (.ref Da) cenv) R := by
  intro J turn k s h
  refine codeAny_loop rfl J (fun k s hJ => ?_) k h
  show wpAny _ A ((compTurn (two elt i1 i2 x y px py scope pos) 0 (.ref I) (.ref Da) cenv).onRaise (fun x => do noteFrame x cenv; theTreesLotGoes x)) _ _ s
  refine wpAny_noted ?_
  rw [turn_two0]
  refine wpAny_bind (wpAny_standAt (wpAny_bind (wpAny_mono (turn k s hJ) (fun r s₁ h₁ => ?_) fun _ _ h' => h')))
  cases r with
  | none => exact wpAny_pure h₁
  | some v =>
    refine wpAny_bind (wpAny_pure ?_)
    refine wpAny_bind (wpAny_mono h₁ (fun _ s₂ h₂ => ?_) fun _ _ h' => h')
    have e : (do
        let v ← eval i2 cenv
        standAt i2.pos
        let v ← foldedSetIterable i2 cenv v
        let it2 ← holding [v] (pyIter v)
        let _ ← runOwn (.compStart (two elt i1 i2 x y px py scope pos) 1 it2 (.ref Da) cenv) cenv
        again (.compLoop (two elt i1 i2 x y px py scope pos) 0 (.ref I) (.ref Da) cenv)) = (emit0 (two elt i1 i2 x y px py scope pos) i2 (.ref Da) cenv >>= fun _ => again (.compLoop (two elt i1 i2 x y px py scope pos) 0 (.ref I) (.ref Da) cenv)) := by
      unfold emit0
      simp only [bind_assoc, pure_bind]
    rw [e]
    refine wpAny_bind (m := (pure true : Sem Bool)) (f := fun ok => if ok = true then emit0 (two elt i1 i2 x y px py scope pos) i2 (.ref Da) cenv >>= fun _ => again (.compLoop (two elt i1 i2 x y px py scope pos) 0 (.ref I) (.ref Da) cenv) else again (.compLoop (two elt i1 i2 x y px py scope pos) 0 (.ref I) (.ref Da) cenv)) (wpAny_mono h₂ (fun ok s₃ h₃ => ?_) fun _ _ h' => h')
    cases ok with
    | false => exact wpAny_pure ⟨rfl, h₃⟩
    | true => exact wpAny_bind (wpAny_mono h₃ (fun _ s₅ h₅ => wpAny_pure ⟨rfl, h₅⟩) fun _ _ h' => h')

/-- the second clause begins -/
theorem start_two {elt i1 i2 : Expr} {x y : Str} {px py : Pos} {scope : Scope} {pos : Pos} {it acc : Value} {R : Result → Shared → Prop} {s : Shared}
    (h0 : codeAny W.M A (.compLoop (two elt i1 i2 x y px py scope pos) 1 it acc cenv) R s)
    (h : wpAny W.M A (pyIter it) (fun it' s' => codeAny W.M A (.compLoop (two elt i1 i2 x y px py scope pos) 1 it' acc cenv) R s')
      (notedBy W.M A cenv fun x s' => R (.error x) s') s) :
    codeAny W.M A (.compStart (two elt i1 i2 x y px py scope pos) 1 it acc cenv) R s := by
  refine codeAny_of_tree ?_
  show wpAny _ _ ((compStart (two elt i1 i2 x y px py scope pos) 1 it acc cenv).onRaise (fun x => do noteFrame x cenv; standAt theWindowsPlace)) _ _ s
  refine wpAny_notedAt ?_
  unfold compStart
  show wpAny _ _ (ask >>= _) _ _ s
  refine wpAny_bind (wpAny_askSetting (wpAny_ite ?_))
  split
  · first
      | exact wpAny_bind (wpAny_pure (wpAny_pure (And.intro rfl h0)))
      | exact wpAny_pure (And.intro rfl h0)
  · first
      | exact wpAny_bind (wpAny_rule (wpAny_bind (wpAny_standAt (wpAny_bind (wpAny_mono h (fun it' s' h' => wpAny_pure (And.intro rfl h')) fun _ _ x => x)))))
      | (refine wpAny_bind (wpAny_rule ?_); show wpAny _ _ (standAt i2.pos >>= _) _ _ s; exact wpAny_bind (wpAny_standAt (wpAny_bind (wpAny_mono h (fun it' s' h' => wpAny_pure (And.intro rfl h')) fun _ _ x => x))))

theorem filt_true {α : Type} : ∀ l : List α, l.filter (fun _ => true) = l
  | [] => rfl
  | a :: l => by rw [List.filter_cons, if_pos rfl, filt_true l]
theorem len_mem {l : List Int} : ∀ {ls : List (List Int)}, l ∈ ls → l.length ≤ (ls.flatMap id).length
  | [], h => by cases h
  | a :: r, h => by
    rw [List.flatMap_cons, List.length_append]
    rcases List.mem_cons.mp h with rfl | h
    · show l.length ≤ l.length + _
      omega
    · have := len_mem h; omega

/-- [w for l in rows for w in l] -/
theorem ev_flat {i1 : Expr} {x y : Str} {px py pe p2 : Pos} {scope : Scope} {pos : Pos} {ls : List (List Int)}
    (ok : CompOk scope sc σ x) (hy : scope.names.lookup y = some .local) (hit : Ev W n sc σ i1 (.list (ls.map fun l => D.list (iL l)))) (hlen : (ls.flatMap id).length ≤ 100000)
    (hs : ∀ env x, foldedSetIterable i1 env x = pure x := by intro _ _; rfl)
    (hdx : (x == ("__debug__" : Str)) = false := by decide) (hcnx : (x == ("__classdict__" : Str)) = false := by decide) (hdy : (y == ("__debug__" : Str)) = false := by decide) (hcy : (y == ("__classdict__" : Str)) = false := by decide) :
    Ev W n sc σ (two (.Name y pe) i1 (.Name x p2) x y px py scope pos) (.list (iL (ls.flatMap id))) := by
  refine ⟨fun A env H s E Q hA hsc C hQ => ?_⟩
  rw [eval_ListComp]
  have hls : ∀ (ms : List (List Int)), (ms.flatMap fun l => iL l) = iL (ms.flatMap id) := by
    intro ms; induction ms with
    | nil => rfl
    | cons a r ih => rw [List.flatMap_cons, ih, List.flatMap_cons]; simp [iL]
  have htk : ∀ (i : Nat), ((ls.take i).flatMap id).length ≤ (ls.flatMap id).length := fun i => by
    have := List.take_append_drop i ls
    conv => rhs; rw [← this]
    rw [List.flatMap_append, List.length_append]; omega
  refine comp_pre (α := List Int) (ds := ls) (fun l => .list (iL l)) rfl ok hit rfl (fun a b q => by cases q) hA hsc C (hs env) fun s₁ V B Da Cc own cenv I fp wr P St h₃ k₁ hDn hCn hB hV G hrel hloc place hst₀ hc₀ => ?_
  refine comp_turn (pre := []) (σi := fun l => innerN σ scope x (.list (iL l))) (fun _ => true) (fun l => iL l) rule_two0 G hA (fun h tk v d _ rv kp hDo hsx => place x h tk v _ rv kp hDo hsx) (fun d hd => evt_nil) (fun l hl _ i h tk pre' E' Q' hlen' C' hst hcs hQ' => ?_) (fun h tk hcs => ?_) hst₀ hc₀
  · obtain ⟨⟨ys, c, hacc, hys⟩, ⟨m, hns⟩, hcx, kp⟩ := hcs
    unfold emit0
    have hl' : (innerN σ scope x (.list (iL l))).lookup x = some (.list (iL l)) := by unfold innerN; rw [List.lookup_cons]; simp
    refine wpAny_bind ((ev_name (W := W) (n := n) (sc := cenv.scope) hl' hdx hcnx).run A cenv (Da :: H) _ _ _ hA rfl C' fun v s₂ k₂ R₂ => ?_)
    obtain ⟨h₂, tk₂, rfl, hk₂⟩ := id k₂
    refine wpAny_bind (wpAny_standAt (wpAny_bind (wpAny_pure (wpAny_bind (wpAny_holding ?_)))))
    refine iter_of hA.1 R₂ (ds := iL l) rfl (fun a b q => by cases q) fun I2 fp2 wr2 P2 St2 h₄ Wk2 keep2 hst2 hwr2 hfp2 hfpo2 hwo2 hrg2 hP2 hLi2 => ?_
    refine wpAny_bind (wpAny_runOwn ?_)
    rw [mark_none]
    have hk4 : ∀ b o, h.get? b = some o → h₄.get? b = some o := fun b o e => keep2 b o (hk₂ b o e)
    classical
    let B2 : Part := fun b => if b = Da ∨ b = Cc ∨ b ∈ own then none else h.get? b
    have hB2 : ∀ b o, b ≠ Da → b ≠ Cc → b ∉ own → h.get? b = some o → B2 b = some o := fun b o a1 a2 a3 e => by
      show (if b = Da ∨ b = Cc ∨ b ∈ own then none else h.get? b) = some o
      rw [if_neg]
      · exact e
      · rintro (q | q | q)
        · exact a1 q
        · exact a2 q
        · exact a3 q
    have hB2n : ∀ b, b = Da ∨ b = Cc ∨ b ∈ own ∨ h.get? b = none → B2 b = none := fun b q => by
      show (if b = Da ∨ b = Cc ∨ b ∈ own then none else h.get? b) = none
      rcases q with q | q | q | q
      · rw [if_pos (.inl q)]
      · rw [if_pos (.inr (.inl q))]
      · rw [if_pos (.inr (.inr q))]
      · rw [q]; split <;> rfl
    have hBB : ∀ b o, B b = some o → B2 b = some o := fun b o e => by
      refine hB2 b o ?_ ?_ ?_ (kp b o e)
      · intro q; rw [q, G.BD] at e; cases e
      · intro q; rw [q, G.BC] at e; cases e
      · intro q; rw [G.Bo b q] at e; cases e
    have hnw : ∀ b o, h.get? b = some o → b ∉ wr2 := fun b o e hw => by have := hwr2 b hw; rw [hk₂ b o e] at this; cases this
    have hnf : ∀ b o, h.get? b = some o → ¬ Solid o → b ∉ fp2 := fun b o e ns hf => by
      rcases hfpo2 b hf with ⟨o', e1, so, e2, _⟩ | hw
      · rw [hk₂ b o e] at e2; cases e2; exact ns so
      · exact hnw b o e hw
    have hDf : Da ∉ fp2 := fun hf => by
      rcases hfpo2 Da hf with ⟨o', e1, so, e2, e3⟩ | hw
      · exact e3 List.mem_cons_self
      · exact hnw _ _ hacc hw
    obtain ⟨oc, es, ep, hcd, hcd2, hcd3⟩ := id hns
    have hyl : cenv.kindOf y = some .local := hloc y hy
    have G2 : CGround W A (hid (Da :: H) h₂) B2 Da Cc own cenv y I2 fp2 wr2 P2 St2 l D.int := ⟨by simpa [iL] using Wk2, hB2n _ (.inl rfl), hB2n _ (.inr (.inl rfl)), fun c hc => hB2n _ (.inr (.inr (.inl hc))), hDf, hnf _ _ hcd (not_solid_dict hcd2),
      fun c hc => (let ⟨u, o, e1, e2⟩ := hcx c hc; hnf _ _ e1 (not_solid_cell e2)), fun b hb => hB2n b (.inr (.inr (.inr (by
        cases q : h.get? b with
        | none => rfl
        | some o => exact absurd hb (hnw b o q))))), hwo2, fun i v hv => by
          obtain ⟨d, e, r⟩ := hP2 i v hv
          rw [List.getElem?_map] at e
          cases q : l[i]? with
          | none => rw [q] at e; cases e
          | some z => rw [q] at e; cases e; exact ⟨z, rfl, r⟩, G.DC, G.ownC, G.loc, G.kind, .inl hyl⟩
    have loop : ∀ (h₅ : Heap), (∀ b o, h.get? b = some o → h₅.get? b = some o) → St2 0 h₅ → codeAny W.M A (.compLoop (two (.Name y pe) i1 (.Name x p2) x y px py scope pos) 1 (.ref I2) (.ref Da) cenv)
        (fun r s' => match r with | .ok f => wpAny W.M A (pure ()) Q' E' s' | .error e => cameBackBy W.M A cenv E' e s') { s₁ with heap := h₅, toks := tk₂ } := fun h₅ hk₅ hst₅ => by
      refine comp_turn (pre := pre') (s₁ := s₁) (H := H) (σi := fun d => innerN σ scope y (.int d)) (fun _ => true) (fun d => [.int d]) rule_two1 G2 hA (fun h' tk' v d _ rv kp' hDo hsx => ?_) (fun d hd => evt_nil) (fun d hd _ j h' tk' pre'' E'' Q'' hlen'' C'' hst' hcs' hQ'' => ?_) (fun h' tk' hcs' => ?_) hst₅ ⟨⟨ys, c, hk₅ _ _ hacc, hys.mono (le_hid fun b o _ e => hk₅ b o e)⟩, ⟨m, hns.keeps hk₅⟩, fun cx hc => (let ⟨u, hu⟩ := hcx cx hc; ⟨u, hu.keeps hk₅⟩), fun b o e => hk₅ b o ?_⟩
      · exact place y h' tk' v _ (rv.flat trivial) (fun b o e => kp' b o (hBB b o e)) hDo hsx
      · refine emit_append G2 hA ?_ (σ' := innerN σ scope y (.int d)) (ev_name ?_ hdy hcy) C'' hst' hcs' hQ''
        · refine Nat.le_trans hlen'' ?_
          rw [List.length_append]
          have e1 : (((l.take j).filter fun _ => true).flatMap fun d => [D.int d]).length ≤ l.length := by
            rw [flat_one, List.length_map]
            exact Nat.le_trans (List.length_filter_le _ _) (List.length_take_le' _ _)
          have e2 : l.length ≤ (ls.flatMap id).length := by
            exact len_mem hl
          have e3 : pre'.length ≤ (ls.flatMap id).length := by
            refine Nat.le_trans hlen' ?_
            rw [List.nil_append, filt_true, hls, List.length_map]
            exact htk i
          omega
        · unfold innerN; rw [List.lookup_cons]; simp
      · obtain ⟨⟨ys', c', hacc', hys'⟩, hns', hcx', kp'⟩ := hcs'
        refine wpAny_pure (hQ' h' tk' ⟨⟨ys', c', hacc', ?_⟩, hns', hcx', fun b o e => kp' b o (hBB b o e)⟩ (G.walks.frame _ _ _ hst fun b hb o e => kp' b o (hB2 b o (fun q => G.Df (q ▸ hb)) (fun q => G.Cf (q ▸ hb)) (fun q => G.of b q hb) e)))
        rw [flat_one, filt_true] at hys'
        exact hys'
      · have e' : (if b = Da ∨ b = Cc ∨ b ∈ own then none else h.get? b) = some o := e
        split at e'
        · cases e'
        · exact e'
    exact start_two (loop h₄ hk4 hst2) (Wk2.self 0 _ _ _ hst2 (loop h₄ hk4 hst2))
  · obtain ⟨⟨ys, c, hacc, hys⟩, ⟨m, hns⟩, _, kp⟩ := hcs
    rw [List.nil_append, filt_true, hls] at hys
    subst hB
    refine ⟨m, hns, fun h'' hsb => ?_⟩
    have hne : ∀ b o, s₁.heap.get? b = some o → b ≠ Cc := fun b o e q => by rw [q, hCn] at e; cases e
    have k₂ : Kp s₁ { s₁ with heap := h'', toks := tk } := ⟨h'', tk, rfl, fun b o e => hsb.extBut b o (hne b o e) (kp b o e)⟩
    refine hQ _ _ (k₁.trans k₂) ?_
    have hDH : Da ∉ H := fun hm => by obtain ⟨o, e⟩ := (C.keeps k₁).old Da hm; rw [hDn] at e; cases e
    refine .list (hid_of (hsb.extBut _ _ G.DC hacc) hDH) ?_
    refine hys.mono ((le_unhide (fun a ha => List.mem_cons_of_mem _ ha)).trans (le_hid fun b o so e => ?_))
    refine hsb.extBut b o (fun q => ?_) e
    obtain ⟨o', es, ep, e1, e2, _⟩ := hns
    rw [q, e1] at e; cases e; exact not_solid_dict e2 so
end
end Mine

namespace Mine
section
variable {W : Wd} {n : Nat} {sc : Scope} {σ : Names}

theorem ints_rep {v : Value} {k : Nat} {i : Int} {t : Tok} (h : v = .int i t) : IntsAre (List.replicate k v) (List.replicate k i) := by
  subst h
  induction k with
  | zero => exact .nil
  | succ k ih => exact .cons i t ih
/-- [c] * e, as a new list -/
theorem evf_rep {p2 p : Pos} {i : Int} {kk : Nat} {pc : Pos} {e : Expr} {k : Int} (he : Ev W n sc σ e (.int k)) (h0 : 0 ≤ k) (hz : k ≤ 100000) : EvF W n sc σ (.BinOp (.List [.Constant (.int i) kk pc] p2) .Mult e p) (List.replicate k.toNat i) := by
  refine ⟨fun A env H s E Q hA hs C hQ => ?_⟩
  refine wpAny_BinOp ((ev_list (p := p2) (evs_cons (ev_int (i := i) (k := kk) (p := pc)) evs_nil) (by simp)).run A env H s E _ hA hs C fun v s₁ k₁ R₁ => he.run A env H s₁ E _ hA hs (C.keeps k₁) fun u s₂ k₂ R₂ => ?_)
  have Ra := R₁.keeps k₂
  cases Ra with
  | list e r =>
    cases R₂
    rename_i a ws m t
    cases r with
    | cons r t' =>
      cases t'
      cases r
      rename_i t'
      have hl := (hid_get e).1
      refine wpAny_binaryOp_repeat_ref (T := "list") (U := "int") (by decide) ⟨_, hl, rfl⟩ (fun s' => typeIs_int s' k _) noFill_list_mul F.fills_int_mul F.slot_int_rmul repeat_list F.slot_int_index.lookup
        (call_meets F.slot_int_rmul (typeIs_int s₂ k _) F.entry_int_rmul (F.args_int_rmul_2 _ _) (int___rmul___int_list k _ a #[.int i t'] m)
          ⟨hl, rfl, ⟨_, hl, rfl⟩, call_meets F.slot_list_mul ⟨_, hl, rfl⟩ F.entry_list_mul (F.args_list_mul_2 _ _)
            (AutoListH.list___mul___list_int_3 a #[.int i t'] m k _ (by simp [Builtin.List.listFitsIndex]; omega) (by simp; omega) (by simp [Builtin.List.listTooLong, sizeLine]; omega)) ⟨hl, ?_⟩⟩)
      have q : (if (#[Value.int i t'] : Array Value).isEmpty = true then 0 else k.toNat) = k.toNat := by simp
      rw [q, rep_flat]
      refine hQ s₂.heap.objs.size _ _ _ ((k₁.trans k₂).trans (Kp.push s₂ _ _)) ?_ (Heap.get?_push_size _ rfl) (ints_rep rfl)
      cases q : s.heap.get? s₂.heap.objs.size with
      | none => rfl
      | some o => exact absurd (Heap.lt_size ((k₁.trans k₂).get _ _ q)) (Nat.lt_irrefl _)

/-- a body that gives a new list of ints -/
structure HxF (W : Wd) (n : Nat) (sc : Scope) (σ : Names) (sts : List Stmt) (ns : List Int) : Prop where
  run : ∀ (A : Around) (env : Env) (G : Part) (H : List Addr) (s : Shared) (Q : Flow → Shared → Prop) (E : Value → Shared → Prop), Room n A → env.scope = sc → W.P A env G → Fx W G H env σ none s → PassesOwn W.M A env E →
    (∀ a vs c s', Run s s' → (∀ b o, G b = some o → s'.heap.get? b = some o) → G a = none → s'.heap.get? a = some (listObj vs c) → IntsAre vs ns → Q (.ret (.ref a)) s') → wpAny W.M A (execs sts env) Q E s
theorem hxf_cons {st : Stmt} {rest : List Stmt} {ns : List Int} {σ' : Names} (h : Hs W n sc σ none st (fun a b => a = σ' ∧ b = none) (fun _ => False) False) (k : HxF W n sc σ' rest ns) : HxF W n sc σ (st :: rest) ns := by
  refine ⟨fun A env G H s Q E hA hs hPw F hE hR => ?_⟩
  refine wpAny_execs_cons (h.run A env G H s _ E hA hs hPw F hE (fun σ₁ ow' s' hn r F' => ?_) (fun d v s' hd r kp rp => hd.elim) fun h => h.elim)
  obtain ⟨rfl, rfl⟩ := hn
  exact k.run A env G H s' Q E hA hs hPw F' hE fun a vs c s'' r' => hR a vs c s'' (r.trans r')
theorem hxf_ret {e : Expr} {p : Pos} {rest : List Stmt} {ns : List Int} (he : EvF W n sc σ e ns) : HxF W n sc σ (.Return (some e) p :: rest) ns := by
  refine ⟨fun A env G H s Q E hA hs hPw F hE hR => ?_⟩
  refine wpAny_execs_cons (wpAny_Return_some (he.run A env H s E _ hA hs F.cx fun a vs c s₁ k₁ ha hl hi => hR a vs c s₁ k₁.run (fun b o e => k₁.get b o (F.keep b o e)) ?_ hl hi))
  cases q : G a with
  | none => rfl
  | some o => have := F.keep _ _ q; rw [ha] at this; cases this

/-- a call that gives a new list -/
structure CallF (W : Wd) (n : Nat) (f : Value) (ds : List D) (ns : List Int) : Prop where
  run : ∀ (A : Around) (H : List Addr) (s : Shared) (E : Value → Shared → Prop) (Q : Value → Shared → Prop) (vs : List Value), Room n A → (∀ b o, W.hB.get? b = some o → s.heap.get? b = some o) → (∀ a ∈ H, ∃ o, s.heap.get? a = some o) →
    Reps (hid H s.heap) vs ds → (∀ a vs c s', Kp s s' → s.heap.get? a = none → s'.heap.get? a = some (listObj vs c) → IntsAre vs ns → Q (.ref a) s') → wpAny W.M A (call f vs) Q E s
theorem call_fnF {f : Addr} {fd : FuncData} {body : List Stmt} {names : List Str} {dv : List Value} {ds dd : List D} {ns : List Int} (F : Fn W f fd body names dv) (np : ∀ A env G, env.scope = fd.scope → W.P A env G) (hdv : ∀ G, Reps G dv dd) (hlen : ds.length + dv.length = names.length)
    (hbody : HxF W n fd.scope (names.zip (ds ++ dd)) body ns) : CallF W (n + 1) (.ref f) ds ns := by
  refine ⟨fun A H s E Q vs hA hb ho R hQ => ?_⟩
  obtain ⟨o, hof, hod⟩ := F.at_
  refine wpAny_call (codeAny_call_function (by have := hA.2.1; omega) (hb _ _ hof) hod F.co F.gen F.body (F.code.keeps hb) ?_)
  have hlen' : vs.length + dv.length = names.length := by rw [R.length]; exact hlen
  refine F.binds s vs hb hlen' _ _ _ _ ?_
  rw [F.globals, F.closure, F.builtins]
  have hkeys : (names.zip (vs ++ dv)).map (·.1) = names := zip_keys (by rw [List.length_append]; exact hlen')
  refine wpAny_newFunctionEnv_cells F.kind (fun y hy => ?_) fun env he s' x => ?_
  · have hm : y.1 ∈ names := hkeys ▸ List.mem_map.mpr ⟨y, hy, rfl⟩
    rcases F.look _ hm with h | h
    · exact .inl h
    · exact .inr ⟨h, cellsFrom_some (x := y.1) fd.scope.names _ [] (.inl h)⟩
  have hq : env = newEnv fd.scope s.heap.objs.size mainGlobals (cellsFrom (s.heap.objs.size + 1) fd.scope.names []) (env.qual) (some f) fd.code none builtinsNs := by rw [he]; rfl
  have Fx₀ := frame_of F hb ho R hdv hlen' hq x
  refine ⟨(W.lim.keeps hb).keeps x.toInCall.keep, codeAny_func ?_⟩
  have hrun : Run s s' := x.toInCall.same
  refine hbody.run (A.deeper env) env s.heap.get? H s' _ _ ⟨hA.1, ?_, ?_⟩ (by rw [hq]; rfl) (np _ _ _ (by rw [hq]; rfl)) Fx₀ PassesOwn.leaving (fun a vs c s'' r kp ha hl hi => ?_)
  · have := hA.2.1; show A.depth + 1 + n < recursionLimit; omega
  · have := hA.2.2; show A.units + 3 + 4 * n + 200 < cLine; omega
  · obtain ⟨h', t, rfl⟩ := hrun.trans r
    exact hQ a vs c _ ⟨h', t, rfl, kp⟩ ha hl hi

theorem evf_call {x : Str} {fp p : Pos} {e : Expr} {es : List Expr} {f : Value} {ds : List D} {ns : List Int} (hf : Ev W n sc σ (.Name x fp) (.val f)) (ha : Evs W n sc σ (e :: es) ds) (hc : ∃ a o fd, f = .ref a ∧ W.hB.get? a = some o ∧ o.data = .func fd) (h : CallF W n f ds ns)
    (hn : notStar e = true := by rfl) : EvF W n sc σ (.Call (.Name x fp) (e :: es) [] p) ns := by
  have he : ∀ env, starEach (e :: es) env = (false, eval e env) :: starEach es env := fun env => star_plain hn
  refine ⟨fun A env H s E Q hA hs C hQ => ?_⟩
  show wpAny W.M A (do callWith p (← eval (.Name x fp) env) [] (backTo p (starEach (e :: es) env)) (backToKw p (keywordEach [] env))) Q E s
  refine wpAny_bind (hf.run A env H s E _ hA hs C fun v s₁ k₁ R₁ => ?_)
  cases R₁
  have fin : wpAny W.M A (spliced (backTo p (starEach (e :: es) env))) (fun vs s₂ => (∀ b o, W.hB.get? b = some o → s₂.heap.get? b = some o) ∧ wpAny W.M A (call f vs) Q E s₂) E s₁ := by
    refine ha.run A env H s₁ E _ p hA hs (C.keeps k₁) fun vs s₂ k₂ R₂ => ⟨((C.keeps k₁).keeps k₂).base, ?_⟩
    refine h.run A H s₂ E Q vs hA ((C.keeps k₁).keeps k₂).base ((C.keeps k₁).keeps k₂).old R₂ fun a vs c s₃ k₃ ha hl hi => hQ a vs c s₃ ((k₁.trans k₂).trans k₃) ?_ hl hi
    cases q : s.heap.get? a with
    | none => rfl
    | some o => have := (k₁.trans k₂).get _ _ q; rw [ha] at this; cases this
  show wpAny W.M A (callWith p f [] (backTo p (starEach (e :: es) env)) []) Q E s₁
  obtain ⟨a, o, fd, rfl, ho, hd⟩ := hc
  refine Calls.callWith_function (o := o) (fd := fd) ?_
  rw [he] at fin ⊢
  exact Calls.evalArgs_plain (wpAny_mono fin (fun vs s₂ q => ⟨⟨q.1 _ _ ho, hd⟩, q.2⟩) fun _ _ q => q)
end

/-! ### the text -/
def stAt (p : Program) (i : Nat) : Stmt := (p.main.body[i]?).getD (.Pass ⟨0, 0, 0, 0⟩)
def fBody : Stmt → List Stmt
  | .FunctionDef (body := b) .. => b
  | _ => []
def fScope : Stmt → Scope
  | .FunctionDef (scope := b) .. => b
  | _ => { kind := .function, names := [], isGenerator := false, isCoroutine := false, more := [] }
def lit (xs : List String) : List D := xs.map fun x => .str (Str.ofString x)
end Mine

namespace Mine

/-- the names of the language -/
structure Gr (W : Wd) : Prop where
  len : W.gl (Str.ofString "len") = some (.builtin "len")
  sum : W.gl (Str.ofString "sum") = some (.builtin "sum")
  sorted : W.gl (Str.ofString "sorted") = some (.builtin "sorted")
  abs : W.gl (Str.ofString "abs") = some (.builtin "abs")
  isinstance : W.gl (Str.ofString "isinstance") = some (.builtin "isinstance")
  range : W.gl (Str.ofString "range") = some (.type "range")
  int : W.gl (Str.ofString "int") = some (.type "int")
  bool : W.gl (Str.ofString "bool") = some (.type "bool")
  list : W.gl (Str.ofString "list") = some (.type "list")
/-- a name of a function of the text's -/
def FnAt (W : Wd) (x : Str) (f : Addr) : Prop := W.gl x = some (.ref f) ∧ ∃ o fd, W.hB.get? f = some o ∧ o.data = .func fd

abbrev Plain (e : Expr) : Prop := notStar e = true
theorem all1 {e : Expr} (h : Plain e) : [e].all notStar = true := by rw [List.all_cons, h]; rfl
theorem all2 {e e2 : Expr} (h : Plain e) (k : Plain e2) : [e, e2].all notStar = true := by rw [List.all_cons, h, all1 k]; rfl
section
variable {W : Wd} {n : Nat} {sc : Scope} {σ : Names} {p fp : Pos} {e e2 e3 : Expr}
theorem evs1 {d : D} (h : Ev W n sc σ e d) (q : Plain e) : Evs W n sc σ [e] [d] := evs_cons h evs_nil q

theorem ev_len {ds : List D} (g : Gr W) (he : Ev W n sc σ e (.list ds)) (hk : sc.names.lookup (Str.ofString "len") = some .globalImplicit) (hz : ds.length ≤ 100000) (q : Plain e := by rfl) : Ev W n sc σ (.Call (.Name (Str.ofString "len") fp) [e] [] p) (.int ds.length) :=
  ev_call (ev_glob g.len hk) (evs1 he q) (.inl ⟨_, rfl⟩) (call_len hz) (hn := all1 q)
theorem ev_abs {a : Int} (g : Gr W) (he : Ev W n sc σ e (.int a)) (hk : sc.names.lookup (Str.ofString "abs") = some .globalImplicit) (q : Plain e := by rfl) : Ev W n sc σ (.Call (.Name (Str.ofString "abs") fp) [e] [] p) (.int a.natAbs) :=
  ev_call (ev_glob g.abs hk) (evs1 he q) (.inl ⟨_, rfl⟩) call_abs (hn := all1 q)
theorem ev_toInt {a : Int} (g : Gr W) (he : Ev W n sc σ e (.int a)) (hk : sc.names.lookup (Str.ofString "int") = some .globalImplicit) (q : Plain e := by rfl) : Ev W n sc σ (.Call (.Name (Str.ofString "int") fp) [e] [] p) (.int a) :=
  ev_call (ev_glob g.int hk) (evs1 he q) (.inr (.inl ⟨_, rfl⟩)) call_int (hn := all1 q)
theorem ev_sum {ns : List Int} (g : Gr W) (he : Ev W n sc σ e (.list (iL ns))) (hk : sc.names.lookup (Str.ofString "sum") = some .globalImplicit) (q : Plain e := by rfl) : Ev W n sc σ (.Call (.Name (Str.ofString "sum") fp) [e] [] p) (.int ns.sum) :=
  ev_call (ev_glob g.sum hk) (evs1 he q) (.inl ⟨_, rfl⟩) call_sum (hn := all1 q)
theorem ev_sorted {ns : List Int} (g : Gr W) (he : Ev W n sc σ e (.list (iL ns))) (hk : sc.names.lookup (Str.ofString "sorted") = some .globalImplicit) (h64 : ns.length < 64) (q : Plain e := by rfl) : Ev W n sc σ (.Call (.Name (Str.ofString "sorted") fp) [e] [] p) (.list (iL (sortL ns))) :=
  ev_call (ev_glob g.sorted hk) (evs1 he q) (.inl ⟨_, rfl⟩) (call_sorted h64) (hn := all1 q)
theorem ev_range1 {b : Int} (g : Gr W) (he : Ev W n sc σ e (.int b)) (hk : sc.names.lookup (Str.ofString "range") = some .globalImplicit) (q : Plain e := by rfl) : Ev W n sc σ (.Call (.Name (Str.ofString "range") fp) [e] [] p) (.rng 0 b) :=
  ev_call (ev_glob g.range hk) (evs1 he q) (.inr (.inl ⟨_, rfl⟩)) call_range1 (hn := all1 q)
theorem ev_range2 {a b : Int} (g : Gr W) (ha : Ev W n sc σ e (.int a)) (he : Ev W n sc σ e2 (.int b)) (hk : sc.names.lookup (Str.ofString "range") = some .globalImplicit) (q : Plain e := by rfl) (q2 : Plain e2 := by rfl) : Ev W n sc σ (.Call (.Name (Str.ofString "range") fp) [e, e2] [] p) (.rng a b) :=
  ev_call (ev_glob g.range hk) (evs_cons ha (evs1 he q2) q) (.inr (.inl ⟨_, rfl⟩)) call_range2 (hn := all2 q q2)
theorem ev_toList {ds : List D} (g : Gr W) (he : Ev W n sc σ e (.list ds)) (hk : sc.names.lookup (Str.ofString "list") = some .globalImplicit) (hz : ds.length ≤ 100000) (q : Plain e := by rfl) : Ev W n sc σ (.Call (.Name (Str.ofString "list") fp) [e] [] p) (.list ds) :=
  ev_call (ev_glob g.list hk) (evs1 he q) (.inr (.inl ⟨_, rfl⟩)) (call_list hz) (hn := all1 q)
theorem ev_isBool {a : Int} {q : Pos} (g : Gr W) (he : Ev W n sc σ e (.int a)) (hk : sc.names.lookup (Str.ofString "isinstance") = some .globalImplicit) (hk2 : sc.names.lookup (Str.ofString "bool") = some .globalImplicit) (q3 : Plain e := by rfl) :
    Ev W n sc σ (.Call (.Name (Str.ofString "isinstance") fp) [e, .Name (Str.ofString "bool") q] [] p) (.bool false) :=
  ev_call (ev_glob g.isinstance hk) (evs_cons he (evs_cons (ev_glob g.bool hk2) evs_nil) q3) (.inl ⟨_, rfl⟩) call_isBool (hn := all2 q3 rfl)
theorem ev_isInt {a : Int} {q : Pos} (g : Gr W) (he : Ev W n sc σ e (.int a)) (hk : sc.names.lookup (Str.ofString "isinstance") = some .globalImplicit) (hk2 : sc.names.lookup (Str.ofString "int") = some .globalImplicit) (q3 : Plain e := by rfl) :
    Ev W n sc σ (.Call (.Name (Str.ofString "isinstance") fp) [e, .Name (Str.ofString "int") q] [] p) (.bool true) :=
  ev_call (ev_glob g.isinstance hk) (evs_cons he (evs_cons (ev_glob g.int hk2) evs_nil) q3) (.inl ⟨_, rfl⟩) call_isInt (hn := all2 q3 rfl)
theorem ev_fn {x : Str} {f : Addr} {es : List Expr} {ds : List D} {d : D} (g : FnAt W x f) (hk : sc.names.lookup x = some .globalImplicit) (ha : Evs W n sc σ (e :: es) ds) (h : CallV W n (.ref f) ds d) (hd : (x == ("__debug__" : Str)) = false := by decide)
    (hn : (e :: es).all notStar = true := by rfl) : Ev W n sc σ (.Call (.Name x fp) (e :: es) [] p) d :=
  ev_call (ev_glob g.1 hk hd) ha (.inr (.inr ⟨f, g.2.choose, g.2.choose_spec.choose, rfl, g.2.choose_spec.choose_spec⟩)) h hn
theorem ev_fn0 {x : Str} {f : Addr} {d : D} (g : FnAt W x f) (hk : sc.names.lookup x = some .globalImplicit) (h : CallV W n (.ref f) [] d) (hd : (x == ("__debug__" : Str)) = false := by decide) : Ev W n sc σ (.Call (.Name x fp) [] [] p) d :=
  ev_call0 (ev_glob g.1 hk hd) ⟨f, g.2.choose, g.2.choose_spec.choose, rfl, g.2.choose_spec.choose_spec⟩ h
theorem evf_fn {x : Str} {f : Addr} {es : List Expr} {ds : List D} {ns : List Int} (g : FnAt W x f) (hk : sc.names.lookup x = some .globalImplicit) (ha : Evs W n sc σ (e :: es) ds) (h : CallF W n (.ref f) ds ns) (hd : (x == ("__debug__" : Str)) = false := by decide)
    (hn : notStar e = true := by rfl) : EvF W n sc σ (.Call (.Name x fp) (e :: es) [] p) ns :=
  evf_call (ev_glob g.1 hk hd) ha ⟨f, g.2.choose, g.2.choose_spec.choose, rfl, g.2.choose_spec.choose_spec⟩ h hn

theorem items_rng0 (k : Nat) : itemsOf (.rng 0 (k : Int)) = some ((List.range k).map fun i => D.int ((i : Nat) : Int)) := by
  show some ((List.range ((k : Int) - 0).toNat).map fun (i : Nat) => D.int (0 + (i : Int))) = _
  have e : ((k : Int) - 0).toNat = k := by omega
  rw [e]
  simp
theorem items_rng1 (k : Nat) : itemsOf (.rng 1 (k : Int)) = some ((List.range (k - 1)).map fun i => D.int (1 + ((i : Nat) : Int))) := by
  show some ((List.range ((k : Int) - 1).toNat).map fun (i : Nat) => D.int (1 + (i : Int))) = _
  have e : ((k : Int) - 1).toNat = k - 1 := by omega
  rw [e]
theorem items_iL (ns : List Int) : itemsOf (.list (iL ns)) = some (ns.map D.int) := rfl
theorem filt_all {α : Type} (l : List α) : l.filter (fun _ => true) = l := filt_true l
theorem sm_of {a : Int} (h : -(10 ^ 170) < a) (k : a < 10 ^ 170) : Sm a := by
  unfold Sm
  have h2 : (10 : Nat) ^ 170 ≤ 2 ^ 600 := by decide +kernel
  have h3 : a.natAbs < 10 ^ 170 := by
    have : ((10 : Int) ^ 170) = ((10 ^ 170 : Nat) : Int) := by norm_cast
    omega
  omega
theorem rngOk {x y : Int} (hx : -(2 ^ 62) ≤ x ∧ x < 2 ^ 62) (hy : -(2 ^ 62) ≤ y ∧ y < 2 ^ 62) : ∀ a b, D.rng x y = .rng a b → -(2 ^ 62) ≤ a ∧ a < 2 ^ 62 ∧ -(2 ^ 62) ≤ b ∧ b < 2 ^ 62 := by
  intro a b q; cases q; exact ⟨hx.1, hx.2, hy.1, hy.2⟩
theorem notRng {ds : List D} : ∀ a b, D.list ds = .rng a b → -(2 ^ 62) ≤ a ∧ a < 2 ^ 62 ∧ -(2 ^ 62) ≤ b ∧ b < 2 ^ 62 := by
  intro a b q; cases q
theorem itemOf_nat {ds : List D} {k : Nat} {d : D} (h : ds[k]? = some d) : itemOf ds (k : Int) = some d := by
  unfold itemOf
  rw [if_pos (by omega)]; simpa using h
theorem itemOf_iL {ns : List Int} {k : Nat} {i : Int} (h : ns[k]? = some i) : itemOf (iL ns) (k : Int) = some (.int i) := by
  refine itemOf_nat ?_
  rw [List.getElem?_map, h]; rfl
/-- return ends a body -/
theorem hx_ret {N : Names → Ow → Prop} {R : D → Prop} {X : Prop} {ow : Ow} {rest : List Stmt} {d : D} (he : Ev W n sc (full σ ow) e d) (hd : R d) : Hx W n sc σ ow (.Return (some e) p :: rest) N R X :=
  hx_cons (N' := fun _ _ => False) (hs_ret he hd) fun _ _ h => h.elim
theorem hx_if {N : Names → Ow → Prop} {R : D → Prop} {X : Prop} {ow : Ow} {rest b o : List Stmt} {t : Expr} {c : Bool} (ht : EvB W n sc (full σ ow) t c)
    (h1 : c = true → Hx W n sc σ ow (.If t b o p :: rest) N R X) (h2 : c = false → Hx W n sc σ ow (.If t b o p :: rest) N R X) : Hx W n sc σ ow (.If t b o p :: rest) N R X := by
  cases c with
  | true => exact h1 rfl
  | false => exact h2 rfl
/-- if t: return e -/
theorem hx_ifret {N : Names → Ow → Prop} {R : D → Prop} {X : Prop} {ow : Ow} {rest : List Stmt} {t : Expr} {c : Bool} {p2 : Pos} {d : D} (ht : EvB W n sc (full σ ow) t c)
    (h1 : c = true → Ev W n sc (full σ ow) e d ∧ R d) (h2 : c = false → Hx W n sc σ ow rest N R X) : Hx W n sc σ ow (.If t [.Return (some e) p2] [] p :: rest) N R X := by
  cases c with
  | true => exact hx_cons (N' := fun _ _ => False) (hs_if ht (fun _ => hx_ret (h1 rfl).1 (h1 rfl).2) fun h => by cases h) fun _ _ h => h.elim
  | false => exact hx_cons (N' := fun a b => a = σ ∧ b = ow) (hs_if ht (fun h => by cases h) fun _ => hx_nil ⟨rfl, rfl⟩) fun a b h => by obtain ⟨rfl, rfl⟩ := h; exact h2 rfl
/-- x = e -/
theorem hx_assign {N : Names → Ow → Prop} {R : D → Prop} {X : Prop} {rest : List Stmt} {x : Str} {px pos : Pos} {d : D} (he : Ev W n sc σ e d) (hx : look x sc) (k : Hx W n sc ((x, d) :: σ) none rest N R X)
    (hsw : ∀ env : Env, env.scope = sc → swapsWith e (some (.Name x px)) pos.line env = pure false := by intro _ _; rfl) : Hx W n sc σ none (.Assign [.Name x px] e pos :: rest) N R X :=
  hx_cons (N' := fun a b => a = (x, d) :: σ ∧ b = none) (hs_assign he hx (.inl rfl) ⟨rfl, rfl⟩ hsw) fun a b h => by obtain ⟨rfl, rfl⟩ := h; exact k
theorem hx_assignF {N : Names → Ow → Prop} {R : D → Prop} {X : Prop} {rest : List Stmt} {ow : Ow} {x : Str} {px pos : Pos} {d : D} (he : Ev W n sc (full σ ow) e d) (hx : look x sc) (hd : Flat d) (ho : ∀ p, ow = some p → p.1 ≠ x) (k : Hx W n sc ((x, d) :: σ) ow rest N R X)
    (hsw : ∀ env : Env, env.scope = sc → swapsWith e (some (.Name x px)) pos.line env = pure false := by intro _ _; rfl) : Hx W n sc σ ow (.Assign [.Name x px] e pos :: rest) N R X :=
  hx_cons (N' := fun a b => a = (x, d) :: σ ∧ b = ow) (hs_assign he hx (.inr ⟨hd, ho⟩) ⟨rfl, rfl⟩ hsw) fun a b h => by obtain ⟨rfl, rfl⟩ := h; exact k
end
end Mine

namespace Mine

/-- what a table of names says at least -/
def Agree : Names → Names → Prop
  | [], _ => True
  | p :: ps, σ => σ.lookup p.1 = some p.2 ∧ Agree ps σ
theorem Agree.mem {σ : Names} : ∀ {ps : Names}, Agree ps σ → ∀ p ∈ ps, σ.lookup p.1 = some p.2
  | [], _, p, hp => by cases hp
  | q :: ps, h, p, hp => by
    rcases List.mem_cons.mp hp with rfl | hp
    · exact h.1
    · exact Agree.mem h.2 p hp
theorem Agree.cons {σ ps : Names} {x : Str} {d : D} (h : Agree ps σ) (hx : ps.all (fun p => p.1 != x) = true) : ∀ p ∈ (x, d) :: ps, ((x, d) :: σ).lookup p.1 = some p.2 := by
  intro p hp
  rcases List.mem_cons.mp hp with rfl | hp
  · rw [List.lookup_cons]; simp
  · have := List.all_eq_true.mp hx p hp
    rw [List.lookup_cons]
    have e : (p.1 == x) = false := by simpa using this
    rw [e]; exact h.mem p hp
theorem Agree.cons' {σ ps : Names} {x : Str} {d : D} (h : Agree ps σ) (hx : ps.all (fun p => p.1 != x) = true) : Agree ps ((x, d) :: σ) := by
  induction ps with
  | nil => trivial
  | cons q ps ih =>
    rw [List.all_cons, Bool.and_eq_true] at hx
    refine ⟨?_, ih h.2 hx.2⟩
    rw [List.lookup_cons]
    have e : (q.1 == x) = false := by simpa using hx.1
    rw [e]; exact h.1

section
variable {W : Wd} {n : Nat} {sc : Scope} {σ σ' : Names} {ow : Ow} {N N' : Names → Ow → Prop} {R : D → Prop} {X : Prop} {rest : List Stmt}

theorem hx_of_agree {ps : Names} {sts : List Stmt} (h : Agree ps σ) (k : Hx W n sc ps ow sts N R X) : Hx W n sc σ ow sts N R X := k.weaken h.mem

/-- a loop over a range -/
theorem hs_rng {x : Str} {px pos : Pos} {iter : Expr} {body : List Stmt} {k : Nat} (inv : Nat → Names) (own : Nat → Ow) (he : Ev W n sc (full σ ow) iter (.rng 0 k)) (hk : k ≤ 100000) (hx : look x sc)
    (h0 : Agree (inv 0) σ) (ho : ow = own 0) (hne : ∀ i p, own i = some p → p.1 ≠ x) (hnx : ∀ i, (inv i).all (fun p => p.1 != x) = true)
    (turn : ∀ i, i < k → Hx W n sc ((x, .int (i : Nat)) :: inv i) (own i) body (fun a b => Agree (inv (i + 1)) a ∧ b = own (i + 1)) R X)
    (done : ∀ a, Agree (inv k) a → N a (own k))
    (hfold : ∀ env x, foldedSetIterable iter env x = pure x := by intro _ _; rfl) : Hs W n sc σ ow (.For (.Name x px) iter body [] pos) N R X := by
  refine hs_for (ds := (List.range k).map fun i => D.int ((i : Nat) : Int)) (fun i a b => Agree (inv i) a ∧ b = own i) he (items_rng0 k) (rngOk (by omega) (by omega)) hx (.inl ⟨_, _, rfl⟩) ⟨h0, ho⟩ (fun i a p h => hne i p h.2.symm) (fun i d' a b hd h => ?_) (fun a b h => ?_) hfold
  · obtain ⟨h1, rfl⟩ := h
    rw [List.getElem?_map] at hd
    cases q : (List.range k)[i]? with
    | none => rw [q] at hd; cases hd
    | some j =>
      rw [q] at hd; cases hd
      have hi : i < k := by
        rcases Nat.lt_or_ge i (List.range k).length with h | h
        · simpa using h
        · rw [List.getElem?_eq_none h] at q; cases q
      have hj : j = i := by
        rw [List.getElem?_range hi] at q; cases q; rfl
      subst hj
      exact (turn j hi).weaken (h1.cons (hnx j))
  · obtain ⟨h1, h2⟩ := h
    rw [List.length_map, List.length_range] at h1 h2
    rw [h2]; exact done a h1
/-- a loop over a list -/
theorem hs_each {α : Type} {x : Str} {px pos : Pos} {iter : Expr} {body : List Stmt} {xs : List α} (g : α → D) (inv : Nat → Names) (he : Ev W n sc σ iter (.list (xs.map g))) (hx : look x sc)
    (h0 : Agree (inv 0) σ) (hnx : ∀ i, (inv i).all (fun p => p.1 != x) = true)
    (turn : ∀ i a, xs[i]? = some a → Hx W n sc ((x, g a) :: inv i) none body (fun a b => Agree (inv (i + 1)) a ∧ b = none) R X)
    (done : ∀ a, Agree (inv xs.length) a → N a none)
    (hfold : ∀ env x, foldedSetIterable iter env x = pure x := by intro _ _; rfl) : Hs W n sc σ none (.For (.Name x px) iter body [] pos) N R X := by
  refine hs_for (ds := xs.map g) (fun i a b => Agree (inv i) a ∧ b = none) he rfl notRng hx (.inr fun i a b h => h.2) ⟨h0, rfl⟩ (fun i a p h => by cases h.2) (fun i d' a b hd h => ?_) (fun a b h => ?_) hfold
  · obtain ⟨h1, rfl⟩ := h
    rw [List.getElem?_map] at hd
    cases q : xs[i]? with
    | none => rw [q] at hd; cases hd
    | some y =>
      rw [q] at hd; cases hd
      exact (turn i y q).weaken (h1.cons (hnx i))
  · obtain ⟨h1, rfl⟩ := h
    rw [List.length_map] at h1
    exact done a h1

/-- x = [..], owned -/
theorem hx_own {x : Str} {px pos : Pos} {e : Expr} {ns : List Int} (he : EvF W n sc σ e ns) (hx : look x sc) (hn : σ.lookup x = none) (k : Hx W n sc σ (some (x, ns)) rest N R X)
    (hsw : ∀ env : Env, env.scope = sc → swapsWith e (some (.Name x px)) pos.line env = pure false := by intro _ _; rfl) : Hx W n sc σ none (.Assign [.Name x px] e pos :: rest) N R X := by
  refine hx_cons (N' := fun a b => a = σ ∧ b = some (x, ns)) ?_ fun a b h => by obtain ⟨rfl, rfl⟩ := h; exact k
  refine ⟨fun A env G H s Q E hA hs hPw F hE hN hR hX => ?_⟩
  refine wpAny_Assign_Name (he.run A env H s E _ hA hs F.cx fun a vs c s₁ k₁ ha hl hi => ?_) (hsw env hs)
  exact F.acquire k₁ (own_of hs hx) (fun d q => by rw [hn] at q; cases q) ha hl hi fun s' r F' => hN _ _ _ ⟨rfl, rfl⟩ (k₁.run.trans r) F'
theorem hx_own' {x : Str} {px pos : Pos} {e : Expr} {ns : List Int} (he : EvF W n sc σ e ns) (hx : look x sc) (hσ : Agree σ' σ) (hn : σ'.lookup x = none) (k : Hx W n sc σ' (some (x, ns)) rest N R X)
    (hsw : ∀ env : Env, env.scope = sc → swapsWith e (some (.Name x px)) pos.line env = pure false := by intro _ _; rfl) : Hx W n sc σ none (.Assign [.Name x px] e pos :: rest) N R X :=
  hx_cons (N' := fun a b => a = σ' ∧ b = some (x, ns)) (hs_own he hx hσ.mem hn ⟨rfl, rfl⟩ hsw) fun a b h => by obtain ⟨rfl, rfl⟩ := h; exact k
/-- an if whose branches agree afterwards -/
theorem hx_ite {t : Expr} {b o : List Stmt} {p : Pos} {c : Bool} {ps : Names} {ow' : Ow} (ht : EvB W n sc (full σ ow) t c)
    (h1 : c = true → Hx W n sc σ ow b (fun a w => Agree ps a ∧ w = ow') R X) (h2 : c = false → Hx W n sc σ ow o (fun a w => Agree ps a ∧ w = ow') R X)
    (k : Hx W n sc ps ow' rest N R X) : Hx W n sc σ ow (.If t b o p :: rest) N R X :=
  hx_cons (hs_if ht h1 h2) fun a w h => by obtain ⟨h, rfl⟩ := h; exact hx_of_agree h k
theorem hx_skip {ps : Names} {ow' : Ow} (h : Agree ps σ) (k : ow = ow') : Hx W n sc σ ow [] (fun a w => Agree ps a ∧ w = ow') R X := hx_nil ⟨h, k⟩
end
end Mine

namespace Mine

/-- names pushed one behind another -/
def push : Names → List (Str × Pos) → List D → Names
  | σ, p :: xs, e :: es => push ((p.1, e) :: σ) xs es
  | σ, _, _ => σ
section
variable {W : Wd} {n : Nat} {sc : Scope} {σ σ' : Names} {ow : Ow} {N N' : Names → Ow → Prop} {R : D → Prop} {X : Prop}

theorem each_names (env : Env) : ∀ xs : List (Str × Pos), assignEach (xs.map fun p => .Name p.1 p.2) env = xs.map fun p => (false, assign (.Name p.1 p.2) env)
  | [] => rfl
  | p :: xs => by rw [List.map_cons, List.map_cons, ← each_names env xs]; rfl

theorem bind_all {A : Around} {Gt : Part} {H : List Addr} {env : Env} {E : Value → Shared → Prop} {Q : Unit → Shared → Prop} : ∀ (xs : List (Str × Pos)) (es : List D) (vs : List Value) (σ : Names) (s : Shared), (∀ p ∈ xs, own p.1 env) → Reps (fun a => if a ∈ H then none else Gt a) vs es → es.length = xs.length →
    Fx W Gt H env σ none s → (∀ s', Run s s' → Fx W Gt H env (push σ xs es) none s' → Q () s') → wpAny W.M A (assignInOrder (xs.map fun p => assign (.Name p.1 p.2) env) vs) Q E s
  | [], [], _, σ, s, _, .nil, _, F, hQ => wpAny_pure (hQ s (Run.refl s) F)
  | [], _ :: _, _, _, _, _, _, h, _, _ => by cases h
  | _ :: _, [], _, _, _, _, _, h, _, _ => by cases h
  | p :: xs, e :: es, _, σ, s, ho, .cons (v := v) (vs := vs) r rs, hl, F, hQ => by
    show wpAny W.M A (do holding vs (assign (.Name p.1 p.2) env v); assignInOrder (xs.map fun p => assign (.Name p.1 p.2) env) vs) Q E s
    refine wpAny_bind (wpAny_holding (wpAny_assign_Name ?_))
    refine F.bind (d := e) (ho p List.mem_cons_self) (fun p hp => by cases hp) (fun m rs' f o => ?_) fun s₂ r₂ F₂ => ?_
    · have o' : rs' = [] := o
      subst o'
      refine r.mono fun a ob so ea => ?_
      have ea' : (if a ∈ H then none else Gt a) = some ob := ea
      split at ea'
      · cases ea'
      · rename_i hn
        exact hid_of (F.keep a ob ea') hn
    · exact bind_all xs es vs _ s₂ (fun q hq => ho q (List.mem_cons_of_mem _ hq)) rs (by simpa using hl) F₂ fun s₃ r₃ F₃ => hQ s₃ (r₂.trans r₃) F₃

theorem hs_forT {xs : List (Str × Pos)} {kk : Nat} {tp pos : Pos} {iter : Expr} {body : List Stmt} {rows : List (List D)} (I : Nat → Names → Prop)
    (he : Ev W n sc σ iter (.list (rows.map D.tup))) (hx : ∀ p ∈ xs, look p.1 sc) (hlen : ∀ es ∈ rows, es.length = xs.length)
    (h0 : I 0 σ)
    (turn : ∀ i es σ', rows[i]? = some es → I i σ' → Hx W n sc (push σ' xs es) none body (fun a b => I (i + 1) a ∧ b = none) R X)
    (done : ∀ σ', I rows.length σ' → N σ' none)
    (hfold : ∀ env x, foldedSetIterable iter env x = pure x := by intro _ _; rfl) : Hs W n sc σ none (.For (.Tuple (xs.map fun p => .Name p.1 p.2) kk tp) iter body [] pos) N R X := by
  refine ⟨fun A env G H s Q E hA hs hPw F hE hN hR hX => ?_⟩
  show wpAny W.M A (do standAt pos; let x' ← foldedSetIterable iter env (← eval iter env); standAt iter.pos; runOwn (.forLoop (.Tuple (xs.map fun p => .Name p.1 p.2) kk tp) (← holding [x'] (pyIter x')) body [] env) env) Q E s
  refine wpAny_bind (wpAny_standAt (wpAny_bind (he.run A env H s E _ hA hs F.cx fun v s₁ k₁ r₁ => ?_)))
  rw [hfold]
  refine wpAny_bind (wpAny_pure (wpAny_bind (wpAny_standAt (wpAny_bind (wpAny_holding ?_)))))
  refine iter_of hA.1 r₁ rfl (fun a b q => by cases q) fun It fp wr P St h₁ Wk keep₁ hst₀ hwr hfp hfpo hwo hrg hP hLi => ?_
  have hLi := hLi _ rfl
  refine wpAny_runOwn ?_
  rw [mark_none]
  have F₁ := F.keeps k₁
  have kk : Kp s₁ { s₁ with heap := h₁ } := ⟨h₁, s₁.toks, rfl, keep₁⟩
  have hln : (rows.map D.tup).length = rows.length := List.length_map ..
  rw [hln] at Wk
  let J : Nat → Shared → Prop := fun k s' => ∃ i σ', I i σ' ∧ Fx W G H env σ' none s' ∧ Run s s' ∧ St i s'.heap ∧ i ≤ rows.length ∧ k = rows.length + 1 - i ∧ (∀ b o, Solid o → s₁.heap.get? b = some o → s'.heap.get? b = some o)
  refine codeAny_forLoop_any J ?_ (rows.length + 1) ⟨0, σ, h0, F₁.keeps kk, k₁.run.trans kk.run, hst₀, Nat.zero_le _, rfl, fun b o _ e => keep₁ b o e⟩
  rintro k s' ⟨i, σ₁, hI, F', r', hst, hi', rfl, hkeep⟩
  by_cases hlt : i < rows.length
  · refine Wk.item i _ _ _ hlt hst fun v' h₂ tk₂ hPv hst₂ hk₂ => ?_
    obtain ⟨d', hd', rd'⟩ := hP i v' hPv
    obtain ⟨es, hes, hde⟩ : ∃ es, rows[i]? = some es ∧ d' = .tup es := by
      rw [List.getElem?_map] at hd'
      cases q : rows[i]? with
      | none => rw [q] at hd'; cases hd'
      | some y => rw [q] at hd'; cases hd'; exact ⟨y, rfl, rfl⟩
    subst hde
    have hwd : ∀ b ∈ wr, ∀ o, s'.heap.get? b = some o → ¬ Solid o ∧ ∃ vs, o.data = .fields vs := fun b hb o e => by
      obtain ⟨o', e', n', f'⟩ := hwo _ _ hst b hb
      rw [e'] at e; cases e; exact ⟨n', f'⟩
    have F₂ : Fx W G H env σ₁ none { s' with heap := h₂, toks := tk₂ } := moved hwd hwr F₁ F' hk₂
    have hk : ∀ b o, Solid o → s₁.heap.get? b = some o → h₂.get? b = some o := fun b o so e => by
      have e' := hkeep b o so e
      exact hk₂ b o (fun hw => (hwd b hw o e').1 so) e'
    obtain ⟨a, vs, c, rfl, ht, hrs⟩ : ∃ a vs c, v' = .ref a ∧ hid H h₂ a = some { cls := .type "tuple", dict := none, data := .seq vs.toArray c, slots := #[] } ∧ Reps (hid H h₂) vs es := by
      have := rd'.mono (le_hid (H := H) hk)
      cases this with
      | tup e r => exact ⟨_, _, _, rfl, e, r⟩
    obtain ⟨l, hli⟩ := hLi _ _ hst₂
    refine wpAny_letOwnedTupleGo_listiter hli ?_
    have hel := hlen es (List.mem_of_getElem? hes)
    refine assign_Tuple_tuple hA.1 (isTup_of ht) ?_ ?_ fun h₃ hext => ?_
    · rw [each_names, List.length_map, List.size_toArray, hrs.length, hel]
    · rw [each_names, List.findIdx?_map, List.findIdx?_eq_none_iff]
      intro x hx; rfl
    have keep₃ : ∀ b o, h₂.get? b = some o → h₃.get? b = some o := fun b o e => hext b o (Nat.ne_of_lt (Heap.lt_size e)) e
    have F₃ : Fx W G H env σ₁ none { s' with heap := h₃, toks := tk₂ } := F₂.keeps ⟨h₃, tk₂, rfl, keep₃⟩
    obtain ⟨Gt, F₃t, hle, hnar⟩ := F₃.narrow
    have hsol : ∀ b o, Solid o → h₃.get? b = some o → Gt b = some o := fun b o so e => by
      refine hnar b o e ?_ ?_ (.inl rfl)
      · rintro es ep q; exact not_solid_dict q so
      · rintro v q; exact not_solid_cell q so
    have hfpt : ∀ b ∈ fp, ∀ o, h₂.get? b = some o → Gt b = some o := fun b hb o e => by
      rcases hfpo b hb with ⟨o', e1, so, e2, _⟩ | hw
      · have e3 := hk b o' so e2
        rw [e3] at e; cases e
        exact hsol b _ so (keep₃ _ _ e3)
      · obtain ⟨o', e', n', vs, f'⟩ := hwo _ _ hst₂ b hw
        rw [e'] at e; cases e
        exact hnar b _ (keep₃ _ _ e') (fun _ _ q => by rw [f'] at q; cases q) (fun _ q => by rw [f'] at q; cases q) (.inr n')
    rw [each_names, List.map_map]
    refine bind_all xs es _ σ₁ _ (fun p hp => own_of hs (hx p hp)) (hrs.mono fun b o so e => ?_) hel F₃t fun s₄ r₄ F₄ => ?_
    · obtain ⟨e, hn⟩ := hid_get e
      show (if b ∈ H then none else Gt b) = some o
      rw [if_neg hn]; exact hsol b o so (keep₃ b o e)
    have rt : Run s s₄ := (r'.trans (⟨_, _, rfl⟩ : Run s' { s' with heap := h₃, toks := tk₂ })).trans r₄
    refine wpAny_passesOwn hE ((turn i es σ₁ hes hI).run A env Gt H s₄ _ E hA hs (W.Pm _ _ _ _ hPw hle) F₄ hE (fun σ₅ ow₅ s₅ hI₅ r₅ F₅ => ?_) (fun e v s₅ he r₅ kp rp => ?_) fun x => ?_)
    · obtain ⟨hI₅, rfl⟩ := hI₅
      refine ⟨rows.length + 1 - (i + 1), by omega, i + 1, σ₅, hI₅, F'.widen F₅ hle, rt.trans r₅, Wk.frame _ _ _ hst₂ (fun b hb o e => F₅.keep b o (hfpt b hb o e)), hlt, rfl, fun b o so e => F₅.keep b o (hsol b o so (keep₃ b o (hk b o so e)))⟩
    · exact hR e v s₅ he (rt.trans r₅) (fun b o e => kp b o (hle b o e)) rp
    · have hx := (hX x).run rt
      exact ⟨fun h h' tk tk₀ e args hf hm => let ⟨σ₆, ow₆, F₆⟩ := hf; hx.1 h h' tk tk₀ e args ⟨σ₆, ow₆, F'.widen F₆ hle⟩ hm, fun l h h' tk tk₀ e hl hf hm => let ⟨σ₆, ow₆, F₆⟩ := hf; hx.2 l h h' tk tk₀ e hl ⟨σ₆, ow₆, F'.widen F₆ hle⟩ hm⟩
  · have hin : i = rows.length := by omega
    subst hin
    refine Wk.done _ _ _ hst fun h₂ tk₂ hk₂ => wpAny_execs_nil ?_
    have hwd : ∀ b ∈ wr, ∀ o, s'.heap.get? b = some o → ¬ Solid o ∧ ∃ vs, o.data = .fields vs := fun b hb o e => by
      obtain ⟨o', e', n', f'⟩ := hwo _ _ hst b hb
      rw [e'] at e; cases e; exact ⟨n', f'⟩
    refine hN _ _ _ (done σ₁ hI) (r'.trans ⟨_, _, rfl⟩) ?_
    exact moved hwd hwr F₁ F' hk₂

/-- the greatest and the least of a list -/
def IsMax (ns : List Int) (v : Int) : Prop := v ∈ ns ∧ ∀ x ∈ ns, x ≤ v
def IsMin (ns : List Int) (v : Int) : Prop := v ∈ ns ∧ ∀ x ∈ ns, v ≤ x
theorem numsAt {vs : List Value} {ns : List Int} (h : IntsAre vs ns) {xs : Array (Int × Tok)} (e : vs.toArray = intItems xs) : xs.size = ns.length ∧ ∀ j, j < ns.length → ns[j]? = some (numAt xs j) := by
  have hsz : xs.size = ns.length := by
    have : vs.toArray.size = (intItems xs).size := by rw [e]
    rw [List.size_toArray, h.length] at this
    simpa [intItems] using this.symm
  refine ⟨hsz, fun j hj => ?_⟩
  have hv : j < vs.length := by rw [h.length]; exact hj
  obtain ⟨t, ht⟩ := intsAt h j hv hj
  have h1 : (intItems xs)[j]? = some (.int ns[j] t) := by rw [← e]; simp [ht, hv]
  obtain ⟨t', e'⟩ := intItems_at h1
  injection e' with e1 _
  rw [List.getElem?_eq_getElem hj, e1]
theorem call_max {ns : List Int} {v : Int} (hv : IsMax ns v) : CallV W n (.builtin "max") [.list (iL ns)] (.int v) := by
  refine ⟨fun A H s E Q vs hA hb ho R hQ => ?_⟩
  cases R with
  | cons r t =>
    cases t
    cases r with
    | list e r =>
      have hi := r.toI
      obtain ⟨xs, ex⟩ := AllInts.items hi.allInts
      have hl := isList_of e
      obtain ⟨hsz, hat⟩ := numsAt hi ex
      rw [ex] at hl
      have hpos : 0 < ns.length := List.length_pos_of_mem hv.1
      refine max_intList hA.1 hl (by omega) fun u h' tk hu hk => ?_
      obtain ⟨hle, hbest⟩ := argBest_gt (numAt xs) (xs.size - 1)
      obtain ⟨t', rfl⟩ := intItems_at hu
      have hm : numAt xs (argBest (fun i j => decide (numAt xs i > numAt xs j)) (xs.size - 1)) = v := by
        have h1 := hat _ (show argBest (fun i j => decide (numAt xs i > numAt xs j)) (xs.size - 1) < ns.length by omega)
        have h2 := hv.2 _ (List.mem_of_getElem? h1)
        obtain ⟨j, hj, hjv⟩ := List.getElem_of_mem hv.1
        have h3 := hat j hj
        rw [List.getElem?_eq_getElem hj, hjv] at h3
        cases h3
        have := hbest j (by omega)
        omega
      rw [hm]
      exact hQ _ _ ⟨h', tk, rfl, hk⟩ (.int _ _)
theorem call_min {ns : List Int} {v : Int} (hv : IsMin ns v) : CallV W n (.builtin "min") [.list (iL ns)] (.int v) := by
  refine ⟨fun A H s E Q vs hA hb ho R hQ => ?_⟩
  cases R with
  | cons r t =>
    cases t
    cases r with
    | list e r =>
      have hi := r.toI
      obtain ⟨xs, ex⟩ := AllInts.items hi.allInts
      have hl := isList_of e
      obtain ⟨hsz, hat⟩ := numsAt hi ex
      rw [ex] at hl
      have hpos : 0 < ns.length := List.length_pos_of_mem hv.1
      refine min_intList hA.1 hl (by omega) fun u h' tk hu hk => ?_
      obtain ⟨hle, hbest⟩ := argBest_lt (numAt xs) (xs.size - 1)
      obtain ⟨t', rfl⟩ := intItems_at hu
      have hm : numAt xs (argBest (fun i j => decide (numAt xs i < numAt xs j)) (xs.size - 1)) = v := by
        have h1 := hat _ (show argBest (fun i j => decide (numAt xs i < numAt xs j)) (xs.size - 1) < ns.length by omega)
        have h2 := hv.2 _ (List.mem_of_getElem? h1)
        obtain ⟨j, hj, hjv⟩ := List.getElem_of_mem hv.1
        have h3 := hat j hj
        rw [List.getElem?_eq_getElem hj, hjv] at h3
        cases h3
        have := hbest j (by omega)
        omega
      rw [hm]
      exact hQ _ _ ⟨h', tk, rfl, hk⟩ (.int _ _)

theorem ints_inj : ∀ {vs : List Value} {xs ys : List Int}, IntsAre vs xs → IntsAre vs ys → xs = ys
  | _, _, _, .nil, .nil => rfl
  | _, _, _, .cons n t r, .cons _ _ r' => by rw [ints_inj r r']
theorem rep_list_inj {G : Part} {v : Value} {xs ys : List Int} (h : Rep G v (.list (iL xs))) (k : Rep G v (.list (iL ys))) : xs = ys := by
  cases h with
  | list e r =>
    cases k with
    | list e' r' =>
      rename_i vs n ws m
      rw [e] at e'
      cases e'
      exact ints_inj r.toI r'.toI
/-- a list of ints among others -/
theorem cmp_notInL {xs : List Int} {rows : List (List Int)} : Cmp W n .NotIn (.list (iL xs)) (.list (rows.map fun l => .list (iL l))) (!decide (xs ∈ rows)) := by
  refine ⟨fun A H s E Q v u hA Ra Rb hQ => ?_⟩
  classical
  cases Rb with
  | list e r =>
    rename_i a ws m
    have key : ∀ (ws : List Value) (rows : List (List Int)), Reps (hid H s.heap) ws (rows.map fun l => .list (iL l)) → (ws.any fun y => decide (Rep (hid H s.heap) y (.list (iL xs)))) = decide (xs ∈ rows) ∧ ∀ y ∈ ws, ∃ ys, Rep (hid H s.heap) y (.list (iL ys)) := by
      intro ws
      induction ws with
      | nil => intro rows h; cases rows with
        | nil => exact ⟨by simp, fun y hy => by cases hy⟩
        | cons _ _ => cases h
      | cons w ws ih =>
        intro rows h
        cases rows with
        | nil => cases h
        | cons l rows =>
          cases h with
          | cons h1 h2 =>
            obtain ⟨i1, i2⟩ := ih rows h2
            refine ⟨?_, fun y hy => ?_⟩
            · rw [List.any_cons, i1]
              have e1 : decide (Rep (hid H s.heap) w (.list (iL xs))) = decide (xs = l) := by
                by_cases q : xs = l
                · subst q; simp [h1]
                · have : ¬ Rep (hid H s.heap) w (.list (iL xs)) := fun h => q (rep_list_inj h h1)
                  simp [this, q]
              rw [e1]
              by_cases q : xs = l <;> simp [q]
            · rcases List.mem_cons.mp hy with rfl | hy
              · exact ⟨l, h1⟩
              · exact i2 y hy
    obtain ⟨k1, k2⟩ := key ws rows r
    refine SeqAt.notIn_listAt (fun y => decide (Rep (hid H s.heap) y (.list (iL xs)))) (isList_of e) (fun y hy => ?_) ?_
    · obtain ⟨ys, hys⟩ := k2 y (by simpa using hy)
      have hu : A.in1.units < cLine := by
        have := hA.2.2
        show A.units + 1 < cLine
        omega
      cases Ra with
      | list ea ra =>
        rename_i b vs c
        have Rv : Rep (hid H s.heap) (.ref b) (.list (iL xs)) := .list ea ra
        cases hys with
        | list ey ry =>
          rename_i d zs k
          have Ry : Rep (hid H s.heap) (.ref d) (.list (iL ys)) := .list ey ry
          by_cases hbd : d = b
          · subst hbd
            have e1 : decide (Rep (hid H s.heap) (.ref d) (.list (iL xs))) = true := by simp [Rv]
            rw [e1]; exact SeqAt.EqAt.same _
          · have e1 : decide (Rep (hid H s.heap) (.ref d) (.list (iL xs))) = decide (ys = xs) := by
              by_cases q : ys = xs
              · subst q; simp [Ry]
              · have : ¬ Rep (hid H s.heap) (.ref d) (.list (iL xs)) := fun h => q (rep_list_inj Ry h)
                simp [this, q]
            rw [e1]
            exact SeqAt.EqAt.of_refs hbd (eqI hu (isList_of ey) (isList_of ea) ry.toI ra.toI)
    · rw [List.any_toArray, k1]; exact hQ
end
end Mine

namespace Mine
section
variable {W : Wd} {n : Nat} {sc : Scope} {σ : Names} {ow : Ow} {N : Names → Ow → Prop} {R : D → Prop} {X : Prop} {mg : Str → Option Value} {B newId initId : String} {bm : List Value}

/-- raise C("..") -/
theorem hs_raise {x t : Str} {p1 p2 p3 p4 : Pos} {k : Nat} (hg : W.hB.Ns mainGlobals mg) (O : OwnCls x W.tc bm newId mg W.hB) (FB : ExcBaseFacts B newId initId bm) (hk : sc.names.lookup x = some .globalImplicit) (hX : X) (hd : (x == ("__debug__" : Str)) = false := by decide) :
    Hs W n sc σ ow (.Raise (some (.Call (.Name x p1) [.Constant (.str t) k p2] [] p3)) none p4) N R X := by
  refine ⟨fun A env G H s Q E hA hs hPw F hE hN hR hXr => ?_⟩
  have C := F.cx
  obtain ⟨tl, Na, nm, q, bs, hdct, sn, sub, ab, col, dd, k0, k1, k2, k3, k5, mN, hC, hNn, hni, T⟩ := O.obj
  have base := fun b o (e : W.hB.get? b = some o) => C.base b o e
  refine wpAny_Raise_call_subT (C := W.tc) (nm := nm) (q := q) (N := Na) (bs := bs) (bm := tl) (hdct := hdct) (sn := sn) (sub := sub) (ab := ab) (col := col) (dd := dd) (k0 := k0) (k1 := k1) (k2 := k2) (k3 := k3) (k5 := k5)
    FB (mN := mN) (T.hasType FB.hasBase) hA.1 rfl hni ?_
  refine Calls.Name_function_global C.kind (by show env.scope.names.lookup x = _; rw [hs]; exact hk) ?_ hd
  refine Calls.loadGlobal_global (env := env) (show s.heap.Ns env.globals mg from C.gl ▸ hg.keeps base) O.bound ⟨rfl, ?_⟩
  refine Calls.evalArgs_plain ((evs_cons (W := W) (n := n) (sc := sc) (σ := full σ ow) (ev_str (x := t) (k := k) (p := p2)) evs_nil).run A env H s _ _ p3 hA hs C fun vs s₂ k₂ R₂ => ?_)
  have b2 := fun b o (e : W.hB.get? b = some o) => k₂.get b o (base b o e)
  refine ⟨rfl, ?_, b2 _ _ hC, hNn.keeps b2, T.keeps b2, fun h' e hm => ?_⟩
  · show vs.length ≤ sizeLine
    rw [R₂.length, sizeLine_eq]; simp
  · obtain ⟨h₂, tk₂, rfl, _⟩ := id k₂
    exact (hXr hX).1 h₂ h' tk₂ tk₂ e vs ⟨σ, ow, F.keeps k₂⟩ hm
theorem hx_raise {x t : Str} {p1 p2 p3 p4 : Pos} {k : Nat} {rest : List Stmt} (hg : W.hB.Ns mainGlobals mg) (O : OwnCls x W.tc bm newId mg W.hB) (FB : ExcBaseFacts B newId initId bm) (hk : sc.names.lookup x = some .globalImplicit) (hX : X) (hd : (x == ("__debug__" : Str)) = false := by decide) :
    Hx W n sc σ ow (.Raise (some (.Call (.Name x p1) [.Constant (.str t) k p2] [] p3)) none p4 :: rest) N R X :=
  hx_cons (N' := fun _ _ => False) (hs_raise hg O FB hk hX hd) fun _ _ h => h.elim
end
end Mine

namespace Mine

theorem funFrames_of {W : Wd} {h : Heap} {as : List Addr} : ∀ {l : List Env}, FOk W h l → (∀ env ∈ l, ∀ a, env.frame = some a → a ∈ as) → h.FunFrames (hideAll h as) l
  | [], _, _ => trivial
  | env :: l, F, hin => by
    obtain ⟨a, L, o, b, c, d, e⟩ := F env List.mem_cons_self
    exact ⟨a, ⟨L, o, b, hideAll_none _ (hin env List.mem_cons_self L b), d, e⟩, funFrames_of (fun env he => F env (List.mem_cons_of_mem _ he)) fun env he => hin env (List.mem_cons_of_mem _ he)⟩

section
variable {W : Wd} {n : Nat} {sc : Scope} {σ : Names}

/-- a call that may end by the text's exception -/
structure CallX (W : Wd) (n : Nat) (f : Value) (ds : List D) (R : D → Prop) (X : Prop) : Prop where
  run : ∀ (A : Around) (l : List Env) (H : List Addr) (s : Shared) (E : Value → Shared → Prop) (Q : Value → Shared → Prop) (vs : List Value), Room n A → A.frames = some l → FOk W s.heap l → (∀ b o, W.hB.get? b = some o → s.heap.get? b = some o) → (∀ a ∈ H, ∃ o, s.heap.get? a = some o) →
    Reps (hid H s.heap) vs ds → (∀ d v s', R d → Kp s s' → Rep (hid H s'.heap) v d → Q v s') → (X → ∀ e h' tk, Flown W s.heap l e h' → E (.ref e) { s with heap := h', toks := tk }) → wpAny W.M A (call f vs) Q E s

theorem call_fnX {f : Addr} {fd : FuncData} {body : List Stmt} {names : List Str} {dv : List Value} {ds dd : List D} {R : D → Prop} {X : Prop} (F : Fn W f fd body names dv) (np : ∀ A env G l, env.scope = fd.scope → A.frames = some (env :: l) → env.frame = some env.locals → FG W.hB G l → W.P A env G) (hdv : ∀ G, Reps G dv dd) (hlen : ds.length + dv.length = names.length)
    (hbody : Hx W n fd.scope (names.zip (ds ++ dd)) none body (fun _ _ => False) R X) : CallX W (n + 1) (.ref f) ds R X := by
  refine ⟨fun A l H s E Q vs hA hfr hok hb ho Rr hQ hX => ?_⟩
  obtain ⟨o, hof, hod⟩ := F.at_
  refine wpAny_call (codeAny_call_function (by have := hA.2.1; omega) (hb _ _ hof) hod F.co F.gen F.body (F.code.keeps hb) ?_)
  have hlen' : vs.length + dv.length = names.length := by rw [Rr.length]; exact hlen
  refine F.binds s vs hb hlen' _ _ _ _ ?_
  rw [F.globals, F.closure, F.builtins]
  have hkeys : (names.zip (vs ++ dv)).map (·.1) = names := zip_keys (by rw [List.length_append]; exact hlen')
  refine wpAny_newFunctionEnv_cells F.kind (fun y hy => ?_) fun env he s' x => ?_
  · have hm : y.1 ∈ names := hkeys ▸ List.mem_map.mpr ⟨y, hy, rfl⟩
    rcases F.look _ hm with h | h
    · exact .inl h
    · exact .inr ⟨h, cellsFrom_some (x := y.1) fd.scope.names _ [] (.inl h)⟩
  have hq : env = newEnv fd.scope s.heap.objs.size mainGlobals (cellsFrom (s.heap.objs.size + 1) fd.scope.names []) (env.qual) (some f) fd.code none builtinsNs := by rw [he]; rfl
  have hfrm : env.frame = some env.locals := by rw [hq]; rfl
  have hsc : env.scope = fd.scope := by rw [hq]; rfl
  have Fx₀ := frame_of F hb ho Rr hdv hlen' hq x
  refine ⟨(W.lim.keeps hb).keeps x.toInCall.keep, codeAny_func ?_⟩
  have hrun : Run s s' := x.toInCall.same
  refine hbody.run (A.deeper env) env s.heap.get? H s' _ _ ⟨hA.1, ?_, ?_⟩ hsc (np _ _ _ l hsc (Around.frames_deeper hfr) hfrm hok) Fx₀ PassesOwn.leaving (fun _ _ _ h => h.elim) (fun d' v s'' hd r kp rp => ?_) fun hx => ?_
  · have := hA.2.1; show A.depth + 1 + n < recursionLimit; omega
  · have := hA.2.2; show A.units + 3 + 4 * n + 200 < cLine; omega
  · obtain ⟨h', t, rfl⟩ := hrun.trans r
    exact hQ d' v _ hd ⟨h', t, rfl, kp⟩ rp
  · obtain ⟨h₁, t₁, rfl⟩ := hrun
    have ground : ∀ (h : Heap) (tk₀ : Nat), (∃ σ ow, Fx W s.heap.get? H env σ ow { { s with heap := h₁, toks := t₁ } with heap := h, toks := tk₀ }) → (∀ b o, s.heap.get? b = some o → h.get? b = some o) ∧ s.heap.get? env.locals = none ∧ FOk W h (env :: l) := by
      rintro h tk₀ ⟨σ', ow', Fr⟩
      have keepS : ∀ b o, s.heap.get? b = some o → h.get? b = some o := Fr.keep
      obtain ⟨m, rs, fc, _, _⟩ := Fr.fr
      obtain ⟨ml, ⟨oL, es, ep, hoL, hdL, _⟩, _⟩ := fc.ns
      have hnew : s.heap.get? env.locals = none := fc.nsG
      refine ⟨keepS, hnew, fun env' he' => ?_⟩
      rcases List.mem_cons.mp he' with rfl | he'
      · refine ⟨by rw [hsc, F.kind]; decide, env'.locals, oL, hfrm, ?_, hoL, fun vs q => by rw [hdL] at q; cases q⟩
        cases q : W.hB.get? env'.locals with
        | none => rfl
        | some o => have := hb _ _ q; rw [hnew] at this; cases this
      · exact (hok.keeps keepS) env' he'
    refine ⟨fun h h' tk tk₀ e args hf hm => ?_, fun l' h h' tk tk₀ e hl hf hfl => ?_⟩
    · obtain ⟨keepS, hnew, hok3⟩ := ground h tk₀ hf
      let as := (env :: l).filterMap (·.frame)
      have hin : ∀ env' ∈ env :: l, ∀ b, env'.frame = some b → b ∈ as := fun env' he' b hb => List.mem_filterMap.mpr ⟨env', he', hb⟩
      refine wpAny_leaves_madeW (base := hideAll h as) (Around.frames_deeper hfr) hfrm (fun b o q => of_hideAll _ q) (funFrames_of hok3 hin) hm fun h'' t x1 x2 x3 x4 => ?_
      refine hX hx e h'' tk ⟨⟨_, t, x1, fun b o hb' hn => hideAll_get _ (keepS b o hb') fun hmem => ?_⟩, (((Heap.UpToSlots.of_keeps keepS).trans (Heap.UpToSlots.of_keeps hm.keeps)).trans x4)⟩
      obtain ⟨env', he', hfe⟩ := List.mem_filterMap.mp hmem
      rcases List.mem_cons.mp he' with rfl | he'
      · rw [hfrm] at hfe
        cases hfe
        rw [hnew] at hb'; cases hb'
      · exact hn env' he' hfe
    · obtain ⟨keepS, hnew, hok3⟩ := ground h tk₀ hf
      have hl' : l' = env :: l := by
        have := Around.frames_deeper (env := env) hfr
        rw [this] at hl; cases hl; rfl
      subst hl'
      obtain ⟨⟨Bh, t, hfly, hkeep⟩, hslots⟩ := hfl
      refine wpAny_leaves_onW (Around.frames_deeper hfr) hfrm hfly fun h'' x1 x2 => ?_
      refine hX hx e h'' tk ⟨⟨Bh, t, x1, fun b o hb' hn => hkeep b o (keepS b o hb') fun env' he' hfe => ?_⟩, ((Heap.UpToSlots.of_keeps keepS).trans hslots).trans x2⟩
      rcases List.mem_cons.mp he' with rfl | he'
      · rw [hfrm] at hfe
        cases hfe
        rw [hnew] at hb'; cases hb'
      · exact hn env' he' hfe

/-- such a call as an expression -/
theorem evx_call {x : Str} {fp p : Pos} {e : Expr} {es : List Expr} {f : Addr} {ds : List D} {R : D → Prop} {X : Prop} (hf : FnAt W x f) (hk : sc.names.lookup x = some .globalImplicit) (ha : Evs W n sc σ (e :: es) ds) (h : CallX W n (.ref f) ds R X)
    (hn : notStar e = true) (hd : (x == ("__debug__" : Str)) = false) (A : Around) (env : Env) (l : List Env) (H : List Addr) (s : Shared) (E : Value → Shared → Prop) (Q : Value → Shared → Prop) (hA : Room n A) (hs : env.scope = sc) (C : Cx W env H σ s) (hfr : A.frames = some l) (hok : FOk W s.heap l)
    (hQ : ∀ d v s', R d → Kp s s' → Rep (hid H s'.heap) v d → Q v s') (hX : X → ∀ s₂ e h' tk, Kp s s₂ → Flown W s₂.heap l e h' → E (.ref e) { s with heap := h', toks := tk }) : wpAny W.M A (eval (.Call (.Name x fp) (e :: es) [] p) env) Q E s := by
  have he : ∀ env, starEach (e :: es) env = (false, eval e env) :: starEach es env := fun env => star_plain hn
  show wpAny W.M A (do callWith p (← eval (.Name x fp) env) [] (backTo p (starEach (e :: es) env)) (backToKw p (keywordEach [] env))) Q E s
  refine wpAny_bind ((ev_glob (W := W) (n := n) (σ := σ) hf.1 hk hd).run A env H s E _ hA hs C fun v s₁ k₁ R₁ => ?_)
  cases R₁
  obtain ⟨o, fd, ho, hod⟩ := hf.2
  have fin : wpAny W.M A (spliced (backTo p (starEach (e :: es) env))) (fun vs s₂ => (∀ b o, W.hB.get? b = some o → s₂.heap.get? b = some o) ∧ wpAny W.M A (call (.ref f) vs) Q E s₂) E s₁ := by
    refine ha.run A env H s₁ E _ p hA hs (C.keeps k₁) fun vs s₂ k₂ R₂ => ⟨((C.keeps k₁).keeps k₂).base, ?_⟩
    have k := k₁.trans k₂
    refine h.run A l H s₂ E Q vs hA hfr (hok.keeps k.get) ((C.keeps k₁).keeps k₂).base ((C.keeps k₁).keeps k₂).old R₂ (fun d v s₃ hd k₃ R₃ => hQ d v s₃ hd (k.trans k₃) R₃) fun hx e h' tk hfl => ?_
    have := hX hx s₂ e h' tk k hfl
    obtain ⟨h₂, t₂, rfl, _⟩ := id k
    exact this
  show wpAny W.M A (callWith p (.ref f) [] (backTo p (starEach (e :: es) env)) []) Q E s₁
  refine Calls.callWith_function (o := o) (fd := fd) ?_
  rw [he] at fin ⊢
  exact Calls.evalArgs_plain (wpAny_mono fin (fun vs s₂ q => ⟨⟨q.1 _ _ ho, hod⟩, q.2⟩) fun _ _ q => q)

/-- try: return f(..) except C: return None -/
theorem call_strict {f g : Addr} {fd : FuncData} {names : List Str} {ds ds2 : List D} {R : D → Prop} {X : Prop} {x y : Str} {fp cp rp np hp tp nnp rp2 : Pos} {a1 : Expr} {as1 : List Expr} {kk : Nat} {mg : Str → Option Value} {B newId initId : String} {bm : List Value}
    (F : Fn W f fd [.Try [.Return (some (.Call (.Name x fp) (a1 :: as1) [] cp)) rp] [.ExceptHandler (some (.Name y np)) none [.Return (some (.Constant .none kk nnp)) rp2] hp] [] [] tp] names []) (hlen : ds.length = names.length)
    (hf : FnAt W x g) (hk : fd.scope.names.lookup x = some .globalImplicit) (hky : fd.scope.names.lookup y = some .globalImplicit) (ha : Evs W n fd.scope (names.zip ds) (a1 :: as1) ds2) (hc : CallX W n (.ref g) ds2 R X) (hn : notStar a1 = true)
    (hg : W.hB.Ns mainGlobals mg) (O : OwnCls y W.tc bm newId mg W.hB) (FB : ExcBaseFacts B newId initId bm) (hdx : (x == ("__debug__" : Str)) = false) (hdy : (y == ("__debug__" : Str)) = false)
    (A : Around) (l : List Env) (H : List Addr) (s : Shared) (E : Value → Shared → Prop) (Q : Value → Shared → Prop) (vs : List Value) (hA : Room (n + 1) A) (hfr : A.frames = some l) (hok : FOk W s.heap l) (hb : ∀ b o, W.hB.get? b = some o → s.heap.get? b = some o) (ho : ∀ a ∈ H, ∃ o, s.heap.get? a = some o)
    (Rr : Reps (hid H s.heap) vs ds) (hQ : ∀ d v s', R d → Kp s s' → Rep (hid H s'.heap) v d → Q v s')
    (hX : X → ∀ h' tk, (∀ b o, s.heap.get? b = some o → (∀ env ∈ l, env.frame ≠ some b) → h'.get? b = some o) → s.heap.UpToSlots h' → Q .none { s with heap := h', toks := tk }) : wpAny W.M A (call (.ref f) vs) Q E s := by
  obtain ⟨o, hof, hod⟩ := F.at_
  refine wpAny_call (codeAny_call_function (by have := hA.2.1; omega) (hb _ _ hof) hod F.co F.gen F.body (F.code.keeps hb) ?_)
  have hlen' : vs.length + ([] : List Value).length = names.length := by rw [Rr.length]; simpa using hlen
  refine F.binds s vs hb hlen' _ _ _ _ ?_
  rw [F.globals, F.closure, F.builtins]
  have hkeys : (names.zip (vs ++ [])).map (·.1) = names := zip_keys (by rw [List.length_append]; exact hlen')
  refine wpAny_newFunctionEnv_cells F.kind (fun y hy => ?_) fun env he s' x => ?_
  · have hm : y.1 ∈ names := hkeys ▸ List.mem_map.mpr ⟨y, hy, rfl⟩
    rcases F.look _ hm with h | h
    · exact .inl h
    · exact .inr ⟨h, cellsFrom_some (x := y.1) fd.scope.names _ [] (.inl h)⟩
  have hq : env = newEnv fd.scope s.heap.objs.size mainGlobals (cellsFrom (s.heap.objs.size + 1) fd.scope.names []) (env.qual) (some f) fd.code none builtinsNs := by rw [he]; rfl
  have hfrm : env.frame = some env.locals := by rw [hq]; rfl
  have hsc : env.scope = fd.scope := by rw [hq]; rfl
  have Fx₀ := frame_of (dd := []) F hb ho Rr (fun G => .nil) hlen' hq x
  rw [List.append_nil] at Fx₀
  refine ⟨(W.lim.keeps hb).keeps x.toInCall.keep, codeAny_func ?_⟩
  obtain ⟨h₁, t₁, rfl⟩ : Run s s' := x.toInCall.same
  have keepS : ∀ b o, s.heap.get? b = some o → h₁.get? b = some o := Fx₀.keep
  obtain ⟨m, rs, fc, _, _⟩ := Fx₀.fr
  obtain ⟨ml, ⟨oL, es, ep, hoL, hdL, _⟩, _⟩ := fc.ns
  have hnew : s.heap.get? env.locals = none := fc.nsG
  have hok3 : FOk W h₁ (env :: l) := fun env' he' => by
    rcases List.mem_cons.mp he' with rfl | he'
    · refine ⟨by rw [hsc, F.kind]; decide, env'.locals, oL, hfrm, ?_, hoL, fun vs q => by rw [hdL] at q; cases q⟩
      cases q : W.hB.get? env'.locals with
      | none => rfl
      | some o => have := hb _ _ q; rw [hnew] at this; cases this
    · exact (hok.keeps keepS) env' he'
  have hA' : Room n (A.deeper env) := ⟨hA.1, by have := hA.2.1; show A.depth + 1 + n < recursionLimit; omega, by have := hA.2.2; show A.units + 3 + 4 * n + 200 < cLine; omega⟩
  refine wpAny_execs_cons (wpAny_Try_except (wpAny_execs_cons (wpAny_Return_some ?_)))
  refine evx_call hf hk ha hc hn hdx (A.deeper env) env (env :: l) H _ _ _ hA' hsc Fx₀.cx (Around.frames_deeper hfr) hok3 (fun d v s₂ hd k₂ r₂ => ?_) fun hx s₂ e h' tk k₂ hfl => ?_
  · refine hQ d v s₂ hd ?_ r₂
    obtain ⟨h₂, t₂, rfl, kk⟩ := k₂
    exact ⟨h₂, t₂, rfl, fun b o e => kk b o (keepS b o e)⟩
  · obtain ⟨⟨Bh, t, hfly, hkeep⟩, hslots⟩ := hfl
    have keep2 : ∀ b o, s.heap.get? b = some o → s₂.heap.get? b = some o := fun b o e => k₂.get b o (keepS b o e)
    have hBk : ∀ b o, s.heap.get? b = some o → (∀ env ∈ l, env.frame ≠ some b) → Bh.get? b = some o := fun b o e hn => by
      refine hkeep b o (keep2 b o e) fun env' he' hfe => ?_
      rcases List.mem_cons.mp he' with rfl | he'
      · rw [hfrm] at hfe; cases hfe
        rw [hnew] at e; cases e
      · exact hn env' he' hfe
    have hBB : ∀ b o, W.hB.get? b = some o → Bh.get? b = some o := fun b o e => hBk b o (hb b o e) fun env' he' hfe => by
      obtain ⟨_, L, _, hL, hn, _⟩ := hok env' he'
      rw [hL] at hfe; cases hfe
      rw [hn] at e; cases e
    refine wpAny_looks_onW (Around.frames_deeper hfr) hfrm hfly fun h₄ hheld₄ hsm₄ => ?_
    refine wpAny_landsW hheld₄ fun h₅ hheld hsm₅ => ?_
    obtain ⟨ob, hob, hobc⟩ := hheld.there
    have b5 : ∀ b o, W.hB.get? b = some o → h₅.get? b = some o := fun b o e => hheld.1 b o (hBB b o e)
    obtain ⟨tl, Na, nm, qn, bs, hdct, sn, sub, ab, col, dd, k0, k1, k2, k3, k5, mN, hC, hNn, hni, TL⟩ := (O.keeps b5).obj
    refine wpAny_handleBy_cons (codeAny_handlers_test ?_) (by intro q; cases q)
    refine Calls.Name_function_global (by rw [hsc]; exact F.kind) (by show env.scope.names.lookup y = _; rw [hsc]; exact hky) ?_ hdy
    refine Calls.loadGlobal_global (env := env) (show Heap.Ns _ env.globals mg from Fx₀.gl ▸ hg.keeps b5) O.bound ?_
    refine wpAny_excMatches_sub_self hC hob hobc (TL.hasType FB.hasBase) (codeAny_handlers_suite ?_)
    refine lands_againW hheld fun h₆ hfl₆ hsm₆ => ?_
    refine wpAny_execs_cons (wpAny_Return_some (wpAny_Constant_none ?_))
    exact hX hx h₆ tk (fun b o e hn => hfl₆.1 b o (hBk b o e hn)) (((((Heap.UpToSlots.of_keeps keep2).trans hslots).trans hsm₄).trans hsm₅).trans hsm₆)
end
end Mine

namespace Mine

/-- a call that answers None where the text's exception flies -/
structure CallS (W : Wd) (n : Nat) (f : Addr) (ds : List D) (R : D → Prop) (X : Prop) : Prop where
  run : ∀ (A : Around) (l : List Env) (H : List Addr) (s : Shared) (E : Value → Shared → Prop) (Q : Value → Shared → Prop) (vs : List Value), Room n A → A.frames = some l → FOk W s.heap l → (∀ b o, W.hB.get? b = some o → s.heap.get? b = some o) → (∀ a ∈ H, ∃ o, s.heap.get? a = some o) →
    Reps (hid H s.heap) vs ds → (∀ d v s', R d → Kp s s' → Rep (hid H s'.heap) v d → Q v s') →
    (X → ∀ h' tk, (∀ b o, s.heap.get? b = some o → (∀ env ∈ l, env.frame ≠ some b) → h'.get? b = some o) → s.heap.UpToSlots h' → Q .none { s with heap := h', toks := tk }) → wpAny W.M A (call (.ref f) vs) Q E s

section
variable {W : Wd} {n : Nat} {sc : Scope} {σ : Names} {N : Names → Ow → Prop} {R : D → Prop} {X : Prop}

/-- the law's frame, where frames' tables have moved up to slots -/
theorem Fx.slots {G : Part} {H : List Addr} {env : Env} {s : Shared} {h' : Heap} {tk : Nat} (F : Fx W G H env σ none s) (k : ∀ b o, s.heap.get? b = some o → b ≠ env.locals → h'.get? b = some o) (u : s.heap.UpToSlots h') : Fx W G H env σ none { s with heap := h', toks := tk } := by
  obtain ⟨m, rs, f, o, vals⟩ := F.fr
  have o' : rs = [] := o
  subst o'
  obtain ⟨ml, hn, hm⟩ := f.ns
  refine ⟨F.kind, F.gl, F.bl, F.base, F.old, fun b o e => k b o (F.keep b o e) (fun q => by rw [q, f.nsG] at e; cases e), m, [], ⟨⟨ml, u.ns hn, hm⟩, f.nsG, fun x hx => ?_, f.inj⟩, rfl, fun x d e => ?_⟩
  · obtain ⟨c, a, ⟨oc, h1, h2⟩, b, d⟩ := f.cell x hx
    exact ⟨c, a, ⟨oc, k _ _ h1 d, h2⟩, b, d⟩
  · obtain ⟨h1, v, h2, r⟩ := vals x d e
    refine ⟨h1, v, h2, r.mono (le_hid fun b o so e => k b o e fun q => ?_)⟩
    obtain ⟨o', es, ep, e1, e2, _⟩ := hn
    rw [q, e1] at e; cases e; exact not_solid_dict e2 so

theorem hs_strict {x y : Str} {px pos fp p : Pos} {a1 : Expr} {as1 : List Expr} {f : Addr} {ds : List D} {R2 : D → Prop} {X2 : Prop} (hP : ∀ A env G, env.scope = sc → W.P A env G → A.frames = some [env] ∧ env.frame = some env.locals)
    (hf : FnAt W y f) (hk : sc.names.lookup y = some .globalImplicit) (ha : Evs W n sc σ (a1 :: as1) ds) (hc : CallS W n f ds R2 X2) (hn : notStar a1 = true) (hx : look x sc)
    (h1 : ∀ d, R2 d → N ((x, d) :: σ) none) (h2 : X2 → N ((x, .none) :: σ) none) (hd : (y == ("__debug__" : Str)) = false := by decide) :
    Hs W n sc σ none (.Assign [.Name x px] (.Call (.Name y fp) (a1 :: as1) [] p) pos) N R X := by
  refine ⟨fun A env G H s Q E hA hs hPw F hE hN hR hX => ?_⟩
  obtain ⟨hfr, hfm⟩ := hP A env G hs hPw
  have he : ∀ env, starEach (a1 :: as1) env = (false, eval a1 env) :: starEach as1 env := fun env => star_plain hn
  refine wpAny_Assign_Name ?_ rfl
  show wpAny W.M A (do callWith p (← eval (.Name y fp) env) [] (backTo p (starEach (a1 :: as1) env)) (backToKw p (keywordEach [] env))) _ E s
  refine wpAny_bind ((ev_glob (W := W) (n := n) (σ := σ) hf.1 hk hd).run A env H s E _ hA hs F.cx fun v s₁ k₁ R₁ => ?_)
  cases R₁
  obtain ⟨o, fd, ho, hod⟩ := hf.2
  show wpAny W.M A (callWith p (.ref f) [] (backTo p (starEach (a1 :: as1) env)) []) _ E s₁
  refine Calls.callWith_function (o := o) (fd := fd) ?_
  have fin : wpAny W.M A (spliced (backTo p (starEach (a1 :: as1) env))) (fun vs s₂ => (∀ b o, W.hB.get? b = some o → s₂.heap.get? b = some o) ∧ wpAny W.M A (call (.ref f) vs) (fun v s' => wpAny W.M A (storeName env x v) (fun _ s'' => Q .next s'') E s') E s₂) E s₁ := by
    refine ha.run A env H s₁ E _ p hA hs (F.keeps k₁).cx fun vs s₂ k₂ R₂ => ⟨((F.keeps k₁).keeps k₂).cx.base, ?_⟩
    have k := k₁.trans k₂
    have F₂ := F.keeps k
    have hok : FOk W s₂.heap [env] := fun env' he' => by
      rw [List.mem_singleton.mp he']
      obtain ⟨m, rs, fc, _, _⟩ := F₂.fr
      obtain ⟨ml, ⟨oL, es, ep, hoL, hdL, _⟩, _⟩ := fc.ns
      refine ⟨by rw [F.kind]; decide, env.locals, oL, hfm, ?_, hoL, fun vs q => by rw [hdL] at q; cases q⟩
      cases q : W.hB.get? env.locals with
      | none => rfl
      | some o => have := F.base _ _ q; rw [fc.nsG] at this; cases this
    refine hc.run A [env] H s₂ E _ vs hA hfr hok F₂.cx.base F₂.cx.old R₂ (fun d v s₃ hd k₃ R₃ => ?_) fun hx2 h' tk kp u => ?_
    · refine (F₂.keeps k₃).bind (d := d) (own_of hs hx) (fun p hp => by cases hp) (fun m rs f o => ?_) fun s' r F' => hN _ _ _ (h1 d hd) ((k.trans k₃).run.trans r) F'
      have o' : rs = [] := o
      subst o'; exact R₃
    · have F₃ : Fx W G H env σ none { s₂ with heap := h', toks := tk } := F₂.slots (fun b o e hne => kp b o e fun env' he' hfe => by
        rw [List.mem_singleton.mp he', hfm] at hfe
        cases hfe; exact hne rfl) u
      refine F₃.bind (d := .none) (own_of hs hx) (fun p hp => by cases hp) (fun m rs f o => .none) fun s' r F' => hN _ _ _ (h2 hx2) ((k.run.trans ⟨h', tk, rfl⟩).trans r) F'
  rw [he] at fin ⊢
  exact Calls.evalArgs_plain (wpAny_mono fin (fun vs s₂ q => ⟨⟨q.1 _ _ ho, hod⟩, q.2⟩) fun _ _ q => q)
end
end Mine

namespace Mine
section
variable {W : Wd} {n : Nat} {sc : Scope} {σ : Names} {N : Names → Ow → Prop} {R : D → Prop} {X : Prop} {rest : List Stmt}

/-- a table beside the frame is let go -/
theorem Fx.beside {G Gt : Part} {H : List Addr} {env : Env} {σ₀ : Names} {s₀ s : Shared} {h' : Heap} {Cc : Addr} {oc : Obj} (F₀ : Fx W G H env σ₀ none s₀) (F : Fx W Gt H env σ none s) (hG : ∀ b o, G b = some o → Gt b = some o ∧ b ≠ Cc) (hC : Gt Cc = some oc) (hd : ¬ Solid oc)
    (k : Heap.SameBut Cc s.heap h') : Fx W G H env σ none { s with heap := h' } := by
  obtain ⟨m, rs, f, o, vals⟩ := F.fr
  have o' : rs = [] := o
  subst o'
  have hn : ∀ b, Gt b = none → G b = none := fun b e => by
    cases q : G b with
    | none => rfl
    | some o => rw [(hG b o q).1] at e; cases e
  have hne : ∀ b, Gt b = none → b ≠ Cc := fun b e q => by rw [q, hC] at e; cases e
  obtain ⟨ml, hns, hm⟩ := f.ns
  refine ⟨F.kind, F.gl, F.bl, F₀.base, F₀.old, fun b o e => k.extBut b o (hG b o e).2 (F.keep b o (hG b o e).1), m, [], ⟨⟨ml, hns.sameBut k (hne _ f.nsG), hm⟩, hn _ f.nsG, fun x hx => ?_, f.inj⟩, rfl, fun x d e => ?_⟩
  · obtain ⟨c, a, h1, b, d⟩ := f.cell x hx
    exact ⟨c, a, h1.sameBut k (hne _ b), hn _ b, d⟩
  · obtain ⟨h1, v, h2, r⟩ := vals x d e
    refine ⟨h1, v, h2, r.mono (le_hid fun b o so e => k.extBut b o (fun q => ?_) e)⟩
    rw [q, F.keep _ _ hC] at e; cases e; exact hd so

/-- x = [.. for y in ..], x a local name -/
theorem hs_compL {t : Str} {tp apos : Pos} {elt iter : Expr} {x : Str} {px : Pos} {ifs : List Expr} {scope : Scope} {pos : Pos} {d : D} {α : Type} {ds : List α} (g : α → D) (p : α → Bool) (f : α → D)
    (ok : CompOk scope sc σ x) (hit : Ev W n sc σ iter d) (hi : itemsOf d = some (ds.map g)) (hz : ∀ a b, d = .rng a b → -(2 ^ 62) ≤ a ∧ a < 2 ^ 62 ∧ -(2 ^ 62) ≤ b ∧ b < 2 ^ 62) (hlen : ds.length ≤ 100000)
    (htest : ∀ d ∈ ds, EvT W n (relS scope sc) (innerN σ scope x (g d)) ifs (p d))
    (helt : ∀ d ∈ ds, p d = true → Ev W n (relS scope sc) (innerN σ scope x (g d)) elt (f d))
    (hx : look t sc) (hN' : N ((t, .list ((ds.filter p).map f)) :: σ) none)
    (hsw : ∀ env : Env, env.scope = sc → swapsWith (.ListComp elt [⟨.Name x px, iter, ifs, 0⟩] scope pos) (some (.Name t tp)) apos.line env = pure true)
    (hs : ∀ env x, foldedSetIterable iter env x = pure x := by intro _ _; rfl) :
    Hs W n sc σ none (.Assign [.Name t tp] (.ListComp elt [⟨.Name x px, iter, ifs, 0⟩] scope pos) apos) N R X := by
  refine ⟨fun A env G H s Q E hA hsc hPw F hE hN hR hX => ?_⟩
  rw [exec_Assign_Name_used _ _ _ _ (hsw env hsc)]
  refine wpAny_bind (wpAny_standAt (wpAny_bind ?_))
  rw [arm_evalThenUse_ListComp]
  refine wpAny_bind ?_
  refine comp_core g p f ok hit hi hz hlen htest helt hA hsc F.cx (hs env) fun s₁ Da Cc h' tk m ys c k₁ hDn hCn hDC hns kp hD hys => ?_
  have kk : Kp s { s₁ with heap := h', toks := tk } := k₁.trans ⟨h', tk, rfl, kp⟩
  have F₁ := F.keeps kk
  obtain ⟨oc, es, ep, hoc, hdc, hrest⟩ := id hns
  let Gt : Part := fun b => if b = Cc then some oc else G b
  have hGC : G Cc = none := by
    cases q : G Cc with
    | none => rfl
    | some o => have := k₁.get _ _ (F.keep _ _ q); rw [hCn] at this; cases this
  have hsome : ∀ b, (∃ o, s.heap.get? b = some o) → b ≠ Cc := fun b ⟨o, e⟩ q => by have := k₁.get _ _ e; rw [q, hCn] at this; cases this
  have hle : ∀ b o, G b = some o → Gt b = some o ∧ b ≠ Cc := fun b o e => by
    have hb : b ≠ Cc := fun q => by rw [q, hGC] at e; cases e
    exact ⟨(if_neg hb).trans e, hb⟩
  have Ft : Fx W Gt H env σ none { s₁ with heap := h', toks := tk } := by
    obtain ⟨m₁, rs, fc, o, vals⟩ := F.fr
    have o' : rs = [] := o
    subst o'
    have fk := fc.keeps kk.get
    have hl : env.locals ≠ Cc := by
      obtain ⟨_, ⟨oL, _, _, hoL, _⟩, _⟩ := fc.ns
      exact hsome _ ⟨oL, hoL⟩
    refine ⟨F.kind, F.gl, F.bl, fun b o e => (hle b o (F.base b o e)).1, fun a ha => let ⟨o, e⟩ := F.old a ha; ⟨o, (hle a o e).1⟩, fun b o e => ?_, m₁, [], ⟨fk.ns, (if_neg hl).trans fc.nsG, fun y hy => ?_, fc.inj⟩, rfl, fun y d e => ?_⟩
    · have e' : (if b = Cc then some oc else G b) = some o := e
      split at e'
      · rename_i q; cases e'; rw [q]; exact hoc
      · exact F₁.keep b o e'
    · obtain ⟨c', a, h1, b, dd⟩ := fk.cell y hy
      obtain ⟨c'', a', ⟨o2, h2, _⟩, _⟩ := fc.cell y hy
      rw [a] at a'; cases a'
      exact ⟨c', a, h1, (if_neg (hsome _ ⟨o2, h2⟩)).trans b, dd⟩
    · obtain ⟨h1, v, h2, r⟩ := vals y d e
      exact ⟨h1, v, h2, r.mono (le_hid fun b o _ e => kk.get b o e)⟩
  have hDH : Da ∉ H := fun hm => by
    obtain ⟨o, e⟩ := F.old Da hm
    have := k₁.get _ _ (F.keep _ _ e); rw [hDn] at this; cases this
  show wpAny W.M A (assign (.Name t tp) env (.ref Da)) _ E _
  refine wpAny_assign_Name (Ft.bind (d := .list ((ds.filter p).map f)) (own_of hsc hx) (fun p hp => by cases hp) (fun m rs f o => ?_) fun s₂ r₂ F₂ => ?_)
  · have o' : rs = [] := o
    subst o'
    refine .list (hid_of hD (by simpa using hDH)) (hys.mono (le_unhide fun a ha => List.mem_cons_of_mem _ (by simpa using ha)))
  · have hC2 : s₂.heap.get? Cc = some oc := F₂.keep _ _ (if_pos rfl)
    refine ⟨m, ⟨oc, es, ep, hC2, hdc, hrest⟩, fun h'' hsb => wpAny_pure (wpAny_pure (hN _ _ _ hN' ?_ (F.beside F₂ hle (if_pos rfl) (not_solid_dict hdc) hsb)))⟩
    exact (kk.run.trans r₂).trans ⟨h'', s₂.toks, rfl⟩
theorem swaps_local {elt : Expr} {gens : List Comprehension} {s sc : Scope} {pos px : Pos} {t : Str} {line : Nat} (hk : sc.kind = .function) (hb : sc.names.lookup t = some .local) (hl : px.line = pos.line) (hn : (s.names.any fun (n, k) => n == t && (k == .local || k == .cell)) = false)
    (env : Env) (h : env.scope = sc) : swapsWith (.ListComp elt gens s pos) (some (.Name t px)) line env = pure true := by
  have e : env.kindOf t = some .local := by unfold Env.kindOf; rw [h]; exact hb
  show (pure (env.blockKind == .function && env.kindOf t == some .local && px.line == (Expr.ListComp elt gens s pos).pos.line && !(s.names.any fun (n, k) => n == t && (k == .local || k == .cell))) : Sem Bool) = pure true
  have hbk : env.blockKind = .function := by unfold Env.blockKind; rw [h, hk]; rfl
  rw [e, hn, hbk]
  have : (px.line == (Expr.ListComp elt gens s pos).pos.line) = true := by
    show (px.line == pos.line) = true
    rw [hl]; simp
  rw [this]; rfl

theorem Reps.drop {G : Part} : ∀ {vs : List Value} {ds : List D} (k : Nat), Reps G vs ds → Reps G (vs.drop k) (ds.drop k)
  | _, _, 0, h => h
  | _, _, k + 1, .nil => .nil
  | _, _, k + 1, .cons _ r => by simpa using Reps.drop k r
/-- xs[k:] -/
theorem ev_from {y : Str} {yp sp p cp : Pos} {kk : Nat} {ds : List D} {k : Nat} {i : Int} (hk : i = (k : Int)) (hv : Ev W n sc σ (.Name y yp) (.list ds)) (hle : k ≤ ds.length) (hz : ds.length ≤ 100000) : Ev W n sc σ (.Subscript (.Name y yp) (.Slice (some (.Constant (.int i) kk cp)) none none sp) p) (.list (ds.drop k)) := by
  subst hk
  refine ⟨fun A env H s E Q hA hs C hQ => ?_⟩
  refine wpAny_Subscript_list_slice (hv.run A env H s E _ hA hs C fun v s₁ k₁ R₁ => wpAny_evalPart_some (wpAny_Constant_int (wpAny_evalPart_none ?_)))
  have R₂ := R₁.keeps (Kp.toks s₁ (s₁.toks + 1))
  cases R₁ with
  | list e r =>
    rename_i a vs m
    refine ⟨a, vs.toArray, some (k : Int), none, rfl, isList_of e, by rw [List.size_toArray, r.length, sizeLine_eq]; omega, .int _ _, .none, ?_⟩
    have hsz : k ≤ vs.toArray.size := by rw [List.size_toArray, r.length]; exact hle
    rw [slicePick_from vs.toArray k hsz]
    have kk2 : Kp s₁ _ := (Kp.push s₁ { cls := .type "slice", data := .fields #[.int (k : Int) s₁.toks, .none, .none] } (s₁.toks + 1)).trans (Kp.push' _ { cls := .type "list", data := .seq (vs.toArray.toList.drop k).toArray })
    refine hQ _ _ (k₁.trans kk2) ?_
    refine .list (vs := vs.drop k) (n := 0) (hid_of ?_ ?_) ((Reps.drop k r).keeps kk2)
    · have e1 := Heap.get?_push_size (s₁.heap.push { cls := .type "slice", data := .fields #[.int (k : Int) s₁.toks, .none, .none] }) (o := { cls := .type "list", data := .seq (vs.toArray.toList.drop k).toArray }) rfl
      rw [Heap.size_push] at e1
      exact e1
    · exact new_hid' (C.keeps k₁).old (Nat.le_succ _)
end
end Mine

namespace Mine
section
variable {W : Wd} {n : Nat} {sc : Scope} {σ : Names} {N : Names → Ow → Prop} {R : D → Prop} {X : Prop}
/-- x = f(..), where f may raise the text's exception through this frame -/
theorem hs_callX {x y : Str} {px pos fp p : Pos} {a1 : Expr} {as1 : List Expr} {f : Addr} {ds : List D} {R2 : D → Prop} {X2 : Prop} (hP : ∀ A env G, env.scope = sc → W.P A env G → ∃ l, A.frames = some (env :: l) ∧ env.frame = some env.locals ∧ FG W.hB G l)
    (hf : FnAt W y f) (hk : sc.names.lookup y = some .globalImplicit) (ha : Evs W n sc σ (a1 :: as1) ds) (hc : CallX W n (.ref f) ds R2 X2) (hn : notStar a1 = true) (hx : look x sc)
    (h1 : ∀ d, R2 d → N ((x, d) :: σ) none) (h2 : X2 → X) (hd : (y == ("__debug__" : Str)) = false := by decide) :
    Hs W n sc σ none (.Assign [.Name x px] (.Call (.Name y fp) (a1 :: as1) [] p) pos) N R X := by
  refine ⟨fun A env G H s Q E hA hs hPw F hE hN hR hX => ?_⟩
  obtain ⟨l, hfr, hfm, hG⟩ := hP A env G hs hPw
  have hok : FOk W s.heap (env :: l) := fun env' he' => by
    rcases List.mem_cons.mp he' with rfl | he'
    · obtain ⟨m, rs, fc, _, _⟩ := F.fr
      obtain ⟨ml, ⟨oL, es, ep, hoL, hdL, _⟩, _⟩ := fc.ns
      refine ⟨by rw [F.kind]; decide, env'.locals, oL, hfm, ?_, hoL, fun vs q => by rw [hdL] at q; cases q⟩
      cases q : W.hB.get? env'.locals with
      | none => rfl
      | some o => have := F.base _ _ q; rw [fc.nsG] at this; cases this
    · obtain ⟨a, L, o, b, c, d, e⟩ := hG env' he'
      exact ⟨a, L, o, b, c, F.keep _ _ d, e⟩
  refine wpAny_Assign_Name (evx_call hf hk ha hc hn hd A env (env :: l) H s E _ hA hs F.cx hfr hok (fun d v s' hd' k r => ?_) fun hx2 s₂ e h' tk k hfl => ?_) rfl
  · refine (F.keeps k).bind (d := d) (own_of hs hx) (fun p hp => by cases hp) (fun m rs f o => ?_) fun s'' r'' F' => hN _ _ _ (h1 d hd') (k.run.trans r'') F'
    have o' : rs = [] := o
    subst o'; exact r
  · have F₂ := F.keeps k
    obtain ⟨h₂, t₂, rfl, _⟩ := id k
    exact (hX (h2 hx2)).2 (env :: l) h₂ h' tk t₂ e hfr ⟨σ, none, F₂⟩ hfl
end
end Mine

namespace Mine
/-- one cell of the script -/
def cellV (ns : List Int) (k : Nat) : Int := if k < ns.length then ((ns.getD k 0).natAbs : Int) else 37 * k + 11
def topV (c : Int) : Int := ([4, 30, 1000, 10 ^ 12] : List Int).getD (c.fmod 4).toNat 0
def votesV (ns : List Int) (parties : Nat) (least : Int) : List Int := (List.range parties).map fun k => least + (cellV ns (3 + k)).fmod (topV (cellV ns 1))

theorem cellV_nonneg (ns : List Int) (k : Nat) : 0 ≤ cellV ns k := by unfold cellV; split <;> omega
theorem topV_cases (c : Int) : topV c = 4 ∨ topV c = 30 ∨ topV c = 1000 ∨ topV c = 10 ^ 12 := by
  unfold topV
  have h1 : 0 ≤ c.fmod 4 := Int.fmod_nonneg_of_pos _ (by omega)
  have h2 : c.fmod 4 < 4 := Int.fmod_lt_of_pos _ (by omega)
  have : (c.fmod 4).toNat < 4 := by omega
  generalize (c.fmod 4).toNat = k at this
  match k, this with
  | 0, _ => exact .inl rfl
  | 1, _ => exact .inr (.inl rfl)
  | 2, _ => exact .inr (.inr (.inl rfl))
  | 3, _ => exact .inr (.inr (.inr rfl))
theorem topV_at (c : Int) : ([.int 4, .int 30, .int 1000, .int (10 ^ 12)] : List D)[(c.fmod 4).toNat]? = some (.int (topV c)) := by
  unfold topV
  have h1 : 0 ≤ c.fmod 4 := Int.fmod_nonneg_of_pos _ (by omega)
  have h2 : c.fmod 4 < 4 := Int.fmod_lt_of_pos _ (by omega)
  have : (c.fmod 4).toNat < 4 := by omega
  generalize (c.fmod 4).toNat = k at this
  match k, this with
  | 0, _ => rfl
  | 1, _ => rfl
  | 2, _ => rfl
  | 3, _ => rfl

theorem fmod_idx (c : Int) (m : Nat) (hm : 0 < m) : ∃ j : Nat, c.fmod (m : Int) = (j : Int) ∧ j < m := by
  have h1 : 0 ≤ c.fmod m := Int.fmod_nonneg_of_pos _ (by omega)
  have h2 : c.fmod m < m := Int.fmod_lt_of_pos _ (by omega)
  exact ⟨(c.fmod m).toNat, by omega, by omega⟩
/-! names of methods -/
def zerosL : List Str := ["adams", "smallestdivisor", "dean", "harmonicmean", "huntington", "hill", "equalproportions"].map Str.ofString
def othersL : List Str := ["jefferson", "greatestdivisors", "webster", "majorfractions", "smallestdivisor", "harmonicmean", "hill", "equalproportions"].map Str.ofString
def isIn (m : Str) (xs : List String) : Bool := (xs.map Str.ofString).any (· == m)
def namesL (c : Int) : List Str := ["dhondt", "saintelague", "modified_saintelague", "adams", "dean", "huntington"].map Str.ofString ++ [othersL.getD (c.fmod 8).toNat ""]

/-- one step of a method: the divisor as a fraction -/
def stepV (m : Str) (k : Int) : Int × Int :=
  if isIn m ["dhondt", "jefferson", "greatestdivisors"] then (k + 1, 1)
  else if isIn m ["adams", "smallestdivisor"] then (k, 1)
  else if isIn m ["dean", "harmonicmean"] then (2 * k * (k + 1), 2 * k + 1)
  else if isIn m ["huntington", "hill", "equalproportions"] then (k * (k + 1), 1)
  else if m == "modified_saintelague" && k == 0 then (7, 5)
  else (2 * k + 1, 1)
def powerV (m : Str) (v : Int) : Int := if isIn m ["huntington", "hill", "equalproportions"] then v * v else v
abbrev pair (p : Int × Int) : D := .tup [.int p.1, .int p.2]


/-! ### the divisor methods -/
def isDh (m : Str) : Bool := isIn m ["dhondt", "jefferson", "greatestdivisors"]
def isSl (m : Str) : Bool := isIn m ["saintelague", "webster", "majorfractions"]
def isMs (m : Str) : Bool := isIn m ["modified_saintelague"]
def isHu (m : Str) : Bool := isIn m ["huntington", "hill", "equalproportions"]
def isAd (m : Str) : Bool := isIn m ["adams", "smallestdivisor"]
def isDe (m : Str) : Bool := isIn m ["dean", "harmonicmean"]
/-- the divisors as fractions -/
def divsV (m : Str) (seats : Nat) : List (Int × Int) :=
  if isDh m then (List.range seats).map fun (i : Nat) => ((i : Int) + 1, 1)
  else if isSl m then (List.range seats).map fun (i : Nat) => (2 * (i : Int) + 1, 1)
  else if isMs m then (7, 5) :: (List.range (seats - 1)).map fun (i : Nat) => (2 * (1 + (i : Int)) + 1, 1)
  else if isHu m then (List.range seats).map fun (i : Nat) => (((i : Int) + 1) * ((i : Int) + 2), 1)
  else if isAd m then (List.range seats).map fun (i : Nat) => ((i : Int) + 1, 1)
  else (List.range seats).map fun (i : Nat) => (2 * ((i : Int) + 1) * ((i : Int) + 2), 2 * ((i : Int) + 1) + 1)
def zeroM (m : Str) : Bool := isHu m || isAd m || isDe m
/-- whether the first clause that fits is a method of at least one seat each -/
def lateM (m : Str) : Bool := !isDh m && !isSl m && !isMs m && zeroM m
def rep0V (m : Str) (votes : List Int) : List Int := if lateM m then votes.map fun p => if p > 0 then 1 else 0 else List.replicate votes.length 0
def commonV (ds : List (Int × Int)) (k : Nat) : Int := (ds.take k).foldl (fun c d => c * d.1) 1
def weightV (hu : Bool) (common : Int) (p : Int) (d : Int × Int) : Int := if hu then (p * p * d.2 * common).fdiv d.1 else (p * d.2 * common).fdiv d.1
def weightsV (m : Str) (votes : List Int) (ds : List (Int × Int)) : List (List Int) := votes.map fun p => ds.map fun d => weightV (isHu m) (commonV ds ds.length) p d
def rep1V (votes : List Int) (rep0 : List Int) (ws : List (List Int)) (mw : Int) : List Int := (List.range votes.length).map fun i => rep0.getD i 0 + (((ws.getD i []).filter fun w => decide (w > mw)).length : Int)
/-- one turn of the last loop -/
def turnV (seats : Int) (ws : List (List Int)) (mw : Int) (st : List Int × Bool) (i : Nat) : List Int × Bool :=
  (if decide (st.1.sum < seats) && (ws.getD i []).any (· == mw) then st.1.set i (st.1.getD i 0 + 1) else st.1, st.2 || (st.1.sum == seats && (ws.getD i []).any (· == mw)))
def loopV (seats : Int) (ws : List (List Int)) (mw : Int) (rep1 : List Int) (k : Nat) : List Int × Bool := (List.range k).foldl (turnV seats ws mw) (rep1, false)
theorem loopV_succ (seats : Int) (ws : List (List Int)) (mw : Int) (rep1 : List Int) (k : Nat) : loopV seats ws mw rep1 (k + 1) = turnV seats ws mw (loopV seats ws mw rep1 k) k := by
  unfold loopV; rw [List.range_succ, List.foldl_append]; rfl
theorem turnV_len (seats : Int) (ws : List (List Int)) (mw : Int) (st : List Int × Bool) (i : Nat) : (turnV seats ws mw st i).1.length = st.1.length := by
  unfold turnV; split <;> simp
theorem loopV_len (seats : Int) (ws : List (List Int)) (mw : Int) (rep1 : List Int) : ∀ k, (loopV seats ws mw rep1 k).1.length = rep1.length
  | 0 => rfl
  | k + 1 => by rw [loopV_succ, turnV_len, loopV_len seats ws mw rep1 k]
theorem loopV_tied (seats : Int) (ws : List (List Int)) (mw : Int) (rep1 : List Int) (k : Nat) : ∀ j, (loopV seats ws mw rep1 k).2 = true → (loopV seats ws mw rep1 (k + j)).2 = true
  | 0, h => h
  | j + 1, h => by
    rw [← Nat.add_assoc, loopV_succ]
    unfold turnV
    rw [loopV_tied seats ws mw rep1 k j h]; rfl
end Mine

namespace Mine

/-- how many are above, how many at least -/
def above (mw : Int) (l : List Int) : Nat := l.countP fun w => decide (w > mw)
def atLeast (mw : Int) (l : List Int) : Nat := l.countP fun w => decide (w ≥ mw)
def hasB (mw : Int) (l : List Int) : Bool := l.any (· == mw)
theorem hasB_iff {mw : Int} {l : List Int} : hasB mw l = true ↔ mw ∈ l := by
  unfold hasB; simp

/-- the S-th from the top -/
theorem pick_top {L : List Int} {S : Nat} {mw : Int} (h1 : 1 ≤ S) (h2 : S ≤ L.length) (hm : (sortL L)[L.length - S]? = some mw) : above mw L ≤ S - 1 ∧ S ≤ atLeast mw L := by
  have hp := sortL_perm L
  have hs := sortL_sorted L
  have hlen : (sortL L).length = L.length := hp.length_eq
  unfold above atLeast
  rw [← hp.countP_eq, ← hp.countP_eq]
  generalize sortL L = s at hm hs hlen
  have hk : L.length - S < s.length := by omega
  have hd : s.drop (L.length - S) = mw :: s.drop (L.length - S + 1) := by
    rw [List.drop_eq_getElem_cons hk]
    rw [List.getElem?_eq_getElem hk] at hm
    cases hm; rfl
  have hsp : s = s.take (L.length - S) ++ mw :: s.drop (L.length - S + 1) := by rw [← hd, List.take_append_drop]
  have hdl : (s.drop (L.length - S + 1)).length = S - 1 := by rw [List.length_drop]; omega
  rw [hsp] at hs
  obtain ⟨ht, hr, hc⟩ := List.pairwise_append.mp hs
  have hr' := List.pairwise_cons.mp hr
  constructor
  · rw [hsp, List.countP_append, List.countP_cons]
    have e1 : (s.take (L.length - S)).countP (fun w => decide (w > mw)) = 0 := by
      rw [List.countP_eq_zero]
      intro a ha
      have := hc a ha mw List.mem_cons_self
      simp; omega
    rw [e1]
    have := List.countP_le_length (p := fun w : Int => decide (w > mw)) (l := s.drop (L.length - S + 1))
    simp at this ⊢
    omega
  · rw [hsp, List.countP_append, List.countP_cons]
    have e2 : (s.drop (L.length - S + 1)).countP (fun w => decide (w ≥ mw)) = S - 1 := by
      rw [← hdl]
      rw [List.countP_eq_length]
      intro a ha
      have := hr'.1 a ha
      simp; omega
    rw [e2]; simp; omega

theorem countP_flat (p : Int → Bool) : ∀ ws : List (List Int), (ws.flatMap id).countP p = (ws.map fun l => l.countP p).sum
  | [] => rfl
  | l :: ws => by rw [List.flatMap_cons, List.countP_append, countP_flat p ws]; rfl

/-- a list where no weight comes twice, or none comes at all -/
def Once (mw : Int) (l : List Int) : Prop := atLeast mw l = above mw l + (if hasB mw l then 1 else 0)
theorem once_zero {mw : Int} {l : List Int} (h : ∀ x ∈ l, x = 0) (hm : mw > 0) : Once mw l := by
  unfold Once atLeast above
  have e1 : l.countP (fun w => decide (w ≥ mw)) = 0 := by
    rw [List.countP_eq_zero]; intro a ha; have := h a ha; simp; omega
  have e2 : l.countP (fun w => decide (w > mw)) = 0 := by
    rw [List.countP_eq_zero]; intro a ha; have := h a ha; simp; omega
  have e3 : hasB mw l = false := by
    cases q : hasB mw l with
    | false => rfl
    | true => have := h _ (hasB_iff.mp q); omega
  rw [e1, e2, e3]; rfl
theorem once_desc {mw : Int} : ∀ {l : List Int}, l.Pairwise (· > ·) → Once mw l
  | [], _ => rfl
  | a :: l, h => by
    have h' := List.pairwise_cons.mp h
    have ih := once_desc (mw := mw) h'.2
    unfold Once atLeast above hasB at ih ⊢
    rw [List.countP_cons, List.countP_cons, List.any_cons]
    by_cases h1 : a > mw
    · have e : (a == mw) = false := by simp; omega
      simp only [h1, decide_true, if_true, e, Bool.false_or, show a ≥ mw by omega]
      omega
    · have e3 : l.countP (fun w => decide (w > mw)) = 0 := by
        rw [List.countP_eq_zero]; intro b hb; have := h'.1 b hb; simp; omega
      by_cases h2 : a = mw
      · have e4 : l.any (· == mw) = false := by
          rw [List.any_eq_false]; intro b hb; have := h'.1 b hb; simp; omega
        rw [e4] at ih
        simp [h2, e3] at ih ⊢
        omega
      · have e : (a == mw) = false := by simp; exact h2
        have e4 : l.any (· == mw) = false := by
          rw [List.any_eq_false]; intro b hb; have := h'.1 b hb; simp; omega
        rw [e4, e3] at ih
        simp only [e, e4, e3, h1, show ¬ a ≥ mw by omega] at ih ⊢
        simpa using ih
/-- where the weights stand -/
theorem desc_at {mw : Int} : ∀ {l : List Int}, l.Pairwise (· > ·) → ∀ k w, l[k]? = some w → (k < above mw l → w > mw) ∧ (above mw l ≤ k → w ≤ mw)
  | [], _, k, w, hk => by cases hk
  | a :: l, h, k, w, hk => by
    have h' := List.pairwise_cons.mp h
    unfold above
    rw [List.countP_cons]
    by_cases h1 : a > mw
    · simp only [h1, decide_true, if_true]
      cases k with
      | zero => cases hk; exact ⟨fun _ => h1, fun h => by omega⟩
      | succ k =>
        obtain ⟨i1, i2⟩ := desc_at (mw := mw) h'.2 k w (by simpa using hk)
        exact ⟨fun h => i1 (by unfold above; omega), fun h => i2 (by unfold above; omega)⟩
    · have e3 : l.countP (fun w => decide (w > mw)) = 0 := by
        rw [List.countP_eq_zero]; intro b hb; have := h'.1 b hb; simp; omega
      rw [e3]
      simp only [h1]
      refine ⟨fun h => by simp at h, fun _ => ?_⟩
      cases k with
      | zero => cases hk; omega
      | succ k =>
        have hm : w ∈ l := List.mem_of_getElem? (by simpa using hk : l[k]? = some w)
        have := h'.1 w hm; omega
theorem desc_has {mw : Int} : ∀ {l : List Int}, l.Pairwise (· > ·) → mw ∈ l → l[above mw l]? = some mw
  | [], _, hm => by cases hm
  | a :: l, h, hm => by
    have h' := List.pairwise_cons.mp h
    unfold above
    rw [List.countP_cons]
    rcases List.mem_cons.mp hm with rfl | hm
    · have e3 : l.countP (fun w => decide (w > mw)) = 0 := by
        rw [List.countP_eq_zero]; intro b hb; have := h'.1 b hb; simp; omega
      rw [e3]; simp
    · have h1 : a > mw := h'.1 mw hm
      have ih := desc_has h'.2 hm
      unfold above at ih
      simp only [h1, decide_true, if_true]
      simpa using ih

theorem sum_set : ∀ (l : List Int) (i : Nat), i < l.length → (l.set i (l.getD i 0 + 1)).sum = l.sum + 1
  | [], i, h => by cases h
  | a :: l, 0, h => by simp; omega
  | a :: l, i + 1, h => by
    have ih := sum_set l i (by simpa using h)
    simp at ih ⊢
    omega
/-- how many of the first k rows hold the least weight -/
def tiesN (ws : List (List Int)) (mw : Int) (k : Nat) : Nat := (ws.take k).countP fun l => hasB mw l
theorem tiesN_succ {ws : List (List Int)} {mw : Int} {k : Nat} (h : k < ws.length) : tiesN ws mw (k + 1) = tiesN ws mw k + (if hasB mw (ws.getD k []) then 1 else 0) := by
  unfold tiesN
  have e : ws[k]? = some (ws.getD k []) := by simp [List.getD, h]
  rw [List.take_add_one, e, List.countP_append]
  simp
theorem loop_state {seats : Int} {ws : List (List Int)} {mw : Int} {rep1 : List Int} (hl : rep1.length = ws.length) (hs : rep1.sum < seats) : ∀ k, k ≤ ws.length →
    (loopV seats ws mw rep1 k).1.sum = min seats (rep1.sum + tiesN ws mw k) ∧ (loopV seats ws mw rep1 k).2 = decide (rep1.sum + tiesN ws mw k > seats) ∧
    ∀ i, (k ≤ i → (loopV seats ws mw rep1 k).1.getD i 0 = rep1.getD i 0) ∧ ((loopV seats ws mw rep1 k).1.getD i 0 = rep1.getD i 0 ∨ ((loopV seats ws mw rep1 k).1.getD i 0 = rep1.getD i 0 + 1 ∧ hasB mw (ws.getD i []) = true))
  | 0, _ => by
    refine ⟨?_, ?_, fun i => ⟨fun _ => rfl, .inl rfl⟩⟩
    · show rep1.sum = _
      simp [tiesN]; omega
    · show false = _
      simp [tiesN]; omega
  | k + 1, hk => by
    obtain ⟨i1, i2, i3⟩ := loop_state hl hs k (by omega)
    have hlen := loopV_len seats ws mw rep1 k
    rw [loopV_succ, tiesN_succ (by omega)]
    generalize loopV seats ws mw rep1 k = st at i1 i2 i3 hlen
    obtain ⟨rs, td⟩ := st
    simp only at i1 i2 i3 hlen
    unfold turnV
    have hb : (ws.getD k []).any (· == mw) = hasB mw (ws.getD k []) := rfl
    simp only [hb]
    cases q : hasB mw (ws.getD k []) with
    | false =>
      simp only [Bool.and_false, Bool.false_eq_true, if_false, Bool.or_false, Nat.add_zero]
      exact ⟨i1, i2, fun i => ⟨fun h => (i3 i).1 (by omega), (i3 i).2⟩⟩
    | true =>
      simp only [Bool.and_true, if_true]
      by_cases hlt : rs.sum < seats
      · simp only [hlt, decide_true, if_true]
        have hlt' : rep1.sum + (tiesN ws mw k : Int) < seats := by omega
        refine ⟨?_, ?_, fun i => ?_⟩
        · rw [sum_set _ _ (by omega), i1]; omega
        · rw [i2]
          have e1 : (rs.sum == seats) = false := by simp; omega
          rw [e1, Bool.or_false]
          have h1 : ¬ rep1.sum + (tiesN ws mw k : Int) > seats := by omega
          have h2 : ¬ rep1.sum + ((tiesN ws mw k + 1 : Nat) : Int) > seats := by omega
          simp only [h1, h2]
        · by_cases hi : i = k
          · subst hi
            refine ⟨fun h => by omega, .inr ⟨?_, q⟩⟩
            have := (i3 i).1 (Nat.le_refl _)
            rw [← this]
            simp [List.getD, show i < rs.length by omega]
          · have e : (rs.set k (rs.getD k 0 + 1)).getD i 0 = rs.getD i 0 := by
              simp [List.getD, List.getElem?_set, show ¬ k = i by omega]
            rw [e]
            exact ⟨fun h => (i3 i).1 (by omega), (i3 i).2⟩
      · have e0 : decide (rs.sum < seats) = false := by simpa using hlt
        simp only [e0, Bool.false_eq_true, if_false]
        refine ⟨by rw [i1]; omega, ?_, fun i => ⟨fun h => (i3 i).1 (by omega), (i3 i).2⟩⟩
        rw [i2]
        have h2 : rep1.sum + ((tiesN ws mw k + 1 : Nat) : Int) > seats := by omega
        have e1 : (rs.sum == seats) = true := by simp; omega
        rw [e1]
        simp only [h2, Bool.or_true, decide_true]
end Mine

namespace Mine

def sumN (ns : List Nat) : Nat := ns.sum
theorem zip_sum (mw : Int) : ∀ (rep0 : List Int) (ws : List (List Int)), rep0.length = ws.length → (List.zipWith (fun r l => r + (above mw l : Int)) rep0 ws).sum = rep0.sum + (((ws.map (above mw)).sum : Nat) : Int)
  | [], [], _ => rfl
  | [], _ :: _, h => by cases h
  | _ :: _, [], h => by cases h
  | r :: rs, l :: ws, h => by
    have ih := zip_sum mw rs ws (by simpa using h)
    rw [List.zipWith_cons_cons, List.sum_cons, ih, List.sum_cons, List.map_cons, List.sum_cons]
    omega
theorem rep1_zip {votes rep0 : List Int} {ws : List (List Int)} {mw : Int} (hr : rep0.length = votes.length) (hw : ws.length = votes.length) : rep1V votes rep0 ws mw = List.zipWith (fun r l => r + (above mw l : Int)) rep0 ws := by
  unfold rep1V
  apply List.ext_getElem
  · simp [hr, hw]
  · intro i h1 h2
    have hi : i < votes.length := by simpa using h1
    rw [List.getElem_map, List.getElem_zipWith]
    simp only [List.getElem_range]
    have e1 : rep0.getD i 0 = rep0[i] := by simp [List.getD, show i < rep0.length by omega]
    have e2 : ws.getD i [] = ws[i] := by simp [List.getD, show i < ws.length by omega]
    rw [e1, e2]
    unfold above
    rw [List.countP_eq_length_filter]
theorem ties_sum (mw : Int) : ∀ ws : List (List Int), (∀ l ∈ ws, Once mw l) → (ws.map (atLeast mw)).sum = (ws.map (above mw)).sum + ws.countP fun l => hasB mw l
  | [], _ => rfl
  | l :: ws, h => by
    have ih := ties_sum mw ws fun l hl => h l (List.mem_cons_of_mem _ hl)
    have h1 := h l List.mem_cons_self
    unfold Once at h1
    rw [List.map_cons, List.sum_cons, List.map_cons, List.sum_cons, List.countP_cons, ih, h1]
    omega

/-- what the divisor method's second half answers -/
theorem div_end {votes rep0 : List Int} {ws : List (List Int)} {mw : Int} {seats S : Nat} (hr : rep0.length = votes.length) (hw : ws.length = votes.length) (hS : (seats : Int) - rep0.sum = S) (h1 : 1 ≤ S) (h2 : S ≤ (ws.flatMap id).length)
    (hm : (sortL (ws.flatMap id))[(ws.flatMap id).length - S]? = some mw) (ho : ∀ l ∈ ws, Once mw l) :
    (rep1V votes rep0 ws mw).sum < seats ∧ (rep1V votes rep0 ws mw).length = votes.length ∧
    (loopV seats ws mw (rep1V votes rep0 ws mw) votes.length).1.length = votes.length ∧ (loopV seats ws mw (rep1V votes rep0 ws mw) votes.length).1.sum = seats ∧
    ((loopV seats ws mw (rep1V votes rep0 ws mw) votes.length).2 = decide (atLeast mw (ws.flatMap id) > S)) ∧
    ∀ i, i < votes.length → ∃ t : Nat, (loopV seats ws mw (rep1V votes rep0 ws mw) votes.length).1.getD i 0 = rep0.getD i 0 + (above mw (ws.getD i []) : Int) + (t : Int) ∧ (t = 0 ∨ (t = 1 ∧ hasB mw (ws.getD i []) = true)) := by
  obtain ⟨p1, p2⟩ := pick_top h1 h2 hm
  have e1 : above mw (ws.flatMap id) = (ws.map (above mw)).sum := countP_flat _ ws
  have e2 : atLeast mw (ws.flatMap id) = (ws.map (atLeast mw)).sum := countP_flat _ ws
  have e3 := ties_sum mw ws ho
  have es : (rep1V votes rep0 ws mw).sum = rep0.sum + (((ws.map (above mw)).sum : Nat) : Int) := by rw [rep1_zip hr hw, zip_sum _ _ _ (by omega)]
  have el : (rep1V votes rep0 ws mw).length = votes.length := by unfold rep1V; simp
  have hlt : (rep1V votes rep0 ws mw).sum < seats := by rw [es]; omega
  obtain ⟨l1, l2, l3⟩ := loop_state (mw := mw) (ws := ws) (rep1 := rep1V votes rep0 ws mw) (seats := seats) (by omega) hlt ws.length (Nat.le_refl _)
  have et : tiesN ws mw ws.length = ws.countP fun l => hasB mw l := by unfold tiesN; rw [List.take_length]
  rw [hw] at l1 l2 l3
  rw [hw] at et
  refine ⟨hlt, el, by rw [loopV_len, el], ?_, ?_, fun i hi => ?_⟩
  · rw [l1, et, es]; omega
  · rw [l2, et, es]
    have : (rep0.sum + (((ws.map (above mw)).sum : Nat) : Int) + ((ws.countP fun l => hasB mw l : Nat) : Int) > (seats : Int)) ↔ atLeast mw (ws.flatMap id) > S := by omega
    simp only [this]
  · have e4 : (rep1V votes rep0 ws mw).getD i 0 = rep0.getD i 0 + (above mw (ws.getD i []) : Int) := by
      unfold rep1V
      rw [List.getD, List.getElem?_map, List.getElem?_range hi]
      show rep0.getD i 0 + _ = _
      unfold above
      rw [List.countP_eq_length_filter]
    rcases (l3 i).2 with h | ⟨h, q⟩
    · exact ⟨0, by rw [h, e4]; simp, .inl rfl⟩
    · exact ⟨1, by rw [h, e4]; simp, .inr ⟨rfl, q⟩⟩

/-! ### the weights -/
def Ladder (ds : List (Int × Int)) : Prop := ds.Pairwise fun a b => a.1 * b.2 < b.1 * a.2
def Pos2 (ds : List (Int × Int)) : Prop := ∀ d ∈ ds, 0 < d.1 ∧ 0 < d.2
theorem fold_dvd : ∀ (ds : List (Int × Int)) (c : Int), (c ∣ ds.foldl (fun c d => c * d.1) c) ∧ ∀ d ∈ ds, d.1 ∣ ds.foldl (fun c d => c * d.1) c
  | [], c => ⟨Int.dvd_refl _, fun d h => by cases h⟩
  | a :: ds, c => by
    obtain ⟨h1, h2⟩ := fold_dvd ds (c * a.1)
    refine ⟨Int.dvd_trans (Int.dvd_mul_right _ _) h1, fun d hd => ?_⟩
    rcases List.mem_cons.mp hd with rfl | hd
    · exact Int.dvd_trans (Int.dvd_mul_left _ _) h1
    · exact h2 d hd
theorem fold_pos : ∀ (ds : List (Int × Int)) (c : Int), 0 < c → Pos2 ds → 0 < ds.foldl (fun c d => c * d.1) c
  | [], c, h, _ => h
  | a :: ds, c, h, hp => fold_pos ds (c * a.1) (Int.mul_pos h (hp a List.mem_cons_self).1) fun d hd => hp d (List.mem_cons_of_mem _ hd)
theorem common_pos {ds : List (Int × Int)} (hp : Pos2 ds) : 0 < commonV ds ds.length := by
  unfold commonV; rw [List.take_length]; exact fold_pos ds 1 (by omega) hp
theorem common_dvd {ds : List (Int × Int)} {d : Int × Int} (h : d ∈ ds) : d.1 ∣ commonV ds ds.length := by
  unfold commonV; rw [List.take_length]; exact (fold_dvd ds 1).2 d h
def powB (hu : Bool) (p : Int) : Int := if hu then p * p else p
/-- a weight says its quotient exactly -/
theorem weight_mul {hu : Bool} {C p : Int} {d : Int × Int} (hd : d.1 ∣ C) : weightV hu C p d * d.1 = powB hu p * d.2 * C := by
  have key : ∀ x : Int, (x * C).fdiv d.1 * d.1 = x * C := fun x => Int.fdiv_mul_cancel (Int.dvd_trans hd (Int.dvd_mul_left _ _))
  unfold weightV powB
  cases hu <;> exact key _
theorem pow_nonneg {hu : Bool} {p : Int} (h : 0 ≤ p) : 0 ≤ powB hu p := by
  unfold powB; split
  · exact Int.mul_nonneg h h
  · exact h
theorem pow_pos' {hu : Bool} {p : Int} (h : 0 < p) : 0 < powB hu p := by
  unfold powB; split
  · exact Int.mul_pos h h
  · exact h
theorem weight_zero {hu : Bool} {C : Int} {d : Int × Int} : weightV hu C 0 d = 0 := by
  unfold weightV; simp
theorem weight_pos {hu : Bool} {C p : Int} {d : Int × Int} (hd : d.1 ∣ C) (hC : 0 < C) (hp : 0 < p) (h1 : 0 < d.1) (h2 : 0 < d.2) : 0 < weightV hu C p d := by
  have e := weight_mul (hu := hu) (p := p) hd
  have : 0 < weightV hu C p d * d.1 := by rw [e]; exact Int.mul_pos (Int.mul_pos (pow_pos' hp) h2) hC
  exact Int.pos_of_mul_pos_left this h1
theorem row_desc {hu : Bool} {p : Int} {C : Int} (hC : 0 < C) (hp : 0 < p) : ∀ {es : List (Int × Int)}, (∀ d ∈ es, d.1 ∣ C) → Pos2 es → Ladder es → (es.map fun d => weightV hu C p d).Pairwise (· > ·) := by
  intro es hd hP hL
  rw [List.pairwise_map]
  refine hL.imp_of_mem fun {a b} ha hb h => ?_
  have ea := weight_mul (hu := hu) (p := p) (hd a ha)
  have eb := weight_mul (hu := hu) (p := p) (hd b hb)
  have pa := hP a ha
  have pb := hP b hb
  have hpp : 0 < powB hu p := pow_pos' hp
  generalize weightV hu C p a = x at ea ⊢
  generalize weightV hu C p b = y at eb ⊢
  have h1 : y * (b.1 * a.1) = powB hu p * C * (a.1 * b.2) := by
    rw [← Int.mul_assoc, eb]; simp only [Int.mul_assoc, Int.mul_comm, Int.mul_left_comm]
  have h2 : x * (b.1 * a.1) = powB hu p * C * (b.1 * a.2) := by
    rw [Int.mul_comm b.1 a.1, ← Int.mul_assoc, ea]; simp only [Int.mul_assoc, Int.mul_comm, Int.mul_left_comm]
  have h3 : y * (b.1 * a.1) < x * (b.1 * a.1) := by
    rw [h1, h2]; exact Int.mul_lt_mul_of_pos_left h (Int.mul_pos hpp hC)
  exact Int.lt_of_mul_lt_mul_right h3 (Int.le_of_lt (Int.mul_pos pb.1 pa.1))

/-- no seat is better elsewhere -/
theorem fair_cross {x y C Pi Pj g1 g2 l1 l2 : Int} (hC : 0 < C) (hg : 0 < g1) (hl : 0 < l1) (ex : x * g1 = Pi * g2 * C) (ey : y * l1 = Pj * l2 * C) (h : x ≤ y) : Pi * g2 * l1 ≤ Pj * l2 * g1 := by
  have h1 : Pi * g2 * l1 * C = x * (g1 * l1) := by rw [← Int.mul_assoc, ex]; simp only [Int.mul_assoc, Int.mul_comm, Int.mul_left_comm]
  have h2 : Pj * l2 * g1 * C = y * (g1 * l1) := by rw [Int.mul_comm g1 l1, ← Int.mul_assoc, ey]; simp only [Int.mul_assoc, Int.mul_comm, Int.mul_left_comm]
  have h3 : x * (g1 * l1) ≤ y * (g1 * l1) := Int.mul_le_mul_of_nonneg_right h (Int.le_of_lt (Int.mul_pos hg hl))
  rw [← h1, ← h2] at h3
  exact Int.le_of_mul_le_mul_right h3 hC
/-- what was taken from a row -/
theorem row_taken {mw : Int} {l : List Int} {t : Nat} (hl : l.Pairwise (· > ·)) (ht : t = 0 ∨ (t = 1 ∧ hasB mw l = true)) :
    (∀ w, l[above mw l + t]? = some w → w ≤ mw) ∧ (∀ k w, k + 1 = above mw l + t → l[k]? = some w → w ≥ mw) ∧ above mw l + t ≤ l.length := by
  have hb : above mw l ≤ l.length := List.countP_le_length
  refine ⟨fun w h => (desc_at hl _ _ h).2 (by omega), fun k w hk h => ?_, ?_⟩
  · rcases ht with rfl | ⟨rfl, q⟩
    · exact Int.le_of_lt ((desc_at hl _ _ h).1 (by omega))
    · have := desc_has hl (hasB_iff.mp q)
      have e : k = above mw l := by omega
      rw [e, this] at h; cases h; exact Int.le_refl _
  · rcases ht with rfl | ⟨rfl, q⟩
    · omega
    · have := desc_has hl (hasB_iff.mp q)
      rcases Nat.lt_or_ge (above mw l) l.length with h | h
      · omega
      · rw [List.getElem?_eq_none h] at this; cases this
end Mine

namespace Mine

theorem isIn_iff {m : Str} {xs : List String} : isIn m xs = true ↔ ∃ x ∈ xs, m = Str.ofString x := by
  unfold isIn
  rw [List.any_eq_true]
  constructor
  · rintro ⟨y, hy, e⟩
    obtain ⟨x, hx, rfl⟩ := List.mem_map.mp hy
    exact ⟨x, hx, (beq_iff_eq.mp e).symm⟩
  · rintro ⟨x, hx, rfl⟩
    exact ⟨_, List.mem_map.mpr ⟨x, hx, rfl⟩, beq_self_eq_true _⟩
def knownM (m : Str) : Bool := isDh m || isSl m || isMs m || zeroM m
/-- the six kinds -/
inductive Kind (m : Str) : Prop
  | dh : isDh m = true → isSl m = false → isMs m = false → isHu m = false → isAd m = false → isDe m = false → Kind m
  | sl : isDh m = false → isSl m = true → isMs m = false → isHu m = false → isAd m = false → isDe m = false → Kind m
  | ms : isDh m = false → isSl m = false → isMs m = true → isHu m = false → isAd m = false → isDe m = false → Kind m
  | hu : isDh m = false → isSl m = false → isMs m = false → isHu m = true → isAd m = false → isDe m = false → Kind m
  | ad : isDh m = false → isSl m = false → isMs m = false → isHu m = false → isAd m = true → isDe m = false → Kind m
  | de : isDh m = false → isSl m = false → isMs m = false → isHu m = false → isAd m = false → isDe m = true → Kind m
theorem kind_of {m : Str} (h : knownM m = true) : Kind m := by
  unfold knownM zeroM at h
  simp only [Bool.or_eq_true] at h
  rcases h with ((h | h) | h) | ((h | h) | h)
  · have h' := isIn_iff.mp h
    simp only [List.mem_cons, List.not_mem_nil, or_false, exists_eq_or_imp, exists_eq_left] at h'
    rcases h' with rfl | rfl | rfl <;> exact .dh (by decide +kernel) (by decide +kernel) (by decide +kernel) (by decide +kernel) (by decide +kernel) (by decide +kernel)
  · have h' := isIn_iff.mp h
    simp only [List.mem_cons, List.not_mem_nil, or_false, exists_eq_or_imp, exists_eq_left] at h'
    rcases h' with rfl | rfl | rfl <;> exact .sl (by decide +kernel) (by decide +kernel) (by decide +kernel) (by decide +kernel) (by decide +kernel) (by decide +kernel)
  · have h' := isIn_iff.mp h
    simp only [List.mem_cons, List.not_mem_nil, or_false, exists_eq_or_imp, exists_eq_left] at h'
    subst h'; exact .ms (by decide +kernel) (by decide +kernel) (by decide +kernel) (by decide +kernel) (by decide +kernel) (by decide +kernel)
  · have h' := isIn_iff.mp h
    simp only [List.mem_cons, List.not_mem_nil, or_false, exists_eq_or_imp, exists_eq_left] at h'
    rcases h' with rfl | rfl | rfl <;> exact .hu (by decide +kernel) (by decide +kernel) (by decide +kernel) (by decide +kernel) (by decide +kernel) (by decide +kernel)
  · have h' := isIn_iff.mp h
    simp only [List.mem_cons, List.not_mem_nil, or_false, exists_eq_or_imp, exists_eq_left] at h'
    rcases h' with rfl | rfl <;> exact .ad (by decide +kernel) (by decide +kernel) (by decide +kernel) (by decide +kernel) (by decide +kernel) (by decide +kernel)
  · have h' := isIn_iff.mp h
    simp only [List.mem_cons, List.not_mem_nil, or_false, exists_eq_or_imp, exists_eq_left] at h'
    rcases h' with rfl | rfl <;> exact .de (by decide +kernel) (by decide +kernel) (by decide +kernel) (by decide +kernel) (by decide +kernel) (by decide +kernel)

/-- the k-th divisor, and what it must be -/
def GoodDivs (ds : List (Int × Int)) (seats : Nat) : Prop := Ladder ds ∧ (∀ d ∈ ds, 0 < d.1 ∧ d.1 < 1000 ∧ 0 < d.2 ∧ d.2 < 1000) ∧ ds.length = seats
theorem good_map {seats : Nat} {f : Nat → Int × Int} (hs : seats ≤ 20) (h1 : ∀ i < 20, ∀ j < 20, i < j → (f i).1 * (f j).2 < (f j).1 * (f i).2) (h2 : ∀ i < 20, 0 < (f i).1 ∧ (f i).1 < 1000 ∧ 0 < (f i).2 ∧ (f i).2 < 1000) : GoodDivs ((List.range seats).map f) seats := by
  refine ⟨?_, fun d hd => ?_, by simp⟩
  · unfold Ladder
    rw [List.pairwise_map]
    refine List.pairwise_lt_range.imp_of_mem fun {a b} ha hb h => ?_
    exact h1 a (by have := List.mem_range.mp ha; omega) b (by have := List.mem_range.mp hb; omega) h
  · obtain ⟨i, hi, rfl⟩ := List.mem_map.mp hd
    exact h2 i (by have := List.mem_range.mp hi; omega)
theorem ms_as_map (seats : Nat) (h : 1 ≤ seats) : ((7, 5) :: (List.range (seats - 1)).map fun (i : Nat) => (2 * (1 + (i : Int)) + 1, (1 : Int))) = (List.range seats).map fun (i : Nat) => if i = 0 then ((7 : Int), (5 : Int)) else (2 * (i : Int) + 1, 1) := by
  obtain ⟨s, rfl⟩ : ∃ s, seats = s + 1 := ⟨seats - 1, by omega⟩
  rw [List.range_succ_eq_map, List.map_cons, List.map_map]
  simp only [if_true, Nat.add_sub_cancel]
  congr 1
  apply List.map_congr_left
  intro i _
  simp
  omega
theorem divs_good {m : Str} {seats : Nat} (hk : knownM m = true) (hs : seats ≤ 20) (h1 : 1 ≤ seats) : GoodDivs (divsV m seats) seats := by
  unfold divsV
  cases kind_of hk with
  | dh a b c d e f => rw [a]; exact good_map hs (by decide +kernel) (by decide +kernel)
  | sl a b c d e f => rw [a, b]; exact good_map hs (by decide +kernel) (by decide +kernel)
  | ms a b c d e f => rw [a, b, c]; simp only [Bool.false_eq_true, if_false, if_true]; rw [ms_as_map seats h1]; exact good_map hs (by decide +kernel) (by decide +kernel)
  | hu a b c d e f => rw [a, b, c, d]; exact good_map hs (by decide +kernel) (by decide +kernel)
  | ad a b c d e f => rw [a, b, c, d, e]; exact good_map hs (by decide +kernel) (by decide +kernel)
  | de a b c d e f => rw [a, b, c, d, e]; exact good_map hs (by decide +kernel) (by decide +kernel)
theorem ms_eq {m : Str} : isMs m = (m == "modified_saintelague") := by
  unfold isMs isIn
  simp only [List.map_cons, List.map_nil, List.any_cons, List.any_nil, Bool.or_false]
  exact Bool.beq_comm ..
theorem divs_step {m : Str} {seats : Nat} (hk : knownM m = true) (h1 : 1 ≤ seats) {k : Nat} (hlt : k < seats) : (divsV m seats)[k]? = some (stepV m ((k : Int) + if lateM m then 1 else 0)) := by
  have hr : (List.range seats)[k]? = some k := List.getElem?_range hlt
  have hde : isIn m ["dean", "harmonicmean"] = isDe m := rfl
  have had : isIn m ["adams", "smallestdivisor"] = isAd m := rfl
  have hhu : isIn m ["huntington", "hill", "equalproportions"] = isHu m := rfl
  have hdh : isIn m ["dhondt", "jefferson", "greatestdivisors"] = isDh m := rfl
  unfold divsV stepV lateM zeroM
  rw [hde, had, hhu, hdh, ← ms_eq]
  cases kind_of hk with
  | dh a b c d e f => simp [a, b, c, d, e, f, hr]
  | sl a b c d e f => simp [a, b, c, d, e, f, hr]
  | ms a b c d e f =>
    rw [a, b, c, d, e, f]
    simp only [Bool.false_eq_true, if_false, if_true]
    rw [ms_as_map seats h1, List.getElem?_map, hr]
    simp
  | hu a b c d e f => simp [a, b, c, d, e, f, hr]; rw [show (k : Int) + 1 + 1 = k + 2 by omega]
  | ad a b c d e f => simp [a, b, c, d, e, f, hr]
  | de a b c d e f => simp [a, b, c, d, e, f, hr]; rw [show (k : Int) + 1 + 1 = k + 2 by omega]
theorem step_zero {m : Str} (hk : knownM m = true) (hl : lateM m = true) : (stepV m 0).1 = 0 ∧ 0 ≤ (stepV m 0).2 := by
  have hde : isIn m ["dean", "harmonicmean"] = isDe m := rfl
  have had : isIn m ["adams", "smallestdivisor"] = isAd m := rfl
  have hhu : isIn m ["huntington", "hill", "equalproportions"] = isHu m := rfl
  have hdh : isIn m ["dhondt", "jefferson", "greatestdivisors"] = isDh m := rfl
  unfold lateM zeroM at hl
  unfold stepV
  rw [hde, had, hhu, hdh]
  cases kind_of hk with
  | dh a b c d e f => simp [a, b, c, d, e, f] at hl
  | sl a b c d e f => simp [a, b, c, d, e, f] at hl
  | ms a b c d e f => simp [a, b, c, d, e, f] at hl
  | hu a b c d e f => simp [a, b, c, d, e, f]
  | ad a b c d e f => simp [a, b, c, d, e, f]
  | de a b c d e f => simp [a, b, c, d, e, f]
/-- a step is never less than nothing -/
theorem step_nonneg {m : Str} {k : Int} (h : 0 ≤ k) : 0 ≤ (stepV m k).1 ∧ 0 ≤ (stepV m k).2 := by
  unfold stepV
  repeat' split
  all_goals simp only
  all_goals first
    | (constructor <;> omega)
    | (constructor <;> first | omega | exact Int.mul_nonneg (by omega) (by omega))
end Mine

namespace Mine

/-- the least weight that is handed a seat -/
def minV (seats : Int) (rep0 : List Int) (ws : List (List Int)) : Int := (sortL (ws.flatMap id)).getD ((ws.flatMap id).length - (seats - rep0.sum).toNat) 0
/-- the divisor methods, where no seat is handed ahead -/
def divisorV (m : Str) (votes : List Int) (seats : Nat) : List Int × Bool :=
  let rep0 := rep0V m votes
  let ws := weightsV m votes (divsV m seats)
  if (seats : Int) > rep0.sum then loopV seats ws (minV seats rep0 ws) (rep1V votes rep0 ws (minV seats rep0 ws)) votes.length else (rep0, false)

theorem rep0_len {m : Str} {votes : List Int} : (rep0V m votes).length = votes.length := by
  unfold rep0V; split <;> simp
theorem rep0_get {m : Str} {votes : List Int} {i : Nat} (h : i < votes.length) : (rep0V m votes).getD i 0 = if lateM m then (if votes.getD i 0 > 0 then 1 else 0) else 0 := by
  unfold rep0V
  split <;> simp [List.getD, h]
theorem sum_01 : ∀ l : List Int, (∀ x ∈ l, x = 0 ∨ x = 1) → 0 ≤ l.sum ∧ l.sum ≤ l.length
  | [], _ => by simp
  | a :: l, h => by
    have ih := sum_01 l fun x hx => h x (List.mem_cons_of_mem _ hx)
    have h1 := h a List.mem_cons_self
    rw [List.sum_cons, List.length_cons]
    omega
theorem rep0_01 {m : Str} {votes : List Int} : ∀ x ∈ rep0V m votes, x = 0 ∨ x = 1 := by
  intro x hx
  unfold rep0V at hx
  split at hx
  · obtain ⟨p, _, rfl⟩ := List.mem_map.mp hx
    split
    · exact .inr rfl
    · exact .inl rfl
  · exact .inl (List.eq_of_mem_replicate hx)
theorem rep0_sum {m : Str} {votes : List Int} : 0 ≤ (rep0V m votes).sum ∧ (rep0V m votes).sum ≤ votes.length := by
  have := sum_01 _ (rep0_01 (m := m) (votes := votes))
  rw [rep0_len] at this; exact this
theorem rep0_early {m : Str} {votes : List Int} (h : lateM m = false) : (rep0V m votes).sum = 0 := by
  unfold rep0V; rw [h]
  show (List.replicate votes.length (0 : Int)).sum = 0
  induction votes.length with
  | zero => rfl
  | succ k ih => rw [List.replicate_succ, List.sum_cons, ih]; rfl

/-- what is known of the call -/
structure Case (m : Str) (votes : List Int) (seats : Nat) : Prop where
  known : knownM m = true
  nonneg : ∀ p ∈ votes, 0 ≤ p
  some_ : ∃ p ∈ votes, 0 < p
  room : lateM m = true → votes.length ≤ seats
  seats20 : seats ≤ 20

section
variable {m : Str} {votes : List Int} {seats : Nat}

theorem weights_len {ds : List (Int × Int)} : (weightsV m votes ds).length = votes.length := by unfold weightsV; simp
theorem weights_get {ds : List (Int × Int)} {i : Nat} (h : i < votes.length) : (weightsV m votes ds).getD i [] = ds.map fun d => weightV (isHu m) (commonV ds ds.length) (votes.getD i 0) d := by
  unfold weightsV
  simp [List.getD, h]

theorem pos_row (C : Case m votes seats) (hs : 1 ≤ seats) {p : Int} (hp : 0 < p) : ((divsV m seats).map fun d => weightV (isHu m) (commonV (divsV m seats) (divsV m seats).length) p d).Pairwise (· > ·) ∧ ∀ w ∈ ((divsV m seats).map fun d => weightV (isHu m) (commonV (divsV m seats) (divsV m seats).length) p d), 0 < w := by
  obtain ⟨hL, hd, hl⟩ := divs_good C.known C.seats20 hs
  have hP : Pos2 (divsV m seats) := fun d h => ⟨(hd d h).1, (hd d h).2.2.1⟩
  have hC := common_pos hP
  refine ⟨row_desc hC hp (fun d h => common_dvd h) hP hL, fun w hw => ?_⟩
  obtain ⟨d, h, rfl⟩ := List.mem_map.mp hw
  exact weight_pos (common_dvd h) hC hp (hP d h).1 (hP d h).2

theorem above_le_mem {mw : Int} {l : List Int} : ∀ {ws : List (List Int)}, l ∈ ws → above mw l ≤ above mw (ws.flatMap id)
  | [], h => by cases h
  | a :: ws, h => by
    unfold above
    rw [List.flatMap_cons, List.countP_append]
    rcases List.mem_cons.mp h with rfl | h
    · show _ ≤ l.countP _ + _
      omega
    · have := above_le_mem (mw := mw) h
      unfold above at this; omega

theorem flat_len' {ds : List (Int × Int)} : ((weightsV m votes ds).flatMap id).length = votes.length * ds.length := by
  unfold weightsV
  induction votes with
  | nil => simp
  | cons v vs ih =>
    rw [List.map_cons, List.flatMap_cons, List.length_append, ih, List.length_cons, Nat.succ_mul]
    show (ds.map _).length + _ = _
    rw [List.length_map]; omega

/-- the second half's ground -/
theorem case_ground (C : Case m votes seats) (hs : (seats : Int) > (rep0V m votes).sum) : ∃ S : Nat, (seats : Int) - (rep0V m votes).sum = S ∧ 1 ≤ S ∧ 1 ≤ seats ∧ S ≤ seats ∧ S ≤ ((weightsV m votes (divsV m seats)).flatMap id).length ∧
    (sortL ((weightsV m votes (divsV m seats)).flatMap id))[((weightsV m votes (divsV m seats)).flatMap id).length - S]? = some (minV seats (rep0V m votes) (weightsV m votes (divsV m seats))) ∧ 0 < minV seats (rep0V m votes) (weightsV m votes (divsV m seats)) ∧
    ∀ l ∈ weightsV m votes (divsV m seats), Once (minV seats (rep0V m votes) (weightsV m votes (divsV m seats))) l := by
  have h0 := rep0_sum (m := m) (votes := votes)
  have h1 : 1 ≤ seats := by omega
  obtain ⟨p, hp, hp0⟩ := C.some_
  obtain ⟨hL, hd, hl⟩ := divs_good C.known C.seats20 h1
  obtain ⟨S, hS⟩ : ∃ S : Nat, (seats : Int) - (rep0V m votes).sum = S := ⟨((seats : Int) - (rep0V m votes).sum).toNat, by omega⟩
  have hflat : ((weightsV m votes (divsV m seats)).flatMap id).length = votes.length * seats := by rw [flat_len', hl]
  have hvl : 1 ≤ votes.length := List.length_pos_of_mem hp
  have hle : seats ≤ votes.length * seats := Nat.le_mul_of_pos_left _ hvl
  have hS2 : S ≤ ((weightsV m votes (divsV m seats)).flatMap id).length := by omega
  have hsl : (sortL ((weightsV m votes (divsV m seats)).flatMap id)).length = ((weightsV m votes (divsV m seats)).flatMap id).length := (sortL_perm _).length_eq
  have hm : (sortL ((weightsV m votes (divsV m seats)).flatMap id))[((weightsV m votes (divsV m seats)).flatMap id).length - S]? = some (minV seats (rep0V m votes) (weightsV m votes (divsV m seats))) := by
    unfold minV
    rw [hS, Int.toNat_natCast, List.getD, List.getElem?_eq_getElem (by omega)]
    rfl
  have hrow := pos_row C h1 hp0
  have hmem : ((divsV m seats).map fun d => weightV (isHu m) (commonV (divsV m seats) (divsV m seats).length) p d) ∈ weightsV m votes (divsV m seats) := List.mem_map.mpr ⟨p, hp, rfl⟩
  have hmw : 0 < minV seats (rep0V m votes) (weightsV m votes (divsV m seats)) := by
    generalize minV seats (rep0V m votes) (weightsV m votes (divsV m seats)) = mw at hm ⊢
    rcases Int.lt_or_le 0 mw with h | h
    · exact h
    · have p1 := (pick_top (by omega) hS2 hm).1
      have p2 := above_le_mem (mw := mw) hmem
      have p3 : above mw ((divsV m seats).map fun d => weightV (isHu m) (commonV (divsV m seats) (divsV m seats).length) p d) = seats := by
        unfold above
        rw [List.countP_eq_length.mpr, List.length_map, hl]
        intro a ha
        have := hrow.2 a ha
        simp; omega
      omega
  refine ⟨S, hS, by omega, h1, by omega, hS2, hm, hmw, fun l hlm => ?_⟩
  unfold weightsV at hlm
  obtain ⟨q, hq, rfl⟩ := List.mem_map.mp hlm
  rcases Int.lt_or_le 0 q with h | h
  · exact once_desc (pos_row C h1 h).1
  · have hq0 : q = 0 := by have := C.nonneg q hq; omega
    refine once_zero (fun x hx => ?_) hmw
    obtain ⟨d, _, rfl⟩ := List.mem_map.mp hx
    rw [hq0]; exact weight_zero
end
end Mine

namespace Mine
theorem sum_nonneg : ∀ {l : List Int}, (∀ x ∈ l, 0 ≤ x) → 0 ≤ l.sum
  | [], _ => by simp
  | a :: l, h => by
    have ih := sum_nonneg fun x hx => h x (List.mem_cons_of_mem _ hx)
    have := h a List.mem_cons_self
    rw [List.sum_cons]; omega
theorem sum_ge_one : ∀ {l : List Int}, (∀ x ∈ l, 0 ≤ x) → ∀ j, l.getD j 0 ≤ l.sum
  | [], _, j => by simp
  | a :: l, h, 0 => by
    have ih := sum_nonneg fun x hx => h x (List.mem_cons_of_mem _ hx)
    simp; omega
  | a :: l, h, j + 1 => by
    have ih := sum_ge_one (fun x hx => h x (List.mem_cons_of_mem _ hx)) j
    have := h a List.mem_cons_self
    simp at ih ⊢; omega
theorem sum_ge_two : ∀ {l : List Int}, (∀ x ∈ l, 0 ≤ x) → ∀ i j, i ≠ j → l.getD i 0 + l.getD j 0 ≤ l.sum
  | [], _, i, j, _ => by simp
  | a :: l, h, 0, 0, hn => absurd rfl hn
  | a :: l, h, 0, j + 1, _ => by
    have ih := sum_ge_one (fun x hx => h x (List.mem_cons_of_mem _ hx)) j
    simp at ih ⊢; omega
  | a :: l, h, i + 1, 0, _ => by
    have ih := sum_ge_one (fun x hx => h x (List.mem_cons_of_mem _ hx)) i
    simp at ih ⊢; omega
  | a :: l, h, i + 1, j + 1, hn => by
    have ih := sum_ge_two (fun x hx => h x (List.mem_cons_of_mem _ hx)) i j (by omega)
    have := h a List.mem_cons_self
    simp at ih ⊢; omega
theorem getD_mem {l : List Int} {i : Nat} (h : i < l.length) : l.getD i 0 ∈ l := by
  simp [List.getD, h]
theorem power_eq {m : Str} {v : Int} : powerV m v = powB (isHu m) v := rfl

section
variable {m : Str} {votes : List Int} {seats : Nat}

/-- one party's seats -/
theorem party (C : Case m votes seats) (hs : (seats : Int) > (rep0V m votes).sum) {i : Nat} (hi : i < votes.length) : ∃ a : Nat, (divisorV m votes seats).1.getD i 0 = (if votes.getD i 0 > 0 then (if lateM m then 1 else 0) + (a : Int) else 0) ∧
    (votes.getD i 0 > 0 → (∀ d, (divsV m seats)[a]? = some d → weightV (isHu m) (commonV (divsV m seats) (divsV m seats).length) (votes.getD i 0) d ≤ minV seats (rep0V m votes) (weightsV m votes (divsV m seats))) ∧
      (∀ k d, k + 1 = a → (divsV m seats)[k]? = some d → weightV (isHu m) (commonV (divsV m seats) (divsV m seats).length) (votes.getD i 0) d ≥ minV seats (rep0V m votes) (weightsV m votes (divsV m seats))) ∧ a ≤ seats) := by
  obtain ⟨S, hS, hS1, h1, hS3, hS2, hm, hmw, ho⟩ := case_ground C hs
  obtain ⟨e1, e2, e3, e4, e5, e6⟩ := div_end (rep0_len) (weights_len) hS hS1 hS2 hm ho
  obtain ⟨t, ht, hb⟩ := e6 i hi
  have hdef : (divisorV m votes seats).1 = (loopV seats (weightsV m votes (divsV m seats)) (minV seats (rep0V m votes) (weightsV m votes (divsV m seats))) (rep1V votes (rep0V m votes) (weightsV m votes (divsV m seats)) (minV seats (rep0V m votes) (weightsV m votes (divsV m seats)))) votes.length).1 := by
    unfold divisorV; simp only [hs, if_true]
  obtain ⟨hL, hd, hl⟩ := divs_good C.known C.seats20 h1
  rw [hdef, ht, rep0_get hi]
  rw [weights_get hi] at hb ⊢
  generalize minV seats (rep0V m votes) (weightsV m votes (divsV m seats)) = mw at hmw hb ⊢
  by_cases hv : votes.getD i 0 > 0
  · have hrow := (pos_row C h1 hv).1
    obtain ⟨r1, r2, r3⟩ := row_taken hrow hb
    simp only [List.length_map] at r3
    replace r3 := Nat.le_trans r3 (Nat.le_of_eq hl)
    refine ⟨_, ?_, fun _ => ⟨fun d h => r1 _ ?_, fun k d hk h => r2 k _ hk ?_, r3⟩⟩
    · simp only [hv, if_true]
      split <;> simp <;> omega
    · rw [List.getElem?_map, h]; rfl
    · rw [List.getElem?_map, h]; rfl
  · have hv0 : votes.getD i 0 = 0 := by
      have := C.nonneg _ (getD_mem hi); omega
    have hz : ∀ x ∈ (divsV m seats).map fun d => weightV (isHu m) (commonV (divsV m seats) (divsV m seats).length) (votes.getD i 0) d, x = 0 := by
      intro x hx
      obtain ⟨d, _, rfl⟩ := List.mem_map.mp hx
      rw [hv0]; exact weight_zero
    have ha : above mw ((divsV m seats).map fun d => weightV (isHu m) (commonV (divsV m seats) (divsV m seats).length) (votes.getD i 0) d) = 0 := by
      unfold above
      rw [List.countP_eq_zero]; intro x hx; have := hz x hx; simp; omega
    have ht0 : t = 0 := by
      rcases hb with h | ⟨_, h⟩
      · exact h
      · have := hz _ (hasB_iff.mp h); omega
    refine ⟨0, ?_, fun h => absurd h hv⟩
    rw [ha, ht0]; simp only [hv, if_false]; split <;> rfl

theorem divisor_sum (C : Case m votes seats) : (divisorV m votes seats).1.length = votes.length ∧ (divisorV m votes seats).1.sum = seats := by
  by_cases hs : (seats : Int) > (rep0V m votes).sum
  · obtain ⟨S, hS, hS1, h1, hS3, hS2, hm, hmw, ho⟩ := case_ground C hs
    obtain ⟨e1, e2, e3, e4, e5, e6⟩ := div_end (rep0_len) (weights_len) hS hS1 hS2 hm ho
    have hdef : (divisorV m votes seats).1 = (loopV seats (weightsV m votes (divsV m seats)) (minV seats (rep0V m votes) (weightsV m votes (divsV m seats))) (rep1V votes (rep0V m votes) (weightsV m votes (divsV m seats)) (minV seats (rep0V m votes) (weightsV m votes (divsV m seats)))) votes.length).1 := by
      unfold divisorV; simp only [hs, if_true]
    rw [hdef]; exact ⟨e3, e4⟩
  · have hdef : (divisorV m votes seats).1 = rep0V m votes := by unfold divisorV; simp only [hs, if_false]
    rw [hdef]
    refine ⟨rep0_len, ?_⟩
    have h0 := rep0_sum (m := m) (votes := votes)
    cases hl : lateM m with
    | true => have := C.room hl; omega
    | false => have := rep0_early (votes := votes) hl; omega

theorem divisor_nonneg (C : Case m votes seats) : ∀ x ∈ (divisorV m votes seats).1, 0 ≤ x := by
  intro x hx
  have hlen := (divisor_sum C).1
  by_cases hs : (seats : Int) > (rep0V m votes).sum
  · obtain ⟨i, hi, rfl⟩ := List.getElem_of_mem hx
    obtain ⟨a, ha, _⟩ := party C hs (i := i) (by omega)
    have e : (divisorV m votes seats).1.getD i 0 = (divisorV m votes seats).1[i] := by simp [List.getD, hi]
    rw [← e, ha]
    repeat' split
    all_goals omega
  · have hdef : (divisorV m votes seats).1 = rep0V m votes := by unfold divisorV; simp only [hs, if_false]
    rw [hdef] at hx
    have := rep0_01 x hx
    omega

theorem divisor_fair (C : Case m votes seats) {i j : Nat} (hi : i < votes.length) (hj : j < votes.length) (hij : i ≠ j) (hp : (divisorV m votes seats).1.getD j 0 > 0) :
    powerV m (votes.getD i 0) * (stepV m ((divisorV m votes seats).1.getD i 0)).2 * (stepV m ((divisorV m votes seats).1.getD j 0 - 1)).1 ≤ powerV m (votes.getD j 0) * (stepV m ((divisorV m votes seats).1.getD j 0 - 1)).2 * (stepV m ((divisorV m votes seats).1.getD i 0)).1 := by
  have hnn := divisor_nonneg C
  obtain ⟨hlen, hsum⟩ := divisor_sum C
  have hti : 0 ≤ (divisorV m votes seats).1.getD i 0 := hnn _ (getD_mem (by omega))
  have h2 := sum_ge_two hnn i j hij
  rw [hsum] at h2
  have sg := step_nonneg (m := m) hti
  have sl := step_nonneg (m := m) (k := (divisorV m votes seats).1.getD j 0 - 1) (by omega)
  have pi := pow_nonneg (hu := isHu m) (C.nonneg _ (getD_mem hi))
  have pj := pow_nonneg (hu := isHu m) (C.nonneg _ (getD_mem hj))
  rw [power_eq, power_eq]
  have rhs : 0 ≤ powB (isHu m) (votes.getD j 0) * (stepV m ((divisorV m votes seats).1.getD j 0 - 1)).2 * (stepV m ((divisorV m votes seats).1.getD i 0)).1 := Int.mul_nonneg (Int.mul_nonneg pj sl.2) sg.1
  by_cases hs : (seats : Int) > (rep0V m votes).sum
  · obtain ⟨ai, hai, hai'⟩ := party C hs hi
    obtain ⟨aj, haj, haj'⟩ := party C hs hj
    by_cases hvi : votes.getD i 0 > 0
    · by_cases hvj : votes.getD j 0 > 0
      · simp only [hvi, if_true] at hai
        simp only [hvj, if_true] at haj
        have h1 : 1 ≤ seats := by omega
        obtain ⟨hL, hd, hl⟩ := divs_good C.known C.seats20 h1
        have hP : Pos2 (divsV m seats) := fun d h => ⟨(hd d h).1, (hd d h).2.2.1⟩
        have hC := common_pos hP
        have hlim : ai < seats := by
          split at hai <;> omega
        have sti := divs_step C.known h1 hlim
        have eti : ((ai : Int) + if lateM m then 1 else 0) = (divisorV m votes seats).1.getD i 0 := by rw [hai]; split <;> omega
        rw [eti] at sti
        by_cases hz : aj = 0
        · have hl' : lateM m = true := by
            cases q : lateM m with
            | true => rfl
            | false => rw [q, hz] at haj; simp only [Bool.false_eq_true, if_false] at haj; omega
          rw [hl', hz] at haj
          have e0 : (divisorV m votes seats).1.getD j 0 - 1 = 0 := by rw [haj]; rfl
          rw [e0] at rhs ⊢
          rw [(step_zero C.known hl').1, Int.mul_zero]; exact rhs
        · have hk : aj - 1 < seats := by have := (haj' hvj).2.2; omega
          have stj := divs_step C.known h1 hk
          have etj : (((aj - 1 : Nat) : Int) + if lateM m then 1 else 0) = (divisorV m votes seats).1.getD j 0 - 1 := by rw [haj]; split <;> omega
          rw [etj] at stj
          have wi := (hai' hvi).1 _ sti
          have wj := (haj' hvj).2.1 (aj - 1) _ (by omega) stj
          have mi := List.mem_of_getElem? sti
          have mj := List.mem_of_getElem? stj
          exact fair_cross hC (hP _ mi).1 (hP _ mj).1 (weight_mul (common_dvd mi)) (weight_mul (common_dvd mj)) (Int.le_trans wi wj)
      · simp only [hvj, if_false] at haj
        omega
    · have hv0 : votes.getD i 0 = 0 := by have := C.nonneg _ (getD_mem hi); omega
      rw [hv0] at pi ⊢
      have e : powB (isHu m) 0 = 0 := by unfold powB; simp
      rw [e, Int.zero_mul, Int.zero_mul]; exact rhs
  · have hdef : (divisorV m votes seats).1 = rep0V m votes := by unfold divisorV; simp only [hs, if_false]
    have hj01 : (divisorV m votes seats).1.getD j 0 = 1 := by
      have hx : (divisorV m votes seats).1.getD j 0 ∈ (divisorV m votes seats).1 := getD_mem (by omega)
      have := rep0_01 (m := m) (votes := votes) ((divisorV m votes seats).1.getD j 0) (by rw [← hdef]; exact hx)
      omega
    have hl' : lateM m = true := by
      cases q : lateM m with
      | true => rfl
      | false =>
        rw [hdef, rep0_get hj, q] at hj01
        simp at hj01
    have e0 : (divisorV m votes seats).1.getD j 0 - 1 = 0 := by rw [hj01]; rfl
    rw [e0] at rhs ⊢
    rw [(step_zero C.known hl').1, Int.mul_zero]; exact rhs
end
end Mine

namespace Mine
/-- one turn of the loop for few seats -/
def fewT (votes : List Int) (seats mc : Int) (st : List Int × Bool) (i : Nat) : List Int × Bool :=
  if decide (st.1.sum < seats) && decide (votes.getD i 0 ≥ mc) then (st.1.set i 1, st.2)
  else if (st.1.sum == seats) && decide (votes.getD i 0 ≥ mc) then (st.1, true) else st
def fewL (votes : List Int) (seats mc : Int) (k : Nat) : List Int × Bool := (List.range k).foldl (fewT votes seats mc) (List.replicate votes.length 0, false)
theorem fewL_succ (votes : List Int) (seats mc : Int) (k : Nat) : fewL votes seats mc (k + 1) = fewT votes seats mc (fewL votes seats mc k) k := by
  unfold fewL; rw [List.range_succ, List.foldl_append]; rfl
theorem fewL_len (votes : List Int) (seats mc : Int) : ∀ k, (fewL votes seats mc k).1.length = votes.length
  | 0 => by unfold fewL; simp
  | k + 1 => by
    rw [fewL_succ]
    have := fewL_len votes seats mc k
    unfold fewT
    repeat' split
    all_goals simp [this]
/-- how many of the first k have at least mc -/
def geN (votes : List Int) (mc : Int) (k : Nat) : Nat := (votes.take k).countP fun v => decide (v ≥ mc)
theorem geN_succ {votes : List Int} {mc : Int} {k : Nat} (h : k < votes.length) : geN votes mc (k + 1) = geN votes mc k + (if votes.getD k 0 ≥ mc then 1 else 0) := by
  unfold geN
  have e : votes[k]? = some (votes.getD k 0) := by simp [List.getD, h]
  rw [List.take_add_one, e, List.countP_append]
  simp
theorem sum_set1 : ∀ (l : List Int) (i : Nat), i < l.length → l.getD i 0 = 0 → (l.set i 1).sum = l.sum + 1
  | [], i, h, _ => by cases h
  | a :: l, 0, h, q => by simp at q ⊢; omega
  | a :: l, i + 1, h, q => by
    have ih := sum_set1 l i (by simpa using h) (by simpa using q)
    simp at ih ⊢
    omega
theorem sum_rep0 : ∀ k : Nat, (List.replicate k (0 : Int)).sum = 0
  | 0 => rfl
  | k + 1 => by rw [List.replicate_succ, List.sum_cons, sum_rep0 k]; rfl
theorem few_state {votes : List Int} {seats mc : Int} (h0 : 0 ≤ seats) : ∀ k, k ≤ votes.length →
    (fewL votes seats mc k).1.sum = min seats (geN votes mc k : Int) ∧ (fewL votes seats mc k).2 = decide ((geN votes mc k : Int) > seats) ∧
    ∀ i, (k ≤ i → (fewL votes seats mc k).1.getD i 0 = 0) ∧ (i < k → (geN votes mc k : Int) ≤ seats → (fewL votes seats mc k).1.getD i 0 = if votes.getD i 0 ≥ mc then 1 else 0)
  | 0, _ => by
    refine ⟨?_, ?_, fun i => ⟨fun _ => ?_, fun h => by omega⟩⟩
    · show (List.replicate votes.length (0 : Int)).sum = _
      rw [sum_rep0]; simp [geN]; omega
    · show false = _
      simp [geN]; omega
    · show (List.replicate votes.length (0 : Int)).getD i 0 = 0
      rw [List.getD, List.getElem?_replicate]; split <;> rfl
  | k + 1, hk => by
    obtain ⟨i1, i2, i3⟩ := few_state (votes := votes) (seats := seats) (mc := mc) h0 k (by omega)
    have hlen := fewL_len votes seats mc k
    rw [fewL_succ, geN_succ (by omega)]
    have hz := (i3 k).1 (Nat.le_refl _)
    generalize fewL votes seats mc k = st at i1 i2 i3 hlen hz
    obtain ⟨rs, td⟩ := st
    simp only at i1 i2 i3 hlen hz
    unfold fewT
    by_cases hv : votes.getD k 0 ≥ mc
    · simp only [hv, decide_true, Bool.and_true, if_true]
      by_cases hlt : rs.sum < seats
      · simp only [hlt, decide_true, if_true]
        refine ⟨?_, ?_, fun i => ⟨fun h => ?_, fun h hc => ?_⟩⟩
        · rw [sum_set1 _ _ (by omega) hz, i1]; omega
        · rw [i2]
          have h1 : ¬ (geN votes mc k : Int) > seats := by omega
          have h2 : ¬ ((geN votes mc k + 1 : Nat) : Int) > seats := by omega
          simp only [h1, h2]
        · have e : (rs.set k 1).getD i 0 = rs.getD i 0 := by simp [List.getD, show ¬ k = i by omega]
          rw [e]; exact (i3 i).1 (by omega)
        · by_cases hi : i = k
          · subst hi
            rw [if_pos hv]
            simp [List.getD, show i < rs.length by omega]
          · have e : (rs.set k 1).getD i 0 = rs.getD i 0 := by simp [List.getD, show ¬ k = i by omega]
            rw [e]; exact (i3 i).2 (by omega) (by omega)
      · have e0 : decide (rs.sum < seats) = false := by simpa using hlt
        have e1 : (rs.sum == seats) = true := by simp; omega
        simp only [e0, e1, Bool.false_eq_true, if_false, if_true]
        refine ⟨by rw [i1]; omega, ?_, fun i => ⟨fun h => (i3 i).1 (by omega), fun h hc => by omega⟩⟩
        have h2 : ((geN votes mc k + 1 : Nat) : Int) > seats := by omega
        simp only [h2, decide_true]
    · simp only [hv, decide_false, Bool.and_false, Bool.false_eq_true, if_false, Nat.add_zero]
      refine ⟨i1, i2, fun i => ⟨fun h => (i3 i).1 (by omega), fun h hc => ?_⟩⟩
      by_cases hi : i = k
      · subst hi
        rw [if_neg hv]; exact hz
      · exact (i3 i).2 (by omega) hc
end Mine

namespace Mine
theorem geN_all {votes : List Int} {mc : Int} : geN votes mc votes.length = atLeast mc votes := by
  unfold geN atLeast; rw [List.take_length]
/-- few seats: all are handed out; a tie where more parties are strong enough -/
theorem few_end {votes : List Int} {seats : Nat} {mc : Int} (h1 : 1 ≤ seats) (h2 : seats ≤ votes.length) (hm : (sortL votes)[votes.length - seats]? = some mc) :
    (fewL votes seats mc votes.length).1.sum = seats ∧ (fewL votes seats mc votes.length).2 = decide (atLeast mc votes > seats) ∧
    ((fewL votes seats mc votes.length).2 = false → ∀ i, i < votes.length → (fewL votes seats mc votes.length).1.getD i 0 = if votes.getD i 0 ≥ mc then 1 else 0) := by
  obtain ⟨p1, p2⟩ := pick_top h1 h2 hm
  obtain ⟨a, b, c⟩ := few_state (votes := votes) (seats := seats) (mc := mc) (by omega) votes.length (Nat.le_refl _)
  rw [geN_all] at a b c
  refine ⟨by rw [a]; omega, ?_, fun hf i hi => (c i).2 hi ?_⟩
  · rw [b]
    have : (((atLeast mc votes : Nat) : Int) > (seats : Int)) ↔ atLeast mc votes > seats := by omega
    simp only [this]
  · rw [b] at hf
    have := of_decide_eq_false hf
    omega
theorem order_tie {L : List Int} {S : Nat} {mw x : Int} (h1 : 1 ≤ S) (h2 : S < L.length) (hm : (sortL L)[L.length - S]? = some mw) (hx : (sortL L)[L.length - (S + 1)]? = some x) : (x == mw) = decide (atLeast mw L > S) := by
  obtain ⟨p1, p2⟩ := pick_top (by omega) (show S + 1 ≤ L.length by omega) hx
  by_cases q : x = mw
  · subst q
    have : atLeast x L > S := by omega
    simp [this]
  · have hs := sortL_sorted L
    have hlen : (sortL L).length = L.length := (sortL_perm L).length_eq
    have hle : x ≤ mw := by
      have e1 := List.getElem?_eq_some_iff.mp hx
      have e2 := List.getElem?_eq_some_iff.mp hm
      obtain ⟨a, ha⟩ := e1
      obtain ⟨b, hb⟩ := e2
      have := List.pairwise_iff_getElem.mp hs _ _ a b (by omega)
      omega
    have hmono : atLeast mw L ≤ above x L := by
      unfold atLeast above
      refine List.countP_mono_left fun w _ hw => ?_
      have hw' : w ≥ mw := by simpa using hw
      simp; omega
    have h3 : ¬ atLeast mw L > S := by omega
    simp [h3, q]
end Mine

namespace Mine

theorem votesV_bd (ns : List Int) (parties : Nat) (least : Int) (h0 : 0 ≤ least) : ∀ p ∈ votesV ns parties least, least ≤ p ∧ p < least + 10 ^ 12 := by
  intro p hp
  unfold votesV at hp
  obtain ⟨k, _, rfl⟩ := List.mem_map.mp hp
  have ht : 0 < topV (cellV ns 1) ∧ topV (cellV ns 1) ≤ 10 ^ 12 := by
    rcases topV_cases (cellV ns 1) with h | h | h | h <;> rw [h] <;> decide
  have h1 := Int.fmod_nonneg_of_pos (cellV ns (3 + k)) ht.1
  have h2 := Int.fmod_lt_of_pos (cellV ns (3 + k)) ht.1
  omega
theorem votesV_len (ns : List Int) (parties : Nat) (least : Int) : (votesV ns parties least).length = parties := by unfold votesV; simp

/-- every way to give the seats -/
def allV : Nat → Nat → Nat → List (List Int)
  | 0, _, _ => []
  | 1, s, l => if l ≤ s then [[(s : Int)]] else []
  | k + 2, s, l => (List.range (s + 1 - l)).flatMap fun i => (allV (k + 1) (s - (l + i)) l).map fun row => ((l + i : Nat) : Int) :: row
def rowsV (k s l i : Nat) : List (List Int) := (List.range i).flatMap fun i => (allV (k + 1) (s - (l + i)) l).map fun row => ((l + i : Nat) : Int) :: row
theorem rowsV_succ (k s l i : Nat) : rowsV k s l (i + 1) = rowsV k s l i ++ (allV (k + 1) (s - (l + i)) l).map fun row => ((l + i : Nat) : Int) :: row := by
  unfold rowsV
  rw [List.range_succ, List.flatMap_append]; simp
theorem rowsV_mono (k s l : Nat) : ∀ i j, (rowsV k s l i).length ≤ (rowsV k s l (i + j)).length
  | i, 0 => Nat.le_refl _
  | i, j + 1 => by
    have := rowsV_mono k s l i j
    rw [← Nat.add_assoc, rowsV_succ, List.length_append]; omega
theorem allV_len : ∀ p ≤ 4, ∀ s ≤ 6, ∀ l ≤ 1, (allV p s l).length ≤ 84 := by decide +kernel
theorem rowsV_len {k s l i : Nat} (hk : k + 2 ≤ 4) (hs : s ≤ 6) (hl : l ≤ 1) (hi : i ≤ s + 1 - l) : (rowsV k s l i).length ≤ 84 := by
  have h1 := rowsV_mono k s l i (s + 1 - l - i)
  have e : i + (s + 1 - l - i) = s + 1 - l := by omega
  rw [e] at h1
  have h2 := allV_len (k + 2) hk s hs l hl
  exact Nat.le_trans h1 h2

theorem allV_mem : ∀ (p s l : Nat) (r : List Int), 1 ≤ p → (r ∈ allV p s l ↔ r.length = p ∧ (∀ x ∈ r, (l : Int) ≤ x) ∧ r.sum = s)
  | 0, _, _, _, h => by omega
  | 1, s, l, r, _ => by
    unfold allV
    constructor
    · intro h
      split at h
      · rw [List.mem_singleton] at h
        subst h
        refine ⟨rfl, fun x hx => ?_, by simp⟩
        rw [List.mem_singleton.mp hx]; omega
      · cases h
    · rintro ⟨h1, h2, h3⟩
      match r, h1 with
      | [a], _ =>
        have h4 := h2 a List.mem_cons_self
        have h5 : a = (s : Int) := by simpa using h3
        rw [if_pos (by omega), h5]; exact List.mem_singleton.mpr rfl
  | k + 2, s, l, r, _ => by
    show r ∈ (List.range (s + 1 - l)).flatMap _ ↔ _
    rw [List.mem_flatMap]
    constructor
    · rintro ⟨i, hi, hr⟩
      obtain ⟨row, hrow, rfl⟩ := List.mem_map.mp hr
      have hi' := List.mem_range.mp hi
      obtain ⟨h1, h2, h3⟩ := (allV_mem (k + 1) _ l row (by omega)).mp hrow
      refine ⟨by rw [List.length_cons, h1], fun x hx => ?_, ?_⟩
      · rcases List.mem_cons.mp hx with rfl | hx
        · omega
        · exact h2 x hx
      · rw [List.sum_cons, h3]; omega
    · rintro ⟨h1, h2, h3⟩
      match r, h1 with
      | a :: row, h1 =>
        have ha := h2 a List.mem_cons_self
        have hrow : ∀ x ∈ row, (l : Int) ≤ x := fun x hx => h2 x (List.mem_cons_of_mem _ hx)
        have hnn := sum_nonneg (l := row) fun x hx => by have := hrow x hx; omega
        rw [List.sum_cons] at h3
        refine ⟨a.toNat - l, List.mem_range.mpr (by omega), List.mem_map.mpr ⟨row, ?_, ?_⟩⟩
        · refine (allV_mem (k + 1) _ l row (by omega)).mpr ⟨by simpa using h1, hrow, by omega⟩
        · have : ((l + (a.toNat - l) : Nat) : Int) = a := by omega
          rw [this]

def maxI : List Int → Int
  | [] => 0
  | [a] => a
  | a :: b :: r => max a (maxI (b :: r))
theorem maxI_is : ∀ {ns : List Int}, ns ≠ [] → IsMax ns (maxI ns)
  | [], h => absurd rfl h
  | [a], _ => ⟨List.mem_cons_self, fun x hx => by rw [List.mem_singleton.mp hx]; exact Int.le_refl _⟩
  | a :: b :: r, _ => by
    obtain ⟨h1, h2⟩ := maxI_is (ns := b :: r) (by simp)
    show IsMax (a :: b :: r) (max a (maxI (b :: r)))
    refine ⟨?_, fun x hx => ?_⟩
    · rcases Int.le_total a (maxI (b :: r)) with h | h
      · rw [Int.max_eq_right h]; exact List.mem_cons_of_mem _ h1
      · rw [Int.max_eq_left h]; exact List.mem_cons_self
    · rcases List.mem_cons.mp hx with rfl | hx
      · exact Int.le_max_left ..
      · exact Int.le_trans (h2 x hx) (Int.le_max_right ..)

/-- the votes' product -/
def wholeV (votes : List Int) (k : Nat) : Int := (votes.take k).foldl (fun c d => c * d) 1
theorem wholeV_succ {ds : List Int} {k : Nat} {d : Int} (h : ds[k]? = some d) : wholeV ds (k + 1) = wholeV ds k * d := by
  unfold wholeV
  rw [List.take_add_one, h, List.foldl_append]; rfl
def costV (m : Str) (votes told : List Int) : Int :=
  if m == "dhondt" then maxI ((List.range votes.length).map fun k => told.getD k 0 * (wholeV votes votes.length).fdiv (votes.getD k 0))
  else if m == "saintelague" then ((List.range votes.length).map fun k => told.getD k 0 * told.getD k 0 * (wholeV votes votes.length).fdiv (votes.getD k 0)).sum
  else if m == "adams" then maxI ((List.range votes.length).map fun k => votes.getD k 0 * (60 : Int).fdiv (told.getD k 0))
  else ((List.range votes.length).map fun k => votes.getD k 0 * votes.getD k 0 * (60 : Int).fdiv (told.getD k 0)).sum
/-- what the law's cost asks of the numbers -/
structure CostOk (m : Str) (votes told : List Int) : Prop where
  v : ∀ p ∈ votes, 0 < p ∧ p ≤ 10 ^ 13
  n1 : 1 ≤ votes.length
  n4 : votes.length ≤ 4
  len : told.length = votes.length
  t : ∀ x ∈ told, 0 ≤ x ∧ x ≤ 6
  pos : (m == "dhondt") = false → (m == "saintelague") = false → ∀ x ∈ told, 0 < x
end Mine

namespace Mine

theorem sum_mono : ∀ {r t : List Int}, r.length = t.length → (∀ i, r.getD i 0 ≤ t.getD i 0) → r.sum ≤ t.sum
  | [], [], _, _ => by simp
  | [], _ :: _, h, _ => by cases h
  | _ :: _, [], h, _ => by cases h
  | a :: r, b :: t, h, k => by
    have ih := sum_mono (r := r) (t := t) (by simpa using h) fun i => by have := k (i + 1); simpa using this
    have := k 0
    simp at this ⊢; omega
theorem sum_lt : ∀ {r t : List Int}, r.length = t.length → (∀ i, r.getD i 0 ≤ t.getD i 0) → ∀ j, r.getD j 0 < t.getD j 0 → r.sum < t.sum
  | [], [], _, _, j, h => by simp at h
  | [], _ :: _, h, _, _, _ => by cases h
  | _ :: _, [], h, _, _, _ => by cases h
  | a :: r, b :: t, h, k, 0, hj => by
    have ih := sum_mono (r := r) (t := t) (by simpa using h) fun i => by have := k (i + 1); simpa using this
    simp at hj ⊢; omega
  | a :: r, b :: t, h, k, j + 1, hj => by
    have ih := sum_lt (r := r) (t := t) (by simpa using h) (fun i => by have := k (i + 1); simpa using this) j (by simpa using hj)
    have := k 0
    simp at this ⊢; omega
/-- where one is less another is more -/
theorem some_more {r t : List Int} (h : r.length = t.length) (hs : r.sum = t.sum) {j : Nat} (hj : r.getD j 0 < t.getD j 0) : ∃ i, i < t.length ∧ r.getD i 0 > t.getD i 0 := by
  by_cases q : ∃ i, r.getD i 0 > t.getD i 0
  · obtain ⟨i, hi⟩ := q
    refine ⟨i, ?_, hi⟩
    rcases Nat.lt_or_ge i t.length with h1 | h1
    · exact h1
    · have e1 : t.getD i 0 = 0 := by simp [List.getD, List.getElem?_eq_none h1]
      have e2 : r.getD i 0 = 0 := by simp [List.getD, List.getElem?_eq_none (by omega : r.length ≤ i)]
      omega
  · have := sum_lt h (fun i => by
      rcases Int.lt_or_le (t.getD i 0) (r.getD i 0) with h2 | h2
      · exact absurd ⟨i, h2⟩ q
      · exact h2) j hj
    omega

def sumK (n : Nat) (f : Nat → Int) : Int := ((List.range n).map f).sum
theorem sumK_succ (n : Nat) (f : Nat → Int) : sumK (n + 1) f = sumK n f + f n := by
  unfold sumK; rw [List.range_succ, List.map_append, List.sum_append]; simp
theorem sumK_le {f g : Nat → Int} : ∀ {n : Nat}, (∀ k, k < n → f k ≤ g k) → sumK n f ≤ sumK n g
  | 0, _ => Int.le_refl _
  | n + 1, h => by
    rw [sumK_succ, sumK_succ]
    have i1 : sumK n f ≤ sumK n g := sumK_le fun k hk => h k (by omega)
    have i2 := h n (by omega)
    omega
theorem sumK_lin {f r t : Nat → Int} (c : Int) : ∀ n : Nat, sumK n (fun k => f k + c * (r k - t k)) = sumK n f + c * (sumK n r - sumK n t)
  | 0 => by simp [sumK]
  | n + 1 => by
    rw [sumK_succ, sumK_succ, sumK_succ, sumK_succ, sumK_lin c n]
    simp only [Int.mul_sub, Int.mul_add]; omega
theorem sumK_list : ∀ l : List Int, sumK l.length (fun k => l.getD k 0) = l.sum := by
  intro l
  unfold sumK
  congr 1
  apply List.ext_getElem
  · simp
  · intro i h1 h2
    simp [List.getD, h2]
theorem convex {n : Nat} {c d : Nat → Int} {r t : List Int} (mu : Int) (hr : r.length = n) (ht : t.length = n) (hs : r.sum = t.sum) (h : ∀ k, k < n → c k + mu * (r.getD k 0 - t.getD k 0) ≤ d k) : sumK n c ≤ sumK n d := by
  have h1 := sumK_le h
  rw [sumK_lin (f := c) (r := fun k => r.getD k 0) (t := fun k => t.getD k 0) mu n] at h1
  have e1 := sumK_list r
  have e2 := sumK_list t
  rw [hr] at e1
  rw [ht] at e2
  rw [e1, e2, hs, Int.sub_self, Int.mul_zero, Int.add_zero] at h1
  exact h1

/-! the products -/
theorem whole_dvd : ∀ (ds : List Int) (c : Int), (c ∣ ds.foldl (fun c d => c * d) c) ∧ ∀ d ∈ ds, d ∣ ds.foldl (fun c d => c * d) c
  | [], c => ⟨Int.dvd_refl _, fun d h => by cases h⟩
  | a :: ds, c => by
    obtain ⟨h1, h2⟩ := whole_dvd ds (c * a)
    refine ⟨Int.dvd_trans (Int.dvd_mul_right _ _) h1, fun d hd => ?_⟩
    rcases List.mem_cons.mp hd with rfl | hd
    · exact Int.dvd_trans (Int.dvd_mul_left _ _) h1
    · exact h2 d hd
theorem whole_pos : ∀ (ds : List Int) (c : Int), 0 < c → (∀ d ∈ ds, 0 < d) → 0 < ds.foldl (fun c d => c * d) c
  | [], c, h, _ => h
  | a :: ds, c, h, hp => whole_pos ds (c * a) (Int.mul_pos h (hp a List.mem_cons_self)) fun d hd => hp d (List.mem_cons_of_mem _ hd)
theorem share {votes : List Int} (hv : ∀ p ∈ votes, 0 < p) {k : Nat} (hk : k < votes.length) : (wholeV votes votes.length).fdiv (votes.getD k 0) * votes.getD k 0 = wholeV votes votes.length ∧ 0 < (wholeV votes votes.length).fdiv (votes.getD k 0) ∧ 0 < votes.getD k 0 ∧ 0 < wholeV votes votes.length := by
  have e : wholeV votes votes.length = votes.foldl (fun c d => c * d) 1 := by unfold wholeV; rw [List.take_length]
  have hm : votes.getD k 0 ∈ votes := getD_mem hk
  have hp := hv _ hm
  have hw : 0 < wholeV votes votes.length := by rw [e]; exact whole_pos votes 1 (by omega) hv
  have hd : votes.getD k 0 ∣ wholeV votes votes.length := by rw [e]; exact (whole_dvd votes 1).2 _ hm
  have h1 := Int.fdiv_mul_cancel hd
  refine ⟨h1, ?_, hp, hw⟩
  have : 0 < (wholeV votes votes.length).fdiv (votes.getD k 0) * votes.getD k 0 := by rw [h1]; exact hw
  exact Int.pos_of_mul_pos_left this hp
theorem wcross {a b vi vj Wi Wj W : Int} (hi : Wi * vi = W) (hj : Wj * vj = W) (pi : 0 < vi) (pj : 0 < vj) (pW : 0 < W) (h : vi * a ≤ vj * b) : a * Wj ≤ b * Wi := by
  have h1 : a * Wj * (vi * vj) = vi * a * W := by rw [← hj]; simp only [Int.mul_assoc, Int.mul_comm, Int.mul_left_comm]
  have h2 : b * Wi * (vi * vj) = vj * b * W := by rw [← hi]; simp only [Int.mul_assoc, Int.mul_comm, Int.mul_left_comm]
  have h3 : vi * a * W ≤ vj * b * W := Int.mul_le_mul_of_nonneg_right h (Int.le_of_lt pW)
  rw [← h1, ← h2] at h3
  exact Int.le_of_mul_le_mul_right h3 (Int.mul_pos pi pj)

/-- sixty by one to six -/
abbrev sx (x : Int) : Int := (60 : Int).fdiv x
theorem sx_mul {x : Int} (h : 1 ≤ x ∧ x ≤ 6) : sx x * x = 60 := by
  have : x = 1 ∨ x = 2 ∨ x = 3 ∨ x = 4 ∨ x = 5 ∨ x = 6 := by omega
  rcases this with rfl | rfl | rfl | rfl | rfl | rfl <;> decide
theorem sx_mono {x y : Int} (h : 1 ≤ x) (k : x ≤ y) (l : y ≤ 6) : sx y ≤ sx x := by
  have h1 : x = 1 ∨ x = 2 ∨ x = 3 ∨ x = 4 ∨ x = 5 ∨ x = 6 := by omega
  have h2 : y = 1 ∨ y = 2 ∨ y = 3 ∨ y = 4 ∨ y = 5 ∨ y = 6 := by omega
  rcases h1 with rfl | rfl | rfl | rfl | rfl | rfl <;> rcases h2 with rfl | rfl | rfl | rfl | rfl | rfl <;> first | (exfalso; omega) | decide
abbrev dx (x : Int) : Int := sx x - sx (x + 1)
theorem dx_mul {x : Int} (h : 1 ≤ x ∧ x ≤ 5) : dx x * (x * (x + 1)) = 60 := by
  have : x = 1 ∨ x = 2 ∨ x = 3 ∨ x = 4 ∨ x = 5 := by omega
  rcases this with rfl | rfl | rfl | rfl | rfl <;> decide
theorem dx_up {t r : Int} (h : 1 ≤ t) (k : t < r) (l : r ≤ 6) : sx t - sx r ≤ (r - t) * dx t := by
  have h1 : t = 1 ∨ t = 2 ∨ t = 3 ∨ t = 4 ∨ t = 5 ∨ t = 6 := by omega
  have h2 : r = 1 ∨ r = 2 ∨ r = 3 ∨ r = 4 ∨ r = 5 ∨ r = 6 := by omega
  rcases h1 with rfl | rfl | rfl | rfl | rfl | rfl <;> rcases h2 with rfl | rfl | rfl | rfl | rfl | rfl <;> first | (exfalso; omega) | decide
theorem dx_down {t r : Int} (h : 1 ≤ r) (k : r < t) (l : t ≤ 6) : (t - r) * dx (t - 1) ≤ sx r - sx t := by
  have h1 : t = 1 ∨ t = 2 ∨ t = 3 ∨ t = 4 ∨ t = 5 ∨ t = 6 := by omega
  have h2 : r = 1 ∨ r = 2 ∨ r = 3 ∨ r = 4 ∨ r = 5 ∨ r = 6 := by omega
  rcases h1 with rfl | rfl | rfl | rfl | rfl | rfl <;> rcases h2 with rfl | rfl | rfl | rfl | rfl | rfl <;> first | (exfalso; omega) | decide
theorem dx_dec {t : Int} (h : 2 ≤ t) (l : t ≤ 5) : dx t ≤ dx (t - 1) := by
  have h1 : t = 2 ∨ t = 3 ∨ t = 4 ∨ t = 5 := by omega
  rcases h1 with rfl | rfl | rfl | rfl <;> decide
theorem dx_nonneg {t : Int} (h : 1 ≤ t) (l : t ≤ 5) : 0 ≤ dx t := by
  have h1 : t = 1 ∨ t = 2 ∨ t = 3 ∨ t = 4 ∨ t = 5 := by omega
  rcases h1 with rfl | rfl | rfl | rfl | rfl <;> decide

theorem max_le {n : Nat} {f g : Nat → Int} (hn : 1 ≤ n) (h : ∀ j, j < n → ∃ i, i < n ∧ f j ≤ g i) : maxI ((List.range n).map f) ≤ maxI ((List.range n).map g) := by
  have ne : ∀ f : Nat → Int, (List.range n).map f ≠ [] := fun f q => by
    have := congrArg List.length q
    rw [List.length_map, List.length_range] at this
    have : n = 0 := this
    omega
  obtain ⟨h1, _⟩ := maxI_is (ne f)
  obtain ⟨_, h2⟩ := maxI_is (ne g)
  obtain ⟨j, hj, e⟩ := List.mem_map.mp h1
  obtain ⟨i, hi, hle⟩ := h j (List.mem_range.mp hj)
  have := h2 _ (List.mem_map.mpr ⟨i, List.mem_range.mpr hi, rfl⟩)
  omega

section
variable {votes t r : List Int} {n : Nat}
theorem best_dh (hv : ∀ p ∈ votes, 0 < p) (hn : 1 ≤ n) (hvn : votes.length = n) (htn : t.length = n) (hrn : r.length = n) (hs : r.sum = t.sum) (ht : ∀ x ∈ t, 0 ≤ x) (hr : ∀ x ∈ r, 0 ≤ x)
    (fair : ∀ i j, i < n → j < n → i ≠ j → t.getD j 0 > 0 → votes.getD i 0 * t.getD j 0 ≤ votes.getD j 0 * (t.getD i 0 + 1)) : costV "dhondt" votes t ≤ costV "dhondt" votes r := by
  have e : ∀ t, costV "dhondt" votes t = maxI ((List.range votes.length).map fun k => t.getD k 0 * (wholeV votes votes.length).fdiv (votes.getD k 0)) := fun t => rfl
  rw [e, e, hvn]
  have sh := fun k (hk : k < n) => share hv (k := k) (by omega)
  rw [hvn] at sh
  refine max_le hn fun j hj => ?_
  obtain ⟨wj, wj0, pj, pW⟩ := sh j hj
  rcases Int.lt_or_le (r.getD j 0) (t.getD j 0) with h | h
  · obtain ⟨i, hi, hm⟩ := some_more (by omega) hs h
    have hi : i < n := by omega
    obtain ⟨wi, wi0, pi, _⟩ := sh i hi
    have hij : i ≠ j := fun q => by rw [q] at hm; omega
    have htj : t.getD j 0 > 0 := by
      have := hr _ (getD_mem (l := r) (i := j) (by omega)); omega
    refine ⟨i, hi, Int.le_trans (wcross wi wj pi pj pW (fair i j hi hj hij htj)) ?_⟩
    exact Int.mul_le_mul_of_nonneg_right (by omega) (Int.le_of_lt wi0)
  · exact ⟨j, hj, Int.mul_le_mul_of_nonneg_right h (Int.le_of_lt wj0)⟩

theorem best_sl (hv : ∀ p ∈ votes, 0 < p) (hn : 1 ≤ n) (hvn : votes.length = n) (htn : t.length = n) (hrn : r.length = n) (hs : r.sum = t.sum) (ht : ∀ x ∈ t, 0 ≤ x) (hr : ∀ x ∈ r, 0 ≤ x)
    (fair : ∀ i j, i < n → j < n → i ≠ j → t.getD j 0 > 0 → votes.getD i 0 * (2 * t.getD j 0 - 1) ≤ votes.getD j 0 * (2 * t.getD i 0 + 1)) : costV "saintelague" votes t ≤ costV "saintelague" votes r := by
  have e : ∀ t, costV "saintelague" votes t = sumK votes.length fun k => t.getD k 0 * t.getD k 0 * (wholeV votes votes.length).fdiv (votes.getD k 0) := fun t => rfl
  rw [e, e, hvn]
  have sh := fun k (hk : k < n) => share hv (k := k) (by omega)
  rw [hvn] at sh
  generalize wholeV votes n = Wh at sh ⊢
  have ne : (List.range n).map (fun j => (2 * t.getD j 0 - 1) * Wh.fdiv (votes.getD j 0)) ≠ [] := fun q => by
    have := congrArg List.length q
    rw [List.length_map, List.length_range] at this
    have : n = 0 := this
    omega
  obtain ⟨h1, h2⟩ := maxI_is ne
  generalize maxI ((List.range n).map (fun j => (2 * t.getD j 0 - 1) * Wh.fdiv (votes.getD j 0))) = mu at h1 h2
  obtain ⟨j, hj, ej⟩ := List.mem_map.mp h1
  have hj := List.mem_range.mp hj
  have up : ∀ i, i < n → mu ≤ (2 * t.getD i 0 + 1) * Wh.fdiv (votes.getD i 0) := by
    intro i hi
    obtain ⟨wi, wi0, pi, pW⟩ := sh i hi
    obtain ⟨wj, wj0, pj, _⟩ := sh j hj
    have hti := ht _ (getD_mem (l := t) (i := i) (by omega))
    have htj := ht _ (getD_mem (l := t) (i := j) (by omega))
    rw [← ej]
    by_cases hij : i = j
    · subst hij
      exact Int.mul_le_mul_of_nonneg_right (by omega) (Int.le_of_lt wi0)
    · rcases Int.lt_or_le 0 (t.getD j 0) with h | h
      · exact wcross wi wj pi pj pW (fair i j hi hj hij h)
      · have h0 : t.getD j 0 = 0 := by omega
        have a1 : (2 * t.getD j 0 - 1) * Wh.fdiv (votes.getD j 0) ≤ 0 := by
          rw [h0]; show (2 * 0 - 1) * _ ≤ 0; omega
        have a2 : 0 ≤ (2 * t.getD i 0 + 1) * Wh.fdiv (votes.getD i 0) := Int.mul_nonneg (by omega) (Int.le_of_lt wi0)
        omega
  refine convex mu hrn htn hs fun k hk => ?_
  have lo := h2 _ (List.mem_map.mpr ⟨k, List.mem_range.mpr hk, rfl⟩)
  have hi := up k hk
  have hw := (sh k hk).2.1
  have htk := ht _ (getD_mem (l := t) (i := k) (by omega))
  have hrk := hr _ (getD_mem (l := r) (i := k) (by omega))
  generalize Wh.fdiv (votes.getD k 0) = w at lo hi hw ⊢
  generalize t.getD k 0 = x at lo hi htk ⊢
  generalize r.getD k 0 = y at hrk ⊢
  have key : y * y * w - x * x * w = (y - x) * ((y + x) * w) := by
    rw [← Int.sub_mul, ← Int.mul_assoc]
    congr 1
    simp only [Int.sub_mul, Int.mul_add, Int.mul_comm x y]; omega
  rcases Int.lt_trichotomy x y with h | h | h
  · have b1 : (2 * x + 1) * w ≤ (y + x) * w := Int.mul_le_mul_of_nonneg_right (by omega) (Int.le_of_lt hw)
    have b2 : (y - x) * mu ≤ (y - x) * ((y + x) * w) := Int.mul_le_mul_of_nonneg_left (Int.le_trans hi b1) (by omega)
    rw [Int.mul_comm mu]; omega
  · subst h; rw [Int.sub_self, Int.mul_zero]; omega
  · have b1 : (y + x) * w ≤ (2 * x - 1) * w := Int.mul_le_mul_of_nonneg_right (by omega) (Int.le_of_lt hw)
    have b2 : (x - y) * ((y + x) * w) ≤ (x - y) * mu := Int.mul_le_mul_of_nonneg_left (Int.le_trans b1 lo) (by omega)
    have e1 : (y - x) * ((y + x) * w) = -((x - y) * ((y + x) * w)) := by rw [← Int.neg_mul]; congr 1; omega
    have e2 : mu * (y - x) = -((x - y) * mu) := by rw [← Int.neg_mul, Int.mul_comm]; congr 1; omega
    rw [e2]; omega
end
end Mine

namespace Mine

theorem zip_sumF (f : List Int → Nat) : ∀ (rep0 : List Int) (ws : List (List Int)), rep0.length = ws.length → (List.zipWith (fun r l => r + (f l : Int)) rep0 ws).sum = rep0.sum + (((ws.map f).sum : Nat) : Int)
  | [], [], _ => rfl
  | [], _ :: _, h => by cases h
  | _ :: _, [], h => by cases h
  | r :: rs, l :: ws, h => by
    have ih := zip_sumF f rs ws (by simpa using h)
    rw [List.zipWith_cons_cons, List.sum_cons, ih, List.sum_cons, List.map_cons, List.sum_cons]
    omega
theorem zip_get (f : List Int → Nat) {rep0 : List Int} {ws : List (List Int)} (h : rep0.length = ws.length) {i : Nat} (hi : i < rep0.length) : (List.zipWith (fun r l => r + (f l : Int)) rep0 ws).getD i 0 = rep0.getD i 0 + (f (ws.getD i []) : Int) := by
  have hw : i < ws.length := by omega
  simp [List.getD, hi, hw, List.getElem?_zipWith]
/-- below the least weight stands what is not at least it -/
theorem desc_under {mw : Int} : ∀ {l : List Int}, l.Pairwise (· > ·) → ∀ w, l[atLeast mw l]? = some w → w < mw
  | [], _, w, hk => by cases hk
  | a :: l, h, w, hk => by
    have h' := List.pairwise_cons.mp h
    unfold atLeast at hk
    rw [List.countP_cons] at hk
    by_cases h1 : a ≥ mw
    · simp only [h1, decide_true, if_true] at hk
      exact desc_under h'.2 w (by simpa [atLeast] using hk)
    · have e3 : l.countP (fun w => decide (w ≥ mw)) = 0 := by
        rw [List.countP_eq_zero]; intro b hb; have := h'.1 b hb; simp; omega
      rw [e3] at hk
      simp [h1] at hk
      omega

section
variable {m : Str} {votes : List Int} {seats : Nat}
/-- without a tie all that is at least the least weight is handed a seat -/
theorem party_strict (C : Case m votes seats) (hs : (seats : Int) > (rep0V m votes).sum) (hf : (divisorV m votes seats).2 = false) {i : Nat} (hi : i < votes.length) (hv : votes.getD i 0 > 0) : ∃ a : Nat, (divisorV m votes seats).1.getD i 0 = (if lateM m then 1 else 0) + (a : Int) ∧
    (∀ d, (divsV m seats)[a]? = some d → weightV (isHu m) (commonV (divsV m seats) (divsV m seats).length) (votes.getD i 0) d < minV seats (rep0V m votes) (weightsV m votes (divsV m seats))) := by
  obtain ⟨S, hS, hS1, h1, hS3, hS2, hm, hmw, ho⟩ := case_ground C hs
  obtain ⟨e1, e2, e3, e4, e5, e6⟩ := div_end (rep0_len) (weights_len) hS hS1 hS2 hm ho
  have hdef : divisorV m votes seats = loopV seats (weightsV m votes (divsV m seats)) (minV seats (rep0V m votes) (weightsV m votes (divsV m seats))) (rep1V votes (rep0V m votes) (weightsV m votes (divsV m seats)) (minV seats (rep0V m votes) (weightsV m votes (divsV m seats)))) votes.length := by
    unfold divisorV; simp only [hs, if_true]
  rw [hdef] at hf ⊢
  have hrow := (pos_row C h1 hv).1
  have hwi := weights_get (m := m) (ds := divsV m seats) hi
  have hwl : (weightsV m votes (divsV m seats)).length = votes.length := weights_len
  have hr0 : (rep0V m votes).length = votes.length := rep0_len
  have hrep := rep0_get (m := m) hi
  simp only [hv, if_true] at hrep
  generalize minV seats (rep0V m votes) (weightsV m votes (divsV m seats)) = mw at *
  generalize weightsV m votes (divsV m seats) = ws at *
  generalize (loopV (↑seats) ws mw (rep1V votes (rep0V m votes) ws mw) votes.length) = st at *
  obtain ⟨told, fl⟩ := st
  simp only at e3 e4 e5 e6 hf ⊢
  rw [hf] at e5
  have hle : ¬ atLeast mw (ws.flatMap id) > S := by simpa using e5.symm
  have hat : atLeast mw (ws.flatMap id) = (ws.map (atLeast mw)).sum := countP_flat _ ws
  have hz := zip_sumF (atLeast mw) (rep0V m votes) ws (by omega)
  have hzg := fun i (hi : i < votes.length) => zip_get (atLeast mw) (rep0 := rep0V m votes) (ws := ws) (by omega) (i := i) (by omega)
  have hmono : ∀ k, told.getD k 0 ≤ (List.zipWith (fun r l => r + (atLeast mw l : Int)) (rep0V m votes) ws).getD k 0 := by
    intro k
    by_cases hk : k < votes.length
    · obtain ⟨t, ht, hb⟩ := e6 k hk
      have hmem : ws.getD k [] ∈ ws := by simp [List.getD, show k < ws.length by omega]
      have hon := ho _ hmem
      unfold Once at hon
      rw [ht, hzg k hk, hon]
      rcases hb with h | ⟨h, q⟩
      · rw [h]; split <;> omega
      · rw [h, q]; simp; omega
    · have e1 : told.getD k 0 = 0 := by simp [List.getD, List.getElem?_eq_none (show told.length ≤ k by omega)]
      have e2 : (List.zipWith (fun r l => r + (atLeast mw l : Int)) (rep0V m votes) ws).getD k 0 = 0 := by
        simp [List.getD, List.getElem?_zipWith, List.getElem?_eq_none (show ws.length ≤ k by omega), List.getElem?_eq_none (show (rep0V m votes).length ≤ k by omega)]
      omega
  obtain ⟨t, ht, hb⟩ := e6 i hi
  have hmem : ws.getD i [] ∈ ws := by simp [List.getD, show i < ws.length by omega]
  have hon := ho _ hmem
  unfold Once at hon
  have heq : above mw (ws.getD i []) + t = atLeast mw (ws.getD i []) := by
    by_cases q : above mw (ws.getD i []) + t = atLeast mw (ws.getD i [])
    · exact q
    · exfalso
      have hlt : told.getD i 0 < (List.zipWith (fun r l => r + (atLeast mw l : Int)) (rep0V m votes) ws).getD i 0 := by
        have h2 := hmono i
        rw [hzg i hi] at h2 ⊢
        rw [ht] at h2 ⊢
        omega
      have := sum_lt (r := told) (by simp; omega) hmono i hlt
      rw [hz] at this
      omega
  refine ⟨atLeast mw (ws.getD i []), by rw [ht, hrep]; omega, fun d hd => ?_⟩
  rw [hwi] at hd
  refine desc_under hrow _ ?_
  rw [List.getElem?_map, hd]; rfl

theorem strict_cross {x y C Pi Pj g1 g2 l1 l2 : Int} (hC : 0 < C) (hg : 0 < g1) (hl : 0 < l1) (ex : x * g1 = Pi * g2 * C) (ey : y * l1 = Pj * l2 * C) (h : x < y) : Pi * g2 * l1 < Pj * l2 * g1 := by
  have h1 : Pi * g2 * l1 * C = x * (g1 * l1) := by rw [← Int.mul_assoc, ex]; simp only [Int.mul_assoc, Int.mul_comm, Int.mul_left_comm]
  have h2 : Pj * l2 * g1 * C = y * (g1 * l1) := by rw [Int.mul_comm g1 l1, ← Int.mul_assoc, ey]; simp only [Int.mul_assoc, Int.mul_comm, Int.mul_left_comm]
  have h3 : x * (g1 * l1) < y * (g1 * l1) := Int.mul_lt_mul_of_pos_right h (Int.mul_pos hg hl)
  rw [← h1, ← h2] at h3
  exact Int.lt_of_mul_lt_mul_right h3 (Int.le_of_lt hC)

/-- without a tie no seat is as good elsewhere -/
theorem divisor_strict (C : Case m votes seats) (hpos : ∀ p ∈ votes, 0 < p) (hf : (divisorV m votes seats).2 = false) {i j : Nat} (hi : i < votes.length) (hj : j < votes.length) (hij : i ≠ j) (hp : (divisorV m votes seats).1.getD j 0 > 0) (hz : lateM m = true → 2 ≤ (divisorV m votes seats).1.getD j 0) :
    powerV m (votes.getD i 0) * (stepV m ((divisorV m votes seats).1.getD i 0)).2 * (stepV m ((divisorV m votes seats).1.getD j 0 - 1)).1 < powerV m (votes.getD j 0) * (stepV m ((divisorV m votes seats).1.getD j 0 - 1)).2 * (stepV m ((divisorV m votes seats).1.getD i 0)).1 := by
  have hnn := divisor_nonneg C
  obtain ⟨hlen, hsum⟩ := divisor_sum C
  have hti : 0 ≤ (divisorV m votes seats).1.getD i 0 := hnn _ (getD_mem (by omega))
  have h2 := sum_ge_two hnn i j hij
  rw [hsum] at h2
  have hvi := hpos _ (getD_mem hi)
  have hvj := hpos _ (getD_mem hj)
  rw [power_eq, power_eq]
  by_cases hs : (seats : Int) > (rep0V m votes).sum
  · obtain ⟨ai, hai, hai'⟩ := party_strict C hs hf hi hvi
    obtain ⟨aj, haj, haj'⟩ := party C hs hj
    have hvj' : votes.getD j 0 > 0 := hvj
    simp only [hvj', if_true] at haj
    have h1 : 1 ≤ seats := by omega
    obtain ⟨hL, hd, hl⟩ := divs_good C.known C.seats20 h1
    have hP : Pos2 (divsV m seats) := fun d h => ⟨(hd d h).1, (hd d h).2.2.1⟩
    have hC := common_pos hP
    have hlim : ai < seats := by
      split at hai <;> omega
    have sti := divs_step C.known h1 hlim
    have eti : ((ai : Int) + if lateM m then 1 else 0) = (divisorV m votes seats).1.getD i 0 := by rw [hai]; split <;> omega
    rw [eti] at sti
    have hza : aj ≠ 0 := by
      intro q
      cases ql : lateM m with
      | true => have := hz ql; rw [haj, ql, q] at this; simp at this
      | false => rw [haj, ql, q] at hp; simp at hp
    have hk : aj - 1 < seats := by have := (haj' hvj').2.2; omega
    have stj := divs_step C.known h1 hk
    have etj : (((aj - 1 : Nat) : Int) + if lateM m then 1 else 0) = (divisorV m votes seats).1.getD j 0 - 1 := by rw [haj]; split <;> omega
    rw [etj] at stj
    have wi := hai' _ sti
    have wj := (haj' hvj').2.1 (aj - 1) _ (by omega) stj
    have mi := List.mem_of_getElem? sti
    have mj := List.mem_of_getElem? stj
    exact strict_cross hC (hP _ mi).1 (hP _ mj).1 (weight_mul (common_dvd mi)) (weight_mul (common_dvd mj)) (by omega)
  · exfalso
    have hdef : (divisorV m votes seats).1 = rep0V m votes := by unfold divisorV; simp only [hs, if_false]
    have hx : (divisorV m votes seats).1.getD j 0 ∈ (divisorV m votes seats).1 := getD_mem (by omega)
    have h01 := rep0_01 (m := m) (votes := votes) ((divisorV m votes seats).1.getD j 0) (by rw [← hdef]; exact hx)
    have hl' : lateM m = true := by
      cases q : lateM m with
      | true => rfl
      | false =>
        have := rep0_early (votes := votes) q
        have h3 := sum_ge_one hnn j
        rw [hdef] at h3 hp
        omega
    have := hz hl'
    omega
end

/-- joining two parties, by gains and losses in the large -/
theorem join_bounds {v0 v1 a b J : Int} {g l : Int → Int} {vs ts us : List Int} (hl1 : ts.length = vs.length) (hl2 : us.length = vs.length) (hv : ∀ p ∈ vs, 0 < p) (p0 : 0 < v0) (p1 : 0 < v1)
    (mono : ∀ x y, 0 ≤ x → x < y → g x ≤ l y) (ht : ∀ x ∈ ts, 0 ≤ x) (hu : ∀ x ∈ us, 0 ≤ x) (hs : a + b + ts.sum = J + us.sum)
    (A0 : ∀ k, k < vs.length → v0 * l (ts.getD k 0) < vs.getD k 0 * g a) (A1 : ∀ k, k < vs.length → v1 * l (ts.getD k 0) < vs.getD k 0 * g b) (B0 : ∀ k, k < vs.length → vs.getD k 0 * l a < v0 * g (ts.getD k 0)) (B1 : ∀ k, k < vs.length → vs.getD k 0 * l b < v1 * g (ts.getD k 0))
    (JA : ∀ k, k < vs.length → vs.getD k 0 * l J < (v0 + v1) * g (us.getD k 0)) (JB : ∀ k, k < vs.length → (v0 + v1) * l (us.getD k 0) < vs.getD k 0 * g J) :
    (J > a + b → l J < g a + g b) ∧ (J < a + b → l a + l b < g J) := by
  constructor
  · intro h
    have : ∃ k, us.getD k 0 < ts.getD k 0 := by
      by_cases q : ∃ k, us.getD k 0 < ts.getD k 0
      · exact q
      · have := sum_mono (r := ts) (t := us) (by omega) fun i => by
          rcases Int.lt_or_le (us.getD i 0) (ts.getD i 0) with h2 | h2
          · exact absurd ⟨i, h2⟩ q
          · exact h2
        omega
    obtain ⟨k, hk⟩ := this
    have hkl : k < vs.length := by
      rcases Nat.lt_or_ge k vs.length with h1 | h1
      · exact h1
      · have e1 : ts.getD k 0 = 0 := by simp [List.getD, List.getElem?_eq_none (show ts.length ≤ k by omega)]
        have e2 : us.getD k 0 = 0 := by simp [List.getD, List.getElem?_eq_none (show us.length ≤ k by omega)]
        omega
    have pk := hv _ (getD_mem hkl)
    have q1 := JA k hkl
    have q2 := A0 k hkl
    have q3 := A1 k hkl
    have hu0 := hu _ (getD_mem (l := us) (i := k) (by omega))
    have m1 : (v0 + v1) * g (us.getD k 0) ≤ (v0 + v1) * l (ts.getD k 0) := Int.mul_le_mul_of_nonneg_left (mono _ _ hu0 hk) (by omega)
    rw [Int.add_mul v0 v1 (l _)] at m1
    have e : vs.getD k 0 * (g a + g b) = vs.getD k 0 * g a + vs.getD k 0 * g b := Int.mul_add ..
    have : vs.getD k 0 * l J < vs.getD k 0 * (g a + g b) := by omega
    exact Int.lt_of_mul_lt_mul_left this (Int.le_of_lt pk)
  · intro h
    have : ∃ k, ts.getD k 0 < us.getD k 0 := by
      by_cases q : ∃ k, ts.getD k 0 < us.getD k 0
      · exact q
      · have := sum_mono (r := us) (t := ts) (by omega) fun i => by
          rcases Int.lt_or_le (ts.getD i 0) (us.getD i 0) with h2 | h2
          · exact absurd ⟨i, h2⟩ q
          · exact h2
        omega
    obtain ⟨k, hk⟩ := this
    have hkl : k < vs.length := by
      rcases Nat.lt_or_ge k vs.length with h1 | h1
      · exact h1
      · have e1 : ts.getD k 0 = 0 := by simp [List.getD, List.getElem?_eq_none (show ts.length ≤ k by omega)]
        have e2 : us.getD k 0 = 0 := by simp [List.getD, List.getElem?_eq_none (show us.length ≤ k by omega)]
        omega
    have pk := hv _ (getD_mem hkl)
    have q1 := JB k hkl
    have q2 := B0 k hkl
    have q3 := B1 k hkl
    have ht0 := ht _ (getD_mem (l := ts) (i := k) (by omega))
    have m1 : (v0 + v1) * g (ts.getD k 0) ≤ (v0 + v1) * l (us.getD k 0) := Int.mul_le_mul_of_nonneg_left (mono _ _ ht0 hk) (by omega)
    rw [Int.add_mul v0 v1 (g _)] at m1
    have e : vs.getD k 0 * (l a + l b) = vs.getD k 0 * l a + vs.getD k 0 * l b := Int.mul_add ..
    have : vs.getD k 0 * (l a + l b) < vs.getD k 0 * g J := by omega
    exact Int.lt_of_mul_lt_mul_left this (Int.le_of_lt pk)
end Mine

namespace Mine
section
variable {m : Str} {votes : List Int} {seats : Nat}
/-- where a tie is, two seats are as good -/
theorem divisor_level (C : Case m votes seats) (hpos : ∀ p ∈ votes, 0 < p) (hf : (divisorV m votes seats).2 = true) : ∃ i j, i < votes.length ∧ j < votes.length ∧ i ≠ j ∧ (divisorV m votes seats).1.getD j 0 > 0 ∧
    (stepV m ((divisorV m votes seats).1.getD i 0)).1 > 0 ∧ (stepV m ((divisorV m votes seats).1.getD j 0 - 1)).1 > 0 ∧
    powerV m (votes.getD i 0) * (stepV m ((divisorV m votes seats).1.getD i 0)).2 * (stepV m ((divisorV m votes seats).1.getD j 0 - 1)).1 = powerV m (votes.getD j 0) * (stepV m ((divisorV m votes seats).1.getD j 0 - 1)).2 * (stepV m ((divisorV m votes seats).1.getD i 0)).1 := by
  by_cases hs : (seats : Int) > (rep0V m votes).sum
  · obtain ⟨S, hS, hS1, h1, hS3, hS2, hm, hmw, ho⟩ := case_ground C hs
    obtain ⟨e1, e2, e3, e4, e5, e6⟩ := div_end (rep0_len) (weights_len) hS hS1 hS2 hm ho
    have hdef : divisorV m votes seats = loopV seats (weightsV m votes (divsV m seats)) (minV seats (rep0V m votes) (weightsV m votes (divsV m seats))) (rep1V votes (rep0V m votes) (weightsV m votes (divsV m seats)) (minV seats (rep0V m votes) (weightsV m votes (divsV m seats)))) votes.length := by
      unfold divisorV; simp only [hs, if_true]
    obtain ⟨p1, _⟩ := pick_top hS1 hS2 hm
    obtain ⟨hL, hd, hl⟩ := divs_good C.known C.seats20 h1
    have hP : Pos2 (divsV m seats) := fun d h => ⟨(hd d h).1, (hd d h).2.2.1⟩
    have hC := common_pos hP
    have hwl : (weightsV m votes (divsV m seats)).length = votes.length := weights_len
    have hr0 : (rep0V m votes).length = votes.length := rep0_len
    have hrow := fun i (hi : i < votes.length) => (pos_row C h1 (hpos _ (getD_mem hi))).1
    have hwi := fun i (hi : i < votes.length) => weights_get (m := m) (ds := divsV m seats) hi
    have hrep := fun i (hi : i < votes.length) => rep0_get (m := m) hi
    rw [hdef] at hf ⊢
    generalize minV seats (rep0V m votes) (weightsV m votes (divsV m seats)) = mw at *
    generalize weightsV m votes (divsV m seats) = ws at *
    generalize (loopV (↑seats) ws mw (rep1V votes (rep0V m votes) ws mw) votes.length) = st at *
    obtain ⟨told, fl⟩ := st
    simp only at e3 e4 e5 e6 hf ⊢
    rw [hf] at e5
    have hgt : atLeast mw (ws.flatMap id) > S := by simpa using e5.symm
    have hat : atLeast mw (ws.flatMap id) = (ws.map (atLeast mw)).sum := countP_flat _ ws
    have hab : above mw (ws.flatMap id) = (ws.map (above mw)).sum := countP_flat _ ws
    have hz1 := zip_sumF (atLeast mw) (rep0V m votes) ws (by omega)
    have hz2 := zip_sumF (above mw) (rep0V m votes) ws (by omega)
    have hg1 := fun i (hi : i < votes.length) => zip_get (atLeast mw) (rep0 := rep0V m votes) (ws := ws) (by omega) (i := i) (by omega)
    have hg2 := fun i (hi : i < votes.length) => zip_get (above mw) (rep0 := rep0V m votes) (ws := ws) (by omega) (i := i) (by omega)
    have out : ∀ (q : List Int) k, q.length = votes.length → ¬ k < votes.length → q.getD k 0 = 0 := fun q k h hk => by simp [List.getD, List.getElem?_eq_none (show q.length ≤ k by omega)]
    have ex1 : ∃ i, i < votes.length ∧ told.getD i 0 < (List.zipWith (fun r l => r + (atLeast mw l : Int)) (rep0V m votes) ws).getD i 0 := by
      by_cases q : ∃ i, i < votes.length ∧ told.getD i 0 < (List.zipWith (fun r l => r + (atLeast mw l : Int)) (rep0V m votes) ws).getD i 0
      · exact q
      · have := sum_mono (r := List.zipWith (fun r l => r + (atLeast mw l : Int)) (rep0V m votes) ws) (t := told) (by simp; omega) fun k => by
          by_cases hk : k < votes.length
          · rcases Int.lt_or_le (told.getD k 0) ((List.zipWith (fun r l => r + (atLeast mw l : Int)) (rep0V m votes) ws).getD k 0) with h2 | h2
            · exact absurd ⟨k, hk, h2⟩ q
            · exact h2
          · rw [out _ k (by simp; omega) hk, out told k e3 hk]; exact Int.le_refl _
        rw [hz1] at this
        omega
    have ex2 : ∃ j, j < votes.length ∧ (List.zipWith (fun r l => r + (above mw l : Int)) (rep0V m votes) ws).getD j 0 < told.getD j 0 := by
      by_cases q : ∃ j, j < votes.length ∧ (List.zipWith (fun r l => r + (above mw l : Int)) (rep0V m votes) ws).getD j 0 < told.getD j 0
      · exact q
      · have := sum_mono (r := told) (t := List.zipWith (fun r l => r + (above mw l : Int)) (rep0V m votes) ws) (by simp; omega) fun k => by
          by_cases hk : k < votes.length
          · rcases Int.lt_or_le ((List.zipWith (fun r l => r + (above mw l : Int)) (rep0V m votes) ws).getD k 0) (told.getD k 0) with h2 | h2
            · exact absurd ⟨k, hk, h2⟩ q
            · exact h2
          · rw [out told k e3 hk, out _ k (by simp; omega) hk]; exact Int.le_refl _
        rw [hz2] at this
        omega
    obtain ⟨i, hi, hli⟩ := ex1
    obtain ⟨j, hj, hlj⟩ := ex2
    rw [hg1 i hi] at hli
    rw [hg2 j hj] at hlj
    obtain ⟨ti, hti, hbi⟩ := e6 i hi
    obtain ⟨tj, htj, hbj⟩ := e6 j hj
    have hmi : ws.getD i [] ∈ ws := by simp [List.getD, show i < ws.length by omega]
    have oni := ho _ hmi
    unfold Once at oni
    have ti0 : ti = 0 ∧ hasB mw (ws.getD i []) = true := by
      rcases hbi with h | ⟨h, q⟩
      · refine ⟨h, ?_⟩
        cases q : hasB mw (ws.getD i []) with
        | true => rfl
        | false => rw [q] at oni; simp only [Bool.false_eq_true, ↓reduceIte] at oni; omega
      · rw [q] at oni; simp only [↓reduceIte] at oni; omega
    have tj1 : tj = 1 ∧ hasB mw (ws.getD j []) = true := by
      rcases hbj with h | h
      · omega
      · exact h
    have hne : i ≠ j := by
      intro q
      subst q
      have : (ti : Int) = tj := by omega
      omega
    have di := desc_has (hwi i hi ▸ hrow i hi) (hasB_iff.mp ti0.2)
    have dj := desc_has (hwi j hj ▸ hrow j hj) (hasB_iff.mp tj1.2)
    generalize hai : above mw (ws.getD i []) = ai at *
    generalize haj : above mw (ws.getD j []) = aj at *
    rw [hwi i hi, List.getElem?_map] at di
    rw [hwi j hj, List.getElem?_map] at dj
    cases qi : (divsV m seats)[ai]? with
    | none => rw [qi] at di; cases di
    | some dI =>
      cases qj : (divsV m seats)[aj]? with
      | none => rw [qj] at dj; cases dj
      | some dJ =>
        rw [qi] at di
        rw [qj] at dj
        have wi : weightV (isHu m) (commonV (divsV m seats) (divsV m seats).length) (votes.getD i 0) dI = mw := by injection di
        have wj : weightV (isHu m) (commonV (divsV m seats) (divsV m seats).length) (votes.getD j 0) dJ = mw := by injection dj
        have li : ai < seats := by
          rcases Nat.lt_or_ge ai (divsV m seats).length with h | h
          · omega
          · rw [List.getElem?_eq_none h] at qi; cases qi
        have lj : aj < seats := by
          rcases Nat.lt_or_ge aj (divsV m seats).length with h | h
          · omega
          · rw [List.getElem?_eq_none h] at qj; cases qj
        have si := divs_step C.known h1 li
        have sj := divs_step C.known h1 lj
        have pvi : votes.getD i 0 > 0 := hpos _ (getD_mem hi)
        have pvj : votes.getD j 0 > 0 := hpos _ (getD_mem hj)
        have ri := hrep i hi
        have rj := hrep j hj
        simp only [pvi, pvj, if_true] at ri rj
        have ei : ((ai : Int) + if lateM m then 1 else 0) = told.getD i 0 := by rw [hti, ri, ti0.1]; split <;> omega
        have ej : ((aj : Int) + if lateM m then 1 else 0) = told.getD j 0 - 1 := by rw [htj, rj, tj1.1]; split <;> omega
        rw [ei, qi] at si
        rw [ej, qj] at sj
        have si' : dI = stepV m (told.getD i 0) := by injection si
        have sj' : dJ = stepV m (told.getD j 0 - 1) := by injection sj
        have mi := List.mem_of_getElem? qi
        have mj := List.mem_of_getElem? qj
        have xi := weight_mul (hu := isHu m) (p := votes.getD i 0) (common_dvd mi)
        have xj := weight_mul (hu := isHu m) (p := votes.getD j 0) (common_dvd mj)
        rw [wi] at xi
        rw [wj] at xj
        have pi := hP _ mi
        have pj := hP _ mj
        rw [si'] at xi pi
        rw [sj'] at xj pj
        refine ⟨i, j, hi, hj, hne, ?_, pi.1, pj.1, ?_⟩
        · have : (0 : Int) ≤ told.getD j 0 - 1 := by rw [← ej]; split <;> omega
          omega
        · rw [power_eq, power_eq]
          exact Int.le_antisymm (fair_cross hC pi.1 pj.1 xi xj (Int.le_refl _)) (fair_cross hC pj.1 pi.1 xj xi (Int.le_refl _) |> fun h => by
            have e1 : ∀ a b c : Int, a * b * c = a * b * c := fun _ _ _ => rfl
            exact h)
  · exfalso
    have : (divisorV m votes seats).2 = false := by unfold divisorV; simp only [hs, if_false]
    rw [this] at hf; cases hf

/-- without a tie no two seats are as good -/
theorem divisor_nolevel (C : Case m votes seats) (hpos : ∀ p ∈ votes, 0 < p) (hf : (divisorV m votes seats).2 = false) {i j : Nat} (hi : i < votes.length) (hj : j < votes.length) (hij : i ≠ j) (hp : (divisorV m votes seats).1.getD j 0 > 0) (hl : (stepV m ((divisorV m votes seats).1.getD j 0 - 1)).1 > 0) :
    powerV m (votes.getD i 0) * (stepV m ((divisorV m votes seats).1.getD i 0)).2 * (stepV m ((divisorV m votes seats).1.getD j 0 - 1)).1 ≠ powerV m (votes.getD j 0) * (stepV m ((divisorV m votes seats).1.getD j 0 - 1)).2 * (stepV m ((divisorV m votes seats).1.getD i 0)).1 := by
  have := divisor_strict C hpos hf hi hj hij hp fun hlate => by
    rcases Int.lt_or_le 1 ((divisorV m votes seats).1.getD j 0) with h | h
    · omega
    · exfalso
      have h1 : (divisorV m votes seats).1.getD j 0 - 1 = 0 := by omega
      rw [h1, (step_zero C.known hlate).1] at hl
      omega
  omega
end
end Mine

namespace Mine
abbrev pw := PySem.Challenge.pw_ab5003_03
abbrev tx (i : Nat) : Stmt := stAt pw i

section
variable {W : Wd} {n : Nat}

theorem w_cell (g : Gr W) (ns : List Int) (k : Nat) (hl : ns.length ≤ 100) (hk : k ≤ 100) :
    Hx W n (fScope (tx 5)) [("script", .list (iL ns)), ("k", .int k)] none (fBody (tx 5)) (fun _ _ => False) (fun d => d = .int (cellV ns k)) False := by
  refine hx_ifret (R := fun d => d = D.int (cellV ns k)) (c := decide (k < ns.length)) (d := .int (cellV ns k)) ?_ (fun h => ⟨?_, rfl⟩) fun h => ?_
  · have e : decide (k < ns.length) = decide ((k : Int) < ((iL ns).length : Int)) := by simp
    rw [e]
    exact evb_cmp (ev_name rfl) (ev_len g (ev_name rfl) rfl (by simp; omega)) cmp_lt
  · have h' : k < ns.length := by simpa using h
    have e : cellV ns k = ((ns.getD k 0).natAbs : Int) := by unfold cellV; rw [if_pos h']
    rw [e]
    refine ev_abs g (ev_toInt g (ev_item (ds := iL ns) (k := (k : Int)) (ev_name rfl) (ev_name rfl) (itemOf_iL ?_) (by simp; omega)) rfl) rfl
    simp [h']
  · have h' : ¬ k < ns.length := by simpa using h
    have e : cellV ns k = 37 * k + 11 := by unfold cellV; rw [if_neg h']
    refine hx_ret (d := .int (37 * k + 11)) (ev_bin (ev_bin ev_int (ev_name rfl) (bin_mul (sm_mul (sm_of (by omega) (by omega)) (sm_of (by omega) (by omega))))) ev_int bin_add) (by rw [e])

theorem topV_item (c : Int) : itemOf [.int 4, .int 30, .int 1000, .int (10 ^ 12)] (c.fmod 4) = some (.int (topV c)) := by
  have h1 : 0 ≤ c.fmod 4 := Int.fmod_nonneg_of_pos _ (by omega)
  unfold itemOf
  rw [if_pos h1]; exact topV_at _
theorem w_votes (g : Gr W) {fc : Addr} (hc : FnAt W "_law_cell" fc) (ns : List Int) (hcell : ∀ k : Nat, k ≤ 100 → CallV W n (.ref fc) [.list (iL ns), .int k] (.int (cellV ns k))) (parties : Nat) (least : Int) (hp : parties ≤ 90) :
    HxF W n (fScope (tx 6)) [("script", .list (iL ns)), ("parties", .int parties), ("least", .int least)] (fBody (tx 6)) (votesV ns parties least) := by
  have hcl : CallV W n (.ref fc) [.list (iL ns), .int 1] (.int (cellV ns 1)) := hcell 1 (by omega)
  have et : votesV ns parties least = ((List.range parties).filter fun _ => true).map fun k => least + (cellV ns (3 + k)).fmod (topV (cellV ns 1)) := by rw [filt_all]; rfl
  have ht := topV_item (cellV ns 1)
  generalize ht' : topV (cellV ns 1) = top at et ht
  rw [et]
  refine hxf_cons (hs_assign (ev_item (ev_list (evs_cons ev_int (evs_cons ev_int (evs_cons ev_int (evs_cons (ev_bin ev_int ev_int bin_pow12) evs_nil)))) (by simp)) (ev_bin (ev_fn hc rfl (evs_cons (ev_name rfl) (evs_cons ev_int evs_nil)) hcl) ev_int (bin_mod (by decide))) ht (by simp)) (.inr rfl) (.inl rfl) ⟨rfl, rfl⟩) ?_
  refine hxf_ret ?_
  refine evf_comp (ds := List.range parties) (d := .rng 0 parties) (fun i => D.int ((i : Nat) : Int)) (fun _ => true) (fun k => least + (cellV ns (3 + k)).fmod top) (CompOk.of (by rfl)) (ev_range1 g (ev_name rfl) rfl) (items_rng0 parties) (rngOk (by omega) (by omega)) (by simp; omega) (fun d hd => evt_nil) (fun d hd _ => ?_)
  have hk := hcell (3 + d) (by have := List.mem_range.mp hd; omega)
  have e : ((3 + d : Nat) : Int) = 3 + (d : Int) := by omega
  rw [e] at hk
  have h0 : top ≠ 0 := by
    rcases topV_cases (cellV ns 1) with h | h | h | h <;> (rw [ht'] at h; rw [h]; decide)
  exact ev_bin (ev_name rfl) (ev_bin (ev_fn hc rfl (evs_cons (ev_name rfl) (evs_cons (ev_bin ev_int (ev_name rfl) bin_add) evs_nil)) hk) (ev_name rfl) (bin_mod h0)) bin_add

theorem w_zeros : Hx W n (fScope (tx 7)) [] none (fBody (tx 7)) (fun _ _ => False) (fun d => d = .list (zerosL.map .str)) False :=
  hx_ret (ev_list (evs_cons ev_str (evs_cons ev_str (evs_cons ev_str (evs_cons ev_str (evs_cons ev_str (evs_cons ev_str (evs_cons ev_str evs_nil))))))) (by simp)) rfl

theorem evb_in {sc : Scope} {σ : Names} {l r : Expr} {p : Pos} {m : Str} (xs : List String) (hl : Ev W n sc σ l (.str m)) (hr : Ev W n sc σ r (.list ((xs.map Str.ofString).map .str))) (hm : behindInMarks .In r = false := by with_unfolding_all rfl) : EvB W n sc σ (.Compare l [.In] [r] p) (isIn m xs) :=
  evb_cmp hl hr cmp_inS hm

theorem w_step (m : Str) (k : Int) (hk : -1 ≤ k ∧ k ≤ 1000) : Hx W n (fScope (tx 8)) [("name", .str m), ("k", .int k)] none (fBody (tx 8)) (fun _ _ => False) (fun d => d = pair (stepV m k)) False := by
  have k2 : IntMulOk 2 k := sm_mul (sm_of (by omega) (by omega)) (sm_of (by omega) (by omega))
  have hkk : (2 * k).natAbs < 10 ^ 5 ∧ (k + 1).natAbs < 10 ^ 5 := by omega
  have kk : IntMulOk (2 * k) (k + 1) := sm_mul (sm_of (by omega) (by omega)) (sm_of (by omega) (by omega))
  have kk1 : IntMulOk k (k + 1) := sm_mul (sm_of (by omega) (by omega)) (sm_of (by omega) (by omega))
  refine hx_ifret (R := fun d => d = pair (stepV m k)) (d := pair (stepV m k)) (evb_in ["dhondt", "jefferson", "greatestdivisors"] (ev_name rfl) (ev_list (evs_cons ev_str (evs_cons ev_str (evs_cons ev_str evs_nil))) (by simp))) (fun h => ⟨?_, rfl⟩) fun h1 => ?_
  · have e : stepV m k = (k + 1, 1) := by unfold stepV; rw [if_pos h]
    rw [e]
    exact ev_tup (evs_cons (ev_bin (ev_name rfl) ev_int bin_add) (evs_cons ev_int evs_nil)) (by simp)
  refine hx_ifret (R := fun d => d = pair (stepV m k)) (d := pair (stepV m k)) (evb_in ["adams", "smallestdivisor"] (ev_name rfl) (ev_list (evs_cons ev_str (evs_cons ev_str evs_nil)) (by simp))) (fun h => ⟨?_, rfl⟩) fun h2 => ?_
  · have e : stepV m k = (k, 1) := by unfold stepV; rw [if_neg (by simp [h1]), if_pos h]
    rw [e]
    exact ev_tup (evs_cons (ev_name rfl) (evs_cons ev_int evs_nil)) (by simp)
  refine hx_ifret (R := fun d => d = pair (stepV m k)) (d := pair (stepV m k)) (evb_in ["dean", "harmonicmean"] (ev_name rfl) (ev_list (evs_cons ev_str (evs_cons ev_str evs_nil)) (by simp))) (fun h => ⟨?_, rfl⟩) fun h3 => ?_
  · have e : stepV m k = (2 * k * (k + 1), 2 * k + 1) := by unfold stepV; rw [if_neg (by simp [h1]), if_neg (by simp [h2]), if_pos h]
    rw [e]
    exact ev_tup (evs_cons (ev_bin (ev_bin ev_int (ev_name rfl) (bin_mul k2)) (ev_bin (ev_name rfl) ev_int bin_add) (bin_mul kk)) (evs_cons (ev_bin (ev_bin ev_int (ev_name rfl) (bin_mul k2)) ev_int bin_add) evs_nil)) (by simp)
  refine hx_ifret (R := fun d => d = pair (stepV m k)) (d := pair (stepV m k)) (evb_in ["huntington", "hill", "equalproportions"] (ev_name rfl) (ev_list (evs_cons ev_str (evs_cons ev_str (evs_cons ev_str evs_nil))) (by simp))) (fun h => ⟨?_, rfl⟩) fun h4 => ?_
  · have e : stepV m k = (k * (k + 1), 1) := by unfold stepV; rw [if_neg (by simp [h1]), if_neg (by simp [h2]), if_neg (by simp [h3]), if_pos h]
    rw [e]
    exact ev_tup (evs_cons (ev_bin (ev_name rfl) (ev_bin (ev_name rfl) ev_int bin_add) (bin_mul kk1)) (evs_cons ev_int evs_nil)) (by simp)
  refine hx_ifret (R := fun d => d = pair (stepV m k)) (d := pair (stepV m k)) (evb_bool (all_and (b := m == "modified_saintelague") (evb_cmp (ev_name rfl) ev_str cmp_eqS) fun _ => all_and (b := k == 0) (c := true) (evb_cmp (ev_name rfl) ev_int cmp_eq) fun _ => all_and_nil)) (fun h => ⟨?_, rfl⟩) fun h5 => ?_
  · have h' : (m == "modified_saintelague" && k == 0) = true := by rw [Bool.and_true] at h; exact h
    have e : stepV m k = (7, 5) := by unfold stepV; rw [if_neg (by simp [h1]), if_neg (by simp [h2]), if_neg (by simp [h3]), if_neg (by simp [h4]), if_pos h']
    rw [e]
    exact ev_tup (evs_cons ev_int (evs_cons ev_int evs_nil)) (by simp)
  have h' : ¬ (m == "modified_saintelague" && k == 0) = true := by rw [Bool.and_true] at h5; rw [h5]; decide
  have e : stepV m k = (2 * k + 1, 1) := by unfold stepV; rw [if_neg (by simp [h1]), if_neg (by simp [h2]), if_neg (by simp [h3]), if_neg (by simp [h4]), if_neg h']
  rw [e]
  exact hx_ret (ev_tup (evs_cons (ev_bin (ev_bin ev_int (ev_name rfl) (bin_mul k2)) ev_int bin_add) (evs_cons ev_int evs_nil)) (by simp)) rfl

theorem w_power (m : Str) (v : Int) (hv : Sm v) : Hx W n (fScope (tx 9)) [("name", .str m), ("vote", .int v)] none (fBody (tx 9)) (fun _ _ => False) (fun d => d = .int (powerV m v)) False := by
  refine hx_ifret (R := fun d => d = .int (powerV m v)) (d := .int (powerV m v)) (evb_in ["huntington", "hill", "equalproportions"] (ev_name rfl) (ev_list (evs_cons ev_str (evs_cons ev_str (evs_cons ev_str evs_nil))) (by simp))) (fun h => ⟨?_, rfl⟩) fun h => ?_
  · have e : powerV m v = v * v := by unfold powerV; rw [if_pos h]
    rw [e]
    exact ev_bin (ev_name rfl) (ev_name rfl) (bin_mul (sm_mul hv hv))
  · have e : powerV m v = v := by unfold powerV; rw [if_neg (by simp [h])]
    rw [e]
    exact hx_ret (ev_name rfl) rfl
end
end Mine

namespace Mine

theorem Ev.cast {W : Wd} {n : Nat} {sc : Scope} {σ : Names} {e : Expr} {d d' : D} (h : Ev W n sc σ e d) (q : d = d') : Ev W n sc σ e d' := q ▸ h
theorem EvF.cast {W : Wd} {n : Nat} {sc : Scope} {σ : Names} {e : Expr} {d d' : List Int} (h : EvF W n sc σ e d) (q : d = d') : EvF W n sc σ e d' := q ▸ h
theorem swaps_cell {elt : Expr} {gens : List Comprehension} {s sc : Scope} {pos px : Pos} {t : Str} {line : Nat} (hk : sc.names.lookup t = some .cell) (env : Env) (h : env.scope = sc) : swapsWith (.ListComp elt gens s pos) (some (.Name t px)) line env = pure false := by
  have e : env.kindOf t = some .cell := by unfold Env.kindOf; rw [h]; exact hk
  show (pure (env.blockKind == .function && env.kindOf t == some .local && px.line == (Expr.ListComp elt gens s pos).pos.line && !(s.names.any fun (n, k) => n == t && (k == .local || k == .cell))) : Sem Bool) = pure false
  rw [e]
  have e2 : ((some NameKind.cell == some NameKind.local) = false) := by decide
  rw [e2, Bool.and_false, Bool.false_and, Bool.false_and]

/-- what is asked of the divisors and the votes -/
structure Sizes (votes : List Int) (ds : List (Int × Int)) : Prop where
  v : ∀ p ∈ votes, 0 ≤ p ∧ p < 10 ^ 20
  vl : votes.length ≤ 60
  d : ∀ d ∈ ds, 0 < d.1 ∧ d.1 < 1000 ∧ 0 < d.2 ∧ d.2 < 1000
  dl : ds.length ≤ 20
theorem commonV_succ {ds : List (Int × Int)} {k : Nat} {d : Int × Int} (h : ds[k]? = some d) : commonV ds (k + 1) = commonV ds k * d.1 := by
  unfold commonV
  rw [List.take_add_one, h, List.foldl_append]; rfl
theorem commonV_bd {ds : List (Int × Int)} (hd : ∀ d ∈ ds, 0 < d.1 ∧ d.1 < 1000 ∧ 0 < d.2 ∧ d.2 < 1000) : ∀ k, 0 < commonV ds k ∧ commonV ds k ≤ 1000 ^ k
  | 0 => by unfold commonV; simp
  | k + 1 => by
    obtain ⟨a, b⟩ := commonV_bd hd k
    cases h : ds[k]? with
    | none =>
      have e : commonV ds (k + 1) = commonV ds k := by unfold commonV; rw [List.take_add_one, h]; simp
      rw [e]
      refine ⟨a, Int.le_trans b ?_⟩
      rw [Int.pow_succ]
      have : (0 : Int) < 1000 ^ k := by exact Int.pow_pos (by omega)
      omega
    | some d =>
      have hm := hd d (List.mem_of_getElem? h)
      rw [commonV_succ h, Int.pow_succ]
      exact ⟨Int.mul_pos a hm.1, Int.mul_le_mul b (by omega) (by omega) (Int.le_of_lt (Int.pow_pos (by omega)))⟩
theorem commonV_20 {votes : List Int} {ds : List (Int × Int)} (S : Sizes votes ds) {k : Nat} (hk : k ≤ ds.length) : 0 < commonV ds k ∧ commonV ds k ≤ 10 ^ 60 := by
  obtain ⟨a, b⟩ := commonV_bd S.d k
  refine ⟨a, Int.le_trans b ?_⟩
  have e : (10 : Int) ^ 60 = 1000 ^ 20 := by decide +kernel
  rw [e]
  have := S.dl
  have h2 : (1000 : Nat) ^ k ≤ 1000 ^ 20 := Nat.pow_le_pow_right (by omega) (by omega)
  exact_mod_cast h2
/-- products of bounded ints -/
theorem bd_mul {a b : Int} {x y : Nat} (ha : 0 ≤ a ∧ a ≤ 10 ^ x) (hb : 0 ≤ b ∧ b ≤ 10 ^ y) : 0 ≤ a * b ∧ a * b ≤ 10 ^ (x + y) := by
  refine ⟨Int.mul_nonneg ha.1 hb.1, ?_⟩
  rw [Int.pow_add]
  exact Int.mul_le_mul ha.2 hb.2 hb.1 (Int.le_of_lt (Int.pow_pos (by omega)))
theorem bd_sm {a : Int} {x : Nat} (ha : 0 ≤ a ∧ a ≤ 10 ^ x) (hx : x ≤ 160) : Sm a := by
  have h2 : (10 : Nat) ^ x ≤ 10 ^ 160 := Nat.pow_le_pow_right (by omega) hx
  have h3 : (10 : Int) ^ x ≤ 10 ^ 160 := by exact_mod_cast h2
  have h4 : (10 : Int) ^ 160 < 10 ^ 170 := by decide +kernel
  exact sm_of (by have := ha.1; have h5 : (0 : Int) < 10 ^ 170 := by decide +kernel
                  omega) (by have := ha.2; omega)

section
variable {W : Wd} {n : Nat} {R : D → Prop}
abbrev sD : Scope := fScope (tx 2)
abbrev baseN (votes : List Int) (seats : Nat) (m : Str) (ta : Bool) : Names := [("votes", .list (iL votes)), ("seats", .int seats), ("method", .str m), ("tiesallowed", .bool ta)]
abbrev loopN (votes : List Int) (seats : Nat) (m : Str) (ta : Bool) (ws : List (List Int)) (mw : Int) : Names := ("weights", .list (ws.map fun l => .list (iL l))) :: ("minweight", .int mw) :: baseN votes seats m ta
abbrev repO (rs : List Int) : Ow := some ("representatives", rs)
theorem ow_ne {x y : Str} {rs : List Int} (h : x ≠ y) : ∀ p, (some (x, rs) : Ow) = some p → p.1 ≠ y := by
  intro p hp; cases hp; exact h
/-- the raise of the text -/
def RaiseOk (W : Wd) (n : Nat) (sc : Scope) (X : Prop) : Prop := ∀ (σ : Names) (ow : Ow) (N : Names → Ow → Prop) (R : D → Prop) (p1 p2 p3 p4 : Pos) (k : Nat), Hx W n sc σ ow [.Raise (some (.Call (.Name "TiesException" p1) [.Constant (.str "Tie occurred") k p2] [] p3)) none p4] N R X

/-- statements 4 to 7, the loop at work -/
theorem w_tailL (g : Gr W) {votes : List Int} {seats : Nat} {m : Str} {ta : Bool} {rep1 : List Int} {ws : List (List Int)} {mw : Int} {X : Prop} (hv : votes.length ≤ 60) (hr : rep1.length = votes.length) (hw : ws.length = votes.length) (hs : decide ((seats : Int) > rep1.sum) = true)
    (hraise : ta = false → (loopV seats ws mw rep1 votes.length).2 = true → RaiseOk W n sD X) :
    Hx W n sD (loopN votes seats m ta ws mw) (repO rep1) ((fBody (tx 2)).drop 3) (fun _ _ => False)
      (fun d => d = .list (iL (loopV seats ws mw rep1 votes.length).1) ∧ (ta = true ∨ (loopV seats ws mw rep1 votes.length).2 = false)) X := by
  generalize hL : loopV seats ws mw rep1 = L at hraise
  have hLs : ∀ k, L (k + 1) = turnV seats ws mw (L k) k := fun k => by rw [← hL]; exact loopV_succ ..
  have hLl : ∀ k, (L k).1.length = votes.length := fun k => by rw [← hL, loopV_len, hr]
  have hLt : ∀ k, k ≤ votes.length → (L k).2 = true → (L votes.length).2 = true := fun k hk h => by
    have := loopV_tied seats ws mw rep1 k (votes.length - k) (by rw [hL]; exact h)
    rw [hL, show k + (votes.length - k) = votes.length by omega] at this; exact this
  have hL0 : L 0 = (rep1, false) := by rw [← hL]; rfl
  refine hx_assignF (d := .bool false) ev_bool (.inl rfl) trivial (ow_ne (by decide)) ?_
  refine hx_ite (c := true) (ps := ("ties", .bool (L votes.length).2) :: (loopN votes seats m ta ws mw)) (ow' := repO (L votes.length).1) (hs ▸ evb_cmp (ev_name rfl) (ev_sum g (ev_name rfl) rfl) cmp_gt) (fun _ => ?_) (fun h => by cases h) ?_
  · refine hx_cons (N' := fun a w => Agree (("ties", .bool (L votes.length).2) :: (loopN votes seats m ta ws mw)) a ∧ w = repO (L votes.length).1) ?_ fun a w h => hx_nil h
    refine hs_rng (k := votes.length) (fun i => ("ties", .bool (L i).2) :: (loopN votes seats m ta ws mw)) (fun i => repO (L i).1)
      (ev_range1 g ((ev_len g (ev_name rfl) rfl (by simp; omega)).cast (by simp)) rfl) (by omega) (.inl rfl) (by rw [hL0]; exact ⟨rfl, rfl, rfl, rfl, rfl, rfl, rfl, trivial⟩) (by rw [hL0]) (fun i => ow_ne (by decide)) (fun i => rfl) (fun i hi => ?_) (fun a h => ⟨h, rfl⟩)
    have hwi : ∃ l, ws[i]? = some l := ⟨ws[i]'(by omega), List.getElem?_eq_getElem (by omega)⟩
    obtain ⟨l, hl⟩ := hwi
    have hwd : ws.getD i [] = l := by rw [List.getD, hl]; rfl
    have hstep := hLs i
    have hli := hLl i
    have hti := hLt (i + 1) (by omega)
    generalize L i = st at hstep hli
    generalize L (i + 1) = st' at hstep hti
    obtain ⟨rs, td⟩ := st
    unfold turnV at hstep
    simp only [hwd] at hstep
    have hin : ∀ (σ : Names), σ.lookup ("minweight" : Str) = some (.int mw) → σ.lookup ("weights" : Str) = some (.list (ws.map fun l => .list (iL l))) → σ.lookup ("i" : Str) = some (.int (i : Nat)) → ∀ (p1 p2 p3 p4 p5 : Pos), EvB W n sD σ (.Compare (.Name "minweight" p1) [.In] [.Subscript (.Name "weights" p2) (.Name "i" p3) p4] p5) (l.any (· == mw)) := by
      intro σ h1 h2 h3 p1 p2 p3 p4 p5
      exact evb_cmp (ev_name h1) (ev_item (ev_name h2) (ev_name h3) (itemOf_nat (by rw [List.getElem?_map, hl]; rfl)) (by simp; omega)) cmp_inI
    refine hx_ite (c := (rs.sum == seats) && (l.any (· == mw) && true)) (ps := ("ties", .bool st'.2) :: ("i", .int (i : Nat)) :: (loopN votes seats m ta ws mw)) (ow' := repO rs)
      (evb_bool (all_and (evb_cmp (ev_sum g (ev_name rfl) rfl) (ev_name rfl) cmp_eq) fun _ => all_and (hin _ rfl rfl rfl _ _ _ _ _) fun _ => all_and_nil)) (fun h => ?_) (fun h => ?_) ?_
    · have h' : (rs.sum == (seats : Int) && l.any (· == mw)) = true := by rw [Bool.and_true] at h; exact h
      have e2 : st'.2 = true := by rw [hstep]; simp only [h', Bool.or_true]
      rw [e2]
      refine hx_cons (N' := fun a w => Agree (("ties", .bool true) :: ("i", .int (i : Nat)) :: (loopN votes seats m ta ws mw)) a ∧ w = repO rs) (hs_if (evb_not (evb_of (ev_name rfl))) (fun h => ?_) fun h => ?_) fun a w h => hx_nil h
      · refine hx_ite (ps := ("ties", .bool td) :: ("i", .int (i : Nat)) :: (loopN votes seats m ta ws mw)) (ow' := repO rs) (evb_not (evb_of (ev_name rfl))) (fun h => ?_) (fun h => ?_) ?_
        · have ht : ta = false := by simpa using h
          exact hraise ht (hti e2) _ _ _ _ _ _ _ _ _
        · exact hx_skip ⟨rfl, rfl, rfl, rfl, rfl, rfl, rfl, rfl, trivial⟩ rfl
        · exact hx_assignF (d := .bool true) ev_bool (.inl rfl) trivial (ow_ne (by decide)) (hx_nil ⟨⟨rfl, rfl, rfl, rfl, rfl, rfl, rfl, rfl, trivial⟩, rfl⟩)
      · have ht : td = true := by simpa using h
        exact hx_skip ⟨by rw [ht]; rfl, rfl, rfl, rfl, rfl, rfl, rfl, rfl, trivial⟩ rfl
    · have h' : (rs.sum == (seats : Int) && l.any (· == mw)) = false := by rw [Bool.and_true] at h; exact h
      have e2 : st'.2 = td := by rw [hstep]; simp only [h', Bool.or_false]
      rw [e2]
      exact hx_skip ⟨rfl, rfl, rfl, rfl, rfl, rfl, rfl, rfl, trivial⟩ rfl
    · have e1 : st'.1 = (if decide (rs.sum < seats) && l.any (· == mw) then rs.set i (rs.getD i 0 + 1) else rs) := by rw [hstep]
      refine hx_cons (N' := fun a w => Agree (("ties", .bool st'.2) :: (loopN votes seats m ta ws mw)) a ∧ w = repO st'.1) (hs_if (c := decide (rs.sum < (seats : Int)) && (l.any (· == mw) && true))
        (evb_bool (all_and (evb_cmp (ev_sum g (ev_name rfl) rfl) (ev_name rfl) cmp_lt) fun _ => all_and (hin _ rfl rfl rfl _ _ _ _ _) fun _ => all_and_nil)) (fun h => ?_) fun h => ?_) fun a w h => hx_nil h
      · have h' : (decide (rs.sum < (seats : Int)) && l.any (· == mw)) = true := by rw [Bool.and_true] at h; exact h
        rw [if_pos h'] at e1
        refine hx_cons (N' := fun a w => Agree (("ties", .bool st'.2) :: (loopN votes seats m ta ws mw)) a ∧ w = repO st'.1) (hs_aug (i := (i : Int)) (j := 1) (k := rs.getD i 0) (ev_name rfl) ev_int (by omega) (by have : rs.length = votes.length := hli; omega) (by have : rs.length = votes.length := hli; omega) ?_ ⟨⟨rfl, rfl, rfl, rfl, rfl, rfl, rfl, trivial⟩, ?_⟩) fun a w h => hx_nil h
        · have : i < rs.length := by have : rs.length = votes.length := hli; omega
          simp [List.getD, this]
        · rw [e1]; simp
      · have h' : ¬ (decide (rs.sum < (seats : Int)) && l.any (· == mw)) = true := by rw [Bool.and_true] at h; rw [h]; decide
        rw [if_neg h'] at e1
        exact hx_skip ⟨rfl, rfl, rfl, rfl, rfl, rfl, rfl, trivial⟩ (by rw [e1])
  · refine hx_cons (N' := fun a w => Agree (loopN votes seats m ta ws mw) a ∧ w = repO (L votes.length).1 ∧ (ta = true ∨ (L votes.length).2 = false)) (hs_if (c := (L votes.length).2 && (!ta && true)) (evb_bool (all_and (evb_of (ev_name rfl)) fun _ => all_and (evb_not (evb_of (ev_name rfl))) fun _ => all_and_nil)) (fun h => ?_) (fun h => ?_)) fun a w h => ?_
    · rw [Bool.and_true, Bool.and_eq_true] at h
      exact hraise (by simpa using h.2) h.1 _ _ _ _ _ _ _ _ _
    · rw [Bool.and_true, Bool.and_eq_false_iff] at h
      exact hx_nil ⟨⟨rfl, rfl, rfl, rfl, rfl, rfl, trivial⟩, rfl, h.symm.imp (fun h => by simpa using h) id⟩
    · obtain ⟨h1, rfl, h2⟩ := h
      exact hx_of_agree h1 (hx_ret (ev_name rfl) ⟨rfl, h2⟩)

/-- statements 3 to 7, nothing left to hand out -/
theorem w_tail0 (g : Gr W) {votes : List Int} {seats : Nat} {m : Str} {ta : Bool} {rep : List Int} {X : Prop} (hs : decide ((seats : Int) > rep.sum) = false) :
    Hx W n sD (("representatives", .list (iL rep)) :: baseN votes seats m ta) none ((fBody (tx 2)).drop 2) (fun _ _ => False) (fun d => d = .list (iL rep)) X := by
  refine hx_ite (c := false) (ps := ("representatives", .list (iL rep)) :: baseN votes seats m ta) (ow' := none) (hs ▸ evb_cmp (ev_name rfl) (ev_sum g (ev_name rfl) rfl) cmp_gt) (fun h => by cases h) (fun _ => hx_skip ⟨rfl, rfl, rfl, rfl, rfl, trivial⟩ rfl) ?_
  refine hx_assign (d := .bool false) ev_bool (.inl rfl) ?_
  refine hx_ite (c := false) (ps := ("ties", .bool false) :: ("representatives", .list (iL rep)) :: baseN votes seats m ta) (ow' := none) (hs ▸ evb_cmp (ev_name rfl) (ev_sum g (ev_name rfl) rfl) cmp_gt) (fun h => by cases h) (fun _ => hx_skip ⟨rfl, rfl, rfl, rfl, rfl, rfl, trivial⟩ rfl) ?_
  refine hx_ite (c := false && (!ta && true)) (ps := ("ties", .bool false) :: ("representatives", .list (iL rep)) :: baseN votes seats m ta) (ow' := none) (evb_bool (all_and (evb_of (ev_name rfl)) fun _ => all_and (evb_not (evb_of (ev_name rfl))) fun _ => all_and_nil)) (fun h => by cases h) (fun _ => hx_skip ⟨rfl, rfl, rfl, rfl, rfl, rfl, trivial⟩ rfl) ?_
  exact hx_ret (ev_name rfl) rfl

theorem flat_len {α : Type} (f : Int → α → Int) (ds : List α) : ∀ votes : List Int, ((votes.map fun p => ds.map fun d => f p d).flatMap id).length = votes.length * ds.length
  | [] => by simp
  | v :: vs => by
    rw [List.map_cons, List.flatMap_cons, List.length_append, flat_len f ds vs, List.length_cons, Nat.succ_mul]
    show (ds.map fun d => f v d).length + _ = _
    rw [List.length_map]; omega
abbrev divD (ds : List (Int × Int)) : D := .list (ds.map pair)
abbrev rowsD (ws : List (List Int)) : D := .list (ws.map fun l => .list (iL l))

/-- statements 3 to 7, seats left to hand out -/
theorem w_tailA (g : Gr W) {votes : List Int} {seats : Nat} {m : Str} {ta : Bool} {rep0 : List Int} {ds : List (Int × Int)} {mw : Int} {X : Prop} (S : Sizes votes ds) (h64 : votes.length * ds.length < 64) (hr : rep0.length = votes.length) (hs0 : decide ((seats : Int) > rep0.sum) = true)
    (hmw : itemOf (iL (sortL ((weightsV m votes ds).flatMap id))) (-(seats : Int) + rep0.sum) = some (.int mw))
    (tail : ∀ rep1, rep1 = rep1V votes rep0 (weightsV m votes ds) mw → Hx W n sD (loopN votes seats m ta (weightsV m votes ds) mw) (repO rep1) ((fBody (tx 2)).drop 3) (fun _ _ => False) R X) :
    Hx W n sD (("divisors", divD ds) :: ("representatives", .list (iL rep0)) :: baseN votes seats m ta) none ((fBody (tx 2)).drop 2) (fun _ _ => False) R X := by
  have hvl := S.vl
  have hdl := S.dl
  refine hx_ite (c := true) (ps := loopN votes seats m ta (weightsV m votes ds) mw) (ow' := repO (rep1V votes rep0 (weightsV m votes ds) mw)) (hs0 ▸ evb_cmp (ev_name rfl) (ev_sum g (ev_name rfl) rfl) cmp_gt) (fun _ => ?_) (fun h => by cases h) (tail _ rfl)
  refine hx_assign (d := .int 1) ev_int (.inr rfl) ?_
  let N1 : Names := ("divisors", divD ds) :: ("representatives", .list (iL rep0)) :: baseN votes seats m ta
  refine hx_cons (N' := fun a w => Agree (("common", .int (commonV ds ds.length)) :: N1) a ∧ w = none) (hs_each (xs := ds) pair (fun i => ("common", .int (commonV ds i)) :: N1) (ev_name rfl) (.inl rfl) ⟨rfl, rfl, rfl, rfl, rfl, rfl, rfl, trivial⟩ (fun i => rfl) (fun i d hd => ?_) fun a h => ⟨h, rfl⟩) fun a w h => ?_
  · have hi : i < ds.length := by
      rcases Nat.lt_or_ge i ds.length with h | h
      · exact h
      · rw [List.getElem?_eq_none h] at hd; cases hd
    have hc := commonV_20 S (k := i) (by omega)
    have hdm := S.d d (List.mem_of_getElem? hd)
    refine hx_assign (d := .int (commonV ds (i + 1))) ((ev_bin (ev_name rfl) (ev_itemT (k := 0) (ds := [.int d.1, .int d.2]) (ev_name rfl) ev_int rfl (by simp)) (bin_mul (sm_mul (bd_sm (x := 60) ⟨by omega, hc.2⟩ (by omega)) (bd_sm (x := 3) ⟨by omega, by omega⟩ (by omega))))).cast ?_) (.inr rfl) (hx_nil ⟨⟨rfl, rfl, rfl, rfl, rfl, rfl, rfl, trivial⟩, rfl⟩)
    rw [commonV_succ hd]
  · obtain ⟨h, rfl⟩ := h
    refine hx_of_agree h ?_
    have hc := commonV_20 S (k := ds.length) (Nat.le_refl _)
    generalize hcm : commonV ds ds.length = common at hc
    have hwl : (weightsV m votes ds).length = votes.length := by unfold weightsV; simp
    refine hx_ite (c := isHu m) (ps := ("weights", rowsD (weightsV m votes ds)) :: N1) (ow' := none) (evb_in ["huntington", "hill", "equalproportions"] (ev_name rfl) (ev_list (evs_cons ev_str (evs_cons ev_str (evs_cons ev_str evs_nil))) (by simp))) (fun h => ?_) (fun h => ?_) ?_
    · refine hx_assign (d := rowsD (weightsV m votes ds)) ((ev_comp (ds := votes) (d := .list (iL votes)) D.int (fun _ => true) (fun p => .list (iL (ds.map fun d => weightV true common p d))) (CompOk.of (by rfl)) (ev_name rfl) (items_iL votes) notRng (by omega) (fun d hd => evt_nil) (fun p hp _ => ?_)).cast ?_) (.inr rfl) (hx_nil ⟨⟨rfl, rfl, rfl, rfl, rfl, rfl, rfl, trivial⟩, rfl⟩) (swaps_cell rfl)
      · refine (ev_comp (ds := ds) (d := divD ds) pair (fun _ => true) (fun d => .int (weightV true common p d)) (CompOk.of (by rfl)) (ev_name rfl) rfl notRng (by omega) (fun d hd => evt_nil) (fun d hd _ => ?_)).cast ?_
        · have hpv := S.v p hp
          have hdm := S.d d hd
          have bp : 0 ≤ p ∧ p ≤ 10 ^ 20 := ⟨hpv.1, by omega⟩
          have bd2 : 0 ≤ d.2 ∧ d.2 ≤ 10 ^ 3 := ⟨by omega, by omega⟩
          have bc : 0 ≤ common ∧ common ≤ 10 ^ 60 := ⟨by omega, hc.2⟩
          have b1 := bd_mul bp bp
          have b2 := bd_mul b1 bd2
          exact ev_bin (ev_bin (ev_bin (ev_bin (ev_toInt g (ev_name rfl) rfl) (ev_toInt g (ev_name rfl) rfl) (bin_mul (sm_mul (bd_sm bp (by omega)) (bd_sm bp (by omega))))) (ev_itemT (k := 1) (ds := [.int d.1, .int d.2]) (ev_name rfl) ev_int rfl (by simp)) (bin_mul (sm_mul (bd_sm b1 (by omega)) (bd_sm bd2 (by omega))))) (ev_name rfl) (bin_mul (sm_mul (bd_sm b2 (by omega)) (bd_sm bc (by omega))))) (ev_itemT (k := 0) (ds := [.int d.1, .int d.2]) (ev_name rfl) ev_int rfl (by simp)) (bin_div (by omega) (bd_sm (x := 3) ⟨by omega, by omega⟩ (by omega)))
        · rw [filt_all]; simp [iL, List.map_map]
      · rw [filt_all]; unfold weightsV; rw [hcm, h]; simp [List.map_map]
    · refine hx_assign (d := rowsD (weightsV m votes ds)) ((ev_comp (ds := votes) (d := .list (iL votes)) D.int (fun _ => true) (fun p => .list (iL (ds.map fun d => weightV false common p d))) (CompOk.of (by rfl)) (ev_name rfl) (items_iL votes) notRng (by omega) (fun d hd => evt_nil) (fun p hp _ => ?_)).cast ?_) (.inr rfl) (hx_nil ⟨⟨rfl, rfl, rfl, rfl, rfl, rfl, rfl, trivial⟩, rfl⟩) (swaps_cell rfl)
      · refine (ev_comp (ds := ds) (d := divD ds) pair (fun _ => true) (fun d => .int (weightV false common p d)) (CompOk.of (by rfl)) (ev_name rfl) rfl notRng (by omega) (fun d hd => evt_nil) (fun d hd _ => ?_)).cast ?_
        · have hpv := S.v p hp
          have hdm := S.d d hd
          have bp : 0 ≤ p ∧ p ≤ 10 ^ 20 := ⟨hpv.1, by omega⟩
          have bd2 : 0 ≤ d.2 ∧ d.2 ≤ 10 ^ 3 := ⟨by omega, by omega⟩
          have bc : 0 ≤ common ∧ common ≤ 10 ^ 60 := ⟨by omega, hc.2⟩
          have b2 := bd_mul bp bd2
          exact ev_bin (ev_bin (ev_bin (ev_toInt g (ev_name rfl) rfl) (ev_itemT (k := 1) (ds := [.int d.1, .int d.2]) (ev_name rfl) ev_int rfl (by simp)) (bin_mul (sm_mul (bd_sm bp (by omega)) (bd_sm bd2 (by omega))))) (ev_name rfl) (bin_mul (sm_mul (bd_sm b2 (by omega)) (bd_sm bc (by omega))))) (ev_itemT (k := 0) (ds := [.int d.1, .int d.2]) (ev_name rfl) ev_int rfl (by simp)) (bin_div (by omega) (bd_sm (x := 3) ⟨by omega, by omega⟩ (by omega)))
        · rw [filt_all]; simp [iL, List.map_map]
      · rw [filt_all]; unfold weightsV; rw [hcm, h]; simp [List.map_map]
    · have hfl : ((weightsV m votes ds).flatMap id).length < 64 := by
        have e : ((weightsV m votes ds).flatMap id).length = votes.length * ds.length := by
          exact flat_len ..
        omega
      have hwr : ∀ l ∈ weightsV m votes ds, l.length = ds.length := fun l hl => by
        unfold weightsV at hl
        obtain ⟨p, _, rfl⟩ := List.mem_map.mp hl
        simp
      generalize weightsV m votes ds = ws at hwl hfl hmw hwr ⊢
      refine hx_assign (d := .list (iL (sortL (ws.flatMap id)))) (ev_sorted g (ev_flat (ls := ws) (CompOk.of (by rfl)) rfl (ev_name rfl) (by omega)) rfl hfl) (.inl rfl) ?_
      have hsl : (sortL (ws.flatMap id)).length = (ws.flatMap id).length := (sortL_perm _).length_eq
      refine hx_assign (d := .int mw) (ev_item (ev_name rfl) (ev_bin (neg_int' (ev_name rfl)) (ev_sum g (ev_name rfl) rfl) bin_add) hmw (by show ((sortL (ws.flatMap id)).map D.int).length ≤ _; rw [List.length_map]; omega)) (.inr rfl) ?_
      refine hx_own' (σ' := loopN votes seats m ta ws mw) (ns := rep1V votes rep0 ws mw) ((evf_comp (ds := List.range votes.length) (fun i => D.int ((i : Nat) : Int)) (fun _ => true) (fun i => rep0.getD i 0 + (((ws.getD i []).filter fun w => decide (w > mw)).length : Int)) (CompOk.of (by rfl)) (ev_range1 g ((ev_len g (ev_name rfl) rfl (by simp; omega)).cast (by simp)) rfl) (items_rng0 _) (rngOk (by omega) (by omega)) (by simp; omega) (fun d hd => evt_nil) (fun i hi _ => ?_)).cast ?_) (.inr rfl) ⟨rfl, rfl, rfl, rfl, rfl, rfl, trivial⟩ rfl (hx_nil ⟨⟨rfl, rfl, rfl, rfl, rfl, rfl, trivial⟩, rfl⟩) (swaps_cell rfl)
      · have hi' : i < votes.length := List.mem_range.mp hi
        obtain ⟨l, hl⟩ : ∃ l, ws[i]? = some l := ⟨ws[i]'(by omega), List.getElem?_eq_getElem (by omega)⟩
        have hwd : ws.getD i [] = l := by rw [List.getD, hl]; rfl
        have hll := hwr l (List.mem_of_getElem? hl)
        rw [hwd]
        refine ev_bin (ev_item (d := .int (rep0.getD i 0)) (ev_name rfl) (ev_name rfl) (itemOf_iL ?_) (by simp; omega)) ((ev_len g (ev_comp (ds := l) (d := .list (iL l)) D.int (fun w => decide (w > mw)) D.int (CompOk.of (by rfl)) (ev_item (ev_name rfl) (ev_name rfl) (itemOf_nat (by rw [List.getElem?_map, hl]; rfl)) (by simp; omega)) (items_iL l) notRng (by omega) (fun d hd => evt_one (evb_cmp (ev_name rfl) (ev_name rfl) cmp_gt)) (fun d hd _ => ev_name rfl)) rfl ?_).cast (by simp)) bin_add
        · simp [List.getD, show i < rep0.length by omega]
        · rw [List.length_map]
          exact Nat.le_trans (List.length_filter_le _ _) (by omega)
      · rw [filt_all]; rfl

theorem ev_crng {sc : Scope} {σ : Names} {elt iter : Expr} {x : Str} {px pos : Pos} {scope : Scope} {k : Nat} (f : Nat → D) (ok : CompOk scope sc σ x) (he : Ev W n sc σ iter (.rng 0 k)) (hk : k ≤ 1000)
    (h : ∀ i, i < k → Ev W n (relS scope sc) (innerN σ scope x (.int (i : Nat))) elt (f i)) (hs : ∀ env x, foldedSetIterable iter env x = pure x := by intro _ _; rfl) : Ev W n sc σ (.ListComp elt [⟨.Name x px, iter, [], 0⟩] scope pos) (.list ((List.range k).map f)) :=
  (ev_comp (ds := List.range k) (fun i => D.int ((i : Nat) : Int)) (fun _ => true) f ok he (items_rng0 k) (rngOk (by omega) (by omega)) (by simp; omega) (fun d hd => evt_nil) (fun d hd _ => h d (List.mem_range.mp hd)) hs).cast (by rw [filt_all])
theorem ev_clist {sc : Scope} {σ : Names} {elt iter : Expr} {x : Str} {px pos : Pos} {scope : Scope} {ns : List Int} (f : Int → D) (ok : CompOk scope sc σ x) (he : Ev W n sc σ iter (.list (iL ns))) (hk : ns.length ≤ 1000)
    (h : ∀ i ∈ ns, Ev W n (relS scope sc) (innerN σ scope x (.int i)) elt (f i)) (hs : ∀ env x, foldedSetIterable iter env x = pure x := by intro _ _; rfl) : Ev W n sc σ (.ListComp elt [⟨.Name x px, iter, [], 0⟩] scope pos) (.list (ns.map f)) :=
  (ev_comp (ds := ns) D.int (fun _ => true) f ok he (items_iL ns) notRng (by omega) (fun d hd => evt_nil) (fun d hd _ => h d hd) hs).cast (by rw [filt_all])

theorem ev_one {sc : Scope} {σ : Names} {p : Int} {a b c d e f : Pos} {k1 k2 k3 : Nat} (h : σ.lookup ("p" : Str) = some (.int p)) : Ev W n sc σ (.IfExp (.Compare (.Name "p" a) [.Gt] [.Constant (.int 0) k1 b] c) (.Constant (.int 1) k2 d) (.Constant (.int 0) k3 e) f) (.int (if p > 0 then 1 else 0)) := by
  refine ev_if (b := decide (p > 0)) (evb_cmp (ev_name h) ev_int cmp_gt) (fun h => ?_) (fun h => ?_)
  · have h : p > 0 := by simpa using h
    rw [if_pos h]; exact ev_int
  · have h : ¬ p > 0 := by simpa using h
    rw [if_neg h]; exact ev_int
abbrev headN (votes : List Int) (seats : Nat) (m : Str) (ta : Bool) : Names := ("divisors", divD (divsV m seats)) :: ("representatives", .list (iL (rep0V m votes))) :: baseN votes seats m ta
theorem mulOk {a b : Int} (ha : -1 ≤ a ∧ a ≤ 10 ^ 10) (hb : -1 ≤ b ∧ b ≤ 10 ^ 10) : IntMulOk a b := sm_mul (sm_of (by omega) (by omega)) (sm_of (by omega) (by omega))
theorem mul_bd {a b : Int} {x y : Nat} (ha : 0 ≤ a ∧ a ≤ (x : Int)) (hb : 0 ≤ b ∧ b ≤ (y : Int)) : 0 ≤ a * b ∧ a * b ≤ ((x * y : Nat) : Int) := by
  refine ⟨Int.mul_nonneg ha.1 hb.1, ?_⟩
  rw [Int.natCast_mul]
  exact Int.mul_le_mul ha.2 hb.2 hb.1 (by omega)

/-- statements 1 and 2 -/
theorem w_head (g : Gr W) {votes : List Int} {seats : Nat} {m : Str} {ta : Bool} {X : Prop} (hvl : votes.length ≤ 60) (hs : seats ≤ 20) (hkn : (isDh m || isSl m || isMs m || zeroM m) = true) (hnf : lateM m = true → votes.length ≤ seats)
    (tail : Hx W n sD (headN votes seats m ta) none ((fBody (tx 2)).drop 2) (fun _ _ => False) R X) : Hx W n sD (baseN votes seats m ta) none (fBody (tx 2)) (fun _ _ => False) R X := by
  refine hx_assign (d := .list (iL (List.replicate votes.length 0))) ((ev_bin (ev_list (evs_cons ev_int evs_nil) (by simp)) (ev_len g (ev_name rfl) rfl (by simp; omega)) (bin_rep (by simp) (by simp; omega))).cast (by simp [iL])) (.inr rfl) ?_
  refine hx_cons (N' := fun a w => Agree (headN votes seats m ta) a ∧ w = none) ?_ fun a w h => by obtain ⟨h, rfl⟩ := h; exact hx_of_agree h tail
  -- votes of zero
  have hrng : ∀ (σ : Names) (p1 p2 p3 : Pos), σ.lookup ("seats" : Str) = some (.int seats) → Ev W n sD σ (.Call (.Name (Str.ofString "range") p1) [.Name "seats" p2] [] p3) (.rng 0 seats) := fun σ p1 p2 p3 h => ev_range1 g (ev_name h) rfl
  refine hs_if (evb_in ["dhondt", "jefferson", "greatestdivisors"] (ev_name rfl) (ev_list (evs_cons ev_str (evs_cons ev_str (evs_cons ev_str evs_nil))) (by simp))) (fun h => ?_) (fun h1 => ?_)
  · have h' : isDh m = true := h
    have e1 : divsV m seats = (List.range seats).map fun (i : Nat) => ((i : Int) + 1, 1) := by unfold divsV; rw [if_pos h']
    have e2 : rep0V m votes = List.replicate votes.length 0 := by unfold rep0V lateM; simp [h']
    refine hx_assign (d := divD (divsV m seats)) ((ev_crng (fun i => pair ((i : Int) + 1, 1)) (CompOk.of (by rfl)) (hrng _ _ _ _ rfl) (by omega) (fun i hi => ev_tup (evs_cons (ev_bin (ev_name rfl) ev_int bin_add) (evs_cons ev_int evs_nil)) (by simp))).cast (by rw [e1]; simp [divD, List.map_map, Function.comp_def])) (.inr rfl) (hx_nil ⟨⟨rfl, by rw [e2]; rfl, rfl, rfl, rfl, rfl, trivial⟩, rfl⟩) (swaps_cell rfl)
  refine hx_cons (N' := fun a w => Agree (headN votes seats m ta) a ∧ w = none) ?_ fun a w h => hx_nil h
  refine hs_if (evb_in ["saintelague", "webster", "majorfractions"] (ev_name rfl) (ev_list (evs_cons ev_str (evs_cons ev_str (evs_cons ev_str evs_nil))) (by simp))) (fun h => ?_) (fun h2 => ?_)
  · have h' : isSl m = true := h
    have h1' : isDh m = false := h1
    have e1 : divsV m seats = (List.range seats).map fun (i : Nat) => (2 * (i : Int) + 1, 1) := by unfold divsV; rw [h1', h']; rfl
    have e2 : rep0V m votes = List.replicate votes.length 0 := by unfold rep0V lateM; simp [h']
    refine hx_assign (d := divD (divsV m seats)) ((ev_crng (fun i => pair (2 * (i : Int) + 1, 1)) (CompOk.of (by rfl)) (hrng _ _ _ _ rfl) (by omega) (fun i hi => ev_tup (evs_cons (ev_bin (ev_bin ev_int (ev_name rfl) (bin_mul (mulOk (by omega) (by omega)))) ev_int bin_add) (evs_cons ev_int evs_nil)) (by simp))).cast (by rw [e1]; simp [divD, List.map_map, Function.comp_def])) (.inr rfl) (hx_nil ⟨⟨rfl, by rw [e2]; rfl, rfl, rfl, rfl, rfl, trivial⟩, rfl⟩) (swaps_cell rfl)
  refine hx_cons (N' := fun a w => Agree (headN votes seats m ta) a ∧ w = none) ?_ fun a w h => hx_nil h
  refine hs_if (evb_in ["modified_saintelague"] (ev_name rfl) (ev_list (evs_cons ev_str evs_nil) (by simp))) (fun h => ?_) (fun h3 => ?_)
  · have h' : isMs m = true := h
    have h1' : isDh m = false := h1
    have h2' : isSl m = false := h2
    have e1 : divsV m seats = (7, 5) :: (List.range (seats - 1)).map fun (i : Nat) => (2 * (1 + (i : Int)) + 1, 1) := by unfold divsV; rw [h1', h2', h']; rfl
    have e2 : rep0V m votes = List.replicate votes.length 0 := by unfold rep0V lateM; simp [h']
    refine hx_assign (d := divD (divsV m seats)) ((ev_bin (ev_list (evs_cons (ev_tup (evs_cons ev_int (evs_cons ev_int evs_nil)) (by simp)) evs_nil) (by simp)) (ev_comp (ds := List.range (seats - 1)) (fun i => D.int (1 + ((i : Nat) : Int))) (fun _ => true) (fun i => pair (2 * (1 + ((i : Nat) : Int)) + 1, 1)) (CompOk.of (by rfl)) (ev_range2 g ev_int (ev_name rfl) rfl) (items_rng1 _) (rngOk (by omega) (by omega)) (by simp; omega) (fun d hd => evt_nil) (fun i hi _ => ?_)) (bin_addL ?_)).cast ?_) (.inr rfl) (hx_nil ⟨⟨rfl, by rw [e2]; rfl, rfl, rfl, rfl, rfl, trivial⟩, rfl⟩)
    · have := List.mem_range.mp hi
      exact ev_tup (evs_cons (ev_bin (ev_bin ev_int (ev_name rfl) (bin_mul (mulOk (by omega) (by omega)))) ev_int bin_add) (evs_cons ev_int evs_nil)) (by simp)
    · rw [filt_all]; simp; omega
    · rw [e1, filt_all]; simp [divD, List.map_map, Function.comp_def]
  have hz : zeroM m = true := by
    have h1' : isDh m = false := h1
    have h2' : isSl m = false := h2
    have h3' : isMs m = false := h3
    rw [h1', h2', h3'] at hkn; exact hkn
  have hlt : lateM m = true := by
    have h1' : isDh m = false := h1
    have h2' : isSl m = false := h2
    have h3' : isMs m = false := h3
    unfold lateM; rw [h1', h2', h3', hz]; rfl
  have hle := hnf hlt
  have e2 : rep0V m votes = votes.map fun p => if p > 0 then 1 else 0 := by unfold rep0V; rw [if_pos hlt]
  have hlt' : decide ((seats : Int) < ((iL votes).length : Int)) = false := by simp; omega
  refine hx_cons (N' := fun a w => Agree (headN votes seats m ta) a ∧ w = none) ?_ fun a w h => hx_nil h
  refine hs_if (evb_in ["huntington", "hill", "equalproportions"] (ev_name rfl) (ev_list (evs_cons ev_str (evs_cons ev_str (evs_cons ev_str evs_nil))) (by simp))) (fun h => ?_) (fun h4 => ?_)
  · have h' : isHu m = true := h
    have h1' : isDh m = false := h1
    have h2' : isSl m = false := h2
    have h3' : isMs m = false := h3
    have e1 : divsV m seats = (List.range seats).map fun (i : Nat) => (((i : Int) + 1) * ((i : Int) + 2), 1) := by unfold divsV; rw [h1', h2', h3', h']; rfl
    refine hx_cons (N' := fun a w => Agree (headN votes seats m ta) a ∧ w = none) (hs_if (hlt' ▸ evb_cmp (ev_name rfl) (ev_len g (ev_name rfl) rfl (by simp; omega)) cmp_lt) (fun h => by cases h) fun _ => ?_) fun a w h => hx_nil h
    refine hx_assign (d := .list (iL (rep0V m votes))) ((ev_clist (fun p => .int (if p > 0 then 1 else 0)) (CompOk.of (by rfl)) (ev_name rfl) (by omega) (fun p hp => ev_one rfl)).cast (by rw [e2]; simp [iL, List.map_map])) (.inr rfl) ?_ (swaps_cell rfl)
    refine hx_assign (d := divD (divsV m seats)) ((ev_crng (fun i => pair (((i : Int) + 1) * ((i : Int) + 2), 1)) (CompOk.of (by rfl)) (hrng _ _ _ _ rfl) (by omega) (fun i hi => ev_tup (evs_cons (ev_bin (ev_bin (ev_name rfl) ev_int bin_add) (ev_bin (ev_name rfl) ev_int bin_add) (bin_mul (mulOk (by omega) (by omega)))) (evs_cons ev_int evs_nil)) (by simp))).cast (by rw [e1]; simp [divD, List.map_map, Function.comp_def])) (.inr rfl) (hx_nil ⟨⟨rfl, rfl, rfl, rfl, rfl, rfl, trivial⟩, rfl⟩) (swaps_cell rfl)
  refine hx_cons (N' := fun a w => Agree (headN votes seats m ta) a ∧ w = none) ?_ fun a w h => hx_nil h
  refine hs_if (evb_in ["adams", "smallestdivisor"] (ev_name rfl) (ev_list (evs_cons ev_str (evs_cons ev_str evs_nil)) (by simp))) (fun h => ?_) (fun h5 => ?_)
  · have h' : isAd m = true := h
    have h1' : isDh m = false := h1
    have h2' : isSl m = false := h2
    have h3' : isMs m = false := h3
    have h4' : isHu m = false := h4
    have e1 : divsV m seats = (List.range seats).map fun (i : Nat) => ((i : Int) + 1, 1) := by unfold divsV; rw [h1', h2', h3', h4', h']; rfl
    refine hx_cons (N' := fun a w => Agree (headN votes seats m ta) a ∧ w = none) (hs_if (hlt' ▸ evb_cmp (ev_name rfl) (ev_len g (ev_name rfl) rfl (by simp; omega)) cmp_lt) (fun h => by cases h) fun _ => ?_) fun a w h => hx_nil h
    refine hx_assign (d := .list (iL (rep0V m votes))) ((ev_clist (fun p => .int (if p > 0 then 1 else 0)) (CompOk.of (by rfl)) (ev_name rfl) (by omega) (fun p hp => ev_one rfl)).cast (by rw [e2]; simp [iL, List.map_map])) (.inr rfl) ?_ (swaps_cell rfl)
    refine hx_assign (d := divD (divsV m seats)) ((ev_crng (fun i => pair ((i : Int) + 1, 1)) (CompOk.of (by rfl)) (hrng _ _ _ _ rfl) (by omega) (fun i hi => ev_tup (evs_cons (ev_bin (ev_name rfl) ev_int bin_add) (evs_cons ev_int evs_nil)) (by simp))).cast (by rw [e1]; simp [divD, List.map_map, Function.comp_def])) (.inr rfl) (hx_nil ⟨⟨rfl, rfl, rfl, rfl, rfl, rfl, trivial⟩, rfl⟩) (swaps_cell rfl)
  refine hx_cons (N' := fun a w => Agree (headN votes seats m ta) a ∧ w = none) ?_ fun a w h => hx_nil h
  have h1' : isDh m = false := h1
  have h2' : isSl m = false := h2
  have h3' : isMs m = false := h3
  have h4' : isHu m = false := h4
  have h5' : isAd m = false := h5
  have h' : isDe m = true := by unfold zeroM at hz; rw [h4', h5'] at hz; exact hz
  have e1 : divsV m seats = (List.range seats).map fun (i : Nat) => (2 * ((i : Int) + 1) * ((i : Int) + 2), 2 * ((i : Int) + 1) + 1) := by unfold divsV; rw [h1', h2', h3', h4', h5']; rfl
  refine hs_if (c := true) ((show isIn m ["dean", "harmonicmean"] = true from h') ▸ evb_in ["dean", "harmonicmean"] (ev_name rfl) (ev_list (evs_cons ev_str (evs_cons ev_str evs_nil)) (by simp))) (fun h => ?_) (fun h => by cases h)
  refine hx_cons (N' := fun a w => Agree (headN votes seats m ta) a ∧ w = none) (hs_if (hlt' ▸ evb_cmp (ev_name rfl) (ev_len g (ev_name rfl) rfl (by simp; omega)) cmp_lt) (fun h => by cases h) fun _ => ?_) fun a w h => hx_nil h
  refine hx_assign (d := .list (iL (rep0V m votes))) ((ev_clist (fun p => .int (if p > 0 then 1 else 0)) (CompOk.of (by rfl)) (ev_name rfl) (by omega) (fun p hp => ev_one rfl)).cast (by rw [e2]; simp [iL, List.map_map])) (.inr rfl) ?_ (swaps_cell rfl)
  refine hx_assign (d := divD (divsV m seats)) ((ev_crng (fun i => pair (2 * ((i : Int) + 1) * ((i : Int) + 2), 2 * ((i : Int) + 1) + 1)) (CompOk.of (by rfl)) (hrng _ _ _ _ rfl) (by omega) (fun i hi => ev_tup (evs_cons (ev_bin (ev_bin ev_int (ev_bin (ev_name rfl) ev_int bin_add) (bin_mul (mulOk (by omega) (by omega)))) (ev_bin (ev_name rfl) ev_int bin_add) (bin_mul (mulOk (by omega) (by omega)))) (evs_cons (ev_bin (ev_bin ev_int (ev_bin (ev_name rfl) ev_int bin_add) (bin_mul (mulOk (by omega) (by omega)))) ev_int bin_add) evs_nil)) (by simp))).cast (by rw [e1]; simp [divD, List.map_map, Function.comp_def])) (.inr rfl) (hx_nil ⟨⟨rfl, rfl, rfl, rfl, rfl, rfl, trivial⟩, rfl⟩) (swaps_cell rfl)
end
end Mine

namespace Mine
section
variable {W : Wd} {n : Nat} {X : Prop}

/-- the divisor methods, walked -/
theorem w_divisor (g : Gr W) {votes : List Int} {seats : Nat} {m : Str} {ta : Bool} (C : Case m votes seats) (hv : ∀ p ∈ votes, p < 10 ^ 20) (hvl : votes.length ≤ 60) (h64 : votes.length * seats < 64)
    (hraise : ta = false → (divisorV m votes seats).2 = true → RaiseOk W n sD X) :
    Hx W n sD (baseN votes seats m ta) none (fBody (tx 2)) (fun _ _ => False) (fun d => d = .list (iL (divisorV m votes seats).1) ∧ (ta = true ∨ (divisorV m votes seats).2 = false)) X := by
  refine w_head g hvl C.seats20 C.known C.room ?_
  by_cases hs : (seats : Int) > (rep0V m votes).sum
  · obtain ⟨S, hS, hS1, h1, hS3, hS2, hm, hmw, ho⟩ := case_ground C hs
    obtain ⟨e1, e2, e3, e4, e5, e6⟩ := div_end (rep0_len) (weights_len) hS hS1 hS2 hm ho
    have hdef : divisorV m votes seats = loopV seats (weightsV m votes (divsV m seats)) (minV seats (rep0V m votes) (weightsV m votes (divsV m seats))) (rep1V votes (rep0V m votes) (weightsV m votes (divsV m seats)) (minV seats (rep0V m votes) (weightsV m votes (divsV m seats)))) votes.length := by
      unfold divisorV; simp only [hs, if_true]
    obtain ⟨hL, hd, hl⟩ := divs_good C.known C.seats20 h1
    have hsl : (sortL ((weightsV m votes (divsV m seats)).flatMap id)).length = ((weightsV m votes (divsV m seats)).flatMap id).length := (sortL_perm _).length_eq
    rw [hdef] at hraise ⊢
    refine w_tailA g (mw := minV seats (rep0V m votes) (weightsV m votes (divsV m seats))) ⟨fun p hp => ⟨C.nonneg p hp, hv p hp⟩, hvl, hd, by rw [hl]; exact C.seats20⟩ (by rw [hl]; exact h64) rep0_len (by simpa using hs) ?_ fun rep1 hr1 => ?_
    · unfold itemOf
      have hk : -(seats : Int) + (rep0V m votes).sum = -(S : Int) := by omega
      rw [hk, if_neg (by omega), List.length_map, hsl, if_pos (by omega)]
      have ek : (-(S : Int) + (((weightsV m votes (divsV m seats)).flatMap id).length : Int)).toNat = ((weightsV m votes (divsV m seats)).flatMap id).length - S := by omega
      rw [ek, List.getElem?_map, hm]; rfl
    · subst hr1
      exact w_tailL g hvl e2 weights_len (by simpa using e1) hraise
  · have hdef : divisorV m votes seats = (rep0V m votes, false) := by unfold divisorV; simp only [hs, if_false]
    rw [hdef]
    refine hx_of_agree (ps := ("representatives", .list (iL (rep0V m votes))) :: baseN votes seats m ta) ⟨rfl, rfl, rfl, rfl, rfl, trivial⟩ ?_
    exact (w_tail0 g (by simpa using hs)).mono (fun _ _ h => h) fun d h => ⟨h, .inr rfl⟩

theorem step_bd {m : Str} {k : Int} (h0 : 0 ≤ k) (h : k ≤ 1000) : (stepV m k).1 ≤ 10 ^ 8 ∧ (stepV m k).2 ≤ 10 ^ 8 := by
  have a1 := mul_bd (a := 2 * k) (b := k + 1) (x := 2000) (y := 1001) ⟨by omega, by omega⟩ ⟨by omega, by omega⟩
  have a2 := mul_bd (a := k) (b := k + 1) (x := 1000) (y := 1001) ⟨by omega, by omega⟩ ⟨by omega, by omega⟩
  unfold stepV
  repeat' split
  all_goals simp only
  all_goals (constructor <;> omega)

end
end Mine

namespace Mine
section
variable {W : Wd} {n : Nat} {X : Prop}
abbrev sZ : Scope := fScope (tx 3)
abbrev zeroN (votes : List Int) (seats : Nat) (ta : Bool) (mc : Int) : Names := [("mincount", .int mc), ("votes", .list (iL votes)), ("seats", .int seats), ("tiesallowed", .bool ta)]

theorem w_divzero (g : Gr W) {votes : List Int} {seats : Nat} {ta : Bool} {mc : Int} (hvl : votes.length ≤ 60) (hmc : itemOf (iL (sortL votes)) (-(seats : Int)) = some (.int mc))
    (hraise : ta = false → (fewL votes seats mc votes.length).2 = true → RaiseOk W n sZ X) :
    Hx W n sZ [("votes", .list (iL votes)), ("seats", .int seats), ("tiesallowed", .bool ta)] none (fBody (tx 3)) (fun _ _ => False) (fun d => d = .list (iL (fewL votes seats mc votes.length).1) ∧ (ta = true ∨ (fewL votes seats mc votes.length).2 = false)) X := by
  have hsl : (sortL votes).length = votes.length := (sortL_perm _).length_eq
  refine hx_own ((evf_rep (ev_len g (ev_name rfl) rfl (by simp; omega)) (by simp) (by simp; omega)).cast (d' := List.replicate votes.length 0) (by simp)) (.inl rfl) rfl ?_
  refine hx_assignF (d := .bool false) ev_bool (.inl rfl) trivial (ow_ne (by decide)) ?_
  refine hx_assignF (d := .int mc) (ev_item (ev_sorted g (ev_name rfl) rfl (by omega)) (neg_int' (ev_name rfl)) hmc (by simp; omega)) (.inl rfl) trivial (ow_ne (by decide)) ?_
  have lv : (iL votes).length ≤ 100000 := by simp; omega
  have hL0 : fewL votes seats mc 0 = (List.replicate votes.length 0, false) := rfl
  generalize hL : fewL votes seats mc = L at *
  have hLs : ∀ k, L (k + 1) = fewT votes seats mc (L k) k := fun k => by rw [← hL]; exact fewL_succ ..
  have hLl : ∀ k, (L k).1.length = votes.length := fun k => by rw [← hL]; exact fewL_len ..
  refine hx_cons (N' := fun a w => Agree (("ties", .bool (L votes.length).2) :: zeroN votes seats ta mc) a ∧ w = repO (L votes.length).1) (hs_rng (k := votes.length) (fun i => ("ties", .bool (L i).2) :: zeroN votes seats ta mc) (fun i => repO (L i).1)
    (ev_range1 g ((ev_len g (ev_name rfl) rfl lv).cast (by simp)) rfl) (by omega) (.inl rfl) (by rw [hL0]; exact ⟨rfl, rfl, rfl, rfl, rfl, trivial⟩) (by rw [hL0]) (fun i => ow_ne (by decide)) (fun i => rfl) (fun i hi => ?_) (fun a h => ⟨h, rfl⟩)) fun a w h => ?_
  · have gi : votes[i]? = some (votes.getD i 0) := by simp [List.getD, hi]
    have hstep := hLs i
    have hli := hLl i
    generalize L i = st at hstep hli
    generalize L (i + 1) = st' at hstep
    obtain ⟨rs, td⟩ := st
    unfold fewT at hstep
    simp only at hstep hli
    generalize votes.getD i 0 = v at gi hstep
    let P1 : Names := ("i", .int (i : Nat)) :: ("ties", .bool td) :: zeroN votes seats ta mc
    refine hx_cons (N' := fun a w => Agree (("ties", .bool st'.2) :: zeroN votes seats ta mc) a ∧ w = repO st'.1) (hs_if (c := decide (rs.sum < (seats : Int)) && (decide (v ≥ mc) && true)) (evb_bool (all_and (evb_cmp (ev_sum g (ev_name rfl) rfl) (ev_name rfl) cmp_lt) fun _ => all_and (evb_cmp (ev_item (ev_name rfl) (ev_name rfl) (itemOf_iL gi) lv) (ev_name rfl) cmp_ge) fun _ => all_and_nil)) (fun h => ?_) (fun h => ?_)) fun a w h => hx_nil h
    · rw [Bool.and_true] at h
      rw [if_pos h] at hstep
      refine hx_cons (N' := fun a w => Agree (("ties", .bool st'.2) :: zeroN votes seats ta mc) a ∧ w = repO st'.1) (hs_set (i := (i : Int)) (j := 1) ev_int (ev_name rfl) (by omega) (by show (i : Int) < rs.length; omega) (by show rs.length ≤ 100000; omega) ⟨⟨by rw [hstep]; rfl, rfl, rfl, rfl, rfl, trivial⟩, by rw [hstep]; simp⟩) fun a w h => hx_nil h
    · rw [Bool.and_true] at h
      rw [if_neg (by rw [h]; decide)] at hstep
      refine hx_cons (N' := fun a w => Agree (("ties", .bool st'.2) :: zeroN votes seats ta mc) a ∧ w = repO st'.1) (hs_if (c := (rs.sum == (seats : Int)) && (decide (v ≥ mc) && true)) (evb_bool (all_and (evb_cmp (ev_sum g (ev_name rfl) rfl) (ev_name rfl) cmp_eq) fun _ => all_and (evb_cmp (ev_item (ev_name rfl) (ev_name rfl) (itemOf_iL gi) lv) (ev_name rfl) cmp_ge) fun _ => all_and_nil)) (fun h2 => ?_) (fun h2 => ?_)) fun a w h => hx_nil h
      · rw [Bool.and_true] at h2
        rw [if_pos h2] at hstep
        refine hx_cons (N' := fun a w => Agree (("ties", .bool st'.2) :: zeroN votes seats ta mc) a ∧ w = repO st'.1) (hs_if (evb_not (evb_of (ev_name rfl))) (fun h3 => ?_) (fun h3 => ?_)) fun a w h => hx_nil h
        · exact hx_assignF (d := .bool true) ev_bool (.inl rfl) trivial (ow_ne (by decide)) (hx_nil ⟨⟨by rw [hstep]; rfl, rfl, rfl, rfl, rfl, trivial⟩, by rw [hstep]⟩)
        · have ht : td = true := by simpa using h3
          exact hx_skip ⟨by rw [hstep, ht]; rfl, rfl, rfl, rfl, rfl, trivial⟩ (by rw [hstep])
      · rw [Bool.and_true] at h2
        rw [if_neg (by rw [h2]; decide)] at hstep
        exact hx_skip ⟨by rw [hstep]; rfl, rfl, rfl, rfl, rfl, trivial⟩ (by rw [hstep])
  · obtain ⟨h, rfl⟩ := h
    refine hx_of_agree h ?_
    refine hx_cons (N' := fun a w => Agree (zeroN votes seats ta mc) a ∧ w = repO (L votes.length).1 ∧ (ta = true ∨ (L votes.length).2 = false)) (hs_if (c := (L votes.length).2 && (!ta && true)) (evb_bool (all_and (evb_of (ev_name rfl)) fun _ => all_and (evb_not (evb_of (ev_name rfl))) fun _ => all_and_nil)) (fun h => ?_) (fun h => ?_)) fun a w h => ?_
    · rw [Bool.and_true, Bool.and_eq_true] at h
      exact hraise (by simpa using h.2) h.1 _ _ _ _ _ _ _ _ _
    · rw [Bool.and_true, Bool.and_eq_false_iff] at h
      exact hx_nil ⟨⟨rfl, rfl, rfl, rfl, trivial⟩, rfl, h.symm.imp (fun h => by simpa using h) id⟩
    · obtain ⟨h1, rfl, h2⟩ := h
      exact hx_of_agree h1 (hx_ret (ev_name rfl) ⟨rfl, h2⟩)
end
end Mine

namespace Mine
section
variable {W : Wd} {n : Nat} {X : Prop} {R : D → Prop}
/-- statements 1 and 2, where there are fewer seats than parties -/
theorem w_headF (g : Gr W) {fz : Addr} (hz : FnAt W "_divzero_fewerseatsthanparties" fz) (hP : ∀ A env G, env.scope = sD → W.P A env G → ∃ l, A.frames = some (env :: l) ∧ env.frame = some env.locals ∧ FG W.hB G l)
    {votes : List Int} {seats : Nat} {m : Str} {ta : Bool} {R2 : D → Prop} {X2 : Prop} (hvl : votes.length ≤ 60) (hlate : lateM m = true) (hk : knownM m = true) (hlt : seats < votes.length)
    (hc : CallX W n (.ref fz) [.list (iL votes), .int seats, .bool ta] R2 X2) (hX : X2 → X)
    (tail : ∀ d, R2 d → Hx W n sD (("representatives", d) :: baseN votes seats m ta) none ((fBody (tx 2)).drop 2) (fun _ _ => False) R X) : Hx W n sD (baseN votes seats m ta) none (fBody (tx 2)) (fun _ _ => False) R X := by
  refine hx_assign (d := .list (iL (List.replicate votes.length 0))) ((ev_bin (ev_list (evs_cons ev_int evs_nil) (by simp)) (ev_len g (ev_name rfl) rfl (by simp; omega)) (bin_rep (by simp) (by simp; omega))).cast (by simp [iL])) (.inr rfl) ?_
  let Nx : Names → Ow → Prop := fun a w => w = none ∧ ∃ d, R2 d ∧ Agree (("representatives", d) :: baseN votes seats m ta) a
  refine hx_cons (N' := Nx) ?_ fun a w h => by obtain ⟨rfl, d, hd, h⟩ := h; exact hx_of_agree h (tail d hd)
  have hd1 : isDh m = false ∧ isSl m = false ∧ isMs m = false := by
    unfold lateM at hlate
    simp only [Bool.and_eq_true, Bool.not_eq_true'] at hlate
    exact ⟨hlate.1.1.1, hlate.1.1.2, hlate.1.2⟩
  have hlt' : decide ((seats : Int) < ((iL votes).length : Int)) = true := by simp; omega
  have nx : ∀ d, R2 d → Nx (("representatives", d) :: ("representatives", .list (iL (List.replicate votes.length 0))) :: baseN votes seats m ta) none := fun d hd => ⟨rfl, d, hd, rfl, rfl, rfl, rfl, rfl, trivial⟩
  refine hs_if (evb_in ["dhondt", "jefferson", "greatestdivisors"] (ev_name rfl) (ev_list (evs_cons ev_str (evs_cons ev_str (evs_cons ev_str evs_nil))) (by simp))) (fun h => by have h : isDh m = true := h; rw [hd1.1] at h; cases h) (fun _ => hx_cons (N' := Nx) ?_ fun a w h => hx_nil h)
  refine hs_if (evb_in ["saintelague", "webster", "majorfractions"] (ev_name rfl) (ev_list (evs_cons ev_str (evs_cons ev_str (evs_cons ev_str evs_nil))) (by simp))) (fun h => by have h : isSl m = true := h; rw [hd1.2.1] at h; cases h) (fun _ => hx_cons (N' := Nx) ?_ fun a w h => hx_nil h)
  refine hs_if (evb_in ["modified_saintelague"] (ev_name rfl) (ev_list (evs_cons ev_str evs_nil) (by simp))) (fun h => by have h : isMs m = true := h; rw [hd1.2.2] at h; cases h) (fun _ => hx_cons (N' := Nx) ?_ fun a w h => hx_nil h)
  refine hs_if (evb_in ["huntington", "hill", "equalproportions"] (ev_name rfl) (ev_list (evs_cons ev_str (evs_cons ev_str (evs_cons ev_str evs_nil))) (by simp))) (fun _ => ?_) (fun h4 => hx_cons (N' := Nx) ?_ fun a w h => hx_nil h)
  · exact hx_cons (N' := Nx) (hs_if (hlt' ▸ evb_cmp (ev_name rfl) (ev_len g (ev_name rfl) rfl (by simp; omega)) cmp_lt) (fun _ => hx_cons (N' := Nx) (hs_callX hP hz rfl (evs_cons (ev_name rfl) (evs_cons (ev_name rfl) (evs_cons (ev_name rfl) evs_nil))) hc rfl (.inr rfl) nx hX) fun a w h => hx_nil h) fun h => by cases h) fun a w h => hx_nil h
  refine hs_if (evb_in ["adams", "smallestdivisor"] (ev_name rfl) (ev_list (evs_cons ev_str (evs_cons ev_str evs_nil)) (by simp))) (fun _ => ?_) (fun h5 => hx_cons (N' := Nx) ?_ fun a w h => hx_nil h)
  · exact hx_cons (N' := Nx) (hs_if (hlt' ▸ evb_cmp (ev_name rfl) (ev_len g (ev_name rfl) rfl (by simp; omega)) cmp_lt) (fun _ => hx_cons (N' := Nx) (hs_callX hP hz rfl (evs_cons (ev_name rfl) (evs_cons (ev_name rfl) (evs_cons (ev_name rfl) evs_nil))) hc rfl (.inr rfl) nx hX) fun a w h => hx_nil h) fun h => by cases h) fun a w h => hx_nil h
  have h' : isDe m = true := by
    have h4' : isHu m = false := h4
    have h5' : isAd m = false := h5
    unfold lateM zeroM at hlate
    rw [h4', h5'] at hlate
    simp only [Bool.and_eq_true] at hlate
    exact hlate.2
  refine hs_if (c := true) ((show isIn m ["dean", "harmonicmean"] = true from h') ▸ evb_in ["dean", "harmonicmean"] (ev_name rfl) (ev_list (evs_cons ev_str (evs_cons ev_str evs_nil)) (by simp))) (fun _ => ?_) (fun h => by cases h)
  exact hx_cons (N' := Nx) (hs_if (hlt' ▸ evb_cmp (ev_name rfl) (ev_len g (ev_name rfl) rfl (by simp; omega)) cmp_lt) (fun _ => hx_cons (N' := Nx) (hs_callX hP hz rfl (evs_cons (ev_name rfl) (evs_cons (ev_name rfl) (evs_cons (ev_name rfl) evs_nil))) hc rfl (.inr rfl) nx hX) fun a w h => hx_nil h) fun h => by cases h) fun a w h => hx_nil h
end
end Mine

namespace Mine
/-- two seats that are as good -/
def levelB (m : Str) (votes told : List Int) (i j : Nat) : Bool :=
  (decide (i ≠ j) && decide (told.getD j 0 > 0)) && ((decide ((stepV m (told.getD i 0)).1 > 0) && decide ((stepV m (told.getD j 0 - 1)).1 > 0)) &&
    (powerV m (votes.getD i 0) * (stepV m (told.getD i 0)).2 * (stepV m (told.getD j 0 - 1)).1 == powerV m (votes.getD j 0) * (stepV m (told.getD j 0 - 1)).2 * (stepV m (told.getD i 0)).1))
section
variable {W : Wd} {n : Nat} {X : Prop}
theorem w_level (g : Gr W) {fs fp : Addr} (hs : FnAt W "_law_step" fs) (hp : FnAt W "_law_power" fp) {m : Str} {votes told : List Int}
    (cs : ∀ k : Int, 0 ≤ k → k ≤ 1000 → CallV W n (.ref fs) [.str m, .int k] (pair (stepV m k))) (cp : ∀ v : Int, 0 ≤ v → v ≤ 10 ^ 20 → CallV W n (.ref fp) [.str m, .int v] (.int (powerV m v)))
    (hv : ∀ p ∈ votes, 0 ≤ p ∧ p ≤ 10 ^ 20) (hvl : votes.length ≤ 60) (htl : told.length = votes.length) (ht : ∀ x ∈ told, 0 ≤ x ∧ x ≤ 1000) :
    Hx W n (fScope (tx 10)) [("name", .str m), ("votes", .list (iL votes)), ("told", .list (iL told))] none (fBody (tx 10)) (fun _ _ => False)
      (fun d => (d = .bool true ∧ ∃ i j, i < votes.length ∧ j < votes.length ∧ levelB m votes told i j = true) ∨ (d = .bool false ∧ ∀ i j, i < votes.length → j < votes.length → levelB m votes told i j = false)) X := by
  let B : Names := [("name", .str m), ("votes", .list (iL votes)), ("told", .list (iL told))]
  let R : D → Prop := fun d => (d = .bool true ∧ ∃ i j, i < votes.length ∧ j < votes.length ∧ levelB m votes told i j = true) ∨ (d = .bool false ∧ ∀ i j, i < votes.length → j < votes.length → levelB m votes told i j = false)
  have lz : (iL votes).length ≤ 100000 := by simp; omega
  have lt : (iL told).length ≤ 100000 := by simp; omega
  have hr : ∀ (σ : Names) (p1 p2 p3 p4 p5 : Pos), σ.lookup ("votes" : Str) = some (.list (iL votes)) → Ev W n (fScope (tx 10)) σ (.Call (.Name (Str.ofString "range") p1) [.Call (.Name (Str.ofString "len") p2) [.Name "votes" p3] [] p4] [] p5) (.rng 0 votes.length) := fun σ p1 p2 p3 p4 p5 h => ev_range1 g ((ev_len g (ev_name h) rfl lz).cast (by simp)) rfl
  have idx : ∀ (i : Nat) (d' : D), ((List.range votes.length).map fun i => D.int ((i : Nat) : Int))[i]? = some d' → i < votes.length ∧ d' = .int (i : Nat) := fun i d' hd => by
    rw [List.getElem?_map] at hd
    by_cases hi : i < votes.length
    · rw [List.getElem?_range hi] at hd; cases hd; exact ⟨hi, rfl⟩
    · rw [List.getElem?_eq_none (by simp; omega)] at hd; cases hd
  refine hx_cons (N' := fun a w => (Agree B a ∧ w = none) ∧ ∀ i j, i < votes.length → j < votes.length → levelB m votes told i j = false) (hs_for (ds := (List.range votes.length).map fun i => D.int ((i : Nat) : Int)) (fun k a w => (Agree B a ∧ w = none) ∧ ∀ i j, i < k → j < votes.length → levelB m votes told i j = false) (hr _ _ _ _ _ _ rfl) (items_rng0 _) (rngOk (by omega) (by omega)) (.inl rfl) (.inl ⟨_, _, rfl⟩) ⟨⟨⟨rfl, rfl, rfl, trivial⟩, rfl⟩, fun i j h => by omega⟩ (fun i a p h => by cases h.1.2) (fun i d' a w hd h => ?_) (fun a w h => ?_)) fun a w h => ?_
  · obtain ⟨⟨hA, rfl⟩, hno⟩ := h
    obtain ⟨hi, rfl⟩ := idx i d' hd
    refine (Hx.weaken · (hA.cons rfl)) ?_
    let B1 : Names := ("i", .int (i : Nat)) :: B
    refine hx_cons (N' := fun a w => (Agree B1 a ∧ w = none) ∧ ∀ j, j < votes.length → levelB m votes told i j = false) (hs_for (ds := (List.range votes.length).map fun i => D.int ((i : Nat) : Int)) (fun k a w => (Agree B1 a ∧ w = none) ∧ ∀ j, j < k → levelB m votes told i j = false) (hr _ _ _ _ _ _ rfl) (items_rng0 _) (rngOk (by omega) (by omega)) (.inl rfl) (.inl ⟨_, _, rfl⟩) ⟨⟨⟨rfl, rfl, rfl, rfl, trivial⟩, rfl⟩, fun j h => by omega⟩ (fun i a p h => by cases h.1.2) (fun j d' a w hd h => ?_) (fun a w h => ?_)) fun a w h => ?_
    · obtain ⟨⟨hA1, rfl⟩, hno1⟩ := h
      obtain ⟨hj, rfl⟩ := idx j d' hd
      refine (Hx.weaken · (hA1.cons rfl)) ?_
      have hmi : votes.getD i 0 ∈ votes := getD_mem hi
      have hmj : votes.getD j 0 ∈ votes := getD_mem hj
      have hti : told.getD i 0 ∈ told := getD_mem (by omega)
      have htj : told.getD j 0 ∈ told := getD_mem (by omega)
      have gi : votes[i]? = some (votes.getD i 0) := by simp [List.getD, hi]
      have gj : votes[j]? = some (votes.getD j 0) := by simp [List.getD, hj]
      have ui : told[i]? = some (told.getD i 0) := by simp [List.getD, show i < told.length by omega]
      have uj : told[j]? = some (told.getD j 0) := by simp [List.getD, show j < told.length by omega]
      have bvi := hv _ hmi
      have bvj := hv _ hmj
      have bti := ht _ hti
      have btj := ht _ htj
      have out : levelB m votes told i j = true → R (.bool true) := fun h => .inl ⟨rfl, i, j, hi, hj, h⟩
      have nxt : levelB m votes told i j = false → ∀ j', j' < j + 1 → levelB m votes told i j' = false := fun h j' hj' => by
        rcases Nat.lt_or_ge j' j with h' | h'
        · exact hno1 j' h'
        · have : j' = j := by omega
          subst this; exact h
      have lv : levelB m votes told i j = ((decide (i ≠ j) && decide (told.getD j 0 > 0)) && ((decide ((stepV m (told.getD i 0)).1 > 0) && decide ((stepV m (told.getD j 0 - 1)).1 > 0)) &&
        (powerV m (votes.getD i 0) * (stepV m (told.getD i 0)).2 * (stepV m (told.getD j 0 - 1)).1 == powerV m (votes.getD j 0) * (stepV m (told.getD j 0 - 1)).2 * (stepV m (told.getD i 0)).1))) := rfl
      clear hno1 hno hmi hmj hti htj
      generalize hlb : levelB m votes told i j = lb at *
      generalize votes.getD i 0 = vi at *
      generalize votes.getD j 0 = vj at *
      generalize told.getD i 0 = ti at *
      generalize told.getD j 0 = tj at *
      let NN : Names → Ow → Prop := fun a w => (Agree B1 a ∧ w = none) ∧ ∀ j', j' < j + 1 → levelB m votes told i j' = false
      have ncon : ∀ σ : Names, lb = false → Agree B1 σ → Hx W n (fScope (tx 10)) σ none [] NN R X := fun σ h hA => hx_nil ⟨⟨hA, rfl⟩, nxt h⟩
      refine hx_cons (N' := NN) (hs_if (c := ((i : Int) != (j : Int)) && (decide (tj > 0) && true)) (evb_bool (all_and (evb_cmp (ev_name rfl) (ev_name rfl) cmp_ne) fun _ => all_and (evb_cmp (ev_item (ev_name rfl) (ev_name rfl) (itemOf_iL uj) lt) ev_int cmp_gt) fun _ => all_and_nil)) (fun h => ?_) fun h => ncon _ ?_ ⟨rfl, rfl, rfl, rfl, trivial⟩) fun a w h => hx_nil h
      · rw [Bool.and_true, Bool.and_eq_true] at h
        have hij : i ≠ j := by
          intro q; subst q; simp at h
        have hpos : tj > 0 := by simpa using h.2
        have hsub : tj - 1 ≤ 1000 := by omega
        rw [decide_eq_true hij, decide_eq_true hpos, Bool.and_true, Bool.true_and] at lv
        refine hx_assign (d := pair (stepV m ti)) (ev_fn hs rfl (evs_cons (ev_name rfl) (evs1 (ev_item (ev_name rfl) (ev_name rfl) (itemOf_iL ui) lt) rfl)) (cs ti bti.1 bti.2)) (.inl rfl) ?_
        refine hx_assign (d := pair (stepV m (tj - 1))) (ev_fn hs rfl (evs_cons (ev_name rfl) (evs1 (ev_bin (ev_item (ev_name rfl) (ev_name rfl) (itemOf_iL uj) lt) ev_int bin_sub) rfl)) (cs (tj - 1) (by omega) hsub)) (.inl rfl) ?_
        have n1 := step_nonneg (m := m) bti.1
        have n2 := step_nonneg (m := m) (k := tj - 1) (by omega)
        have b1 := step_bd (m := m) bti.1 bti.2
        have b2 := step_bd (m := m) (k := tj - 1) (by omega) hsub
        generalize stepV m ti = gn at *
        generalize stepV m (tj - 1) = ls at *
        have pw : ∀ v : Int, 0 ≤ v ∧ v ≤ 10 ^ 20 → 0 ≤ powerV m v ∧ powerV m v ≤ 10 ^ 40 := by
          intro v hv
          unfold powerV
          split
          · exact bd_mul (x := 20) (y := 20) hv hv
          · omega
        have pi := pw vi bvi
        have pj := pw vj bvj
        have q1 := bd_mul (x := 40) (y := 8) pi ⟨n1.2, b1.2⟩
        have q2 := bd_mul (x := 40) (y := 8) pj ⟨n2.2, b2.2⟩
        refine hx_cons (N' := NN) (hs_if (c := decide (gn.1 > 0) && (decide (ls.1 > 0) && true)) (evb_bool (all_and (evb_cmp (ev_itemT (k := 0) (ds := [.int gn.1, .int gn.2]) (ev_name rfl) ev_int rfl (by simp)) ev_int cmp_gt) fun _ => all_and (evb_cmp (ev_itemT (k := 0) (ds := [.int ls.1, .int ls.2]) (ev_name rfl) ev_int rfl (by simp)) ev_int cmp_gt) fun _ => all_and_nil)) (fun h => ?_) fun h => ncon _ ?_ ⟨rfl, rfl, rfl, rfl, trivial⟩) fun a w h => hx_nil h
        · rw [Bool.and_true] at h
          rw [h, Bool.true_and] at lv
          refine hx_cons (N' := NN) (hs_if (c := powerV m vi * gn.2 * ls.1 == powerV m vj * ls.2 * gn.1) (evb_cmp (a := .int (powerV m vi * gn.2 * ls.1)) (b := .int (powerV m vj * ls.2 * gn.1))
            (ev_bin (ev_bin (ev_fn hp rfl (evs_cons (ev_name rfl) (evs1 (ev_item (ev_name rfl) (ev_name rfl) (itemOf_iL gi) lz) rfl)) (cp vi bvi.1 bvi.2)) (ev_itemT (k := 1) (ds := [.int gn.1, .int gn.2]) (ev_name rfl) ev_int rfl (by simp)) (bin_mul (sm_mul (bd_sm pi (by omega)) (bd_sm (x := 8) ⟨n1.2, b1.2⟩ (by omega))))) (ev_itemT (k := 0) (ds := [.int ls.1, .int ls.2]) (ev_name rfl) ev_int rfl (by simp)) (bin_mul (sm_mul (bd_sm q1 (by omega)) (bd_sm (x := 8) ⟨n2.1, b2.1⟩ (by omega)))))
            (ev_bin (ev_bin (ev_fn hp rfl (evs_cons (ev_name rfl) (evs1 (ev_item (ev_name rfl) (ev_name rfl) (itemOf_iL gj) lz) rfl)) (cp vj bvj.1 bvj.2)) (ev_itemT (k := 1) (ds := [.int ls.1, .int ls.2]) (ev_name rfl) ev_int rfl (by simp)) (bin_mul (sm_mul (bd_sm pj (by omega)) (bd_sm (x := 8) ⟨n2.2, b2.2⟩ (by omega))))) (ev_itemT (k := 0) (ds := [.int gn.1, .int gn.2]) (ev_name rfl) ev_int rfl (by simp)) (bin_mul (sm_mul (bd_sm q2 (by omega)) (bd_sm (x := 8) ⟨n1.1, b1.1⟩ (by omega)))))
            cmp_eq) (fun h => ?_) fun h => ncon _ (lv.trans h) ⟨rfl, rfl, rfl, rfl, trivial⟩) fun a w h => hx_nil h
          exact hx_ret (R := R) ev_bool (out (lv.trans h))
        · rw [Bool.and_true] at h
          rw [lv, h, Bool.false_and]
      · rw [Bool.and_true] at h
        have e : decide (i ≠ j) = ((i : Int) != (j : Int)) := by
          by_cases q : i = j
          · subst q; simp
          · have q' : (i : Int) ≠ (j : Int) := by omega
            rw [decide_eq_true q, bne_iff_ne.mpr q']
        rw [lv, e, h, Bool.false_and]
    · rw [List.length_map, List.length_range] at h; exact h
    · obtain ⟨⟨hA1, rfl⟩, hno1⟩ := h
      refine hx_nil ⟨⟨hA1.2, rfl⟩, fun i' j' hi' hj' => ?_⟩
      rcases Nat.lt_or_ge i' i with h | h
      · exact hno i' j' h hj'
      · have : i' = i := by omega
        subst this; exact hno1 j' hj'
  · rw [List.length_map, List.length_range] at h; exact h
  · obtain ⟨⟨hA, rfl⟩, hno⟩ := h
    exact hx_of_agree hA (hx_ret ev_bool (.inr ⟨rfl, hno⟩))
end
end Mine

namespace Mine
def mcV (votes : List Int) (seats : Nat) : Int := (sortL votes).getD (votes.length - seats) 0
/-- what the divisor methods answer, and whether there is a tie -/
def ansV (m : Str) (votes : List Int) (seats : Nat) : List Int × Bool :=
  if lateM m && decide (seats < votes.length) then fewL votes seats (mcV votes seats) votes.length else divisorV m votes seats
def levelAny (m : Str) (votes told : List Int) : Bool := (List.range votes.length).any fun i => (List.range votes.length).any fun j => levelB m votes told i j
theorem levelAny_true {m : Str} {votes told : List Int} {i j : Nat} (hi : i < votes.length) (hj : j < votes.length) (h : levelB m votes told i j = true) : levelAny m votes told = true :=
  List.any_eq_true.mpr ⟨i, List.mem_range.mpr hi, List.any_eq_true.mpr ⟨j, List.mem_range.mpr hj, h⟩⟩
theorem levelAny_false {m : Str} {votes told : List Int} (h : ∀ i j, i < votes.length → j < votes.length → levelB m votes told i j = false) : levelAny m votes told = false := by
  cases q : levelAny m votes told with
  | false => rfl
  | true =>
    obtain ⟨i, hi, q⟩ := List.any_eq_true.mp q
    obtain ⟨j, hj, q⟩ := List.any_eq_true.mp q
    rw [h i j (List.mem_range.mp hi) (List.mem_range.mp hj)] at q; cases q
section
variable {m : Str} {votes : List Int} {seats : Nat}
theorem mcV_at (h1 : 1 ≤ seats) (h2 : seats ≤ votes.length) : (sortL votes)[votes.length - seats]? = some (mcV votes seats) := by
  have hsl : (sortL votes).length = votes.length := (sortL_perm _).length_eq
  unfold mcV
  rw [List.getD, List.getElem?_eq_getElem (by omega)]; rfl
theorem mcV_item (h1 : 1 ≤ seats) (h2 : seats ≤ votes.length) : itemOf (iL (sortL votes)) (-(seats : Int)) = some (.int (mcV votes seats)) := by
  have hsl : (sortL votes).length = votes.length := (sortL_perm _).length_eq
  unfold itemOf
  rw [if_neg (by omega), List.length_map, hsl, if_pos (by omega)]
  have ek : (-(seats : Int) + (votes.length : Int)).toNat = votes.length - seats := by omega
  rw [ek, List.getElem?_map, mcV_at h1 h2]; rfl
theorem at_item {k : Int} {j : Nat} {x : Int} {xs : List Int} (e : k = (j : Int)) (h : xs[j]? = some x) : itemOf (iL xs) k = some (.int x) := by
  subst e; exact itemOf_iL h
theorem before_at (h1 : 1 ≤ seats) (h2 : seats < votes.length) : ∃ x, (sortL votes)[votes.length - (seats + 1)]? = some x := by
  have hsl : (sortL votes).length = votes.length := (sortL_perm _).length_eq
  exact ⟨_, List.getElem?_eq_getElem (by omega)⟩
theorem few_turn (h1 : 1 ≤ seats) (h2 : seats < votes.length) {x : Int} (hx : (sortL votes)[votes.length - (seats + 1)]? = some x) :
    (fewL votes seats (mcV votes seats) votes.length).2 = (x == mcV votes seats) ∧ ((fewL votes seats (mcV votes seats) votes.length).2 = false → votes.map (fun v => if decide (v ≥ mcV votes seats) = true then (1 : Int) else 0) = (fewL votes seats (mcV votes seats) votes.length).1) := by
  have hm := mcV_at h1 (Nat.le_of_lt h2)
  obtain ⟨e1, e2, e3⟩ := few_end h1 (Nat.le_of_lt h2) hm
  refine ⟨by rw [e2, order_tie h1 h2 hm hx], fun hf => ?_⟩
  have e4 := e3 hf
  have hlen := fewL_len votes seats (mcV votes seats) votes.length
  refine List.ext_getElem (by rw [List.length_map, hlen]) fun i h h' => ?_
  have hi : i < votes.length := by rw [List.length_map] at h; exact h
  have := e4 i hi
  rw [List.getElem_map]
  have a : (fewL votes seats (mcV votes seats) votes.length).1.getD i 0 = (fewL votes seats (mcV votes seats) votes.length).1[i] := by
    rw [List.getD, List.getElem?_eq_getElem h']; rfl
  have b : votes.getD i 0 = votes[i] := by
    rw [List.getD, List.getElem?_eq_getElem hi]; rfl
  rw [a, b] at this
  rw [this]
  simp only [decide_eq_true_eq]
theorem level_turn (C : Case m votes seats) (hpos : ∀ p ∈ votes, 0 < p) : levelAny m votes (divisorV m votes seats).1 = (divisorV m votes seats).2 := by
  cases hf : (divisorV m votes seats).2 with
  | true =>
    obtain ⟨i, j, hi, hj, hij, hp, h1, h2, h3⟩ := divisor_level C hpos hf
    refine levelAny_true hi hj ?_
    unfold levelB
    rw [decide_eq_true hij, decide_eq_true hp, decide_eq_true h1, decide_eq_true h2, beq_iff_eq.mpr h3]; rfl
  | false =>
    refine levelAny_false fun i j hi hj => ?_
    cases q : levelB m votes (divisorV m votes seats).1 i j with
    | false => rfl
    | true =>
      exfalso
      unfold levelB at q
      simp only [Bool.and_eq_true, decide_eq_true_eq, beq_iff_eq] at q
      exact divisor_nolevel C hpos hf hi hj q.1.1 q.1.2 q.2.1.2 q.2.2
end
end Mine

namespace Mine
def sixL : List Str := ["dhondt", "saintelague", "modified_saintelague", "adams", "dean", "huntington"].map Str.ofString
theorem six_known : ∀ m ∈ sixL, knownM m = true ∧ zerosL.any (· == m) = lateM m := by
  intro m hm
  simp only [sixL, List.map_cons, List.map_nil, List.mem_cons, List.not_mem_nil, or_false] at hm
  rcases hm with rfl | rfl | rfl | rfl | rfl | rfl <;> exact ⟨by decide +kernel, by decide +kernel⟩
section
variable {W : Wd} {n : Nat}
theorem ev_intB {sc : Scope} {σ : Names} {fp p : Pos} {e : Expr} {a : Bool} (g : Gr W) (he : Ev W n sc σ e (.bool a)) (hk : sc.names.lookup (Str.ofString "int") = some .globalImplicit) (q : Plain e := by rfl) : Ev W n sc σ (.Call (.Name (Str.ofString "int") fp) [e] [] p) (.int (if a = true then 1 else 0)) :=
  ev_call (ev_glob g.int hk) (evs1 he q) (.inr (.inl ⟨_, rfl⟩)) call_intB (hn := all1 q)
abbrev toldR (m : Str) (votes : List Int) (seats : Nat) : D → Prop := fun d => d = .list (iL (ansV m votes seats).1) ∧ (ansV m votes seats).2 = false

theorem w_law (g : Gr W) {fc fv fz fd fl fs : Addr} (hP : ∀ A env G, env.scope = fScope (tx 12) → W.P A env G → A.frames = some [env] ∧ env.frame = some env.locals)
    (hc : FnAt W "_law_cell" fc) (hvo : FnAt W "_law_votes" fv) (hze : FnAt W "_law_zeros" fz) (hdi : FnAt W "divisor" fd) (hle : FnAt W "_law_level" fl) (hst : FnAt W "_law_strict" fs) (ns : List Int)
    (c_cell : ∀ k : Nat, k ≤ 100 → CallV W n (.ref fc) [.list (iL ns), .int k] (.int (cellV ns k)))
    (c_votes : ∀ parties : Nat, parties ≤ 5 → CallF W n (.ref fv) [.list (iL ns), .int parties, .int 1] (votesV ns parties 1))
    (c_zeros : CallV W n (.ref fz) [] (.list (zerosL.map .str)))
    (c_div : ∀ (m : Str) (votes : List Int) (seats : Nat), Case m votes seats → (∀ p ∈ votes, p ≤ 10 ^ 13) → votes.length ≤ 5 → seats ≤ 12 → CallS W n fd [.list (iL votes), .int seats, .str m] (fun d => d = .list (iL (divisorV m votes seats).1)) False)
    (c_level : ∀ (m : Str) (votes told : List Int), (∀ p ∈ votes, 0 ≤ p ∧ p ≤ 10 ^ 20) → votes.length ≤ 60 → told.length = votes.length → (∀ x ∈ told, 0 ≤ x ∧ x ≤ 1000) → CallV W n (.ref fl) [.str m, .list (iL votes), .list (iL told)] (.bool (levelAny m votes told)))
    (c_strict : ∀ (m : Str) (votes : List Int) (seats : Nat), knownM m = true → (∀ p ∈ votes, 0 < p ∧ p ≤ 10 ^ 13) → 2 ≤ votes.length → votes.length ≤ 5 → 1 ≤ seats → seats ≤ 12 → CallS W n fs [.list (iL votes), .int seats, .str m] (toldR m votes seats) ((ansV m votes seats).2 = true)) :
    Hx W n (fScope (tx 12)) [("script", .list (iL ns))] none (fBody (tx 12)) (fun _ _ => False) (fun d => d = .bool true) False := by
  have c0 : CallV W n (.ref fc) [.list (iL ns), .int 0] (.int (cellV ns 0)) := c_cell 0 (by omega)
  have c2 : CallV W n (.ref fc) [.list (iL ns), .int 2] (.int (cellV ns 2)) := c_cell 2 (by omega)
  obtain ⟨j, ej, hj⟩ := fmod_idx (cellV ns 0) 4 (by omega)
  obtain ⟨parties, hpa⟩ : ∃ parties : Nat, parties = 2 + j := ⟨_, rfl⟩
  have ep : (2 : Int) + (cellV ns 0).fmod 4 = (parties : Int) := by
    have : (cellV ns 0).fmod 4 = (j : Int) := ej
    rw [this]; omega
  refine hx_assign (d := .int parties) ((ev_bin ev_int (ev_bin (ev_fn hc rfl (evs_cons (ev_name rfl) (evs_cons ev_int evs_nil)) c0) ev_int (bin_mod (by decide))) bin_add).cast (by rw [ep])) (.inr rfl) ?_
  have hvb := votesV_bd ns parties 1 (by omega)
  have hvl := votesV_len ns parties 1
  have cv := c_votes parties (by omega)
  generalize votesV ns parties 1 = votes at hvb hvl cv
  refine hx_own' (σ' := [("parties", .int parties), ("script", .list (iL ns))]) (evf_fn hvo rfl (evs_cons (ev_name rfl) (evs_cons (ev_name rfl) (evs_cons ev_int evs_nil))) cv) (.inl rfl) ⟨rfl, rfl, trivial⟩ rfl ?_
  refine Hx.release ?_
  obtain ⟨q, eq, hq⟩ := fmod_idx (cellV ns 2) 10 (by omega)
  obtain ⟨seats, hse⟩ : ∃ seats : Nat, seats = 1 + q := ⟨_, rfl⟩
  have eq' : (1 : Int) + (cellV ns 2).fmod 10 = (seats : Int) := by
    have : (cellV ns 2).fmod 10 = (q : Int) := eq
    rw [this]; omega
  refine hx_assign (d := .int seats) ((ev_bin ev_int (ev_bin (ev_fn hc rfl (evs_cons (ev_name rfl) (evs_cons ev_int evs_nil)) c2) ev_int (bin_mod (by decide))) bin_add).cast (by rw [eq'])) (.inr rfl) ?_
  let B : Names := [("seats", .int seats), ("votes", .list (iL votes)), ("parties", .int parties)]
  refine hx_cons (N' := fun a w => Agree B a ∧ w = none) (hs_each (xs := sixL) D.str (fun _ => B) (ev_list (evs_cons ev_str (evs_cons ev_str (evs_cons ev_str (evs_cons ev_str (evs_cons ev_str (evs_cons ev_str evs_nil)))))) (by simp [sixL])) (.inl rfl) ⟨rfl, rfl, rfl, trivial⟩ (fun i => rfl) (fun i m hm => ?_) fun a h => ⟨h, rfl⟩) fun a w h => by
    obtain ⟨h, rfl⟩ := h; exact hx_of_agree h (hx_ret ev_bool rfl)
  obtain ⟨hkn, hzl⟩ := six_known m (List.mem_of_getElem? hm)
  have lv : (iL votes).length ≤ 100000 := by simp; omega
  have cs := c_strict m votes seats hkn (fun p hp => by have := hvb p hp; omega) (by omega) (by omega) (by omega) (by omega)
  unfold toldR at cs
  generalize hA : ansV m votes seats = ans at cs
  obtain ⟨aL, aF⟩ := ans
  simp only at cs
  let B1 : Names := ("name", .str m) :: B
  -- what both branches leave
  let NN : Names → Ow → Prop := fun a w => w = none ∧ ∃ due : List Int, (aF = false → aL = due) ∧ Agree (("tied", .bool aF) :: ("due", .list (iL due)) :: B1) a
  refine hx_cons (N' := NN) (hs_if (c := decide ((seats : Int) < (parties : Int)) && (zerosL.any (· == m) && true)) (evb_bool (all_and (evb_cmp (ev_name rfl) (ev_name rfl) cmp_lt) fun _ => all_and (evb_cmp (ev_name rfl) (ev_fn0 hze rfl c_zeros) cmp_inS) fun _ => all_and_nil)) (fun h => ?_) (fun h => ?_)) fun a w h => ?_
  · rw [Bool.and_true, Bool.and_eq_true] at h
    have hlt : seats < votes.length := by have := of_decide_eq_true h.1; omega
    have hlate : lateM m = true := hzl ▸ h.2
    have hans : (aL, aF) = fewL votes seats (mcV votes seats) votes.length := by
      rw [← hA]
      unfold ansV
      rw [hlate, decide_eq_true hlt]; rfl
    obtain ⟨x, hx⟩ := before_at (votes := votes) (seats := seats) (by omega) hlt
    obtain ⟨t1, t2⟩ := few_turn (by omega) hlt hx
    rw [← hans] at t1 t2
    simp only at t1 t2
    have hmc := mcV_at (votes := votes) (seats := seats) (by omega) (by omega)
    have lo : (iL (sortL votes)).length ≤ 100000 := by
      have hsl : (sortL votes).length = votes.length := (sortL_perm _).length_eq
      simp; omega
    clear hans
    generalize mcV votes seats = mc at *
    have i1 : itemOf (iL (sortL votes)) ((parties : Int) - (seats : Int) - 1) = some (.int x) := at_item (by omega) hx
    have i2 : itemOf (iL (sortL votes)) ((parties : Int) - (seats : Int)) = some (.int mc) := at_item (by omega) hmc
    refine hx_assign (d := .list (iL (sortL votes))) (ev_sorted g (ev_name rfl) rfl (by omega)) (.inr rfl) ?_
    refine hx_assign (d := .bool (x == mc)) (ev_cmp (ev_item (ev_name rfl) (ev_bin (ev_bin (ev_name rfl) (ev_name rfl) bin_sub) ev_int bin_sub) i1 lo) (ev_item (ev_name rfl) (ev_bin (ev_name rfl) (ev_name rfl) bin_sub) i2 lo) cmp_eq) (.inl rfl) ?_
    refine hx_cons (N' := NN) (hs_compL (ds := votes) (d := .list (iL votes)) D.int (fun _ => true) (fun v => .int (if decide (v ≥ mc) = true then 1 else 0)) (CompOk.of (by rfl)) (ev_name rfl) (items_iL votes) notRng (by omega) (fun d hd => evt_nil) (fun d hd _ => ?_) (.inl rfl) ⟨rfl, votes.map (fun v => if decide (v ≥ mc) = true then (1 : Int) else 0), fun hf => (t2 hf).symm, ?_, ?_, rfl, rfl, rfl, rfl, trivial⟩ (swaps_local rfl rfl rfl rfl)) fun a w h => hx_nil h
    · exact ev_intB g (ev_cmp (ev_name rfl) (ev_item (ev_name rfl) (ev_bin (ev_name rfl) (ev_name rfl) bin_sub) i2 lo) cmp_ge) rfl
    · rw [t1]; rfl
    · rw [filt_all]
      show some _ = some _
      simp only [iL, List.map_map, Function.comp_def]
  · rw [Bool.and_true] at h
    have hroom : lateM m = true → votes.length ≤ seats := fun hl => by
      rw [hzl, hl, Bool.and_true] at h
      have := of_decide_eq_false h
      omega
    have hans : divisorV m votes seats = (aL, aF) := by
      rw [← hA]
      symm
      unfold ansV
      refine if_neg fun q => ?_
      rw [Bool.and_eq_true] at q
      have := hroom q.1
      have := of_decide_eq_true q.2
      omega
    have hv1 : 0 < votes.length := by omega
    have C : Case m votes seats := ⟨hkn, fun p hp => by have := hvb p hp; omega, ⟨votes[0], List.getElem_mem hv1, by have := hvb _ (List.getElem_mem hv1); omega⟩, hroom, by omega⟩
    have cd := c_div m votes seats C (fun p hp => by have := hvb p hp; omega) (by omega) (by omega)
    have hlv := level_turn C (fun p hp => by have := hvb p hp; omega)
    obtain ⟨tl, ts⟩ := divisor_sum C
    have tn := divisor_nonneg C
    rw [hans] at cd hlv tl ts tn
    simp only at cd hlv tl ts tn
    have tb : ∀ x ∈ aL, 0 ≤ x ∧ x ≤ 1000 := by
      intro x hx
      refine ⟨tn x hx, ?_⟩
      obtain ⟨k, hk, rfl⟩ := List.getElem_of_mem hx
      have := sum_ge_one tn k
      have e : aL.getD k 0 = aL[k] := by simp [List.getD, hk]
      omega
    refine hx_cons (N' := fun a w => Agree (("due", .list (iL aL)) :: B1) a ∧ w = none) (hs_strict hP hdi rfl (evs_cons (ev_toList g (ev_name rfl) rfl lv) (evs_cons (ev_name rfl) (evs_cons (ev_name rfl) evs_nil))) cd rfl (.inl rfl) (fun d hd => ⟨⟨by rw [hd]; rfl, rfl, rfl, rfl, rfl, trivial⟩, rfl⟩) fun h => h.elim) fun a w h => ?_
    obtain ⟨h, rfl⟩ := h
    refine hx_of_agree h ?_
    refine hx_assign (d := .bool aF) (ev_fn hle rfl (evs_cons (ev_name rfl) (evs_cons (ev_name rfl) (evs_cons (ev_name rfl) evs_nil))) (hlv ▸ c_level m votes aL (fun p hp => by have := hvb p hp; omega) (by omega) tl tb)) (.inl rfl) ?_
    refine hx_cons (N' := NN) (hs_if (c := aL.sum != (seats : Int)) (evb_cmp (ev_sum g (ev_name rfl) rfl) (ev_name rfl) cmp_ne) (fun h => ?_) fun h => hx_nil ⟨rfl, aL, fun _ => rfl, rfl, rfl, rfl, rfl, rfl, rfl, trivial⟩) fun a w h => hx_nil h
    rw [ts] at h; simp at h
  · obtain ⟨rfl, due, hdue, hag⟩ := h
    refine hx_of_agree hag ?_
    let P0 : Names := ("tied", .bool aF) :: ("due", .list (iL due)) :: B1
    refine hx_cons (N' := fun a w => w = none ∧ ∃ d, (d = .list (iL aL) ∧ aF = false ∨ d = .none ∧ aF = true) ∧ Agree (("told", d) :: P0) a) (hs_strict hP hst rfl (evs_cons (ev_toList g (ev_name rfl) rfl lv) (evs_cons (ev_name rfl) (evs_cons (ev_name rfl) evs_nil))) cs rfl (.inl rfl)
      (fun d hd => ⟨rfl, d, .inl hd, rfl, rfl, rfl, rfl, rfl, rfl, rfl, trivial⟩) (fun h => ⟨rfl, .none, .inr ⟨rfl, h⟩, rfl, rfl, rfl, rfl, rfl, rfl, rfl, trivial⟩)) fun a w h => ?_
    obtain ⟨rfl, dA, hdA, hag⟩ := h
    refine hx_of_agree hag ?_
    rcases hdA with ⟨rfl, rfl⟩ | ⟨rfl, rfl⟩
    · refine hx_cons (N' := fun a w => Agree B a ∧ w = none) (hs_if (c := false) (evb_of (ev_name rfl)) (fun h => by cases h) fun _ => ?_) fun a w h => hx_nil h
      refine hx_cons (N' := fun a w => Agree B a ∧ w = none) (hs_if (c := decide (aL ≠ due)) (evb_cmp (ev_name rfl) (ev_name rfl) cmp_neL) (fun h => ?_) fun h => hx_skip ⟨rfl, rfl, rfl, trivial⟩ rfl) fun a w h => hx_nil h
      exact absurd (hdue rfl) (of_decide_eq_true h)
    · refine hx_cons (N' := fun a w => Agree B a ∧ w = none) (hs_if (c := true) (evb_of (ev_name rfl)) (fun _ => ?_) fun h => by cases h) fun a w h => hx_nil h
      exact hx_cons (N' := fun a w => Agree B a ∧ w = none) (hs_if (c := false) (evb_cmp (ev_name rfl) ev_none cmp_isNotNone_none) (fun h => by cases h) fun h => hx_skip ⟨rfl, rfl, rfl, trivial⟩ rfl) fun a w h => hx_nil h
end
end Mine

namespace Mine
theorem len0 {vs : List Value} (h : vs.length + 0 = 0) : vs = [] := by
  cases vs with
  | nil => rfl
  | cons a r => simp at h
theorem len1 {vs : List Value} (h : vs.length + 0 = 1) : ∃ a, vs = [a] := by
  match vs, h with
  | [a], _ => exact ⟨a, rfl⟩
theorem len2 {vs : List Value} (h : vs.length + 0 = 2) : ∃ a b, vs = [a, b] := by
  match vs, h with
  | [a, b], _ => exact ⟨a, b, rfl⟩
theorem len3 {vs : List Value} {k : Nat} (h : vs.length + k = 3 + k) : ∃ a b c, vs = [a, b, c] := by
  have h' : vs.length = 3 := by omega
  match vs, h' with
  | [a, b, c], _ => exact ⟨a, b, c, rfl⟩
theorem len4 {vs : List Value} (h : vs.length + 0 = 4) : ∃ a b c d, vs = [a, b, c, d] := by
  match vs, h with
  | [a, b, c, d], _ => exact ⟨a, b, c, d, rfl⟩

/-- a function's facts from the part that is written out -/
theorem fn_make {W : Wd} {f c : Addr} {o oc : Obj} {fd : FuncData} {vs : Array Value} {t : Tok} (i : Nat) (names : List Str) (dv : List Value) (ho : W.hB.get? f = some o) (hd : o.data = .func fd) (hc : W.hB.get? c = some oc) (hcode : fd.code = .ref c) (hv : oc.data = .fields vs) (hq : vs[1]? = some (.str fd.qualname t))
    (hb : fd.body = .stmts (fBody (tx i))) (hs : fd.scope = fScope (tx i)) (hg : fd.globals = mainGlobals) (hcl : fd.closure = []) (hbu : fd.builtins = builtinsNs) (hco : (fScope (tx i)).isCoroutine = false) (hge : (fScope (tx i)).isGenerator = false) (hk : (fScope (tx i)).kind = .function)
    (hn : names.Nodup) (hl : names.all (fun y => (fScope (tx i)).names.lookup y == some .local || (fScope (tx i)).names.lookup y == some .cell) = true)
    (hbi : ∀ (s : Shared) (vs : List Value), (∀ b o, W.hB.get? b = some o → s.heap.get? b = some o) → vs.length + dv.length = names.length → BindsTo s fd ⟨vs, []⟩ (names.zip (vs ++ dv))) : Fn W f fd (fBody (tx i)) names dv := by
  refine ⟨⟨o, ho, hd⟩, ⟨c, oc, vs, t, hcode, hc, hv, hq⟩, hb, hg, hcl, hbu, by rw [hs]; exact hco, by rw [hs]; exact hge, by rw [hs]; exact hk, hn, fun y hy => ?_, hbi⟩
  have := List.all_eq_true.mp hl y hy
  unfold look
  rw [hs]
  simpa using this
theorem Fn.fnAt {W : Wd} {f : Addr} {fd : FuncData} {body : List Stmt} {names : List Str} {dv : List Value} {x : Str} (F : Fn W f fd body names dv) (h : W.gl x = some (.ref f)) : FnAt W x f :=
  ⟨h, let ⟨o, a, b⟩ := F.at_; ⟨o, fd, a, b⟩⟩

def AllG (mg mb : Str → Option Value) : List (Str × Value) → Prop
  | [] => True
  | p :: r => (mg p.1 = some p.2 ∨ (mg p.1 = none ∧ mb p.1 = some p.2)) ∧ AllG mg mb r
theorem AllG.of {mg mb : Str → Option Value} : ∀ {l : List (Str × Value)}, AllG mg mb l → ∀ x v, l.lookup x = some v → mg x = some v ∨ (mg x = none ∧ mb x = some v)
  | [], _, x, v, h => by cases h
  | p :: r, H, x, v, h => by
    obtain ⟨y, u⟩ := p
    rw [List.lookup_cons] at h
    cases hy : (x == y) with
    | true =>
      rw [hy] at h; cases h
      rw [beq_iff_eq] at hy; subst hy
      exact H.1
    | false => rw [hy] at h; exact AllG.of H.2 x v h

def glL : List (Str × Value) := [("divisor", .ref 33), ("_divzero_fewerseatsthanparties", .ref 40), ("_law_cell", .ref 47), ("_law_votes", .ref 52), ("_law_zeros", .ref 59), ("_law_step", .ref 66), ("_law_power", .ref 73), ("_law_level", .ref 80), ("_law_strict", .ref 87),
  ("len", .builtin "len"), ("sum", .builtin "sum"), ("sorted", .builtin "sorted"), ("abs", .builtin "abs"), ("isinstance", .builtin "isinstance"), ("range", .type "range"), ("int", .type "int"), ("bool", .type "bool"), ("list", .type "list")]
theorem ok_of {h : Heap} {mg mb : Str → Option Value} (g : h.Ns mainGlobals mg) (b : h.Ns builtinsNs mb) (a : AllG mg mb glL) : ∃ mg mb, h.Ns mainGlobals mg ∧ h.Ns builtinsNs mb ∧ AllG mg mb glL := ⟨mg, mb, g, b, a⟩
abbrev nL : Nat := (fScope (tx 12)).names.length
abbrev nD : Nat := (fScope (tx 2)).names.length
def mkW (prog : Program) (w : World) (h : Heap) (ok : ∃ mg mb, h.Ns mainGlobals mg ∧ h.Ns builtinsNs mb ∧ AllG mg mb glL) (lim : h.NoLimit) : Wd :=
  ⟨prog, w, h, fun x => glL.lookup x, let ⟨mg, mb, a, b, c⟩ := ok; ⟨mg, mb, a, b, c.of⟩, lim, 24,
    fun A env G => (env.scope.names.length = nL → A.frames = some [env] ∧ env.frame = some env.locals) ∧ (env.scope.names.length = nD → ∃ l, A.frames = some (env :: l) ∧ env.frame = some env.locals ∧ FG h G l),
    fun A env G G' hp k => ⟨hp.1, fun q => let ⟨l, a, b, c⟩ := hp.2 q; ⟨l, a, b, c.mono k⟩⟩⟩
theorem mkW_gr {prog : Program} {w : World} {h : Heap} {ok : ∃ mg mb, h.Ns mainGlobals mg ∧ h.Ns builtinsNs mb ∧ AllG mg mb glL} {lim : h.NoLimit} : Gr (mkW prog w h ok lim) :=
  ⟨rfl, rfl, rfl, rfl, rfl, rfl, rfl, rfl, rfl⟩
abbrev bmE : List Value := [.type "Exception", .type "BaseException", .type "object"]
/-- the frames' facts -/
structure Frames (W : Wd) : Prop where
  law : ∀ A env G, env.scope = fScope (tx 12) → W.P A env G → A.frames = some [env] ∧ env.frame = some env.locals
  div : ∀ A env G, env.scope = fScope (tx 2) → W.P A env G → ∃ l, A.frames = some (env :: l) ∧ env.frame = some env.locals ∧ FG W.hB G l
  toDiv : ∀ A env G l, env.scope = fScope (tx 2) → A.frames = some (env :: l) → env.frame = some env.locals → FG W.hB G l → W.P A env G
  other : ∀ i A env G, env.scope = fScope (tx i) → (fScope (tx i)).names.length ≠ nL → (fScope (tx i)).names.length ≠ nD → W.P A env G
theorem mkW_frames {prog : Program} {w : World} {h : Heap} {ok : ∃ mg mb, h.Ns mainGlobals mg ∧ h.Ns builtinsNs mb ∧ AllG mg mb glL} {lim : h.NoLimit} : Frames (mkW prog w h ok lim) := by
  refine ⟨fun A env G hs hp => hp.1 (by rw [hs]), fun A env G hs hp => hp.2 (by rw [hs]), fun A env G l hs h1 h2 h3 => ⟨fun q => ?_, fun _ => ⟨l, h1, h2, h3⟩⟩, fun i A env G hs h1 h2 => ⟨fun q => ?_, fun q => ?_⟩⟩
  · rw [hs] at q; exact absurd q (by decide)
  · rw [hs] at q; exact absurd q h1
  · rw [hs] at q; exact absurd q h2
/-- all that the law's walk asks of the top -/
structure Ground (W : Wd) : Prop where
  g : Gr W
  P : Frames W
  cls : ∃ mg, W.hB.Ns mainGlobals mg ∧ OwnCls "TiesException" W.tc bmE "Exception.__new__" mg W.hB
  f : ∀ x ∈ [("divisor", (33 : Addr)), ("_divzero_fewerseatsthanparties", 40), ("_law_cell", 47), ("_law_votes", 52), ("_law_zeros", 59), ("_law_step", 66), ("_law_power", 73), ("_law_level", 80), ("_law_strict", 87)], W.gl (Str.ofString x.1) = some (.ref x.2)
  divisor : ∃ fd, Fn W 33 fd (fBody (tx 2)) ["votes", "seats", "method", "tiesallowed"] [] ∧ fd.scope = fScope (tx 2)
  divisor3 : ∃ fd, Fn W 33 fd (fBody (tx 2)) ["votes", "seats", "method", "tiesallowed"] [.bool true] ∧ fd.scope = fScope (tx 2)
  divzero : ∃ fd, Fn W 40 fd (fBody (tx 3)) ["votes", "seats", "tiesallowed"] [] ∧ fd.scope = fScope (tx 3)
  cell : ∃ fd, Fn W 47 fd (fBody (tx 5)) ["script", "k"] [] ∧ fd.scope = fScope (tx 5)
  votes : ∃ fd, Fn W 52 fd (fBody (tx 6)) ["script", "parties", "least"] [] ∧ fd.scope = fScope (tx 6)
  zeros : ∃ fd, Fn W 59 fd (fBody (tx 7)) [] [] ∧ fd.scope = fScope (tx 7)
  step : ∃ fd, Fn W 66 fd (fBody (tx 8)) ["name", "k"] [] ∧ fd.scope = fScope (tx 8)
  power : ∃ fd, Fn W 73 fd (fBody (tx 9)) ["name", "vote"] [] ∧ fd.scope = fScope (tx 9)
  level : ∃ fd, Fn W 80 fd (fBody (tx 10)) ["name", "votes", "told"] [] ∧ fd.scope = fScope (tx 10)
  strict : ∃ fd, Fn W 87 fd (fBody (tx 11)) ["votes", "seats", "name"] [] ∧ fd.scope = fScope (tx 11)

/-- divisor, ties not allowed -/
theorem div_strict {W : Wd} (T : Ground W) (n : Nat) (m : Str) (votes : List Int) (seats : Nat) (hk : knownM m = true) (hv : ∀ p ∈ votes, 0 < p ∧ p ≤ 10 ^ 13) (h2 : 2 ≤ votes.length) (hvl : votes.length ≤ 5) (h1 : 1 ≤ seats) (hs : seats ≤ 12) :
    CallX W (n + 2) (.ref 33) [.list (iL votes), .int seats, .str m, .bool false] (toldR m votes seats) ((ansV m votes seats).2 = true) := by
  obtain ⟨mg, hg, O⟩ := T.cls
  obtain ⟨fd1, F1, e1⟩ := T.divisor
  obtain ⟨fd2, F2, e2⟩ := T.divzero
  have az : FnAt W "_divzero_fewerseatsthanparties" 40 := F2.fnAt (T.f ("_divzero_fewerseatsthanparties", 40) (by simp))
  have h64 : votes.length * seats < 64 := by
    have : votes.length * seats ≤ 5 * 12 := Nat.mul_le_mul hvl hs
    omega
  refine call_fnX F1 (fun A env G l hsc => T.P.toDiv A env G l (by rw [hsc, e1])) (dd := []) (fun G => .nil) rfl (e1 ▸ ?_)
  by_cases hf : lateM m = true ∧ seats < votes.length
  · have hans : ansV m votes seats = fewL votes seats (mcV votes seats) votes.length := by
      unfold ansV
      rw [hf.1, decide_eq_true hf.2]; rfl
    have hmc := mcV_item (votes := votes) h1 (Nat.le_of_lt hf.2)
    obtain ⟨s1, s2, s3⟩ := few_end h1 (Nat.le_of_lt hf.2) (mcV_at (votes := votes) h1 (Nat.le_of_lt hf.2))
    unfold toldR
    rw [hans]
    have hz : CallX W (n + 1) (.ref 40) [.list (iL votes), .int seats, .bool false] (fun d => d = .list (iL (fewL votes seats (mcV votes seats) votes.length).1) ∧ (false = true ∨ (fewL votes seats (mcV votes seats) votes.length).2 = false)) ((fewL votes seats (mcV votes seats) votes.length).2 = true) :=
      call_fnX F2 (fun A env G l hsc _ _ _ => T.P.other 3 A env G (by rw [hsc, e2]) (by decide) (by decide)) (dd := []) (fun G => .nil) rfl (e2 ▸ w_divzero T.g (ta := false) (by omega) hmc fun _ ht σ ow N R p1 p2 p3 p4 k => hx_raise hg O PySem.F.excBase_Exception rfl ht)
    refine w_headF T.g az T.P.div (by omega) hf.1 hk hf.2 hz id fun d hd => ?_
    obtain ⟨rfl, hd2⟩ := hd
    exact (w_tail0 T.g (by rw [s1]; simp)).mono (fun _ _ h => h) fun d h => ⟨h, hd2.resolve_left (by decide)⟩
  · have hans : ansV m votes seats = divisorV m votes seats := by
      unfold ansV
      refine if_neg fun q => hf ?_
      rw [Bool.and_eq_true] at q
      exact ⟨q.1, of_decide_eq_true q.2⟩
    have hv1 : 0 < votes.length := by omega
    have C : Case m votes seats := ⟨hk, fun p hp => by have := hv p hp; omega, ⟨votes[0], List.getElem_mem hv1, (hv _ (List.getElem_mem hv1)).1⟩, fun hl => by
      rcases Nat.lt_or_ge seats votes.length with h | h
      · exact absurd ⟨hl, h⟩ hf
      · exact h, by omega⟩
    unfold toldR
    rw [hans]
    exact (w_divisor T.g C (fun p hp => by have := hv p hp; omega) (by omega) h64 fun _ ht σ ow N R p1 p2 p3 p4 k => hx_raise hg O PySem.F.excBase_Exception rfl ht).mono (fun _ _ h => h) fun d h => ⟨h.1, h.2.resolve_left (by decide)⟩
/-- divisor, ties allowed -/
theorem div_allowed {W : Wd} (T : Ground W) (n : Nat) (m : Str) (votes : List Int) (seats : Nat) (C : Case m votes seats) (hv : ∀ p ∈ votes, p ≤ 10 ^ 13) (hvl : votes.length ≤ 5) (hs : seats ≤ 12) :
    CallS W (n + 1) 33 [.list (iL votes), .int seats, .str m] (fun d => d = .list (iL (divisorV m votes seats).1)) False := by
  obtain ⟨fd1, F1, e1⟩ := T.divisor3
  have h64 : votes.length * seats < 64 := by
    have : votes.length * seats ≤ 5 * 12 := Nat.mul_le_mul hvl hs
    omega
  have c : CallX W (n + 1) (.ref 33) [.list (iL votes), .int seats, .str m] (fun d => d = .list (iL (divisorV m votes seats).1)) False :=
    call_fnX F1 (fun A env G l hsc => T.P.toDiv A env G l (by rw [hsc, e1])) (dd := [.bool true]) (fun G => .cons (.bool true) .nil) rfl (e1 ▸ (w_divisor T.g C (fun p hp => by have := hv p hp; omega) (by omega) h64 fun h => by cases h).mono (fun _ _ h => h) fun d h => h.1)
  exact ⟨fun A l H s E Q vs hA hfr hok hb ho Rr hQ hX => c.run A l H s E Q vs hA hfr hok hb ho Rr hQ fun h => h.elim⟩
theorem strict_all {W : Wd} (T : Ground W) (n : Nat) (m : Str) (votes : List Int) (seats : Nat) (hk : knownM m = true) (hv : ∀ p ∈ votes, 0 < p ∧ p ≤ 10 ^ 13) (h2 : 2 ≤ votes.length) (hvl : votes.length ≤ 5) (h1 : 1 ≤ seats) (hs : seats ≤ 12) :
    CallS W (n + 3) 87 [.list (iL votes), .int seats, .str m] (toldR m votes seats) ((ansV m votes seats).2 = true) := by
  have hc := div_strict T n m votes seats hk hv h2 hvl h1 hs
  obtain ⟨mg, hg, O⟩ := T.cls
  obtain ⟨fd1, F1, e1⟩ := T.divisor
  obtain ⟨fd3, F3, e3⟩ := T.strict
  have a1 : FnAt W "divisor" 33 := F1.fnAt (T.f ("divisor", 33) (by simp))
  refine ⟨fun A l H s E Q vs hA hfr hok hb ho Rr hQ hX => ?_⟩
  exact call_strict (n := n + 2) (ds2 := [.list (iL votes), .int seats, .str m, .bool false]) F3 rfl a1 (by rw [e3]; rfl) (by rw [e3]; rfl) (e3 ▸ evs_cons (ev_name rfl) (evs_cons (ev_name rfl) (evs_cons (ev_name rfl) (evs_cons ev_bool evs_nil)))) hc rfl hg O PySem.F.excBase_Exception (by decide) (by decide) A l H s E Q vs hA hfr hok hb ho Rr hQ hX

theorem law_all {W : Wd} (T : Ground W) (ns : List Int) (hl : ns.length ≤ 63) : Hx W 12 (fScope (tx 12)) [("script", .list (iL ns))] none (fBody (tx 12)) (fun _ _ => False) (fun d => d = .bool true) False := by
  have st := strict_all T 9
  have dv := div_allowed T 11
  obtain ⟨g, hP, _, f, ⟨fd1, F1, e1⟩, _, _, ⟨fd2, F2, e2⟩, ⟨fd3, F3, e3⟩, ⟨fd4, F4, e4⟩, ⟨fd5, F5, e5⟩, ⟨fd6, F6, e6⟩, ⟨fd7, F7, e7⟩, ⟨fd8, F8, e8⟩⟩ := T
  have a1 : FnAt W "divisor" 33 := F1.fnAt (f ("divisor", 33) (by simp))
  have a2 : FnAt W "_law_cell" 47 := F2.fnAt (f ("_law_cell", 47) (by simp))
  have a3 : FnAt W "_law_votes" 52 := F3.fnAt (f ("_law_votes", 52) (by simp))
  have a4 : FnAt W "_law_zeros" 59 := F4.fnAt (f ("_law_zeros", 59) (by simp))
  have a5 : FnAt W "_law_step" 66 := F5.fnAt (f ("_law_step", 66) (by simp))
  have a6 : FnAt W "_law_power" 73 := F6.fnAt (f ("_law_power", 73) (by simp))
  have a7 : FnAt W "_law_level" 80 := F7.fnAt (f ("_law_level", 80) (by simp))
  have a8 : FnAt W "_law_strict" 87 := F8.fnAt (f ("_law_strict", 87) (by simp))
  have nil : ∀ G, Reps G [] [] := fun G => .nil
  have cell : ∀ n (k : Nat), k ≤ 100 → CallV W (n + 1) (.ref 47) [.list (iL ns), .int k] (.int (cellV ns k)) := fun n k hk => call_fn F2 (fun A env G hsc => hP.other 5 A env G (by rw [hsc, e2]) (by decide) (by decide)) nil rfl (e2 ▸ w_cell g ns k (by omega) hk)
  refine w_law g hP.law a2 a3 a4 a1 a7 a8 ns (cell 11) (fun parties hp => ?_) ?_ dv (fun m votes told hv hvl htl ht => ?_) st
  · exact call_fnF F3 (fun A env G hsc => hP.other 6 A env G (by rw [hsc, e3]) (by decide) (by decide)) nil rfl (e3 ▸ w_votes g a2 ns (cell 10) parties 1 (by omega))
  · exact call_fn F4 (fun A env G hsc => hP.other 7 A env G (by rw [hsc, e4]) (by decide) (by decide)) nil rfl (e4 ▸ w_zeros)
  · refine call_fn F7 (fun A env G hsc => hP.other 10 A env G (by rw [hsc, e7]) (by decide) (by decide)) nil rfl (e7 ▸ (w_level g a5 a6 (n := 11) (fun k h0 h1 => ?_) (fun v h0 h1 => ?_) hv hvl htl ht).mono (fun _ _ h => h) fun d h => ?_)
    · exact call_fn F5 (fun A env G hsc => hP.other 8 A env G (by rw [hsc, e5]) (by decide) (by decide)) nil rfl (e5 ▸ w_step m k ⟨by omega, h1⟩)
    · exact call_fn F6 (fun A env G hsc => hP.other 9 A env G (by rw [hsc, e6]) (by decide) (by decide)) nil rfl (e6 ▸ w_power m v (bd_sm (x := 20) ⟨h0, h1⟩ (by omega)))
    · rcases h with ⟨rfl, i, j, hi, hj, h⟩ | ⟨rfl, h⟩
      · rw [levelAny_true hi hj h]
      · rw [levelAny_false h]
theorem kinds_all {sc : Scope} (h : sc.names.all (fun p => p.2 != .cell) = true) {x : Str} (k : sc.names.lookup x = some .cell) : False := by
  have := List.all_eq_true.mp h _ (mem_of_lookup k)
  simp at this

theorem cells_at {cm : Str → Option Value} {cs : List (Str × Addr)} {cells : List (Addr × Obj)} (X : CellsAre cm cs cells) : ∀ {y : Str} {c : Addr}, cs.lookup y = some c → ∃ o, (c, o) ∈ cells ∧ o.data = .cell (cm y) := by
  induction X with
  | nil => intro y c h; cases h
  | cons h r ih =>
    intro y c hl
    rename_i n' c' o cs cells
    rw [List.lookup_cons] at hl
    cases hy : (y == n') with
    | true =>
      rw [hy] at hl; cases hl
      rw [beq_iff_eq] at hy; subst hy
      exact ⟨o, List.mem_cons_self, h⟩
    | false =>
      rw [hy] at hl
      obtain ⟨o', a, b⟩ := ih hl
      exact ⟨o', List.mem_cons_of_mem _ a, b⟩

/-- the law's own frame, where it has cells -/
theorem law_frameC {W : Wd} {sc : Scope} {name x : Str} {fa a : Addr} {cd : Value} {vs : List Value} {c : Nat} {ns : List Int} {s : Shared} {cells : List (Addr × Obj)} (hk : sc.kind = .function) (hx : look x sc)
    (F : Fr W.hB W.hB.objs.size s.heap (bindL (envOfC name sc W.hB.objs.size fa cd).kindOf [(x, Value.ref a)] fun _ => none))
    (X0 : CellsAre (bindC (envOfC name sc W.hB.objs.size fa cd).kindOf [(x, Value.ref a)] fun _ => none) (cellsFrom (W.hB.objs.size + 1) sc.names []) cells) (N0 : News W.hB W.hB.objs.size s.heap cells)
    (hl : W.hB.get? a = some (listObj vs c)) (hI : IntsAre vs ns) :
    Fx W W.hB.get? [] (envOfC name sc W.hB.objs.size fa cd) [(x, .list (iL ns))] none s := by
  have hn : W.hB.get? W.hB.objs.size = none := by
    cases q : W.hB.get? W.hB.objs.size with
    | none => rfl
    | some o => exact absurd (Heap.lt_size q) (Nat.lt_irrefl _)
  have hok := cellsFrom_ok sc.names (W.hB.push { cls := .type "dict", data := .plain }) (W.hB.objs.size + 1) [] ⟨fun _ _ hp => (nomatch hp), List.Pairwise.nil⟩ (by rw [Heap.size_push]; exact Nat.le_refl _)
  rw [Heap.size_push] at hok
  refine ⟨hk, rfl, rfl, fun b o e => e, fun a h => (by cases h), F.keep, fun y => if (envOfC name sc W.hB.objs.size fa cd).kindOf y = some .local then bindL (envOfC name sc W.hB.objs.size fa cd).kindOf [(x, Value.ref a)] (fun _ => none) y else bindC (envOfC name sc W.hB.objs.size fa cd).kindOf [(x, Value.ref a)] (fun _ => none) y, [], ⟨⟨_, F.ns, fun y hy => (if_pos hy).symm⟩, hn, fun y hy => ?_, fun y z d hy hz e1 e2 => ?_⟩, rfl, fun y d hy => ?_⟩
  · have hs' := cellsFrom_some (x := y) sc.names (W.hB.objs.size + 1) [] (.inl hy)
    obtain ⟨q, eq⟩ := Option.isSome_iff_exists.mp hs'
    obtain ⟨o, hm, hd⟩ := cells_at X0 eq
    refine ⟨q, eq, ⟨o, N0.get hm, ?_⟩, N0.fresh hm, (N0 _ hm).2.1⟩
    rw [hd]
    have e : ¬ (envOfC name sc W.hB.objs.size fa cd).kindOf y = some .local := by rw [hy]; decide
    rw [if_neg e]
  · exact name_of_addr hok.apart (mem_of_lookup e1) (mem_of_lookup e2)
  · rw [List.lookup_cons] at hy
    cases h : (y == x) with
    | false => rw [h] at hy; cases hy
    | true =>
      rw [h] at hy; cases hy
      rw [beq_iff_eq] at h; subst h
      refine ⟨hx, .ref a, ?_, .list (hid_of (F.keep _ _ hl) (by simp)) (Reps.ofI hI)⟩
      rcases hx with hx | hx
      · have hkx : (envOfC name sc W.hB.objs.size fa cd).kindOf y = some .local := hx
        show (if _ then _ else _) = _
        rw [if_pos hkx]
        exact bindL_of _ _ (by simp) (by rw [List.lookup_cons]; simp) hkx
      · have hkx : (envOfC name sc W.hB.objs.size fa cd).kindOf y = some .cell := hx
        have hne : ¬ (envOfC name sc W.hB.objs.size fa cd).kindOf y = some .local := by rw [hkx]; decide
        show (if _ then _ else _) = _
        rw [if_neg hne]
        exact bindC_of _ _ (by simp) (by rw [List.lookup_cons]; simp) hne
theorem script_at {P : Params} {h : Heap} {a : Addr} {vs : List Value} {ns : List Int} (w : Well P h (.ref a) (ofPy (PyData.list (ns.map PyData.int)))) (hl : h.IsList a vs.toArray) : ∃ c, h.get? a = some (listObj vs c) := by
  cases w with
  | list e r =>
    obtain ⟨o, h1, h2, n, h3⟩ := hl
    rw [e] at h1; cases h1
    cases h3
    exact ⟨_, by rw [e]⟩

theorem close_true {c : ClaimW} {cl : Str → Option Addr} {mean : ExcName → Option Value} {args : List WData} {s₁ s s' : Shared} (hn : ∀ cls, c.raises args cls = false) (hp : c.post args (.bool true) args = true)
    (keep : ∀ b o, s₁.heap.get? b = some o → s'.heap.get? b = some o) (r : Run s s') (hos : s.os = s₁.os) (hg : s.gens = #[]) : GoodW c cl mean args s₁ (.ok (.ret (.bool true))) s' := by
  obtain ⟨h, t, rfl⟩ := r
  exact ⟨.inl ⟨_, _, [], rfl, hn, .bool true, hp, fun _ => ⟨.nil, fun a h => by cases h⟩⟩, keep, hos, hg⟩
end Mine

set_option maxHeartbeats 8000000 in
theorem PySem.Challenge.cw_ab5003_03_holds : PySem.Challenge.rw_ab5003_03.Holds := by
  w_on
  o_law
  k_head
  case hw => w_witness2
  w_strict (
    k_go0
    rename Frag.In _ _ => KX
    rename Top _ _ _ _ _ _ => T
    rename Well _ _ _ _ => w1
    rename IntsAre _ _ => hI
    rename Heap.IsList _ _ _ => hL
    rename Fr _ _ _ _ => F
    rename ¬ _ < _ => hlen
    rename _ = #[] => hg
    rename CellsAre _ _ _ => X0
    rename News _ _ _ _ => N0
    obtain ⟨lc, hl⟩ := Mine.script_at w1 hL
    have ok := Mine.ok_of T.g T.b
      ⟨.inl (mg_of (n := Str.ofString "divisor") KX T.g (by k_is)),
       .inl (mg_of (n := Str.ofString "_divzero_fewerseatsthanparties") KX T.g (by k_is)),
       .inl (mg_of (n := Str.ofString "_law_cell") KX T.g (by k_is)),
       .inl (mg_of (n := Str.ofString "_law_votes") KX T.g (by k_is)),
       .inl (mg_of (n := Str.ofString "_law_zeros") KX T.g (by k_is)),
       .inl (mg_of (n := Str.ofString "_law_step") KX T.g (by k_is)),
       .inl (mg_of (n := Str.ofString "_law_power") KX T.g (by k_is)),
       .inl (mg_of (n := Str.ofString "_law_level") KX T.g (by k_is)),
       .inl (mg_of (n := Str.ofString "_law_strict") KX T.g (by k_is)),
       .inr ⟨mg_none_of (n := Str.ofString "len") KX T.g (by k_is), (T.builtins (Str.ofString "len") (by decide)).trans (by boot_by_name)⟩,
       .inr ⟨mg_none_of (n := Str.ofString "sum") KX T.g (by k_is), (T.builtins (Str.ofString "sum") (by decide)).trans (by boot_by_name)⟩,
       .inr ⟨mg_none_of (n := Str.ofString "sorted") KX T.g (by k_is), (T.builtins (Str.ofString "sorted") (by decide)).trans (by boot_by_name)⟩,
       .inr ⟨mg_none_of (n := Str.ofString "abs") KX T.g (by k_is), (T.builtins (Str.ofString "abs") (by decide)).trans (by boot_by_name)⟩,
       .inr ⟨mg_none_of (n := Str.ofString "isinstance") KX T.g (by k_is), (T.builtins (Str.ofString "isinstance") (by decide)).trans (by boot_by_name)⟩,
       .inr ⟨mg_none_of (n := Str.ofString "range") KX T.g (by k_is), (T.builtins (Str.ofString "range") (by decide)).trans (by boot_by_name)⟩,
       .inr ⟨mg_none_of (n := Str.ofString "int") KX T.g (by k_is), (T.builtins (Str.ofString "int") (by decide)).trans (by boot_by_name)⟩,
       .inr ⟨mg_none_of (n := Str.ofString "bool") KX T.g (by k_is), (T.builtins (Str.ofString "bool") (by decide)).trans (by boot_by_name)⟩,
       .inr ⟨mg_none_of (n := Str.ofString "list") KX T.g (by k_is), (T.builtins (Str.ofString "list") (by decide)).trans (by boot_by_name)⟩, trivial⟩
    have o28 := KX 28 _ (by k_is)
    have o32 := KX 32 _ (by k_is)
    have o33 := KX 33 _ (by k_is)
    have o39 := KX 39 _ (by k_is)
    have o40 := KX 40 _ (by k_is)
    have o46 := KX 46 _ (by k_is)
    have o47 := KX 47 _ (by k_is)
    have o51 := KX 51 _ (by k_is)
    have o52 := KX 52 _ (by k_is)
    have o58 := KX 58 _ (by k_is)
    have o59 := KX 59 _ (by k_is)
    have o65 := KX 65 _ (by k_is)
    have o66 := KX 66 _ (by k_is)
    have o72 := KX 72 _ (by k_is)
    have o73 := KX 73 _ (by k_is)
    have o79 := KX 79 _ (by k_is)
    have o80 := KX 80 _ (by k_is)
    have o86 := KX 86 _ (by k_is)
    have o87 := KX 87 _ (by k_is)
    have G : Mine.Ground (Mine.mkW PySem.Challenge.rw_ab5003_03.row.prog ‹World› _ ok T.nolimit) := by
      refine ⟨Mine.mkW_gr, Mine.mkW_frames, ⟨_, T.g, own_of_in (x := Str.ofString "TiesException") (C := 24) (bmB := Mine.bmE) (newId := "Exception.__new__") KX (topRead_of T) (by k_is) (by k_exc)⟩,
        ?_,
        ⟨_, Mine.fn_make 2 ["votes", "seats", "method", "tiesallowed"] [] o33 rfl o32 rfl rfl rfl rfl rfl rfl rfl rfl rfl rfl rfl (by decide) (by decide) ?_, rfl⟩,
        ⟨_, Mine.fn_make 2 ["votes", "seats", "method", "tiesallowed"] [.bool true] o33 rfl o32 rfl rfl rfl rfl rfl rfl rfl rfl rfl rfl rfl (by decide) (by decide) ?_, rfl⟩,
        ⟨_, Mine.fn_make 3 ["votes", "seats", "tiesallowed"] [] o40 rfl o39 rfl rfl rfl rfl rfl rfl rfl rfl rfl rfl rfl (by decide) (by decide) ?_, rfl⟩,
        ⟨_, Mine.fn_make 5 ["script", "k"] [] o47 rfl o46 rfl rfl rfl rfl rfl rfl rfl rfl rfl rfl rfl (by decide) (by decide) ?_, rfl⟩,
        ⟨_, Mine.fn_make 6 ["script", "parties", "least"] [] o52 rfl o51 rfl rfl rfl rfl rfl rfl rfl rfl rfl rfl rfl (by decide) (by decide) ?_, rfl⟩,
        ⟨_, Mine.fn_make 7 [] [] o59 rfl o58 rfl rfl rfl rfl rfl rfl rfl rfl rfl rfl rfl (by decide) (by decide) ?_, rfl⟩,
        ⟨_, Mine.fn_make 8 ["name", "k"] [] o66 rfl o65 rfl rfl rfl rfl rfl rfl rfl rfl rfl rfl rfl (by decide) (by decide) ?_, rfl⟩,
        ⟨_, Mine.fn_make 9 ["name", "vote"] [] o73 rfl o72 rfl rfl rfl rfl rfl rfl rfl rfl rfl rfl rfl (by decide) (by decide) ?_, rfl⟩,
        ⟨_, Mine.fn_make 10 ["name", "votes", "told"] [] o80 rfl o79 rfl rfl rfl rfl rfl rfl rfl rfl rfl rfl rfl (by decide) (by decide) ?_, rfl⟩,
        ⟨_, Mine.fn_make 11 ["votes", "seats", "name"] [] o87 rfl o86 rfl rfl rfl rfl rfl rfl rfl rfl rfl rfl rfl (by decide) (by decide) ?_, rfl⟩⟩
      · intro x hx
        simp only [List.mem_cons, List.not_mem_nil, or_false] at hx
        rcases hx with rfl | rfl | rfl | rfl | rfl | rfl | rfl | rfl | rfl <;> rfl
      · intro s vs hb hl'
        obtain ⟨a, b, c, d, rfl⟩ := Mine.len4 hl'
        first | exact BindsTo.of_eq rfl | exact BindsTo.of_defaults rfl (hb _ _ o28) rfl rfl rfl
      · intro s vs hb hl'
        obtain ⟨a, b, c, rfl⟩ := Mine.len3 hl'
        exact BindsTo.of_defaults rfl (hb _ _ o28) rfl rfl rfl
      · intro s vs hb hl'
        obtain ⟨a, b, c, rfl⟩ := Mine.len3 hl'
        exact BindsTo.of_eq rfl
      · intro s vs hb hl'
        obtain ⟨a, b, rfl⟩ := Mine.len2 hl'
        exact BindsTo.of_eq rfl
      · intro s vs hb hl'
        obtain ⟨a, b, c, rfl⟩ := Mine.len3 hl'
        exact BindsTo.of_eq rfl
      · intro s vs hb hl'
        obtain rfl := Mine.len0 hl'
        exact BindsTo.of_eq rfl
      · intro s vs hb hl'
        obtain ⟨a, b, rfl⟩ := Mine.len2 hl'
        exact BindsTo.of_eq rfl
      · intro s vs hb hl'
        obtain ⟨a, b, rfl⟩ := Mine.len2 hl'
        exact BindsTo.of_eq rfl
      · intro s vs hb hl'
        obtain ⟨a, b, c, rfl⟩ := Mine.len3 hl'
        exact BindsTo.of_eq rfl
      · intro s vs hb hl'
        obtain ⟨a, b, c, rfl⟩ := Mine.len3 hl'
        exact BindsTo.of_eq rfl
    refine (Mine.law_all G _ (by omega)).run _ _ _ [] _ _ _ ⟨rfl, (show callerA.depth + 1 + 12 < recursionLimit by decide), (show callerA.units + 3 + 4 * 12 + 200 < cLine by decide)⟩ rfl ⟨fun _ => ⟨Around.frames_deeper rfl, rfl⟩, fun q => absurd (show (Mine.fScope (Mine.tx 12)).names.length = Mine.nD from q) (by decide)⟩ (Mine.law_frameC rfl (.inl rfl) F X0 N0 hl hI) PassesOwn.leaving (fun _ _ _ h => h.elim) (fun d v s' hd r kp rp => ?_) (fun h => h.elim)
    subst hd
    cases rp
    refine Mine.close_true (raisesW_false ?_) ?_ kp r rfl hg
    · wrow_none_raised
    · wrow_post)

