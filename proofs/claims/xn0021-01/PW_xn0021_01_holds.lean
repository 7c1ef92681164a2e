import PyProof.Rows.All
import Wide.All
import OpenK.AllK
import Wide.FinOn
import Lean
import PySem.Challenge.RW_xn0021_01
set_option Elab.async false
set_option linter.unusedVariables false


-- Ev1
section
open PySem PySem.W PySem.Calls PyProof.Rows
namespace Mine

abbrev PR : Program := PySem.Challenge.pw_xn0021_01

noncomputable def fnAt (i : Nat) : PySem.Stmt := match PR.main.body.drop i with | s :: _ => s | [] => .Pass default
noncomputable def bodyAt (i : Nat) : List PySem.Stmt := match fnAt i with
  | .FunctionDef _ _ b .. => b
  | _ => []
noncomputable def scopeAt (i : Nat) : Scope := match fnAt i with
  | .FunctionDef _ _ _ _ _ _ s .. => s
  | _ => default
noncomputable def nameAt (i : Nat) : Str := match fnAt i with
  | .FunctionDef n .. => n
  | _ => default
noncomputable def paramsAt (i : Nat) : List Str := match fnAt i with
  | .FunctionDef _ a .. => a.args.map (·.arg)
  | _ => []

/-- plain values -/
inductive PV where
  | none
  | bool (b : Bool)
  | int (i : Int)
  | str (s : Str)
  | list (l : List PV)
  | tup (l : List PV)
  | rng (lo hi st : Int)
  /-- the value itself, of which nothing is said -/
  | raw (v : Value)

abbrev listObj (vs : List Value) (n : Nat) : Obj := { cls := .type "list", data := .seq vs.toArray n }
abbrev tupObj (vs : List Value) (n : Nat) : Obj := { cls := .type "tuple", data := .seq vs.toArray n }

mutual
inductive VRep (own : List Addr) (h : Heap) : Value → PV → Prop
  | none : VRep own h .none .none
  | bool {b : Bool} : VRep own h (.bool b) (.bool b)
  | int {i : Int} {t : Tok} : VRep own h (.int i t) (.int i)
  | str {s : Str} {t : Tok} : VRep own h (.str s t) (.str s)
  | list {a : Addr} {vs : List Value} {n : Nat} {l : List PV} : h.get? a = some (listObj vs n) → a ∉ own → VReps own h vs l → VRep own h (.ref a) (.list l)
  | tup {a : Addr} {vs : List Value} {n : Nat} {l : List PV} : h.get? a = some (tupObj vs n) → a ∉ own → VReps own h vs l → VRep own h (.ref a) (.tup l)
  | rng {a : Addr} {lo hi st : Int} {t u v : Tok} : IsRange h a lo hi st t u v → a ∉ own → VRep own h (.ref a) (.rng lo hi st)
  | raw {v : Value} : VRep own h v (.raw v)
inductive VReps (own : List Addr) (h : Heap) : List Value → List PV → Prop
  | nil : VReps own h [] []
  | cons {v : Value} {vs : List Value} {p : PV} {ps : List PV} : VRep own h v p → VReps own h vs ps → VReps own h (v :: vs) (p :: ps)
end

/-- the objects that plain values stand for -/
noncomputable def IsVal (o : Obj) : Prop := (∃ xs n, o.data = .seq xs n) ∨ (∃ vs, o.data = .fields vs)
mutual
theorem VRep.move {own own' : List Addr} {h h' : Heap} (hk : ∀ b o, IsVal o → b ∉ own → h.get? b = some o → h'.get? b = some o) (ho : ∀ b, (h.get? b).isSome = true → b ∉ own → b ∉ own') : ∀ {v : Value} {p : PV}, VRep own h v p → VRep own' h' v p
  | _, _, .none => .none
  | _, _, .bool => .bool
  | _, _, .int => .int
  | _, _, .str => .str
  | _, _, .list g o r => .list (hk _ _ (.inl ⟨_, _, rfl⟩) o g) (ho _ (by rw [g]; rfl) o) (VReps.move hk ho r)
  | _, _, .tup g o r => .tup (hk _ _ (.inl ⟨_, _, rfl⟩) o g) (ho _ (by rw [g]; rfl) o) (VReps.move hk ho r)
  | _, _, .rng g o => .rng (hk _ _ (.inr ⟨_, rfl⟩) o g) (ho _ (by rw [g]; rfl) o)
  | _, _, .raw => .raw
theorem VReps.move {own own' : List Addr} {h h' : Heap} (hk : ∀ b o, IsVal o → b ∉ own → h.get? b = some o → h'.get? b = some o) (ho : ∀ b, (h.get? b).isSome = true → b ∉ own → b ∉ own') : ∀ {vs : List Value} {ps : List PV}, VReps own h vs ps → VReps own' h' vs ps
  | _, _, .nil => .nil
  | _, _, .cons a r => .cons (VRep.move hk ho a) (VReps.move hk ho r)
end

theorem VRep.keeps {own : List Addr} {h h' : Heap} {v : Value} {p : PV} (r : VRep own h v p) (hk : ∀ b o, h.get? b = some o → h'.get? b = some o) : VRep own h' v p := r.move (fun b o _ _ e => hk b o e) (fun _ _ e => e)
theorem VReps.keeps {own : List Addr} {h h' : Heap} {v : List Value} {p : List PV} (r : VReps own h v p) (hk : ∀ b o, h.get? b = some o → h'.get? b = some o) : VReps own h' v p := r.move (fun b o _ _ e => hk b o e) (fun _ _ e => e)
theorem VRep.weak {own : List Addr} {h : Heap} {v : Value} {p : PV} (r : VRep own h v p) : VRep [] h v p := r.move (fun _ _ _ _ e => e) (fun _ _ _ => by simp)
theorem VReps.weak {own : List Addr} {h : Heap} {v : List Value} {p : List PV} (r : VReps own h v p) : VReps [] h v p := r.move (fun _ _ _ _ e => e) (fun _ _ _ => by simp)

theorem VReps.length {own : List Addr} {h : Heap} : ∀ {vs : List Value} {ps : List PV}, VReps own h vs ps → vs.length = ps.length
  | _, _, .nil => rfl
  | _, _, .cons _ r => by simp [VReps.length r]
theorem VReps.get {own : List Addr} {h : Heap} : ∀ {vs : List Value} {ps : List PV}, VReps own h vs ps → ∀ {i : Nat} {p : PV}, ps[i]? = some p → ∃ v, vs[i]? = some v ∧ VRep own h v p
  | _, _, .nil, i, p, e => by simp at e
  | _, _, .cons a r, 0, p, e => by simp at e; subst e; exact ⟨_, rfl, a⟩
  | _, _, .cons a r, i + 1, p, e => by simpa using VReps.get r (by simpa using e)
theorem VReps.append {own : List Addr} {h : Heap} : ∀ {vs : List Value} {ps : List PV}, VReps own h vs ps → ∀ {us : List Value} {qs : List PV}, VReps own h us qs → VReps own h (vs ++ us) (ps ++ qs)
  | _, _, .nil, _, _, r => r
  | _, _, .cons a q, _, _, r => .cons a (VReps.append q r)
theorem VReps.drop {own : List Addr} {h : Heap} : ∀ {vs : List Value} {ps : List PV}, VReps own h vs ps → ∀ n, VReps own h (vs.drop n) (ps.drop n)
  | _, _, .nil, n => by simpa using VReps.nil
  | _, _, .cons a q, 0 => .cons a q
  | _, _, .cons a q, n + 1 => by simpa using VReps.drop q n
theorem VReps.take {own : List Addr} {h : Heap} : ∀ {vs : List Value} {ps : List PV}, VReps own h vs ps → ∀ n, VReps own h (vs.take n) (ps.take n)
  | _, _, .nil, n => by simpa using VReps.nil
  | _, _, .cons a q, 0 => .nil
  | _, _, .cons a q, n + 1 => by simpa using VReps.cons a (VReps.take q n)

/-- the state has grown: every object stands as it stood -/
noncomputable def Grow (s s' : Shared) : Prop := Keeps s s' ∧ s.toks ≤ s'.toks
theorem Grow.refl (s : Shared) : Grow s s := ⟨⟨s.heap, s.toks, rfl, fun _ _ e => e⟩, Nat.le_refl _⟩
theorem Grow.trans {s s' s'' : Shared} (x : Grow s s') (y : Grow s' s'') : Grow s s'' := by
  obtain ⟨⟨h, t, rfl, k⟩, l⟩ := x
  obtain ⟨⟨h', t', rfl, k'⟩, l'⟩ := y
  exact ⟨⟨h', t', rfl, fun b o e => k' b o (k b o e)⟩, Nat.le_trans l l'⟩
theorem Grow.keep {s s' : Shared} (x : Grow s s') : ∀ b o, s.heap.get? b = some o → s'.heap.get? b = some o := by
  obtain ⟨⟨h, t, rfl, k⟩, l⟩ := x
  exact k
theorem Grow.of {s : Shared} {h : Heap} {t : Nat} (k : ∀ b o, s.heap.get? b = some o → h.get? b = some o) (l : s.toks ≤ t) : Grow s { s with heap := h, toks := t } := ⟨⟨h, t, rfl, k⟩, l⟩
theorem Grow.tok {s : Shared} {t : Nat} (l : s.toks ≤ t) : Grow s { s with toks := t } := Grow.of (h := s.heap) (fun _ _ e => e) l
theorem Grow.push {s : Shared} {o : Obj} : Grow s { s with heap := s.heap.push o } := Grow.of (t := s.toks) (fun _ _ e => Heap.get?_push_of_some _ e) (Nat.le_refl _)

/-- the room that is left: frames and C units -/
structure RoomQ (A : Around) (k : Nat) : Prop where
  depth : A.depth + k < recursionLimit
  units : A.units + 3 * k + 256 < cLine
/-- and nothing is being handled -/
structure Room (A : Around) (k : Nat) : Prop extends RoomQ A k where
  hh : A.handled = none
theorem RoomQ.less {A : Around} {k k' : Nat} (r : RoomQ A k) (h : k' ≤ k) : RoomQ A k' := ⟨by have := r.depth; omega, by have := r.units; omega⟩
theorem RoomQ.deeper {A : Around} {k : Nat} {env : Env} (r : RoomQ A (k + 1)) : RoomQ (A.deeper env) k := ⟨by have := r.depth; simp only [Around.deeper]; omega, by have := r.units; simp only [Around.deeper]; omega⟩
theorem Room.less {A : Around} {k k' : Nat} (r : Room A k) (h : k' ≤ k) : Room A k' := ⟨r.toRoomQ.less h, r.hh⟩
theorem Room.deeper {A : Around} {k : Nat} {env : Env} (r : Room A (k + 1)) : Room (A.deeper env) k := ⟨r.toRoomQ.deeper, r.hh⟩

section
variable (w : World) (A : Around) (env : Env) (own : List Addr) (s : Shared)
/-- the expression yields V, from here on whatever is made meanwhile -/
noncomputable def Ev (e : Expr) (V : PV) : Prop := ∀ s', Grow s s' → ∀ E : Value → Shared → Prop,
  wpAny (model PR w) A (eval e env) (fun v s'' => Grow s' s'' ∧ VRep own s''.heap v V) E s'
/-- the test comes out as b -/
noncomputable def Et (e : Expr) (b : Bool) : Prop := ∀ s', Grow s s' → ∀ E : Value → Shared → Prop,
  wpAny (model PR w) A (isTrue e env (eval e env)) (fun c s'' => Grow s' s'' ∧ c = b) E s'
end

section
variable {w : World} {A : Around} {env : Env} {own : List Addr} {s : Shared}

theorem Ev.grow {e : Expr} {V : PV} {s' : Shared} (x : Ev w A env own s e V) (g : Grow s s') : Ev w A env own s' e V := fun s'' g' E => x s'' (g.trans g') E
theorem Et.grow {e : Expr} {b : Bool} {s' : Shared} (x : Et w A env s e b) (g : Grow s s') : Et w A env s' e b := fun s'' g' E => x s'' (g.trans g') E

theorem grown {α : Type} {t : Sem α} {Q : α → Shared → Prop} {E : Value → Shared → Prop} {s : Shared}
    (h : wpAny (model PR w) A t (fun a s' => s.toks ≤ s'.toks → Q a s') E s) : wpAny (model PR w) A t Q E s :=
  wpAny_with_toks (n := s.toks) (Nat.le_refl _) (wpAny_mono h (fun _ _ x => x) (fun _ _ x _ => x))

theorem Ev.then {e : Expr} {V : PV} {Q : Value → Shared → Prop} {E : Value → Shared → Prop} {s₀ : Shared} (x : Ev w A env own s₀ e V) (g : Grow s₀ s)
    (h : ∀ v s', Grow s s' → VRep own s'.heap v V → Q v s') : wpAny (model PR w) A (eval e env) Q E s :=
  wpAny_mono (x s g E) (fun v s' y => h v s' y.1 y.2) (fun _ _ y => y)
theorem Et.then {e : Expr} {b : Bool} {Q : Bool → Shared → Prop} {E : Value → Shared → Prop} {s₀ : Shared} (x : Et w A env s₀ e b) (g : Grow s₀ s)
    (h : ∀ s', Grow s s' → Q b s') : wpAny (model PR w) A (isTrue e env (eval e env)) Q E s :=
  wpAny_mono (x s g E) (fun v s' y => y.2 ▸ h s' y.1) (fun _ _ y => y)

-- constants
theorem Ev.cint {i : Int} {k : Nat} {pos : Pos} : Ev w A env own s (.Constant (.int i) k pos) (.int i) := fun _ _ _ =>
  wpAny_Constant_int ⟨Grow.tok (Nat.le_succ _), .int⟩
theorem Ev.cstr {x : Str} {k : Nat} {pos : Pos} : Ev w A env own s (.Constant (.str x) k pos) (.str x) := fun _ _ _ =>
  Constant_str ⟨Grow.tok (Nat.le_succ _), .str⟩
theorem Ev.cbool {b : Bool} {k : Nat} {pos : Pos} : Ev w A env own s (.Constant (.bool b) k pos) (.bool b) := fun _ _ _ =>
  wpAny_Constant_bool ⟨Grow.refl _, .bool⟩

-- ints
theorem Ev.add {a b : Expr} {x y : Int} {pos : Pos} (ha : Ev w A env own s a (.int x)) (hb : Ev w A env own s b (.int y)) : Ev w A env own s (.BinOp a .Add b pos) (.int (x + y)) := fun s' g E => by
  refine wpAny_BinOp (ha.then g fun v s₁ g₁ r => ?_)
  cases r
  refine hb.then (g.trans g₁) fun v s₂ g₂ r => ?_
  cases r
  exact wpAny_add_int ⟨(g₁.trans g₂).trans (Grow.tok (Nat.le_succ _)), .int⟩
theorem Ev.sub {a b : Expr} {x y : Int} {pos : Pos} (ha : Ev w A env own s a (.int x)) (hb : Ev w A env own s b (.int y)) : Ev w A env own s (.BinOp a .Sub b pos) (.int (x - y)) := fun s' g E => by
  refine wpAny_BinOp (ha.then g fun v s₁ g₁ r => ?_)
  cases r
  refine hb.then (g.trans g₁) fun v s₂ g₂ r => ?_
  cases r
  exact PyProof.Rows.sub_int ⟨(g₁.trans g₂).trans (Grow.tok (Nat.le_succ _)), .int⟩
theorem Ev.mod {a b : Expr} {x y : Int} {pos : Pos} (ha : Ev w A env own s a (.int x)) (hb : Ev w A env own s b (.int y)) (h0 : y ≠ 0) : Ev w A env own s (.BinOp a .Mod b pos) (.int (x.fmod y)) := fun s' g E => by
  refine wpAny_BinOp (ha.then g fun v s₁ g₁ r => ?_)
  cases r
  refine hb.then (g.trans g₁) fun v s₂ g₂ r => ?_
  cases r
  exact PyProof.Rows.mod_int h0 ⟨(g₁.trans g₂).trans (Grow.tok (Nat.le_succ _)), .int⟩

-- tests
theorem Et.of_bool {e : Expr} {b : Bool} (h : Ev w A env own s e (.bool b)) (he : isTrue e env (eval e env) = (do let v ← eval e env; standAt e.pos; holding [v] (truthy v)) := by rfl) : Et w A env s e b := fun s' g E => by
  refine wpAny_isTrue_value (h.then g fun v s₁ g₁ r => ?_) he
  cases r
  exact wpAny_truthy_bool ⟨g₁, rfl⟩
theorem Et.not {e : Expr} {b : Bool} {pos : Pos} (h : Et w A env s e b) : Et w A env s (.UnaryOp .Not e pos) (!b) := fun s' g E =>
  wpAny_isTrue_Not (h.then g fun s₁ g₁ => ⟨g₁, rfl⟩)

/-- a comparison's value -/
noncomputable def Ec (w : World) (A : Around) (op : CmpOp) (U V : PV) (own₁ own₂ : List Addr) (b : Bool) : Prop := ∀ (s : Shared) (u v : Value) (E : Value → Shared → Prop), VRep own₁ s.heap u U → VRep own₂ s.heap v V →
  wpAny (model PR w) A (compareOp op u v) (fun r s' => Grow s s' ∧ r = .bool b) E s

theorem Ev.cmp {l r : Expr} {op : CmpOp} {U V : PV} {b : Bool} {pos : Pos} (hl : Ev w A env own s l U) (hr : Ev w A env own s r V) (hc : Ec w A op U V own own b) (hm : behindInMarks op r = false := by with_unfolding_all rfl) : Ev w A env own s (.Compare l [op] [r] pos) (.bool b) := fun s' g E => by
  refine wpAny_Compare1 (hl.then g fun v s₁ g₁ r₁ => hr.then (g.trans g₁) fun u s₂ g₂ r₂ => ?_) hm
  refine wpAny_mono (hc s₂ _ _ E (r₁.keeps g₂.keep) r₂) (fun c s₃ h => ?_) (fun _ _ e => e)
  obtain ⟨g₃, rfl⟩ := h
  exact ⟨(g₁.trans g₂).trans g₃, .bool⟩
theorem Et.cmp {l r : Expr} {op : CmpOp} {U V : PV} {b : Bool} {pos : Pos} (hl : Ev w A env own s l U) (hr : Ev w A env own s r V) (hc : Ec w A op U V own own b) (hm : behindInMarks op r = false := by with_unfolding_all rfl) : Et w A env s (.Compare l [op] [r] pos) b := fun s' g E => by
  refine wpAny_isTrue_Compare1 (hl.then g fun v s₁ g₁ r₁ => hr.then (g.trans g₁) fun u s₂ g₂ r₂ => ?_) hm
  refine wpAny_mono (hc s₂ _ _ E (r₁.keeps g₂.keep) r₂) (fun c s₃ h => ?_) (fun _ _ e => e)
  obtain ⟨g₃, rfl⟩ := h
  exact wpAny_truthy_bool ⟨(g₁.trans g₂).trans g₃, rfl⟩

theorem Ec.eq_int {x y : Int} {o1 o2 : List Addr} : Ec w A .Eq (.int x) (.int y) o1 o2 (x == y) := fun s u v E r₁ r₂ => by
  cases r₁; cases r₂; exact PyProof.Rows.eq_int ⟨Grow.refl _, rfl⟩
theorem Ec.ne_int {x y : Int} {o1 o2 : List Addr} : Ec w A .NotEq (.int x) (.int y) o1 o2 (x != y) := fun s u v E r₁ r₂ => by
  cases r₁; cases r₂; exact PyProof.Rows.ne_int ⟨Grow.refl _, rfl⟩
theorem Ec.lt_int {x y : Int} {o1 o2 : List Addr} : Ec w A .Lt (.int x) (.int y) o1 o2 (decide (x < y)) := fun s u v E r₁ r₂ => by
  cases r₁; cases r₂; exact wpAny_lt_int ⟨Grow.refl _, rfl⟩
theorem Ec.ge_int {x y : Int} {o1 o2 : List Addr} : Ec w A .GtE (.int x) (.int y) o1 o2 (decide (y ≤ x)) := fun s u v E r₁ r₂ => by
  cases r₁; cases r₂; exact PyProof.Rows.ge_int ⟨Grow.refl _, rfl⟩

theorem Et.or {a b : Expr} {x y : Bool} {pos : Pos} (ha : Et w A env s a x) (hb : x = false → Et w A env s b y) : Et w A env s (.BoolOp .Or [a, b] pos) (x || y) := fun s' g E => by
  refine isTrue_or (ha.then g fun s₁ g₁ => ?_)
  cases x with
  | true => exact ⟨g₁, rfl⟩
  | false =>
    refine isTrue_or ((hb rfl).then (g.trans g₁) fun s₂ g₂ => ?_)
    cases y with
    | true => exact ⟨g₁.trans g₂, rfl⟩
    | false => exact isTrue_or_nil ⟨g₁.trans g₂, rfl⟩
theorem Et.and {a b : Expr} {x y : Bool} {pos : Pos} (ha : Et w A env s a x) (hb : x = true → Et w A env s b y) : Et w A env s (.BoolOp .And [a, b] pos) (x && y) := fun s' g E => by
  refine isTrue_and (ha.then g fun s₁ g₁ => ?_)
  cases x with
  | false => exact ⟨g₁, rfl⟩
  | true =>
    refine isTrue_and ((hb rfl).then (g.trans g₁) fun s₂ g₂ => ?_)
    cases y with
    | false => exact ⟨g₁.trans g₂, rfl⟩
    | true => exact isTrue_and_nil ⟨g₁.trans g₂, rfl⟩
theorem Ev.ite {t a b : Expr} {c : Bool} {V W : PV} {pos : Pos} (ht : Et w A env s t c) (ha : c = true → Ev w A env own s a V) (hb : c = false → Ev w A env own s b W) : Ev w A env own s (.IfExp t a b pos) (if c then V else W) := fun s' g E => by
  refine wpAny_IfExp (ht.then g fun s₁ g₁ => ?_)
  cases c with
  | true => exact (ha rfl).then (g.trans g₁) fun v s₂ g₂ r => ⟨g₁.trans g₂, r⟩
  | false => exact (hb rfl).then (g.trans g₁) fun v s₂ g₂ r => ⟨g₁.trans g₂, r⟩
end
end Mine
end

-- Ev2
section
open PySem PySem.W PySem.Calls PyProof.Rows
namespace Mine

noncomputable def Ow (own : List Addr) (h : Heap) : Prop := ∀ a ∈ own, ∃ o, h.get? a = some o
theorem Ow.keeps {own : List Addr} {h h' : Heap} (x : Ow own h) (hk : ∀ b o, h.get? b = some o → h'.get? b = some o) : Ow own h' := fun a m => let ⟨o, e⟩ := x a m; ⟨o, hk a o e⟩
theorem Ow.new {own : List Addr} {h : Heap} (x : Ow own h) : h.objs.size ∉ own := fun m => let ⟨_, e⟩ := x _ m; Nat.lt_irrefl _ (Heap.lt_size e)
theorem Ow.fresh {own : List Addr} {h : Heap} (x : Ow own h) {a : Addr} (e : h.get? a = none) : a ∉ own := fun m => by
  obtain ⟨o, e'⟩ := x a m
  rw [e] at e'; cases e'

/-- where a name's value stands -/
noncomputable def LocV (own : List Addr) (h : Heap) (env : Env) (x : Str) (V : PV) : Prop :=
  (env.kindOf x = some .local ∧ ∃ m v, h.Ns env.locals m ∧ m x = some v ∧ VRep own h v V) ∨
  ((env.kindOf x = some .cell ∨ env.kindOf x = some .free) ∧ ∃ c v, env.cells.lookup x = some c ∧ h.IsCell c (some v) ∧ VRep own h v V)
theorem LocV.keeps {own : List Addr} {h h' : Heap} {env : Env} {x : Str} {V : PV} (l : LocV own h env x V) (hk : ∀ b o, h.get? b = some o → h'.get? b = some o) : LocV own h' env x V := by
  rcases l with ⟨k, m, v, n, e, r⟩ | ⟨k, c, v, e, ic, r⟩
  · exact .inl ⟨k, m, v, n.keeps hk, e, r.keeps hk⟩
  · exact .inr ⟨k, c, v, e, ic.keeps hk, r.keeps hk⟩
theorem LocV.weak {own : List Addr} {h : Heap} {env : Env} {x : Str} {V : PV} (l : LocV own h env x V) : LocV [] h env x V := by
  rcases l with ⟨k, m, v, n, e, r⟩ | ⟨k, c, v, e, ic, r⟩
  · exact .inl ⟨k, m, v, n, e, r.weak⟩
  · exact .inr ⟨k, c, v, e, ic, r.weak⟩

noncomputable def bnames : List (Str × Value) := [(Str.ofString "len", .builtin "len"), (Str.ofString "range", .type "range"), (Str.ofString "sum", .builtin "sum"), (Str.ofString "max", .builtin "max"), (Str.ofString "ord", .builtin "ord"), (Str.ofString "str", .type "str"), (Str.ofString "int", .type "int")]

/-- a def of the text's top -/
noncomputable def FnAt (mg : Str → Option Value) (h : Heap) (i : Nat) : Prop := ∃ a o fd, mg (nameAt i) = some (.ref a) ∧ h.get? a = some o ∧ o.data = .func fd ∧ fd.body = .stmts (bodyAt i) ∧ fd.scope = scopeAt i ∧
  fd.globals = mainGlobals ∧ fd.closure = [] ∧ fd.builtins = builtinsNs ∧ h.CodeRec fd.code fd.qualname ∧ (∀ vs : List Value, vs.length = (paramsAt i).length → bindArgs fd ⟨vs, []⟩ = pure ((paramsAt i).zip vs))
theorem FnAt.keeps {mg : Str → Option Value} {h h' : Heap} {i : Nat} (x : FnAt mg h i) (hk : ∀ b o, h.get? b = some o → h'.get? b = some o) : FnAt mg h' i :=
  let ⟨a, o, fd, e, g, d, r1, r2, r3, r4, r5, c, b⟩ := x
  ⟨a, o, fd, e, hk _ _ g, d, r1, r2, r3, r4, r5, c.keeps hk, b⟩

noncomputable def fnList : List Nat := [2, 3, 4, 5, 6, 13, 14, 67, 68, 70, 71, 72, 73, 74, 75, 76, 77, 78, 79, 80]
/-- the ints at the top -/
noncomputable def iconsts : List (Str × Int) := [(Str.ofString "FTP_PORT", 21), (Str.ofString "ENDMARKER", 0), (Str.ofString "NT_OFFSET", 256), (Str.ofString "GREATER", 21), (Str.ofString "GREATEREQUAL", 30), (Str.ofString "RIGHTSHIFT", 34), (Str.ofString "RIGHTSHIFTEQUAL", 45)]

noncomputable def exTab : List (Str × Int) := [(⟨#[33]⟩, 54), (⟨#[33, 61]⟩, 28), (⟨#[37]⟩, 24), (⟨#[37, 61]⟩, 40), (⟨#[38]⟩, 19), (⟨#[38, 61]⟩, 41), (⟨#[40]⟩, 7), (⟨#[41]⟩, 8), (⟨#[42]⟩, 16), (⟨#[42, 42]⟩, 35), (⟨#[42, 42, 61]⟩, 46), (⟨#[42, 61]⟩, 38), (⟨#[43]⟩, 14), (⟨#[43, 61]⟩, 36), (⟨#[44]⟩, 12), (⟨#[45]⟩, 15), (⟨#[45, 61]⟩, 37), (⟨#[45, 62]⟩, 51), (⟨#[46]⟩, 23), (⟨#[46, 46, 46]⟩, 52), (⟨#[47]⟩, 17), (⟨#[47, 47]⟩, 47), (⟨#[47, 47, 61]⟩, 48), (⟨#[47, 61]⟩, 39), (⟨#[58]⟩, 11), (⟨#[58, 61]⟩, 53), (⟨#[59]⟩, 13), (⟨#[60]⟩, 20), (⟨#[60, 60]⟩, 33), (⟨#[60, 60, 61]⟩, 44), (⟨#[60, 61]⟩, 29), (⟨#[61]⟩, 22), (⟨#[61, 61]⟩, 27), (⟨#[62]⟩, 21), (⟨#[62, 61]⟩, 30), (⟨#[62, 62]⟩, 34), (⟨#[62, 62, 61]⟩, 45), (⟨#[64]⟩, 49), (⟨#[64, 61]⟩, 50), (⟨#[91]⟩, 9), (⟨#[93]⟩, 10), (⟨#[94]⟩, 32), (⟨#[94, 61]⟩, 43), (⟨#[123]⟩, 25), (⟨#[124]⟩, 18), (⟨#[124, 61]⟩, 42), (⟨#[125]⟩, 26), (⟨#[126]⟩, 31)]
noncomputable def exD : List (PyData × PyData) := exTab.map fun p => (.str p.1, .int p.2)

noncomputable def excB : List Value := [.type "Exception", .type "BaseException", .type "object"]
structure GF (w : World) (mg mb : Str → Option Value) (h : Heap) : Prop where
  g : h.Ns mainGlobals mg
  b : h.Ns builtinsNs mb
  nl : h.NoLimit
  bn : ∀ p ∈ bnames, mg p.1 = none ∧ mb p.1 = some p.2
  fn : ∀ i ∈ fnList, FnAt mg h i
  ic : ∀ p ∈ iconsts, ∃ t, mg p.1 = some (.int p.2 t)
  crlf : ∃ t, mg (Str.ofString "CRLF") = some (.str ⟨#[13, 10]⟩ t)
  tab : ∃ a, mg (Str.ofString "EXACT_TOKEN_TYPES") = some (.ref a) ∧ StrTab PR w h a exD
  er : ∃ C, OwnClsQ (Str.ofString "error_reply") C excB "Exception.__new__" mg h
theorem GF.keeps {w : World} {mg mb : Str → Option Value} {h h' : Heap} (x : GF w mg mb h) (hk : ∀ b o, h.get? b = some o → h'.get? b = some o) : GF w mg mb h' :=
  ⟨x.g.keeps hk, x.b.keeps hk, x.nl.keeps hk, x.bn, fun i m => (x.fn i m).keeps hk, x.ic, x.crlf, let ⟨a, e, T⟩ := x.tab; ⟨a, e, T.keep hk⟩, let ⟨C, O⟩ := x.er; ⟨C, O.keeps hk⟩⟩

structure Cx (w : World) (mg mb : Str → Option Value) (A : Around) (env : Env) (own : List Addr) (ρ : List (Str × PV)) (names : List (Str × NameKind)) (s : Shared) : Prop where
  fn : env.scope.kind = .function
  gl : env.globals = mainGlobals
  bu : env.builtins = builtinsNs
  tk : 0 < s.toks
  G : GF w mg mb s.heap
  ow : Ow own s.heap
  gk : ∀ x, names.lookup x = some .globalImplicit → env.kindOf x = some .globalImplicit
  ck : ∀ x, (names.lookup x = some .cell ∨ names.lookup x = some .free) → (env.kindOf x = some .cell ∨ env.kindOf x = some .free) ∧ ∃ c, env.cells.lookup x = some c
  bd : ∀ p ∈ ρ, LocV own s.heap env p.1 p.2

section
variable {w : World} {mg mb : Str → Option Value} {A : Around} {env : Env} {own : List Addr} {ρ : List (Str × PV)} {names : List (Str × NameKind)} {s : Shared}

theorem Cx.grow {s' : Shared} (c : Cx w mg mb A env own ρ names s) (g : Grow s s') : Cx w mg mb A env own ρ names s' :=
  ⟨c.fn, c.gl, c.bu, Nat.lt_of_lt_of_le c.tk g.2, c.G.keeps g.keep, c.ow.keeps g.keep, c.gk, c.ck, fun p m => (c.bd p m).keeps g.keep⟩

theorem Ev.weak {e : Expr} {V : PV} (x : Ev w A env own s e V) : Ev w A env [] s e V := fun s' g E => x.then g fun v s₁ g₁ r => ⟨g₁, r.weak⟩

theorem Ev.loc {x : Str} {V : PV} {pos : Pos} (hf : env.scope.kind = .function) (l : LocV own s.heap env x V) (hd : (x == Str.ofString "__debug__") = false) (hn : (x == Str.ofString "__classdict__") = false) :
    Ev w A env own s (.Name x pos) V := fun s' g E => by
  refine wpAny_Name ?_ hd
  rcases l.keeps g.keep with ⟨k, m, v, n, e, r⟩ | ⟨k, c, v, e, ic, r⟩
  · exact wpAny_loadName_local hf k n e ⟨Grow.refl _, r⟩
  · rcases k with k | k
    · exact wpAny_loadName_cell hf k e ic ⟨Grow.refl _, r⟩
    · exact wpAny_loadName_free hf k e ic ⟨Grow.refl _, r⟩ hn
theorem Ev.name {x : Str} {V : PV} {pos : Pos} (c : Cx w mg mb A env own ρ names s) (hm : (x, V) ∈ ρ) (hd : ((x == Str.ofString "__debug__") || (x == Str.ofString "__classdict__")) = false := by decide +kernel) :
    Ev w A env own s (.Name x pos) V := by
  rw [Bool.or_eq_false_iff] at hd
  exact Ev.loc c.fn (c.bd _ hm) hd.1 hd.2

/-- a name of the top -/
theorem Cx.glob {x : Str} {v : Value} {pos : Pos} {Q : Value → Shared → Prop} {E : Value → Shared → Prop} (c : Cx w mg mb A env own ρ names s) (hk : names.lookup x = some .globalImplicit) (hv : mg x = some v) (hd : (x == Str.ofString "__debug__") = false)
    (h : Q v s) : wpAny (model PR w) A (eval (.Name x pos) env) Q E s :=
  Name_function_global c.fn (c.gk _ hk) (loadGlobal_global (env := env) (by rw [c.gl]; exact c.G.g) hv h) hd
theorem Cx.bltin {x : Str} {v : Value} {pos : Pos} {Q : Value → Shared → Prop} {E : Value → Shared → Prop} (c : Cx w mg mb A env own ρ names s) (hk : names.lookup x = some .globalImplicit) (hm : mg x = none) (hv : mb x = some v) (hd : (x == Str.ofString "__debug__") = false)
    (h : Q v s) : wpAny (model PR w) A (eval (.Name x pos) env) Q E s :=
  Name_function_global c.fn (c.gk _ hk) (loadGlobal_builtin (env := env) (by rw [c.gl]; exact c.G.g) hm (by rw [c.bu]; exact c.G.b) hv h) hd
theorem Ev.gint {x : Str} {i : Int} {pos : Pos} (c : Cx w mg mb A env own ρ names s) (hm : (x, i) ∈ iconsts) (hk : (names.lookup x == some .globalImplicit && !(x == Str.ofString "__debug__")) = true := by decide +kernel) : Ev w A env own s (.Name x pos) (.int i) := fun s' g E => by
  rw [Bool.and_eq_true, Bool.not_eq_true', beq_iff_eq] at hk
  obtain ⟨t, e⟩ := c.G.ic _ hm
  exact (c.grow g).glob hk.1 e hk.2 ⟨Grow.refl _, .int⟩
theorem Ev.crlf {pos : Pos} (c : Cx w mg mb A env own ρ names s) (hk : names.lookup (Str.ofString "CRLF") = some .globalImplicit := by decide +kernel) : Ev w A env own s (.Name (Str.ofString "CRLF") pos) (.str ⟨#[13, 10]⟩) := fun s' g E => by
  obtain ⟨t, e⟩ := c.G.crlf
  exact (c.grow g).glob hk e (by decide +kernel) ⟨Grow.refl _, .str⟩

-- calls
noncomputable def Evs (w : World) (A : Around) (env : Env) (own : List Addr) (s : Shared) (es : List Expr) (Vs : List PV) : Prop := ∀ pos s', Grow s s' → ∀ E : Value → Shared → Prop,
  wpAny (model PR w) A (spliced (backTo pos (starEach es env))) (fun vs s'' => Grow s' s'' ∧ VReps own s''.heap vs Vs) E s'
theorem Evs.nil : Evs w A env own s [] [] := fun _ _ _ _ => args_nil ⟨Grow.refl _, .nil⟩
theorem Evs.cons {e : Expr} {es : List Expr} {V : PV} {Vs : List PV} (h : Ev w A env own s e V) (hs : Evs w A env own s es Vs) (he : starEach (e :: es) env = (false, eval e env) :: starEach es env := by rfl) : Evs w A env own s (e :: es) (V :: Vs) := fun pos s' g E => by
  refine args_cons (h.then g fun v s₁ g₁ r => ?_) he
  exact wpAny_mono (hs pos s₁ (g.trans g₁) E) (fun vs s₂ h₂ => ⟨g₁.trans h₂.1, .cons (r.keeps h₂.1.keep) h₂.2⟩) (fun _ _ e => e)

/-- what a call of f upon Vs hands back -/
noncomputable def Ct (w : World) (mg mb : Str → Option Value) (A : Around) (own : List Addr) (f : Value) (Vs : List PV) (R : PV) : Prop := ∀ s vs (E : Value → Shared → Prop), GF w mg mb s.heap → 0 < s.toks → Ow own s.heap → VReps own s.heap vs Vs →
  wpAny (model PR w) A (call f vs) (fun r s' => Grow s s' ∧ VRep own s'.heap r R) E s

theorem Ev.call_bi {x : Str} {id : String} {e : Expr} {es : List Expr} {p pos : Pos} {Vs : List PV} {R : PV} (c : Cx w mg mb A env own ρ names s) (hs : Evs w A env own s (e :: es) Vs) (hc : Ct w mg mb A own (.builtin id) Vs R) (hm : (x, .builtin id) ∈ bnames)
    (hk : (names.lookup x == some .globalImplicit && !(x == Str.ofString "__debug__")) = true := by decide +kernel) (he : starEach (e :: es) env = (false, eval e env) :: starEach es env := by rfl) (hpl : ((backTo pos (starEach es env)).any fun x => x.fst) = false := by rfl) :
    Ev w A env own s (.Call (.Name x p) (e :: es) [] pos) R := fun s' g E => by
  rw [Bool.and_eq_true, Bool.not_eq_true', beq_iff_eq] at hk
  have c' := c.grow g
  refine Call_ (c'.bltin hk.1 (c'.G.bn _ hm).1 (c'.G.bn _ hm).2 hk.2 ?_)
  refine PyProof.Rows.callWith_builtin1 (wpAny_mono (hs pos s' g E) (fun vs s₁ h₁ => ?_) (fun _ _ e => e)) he hpl
  have c₁ := c'.grow h₁.1
  exact wpAny_mono (hc s₁ vs E c₁.G c₁.tk c₁.ow h₁.2) (fun r s₂ h₂ => ⟨h₁.1.trans h₂.1, h₂.2⟩) (fun _ _ e => e)
theorem Ev.call_ty {x : Str} {T : String} {e : Expr} {es : List Expr} {p pos : Pos} {Vs : List PV} {R : PV} (c : Cx w mg mb A env own ρ names s) (hs : Evs w A env own s (e :: es) Vs) (hc : Ct w mg mb A own (.type T) Vs R) (hm : (x, .type T) ∈ bnames)
    (hk : (names.lookup x == some .globalImplicit && !(x == Str.ofString "__debug__")) = true := by decide +kernel) (he : starEach (e :: es) env = (false, eval e env) :: starEach es env := by rfl) (hpl : ((backTo pos (starEach es env)).any fun x => x.fst) = false := by rfl) :
    Ev w A env own s (.Call (.Name x p) (e :: es) [] pos) R := fun s' g E => by
  rw [Bool.and_eq_true, Bool.not_eq_true', beq_iff_eq] at hk
  have c' := c.grow g
  refine Call_ (c'.bltin hk.1 (c'.G.bn _ hm).1 (c'.G.bn _ hm).2 hk.2 ?_)
  refine PyProof.Rows.callWith_type1 (wpAny_mono (hs pos s' g E) (fun vs s₁ h₁ => ?_) (fun _ _ e => e)) he hpl
  have c₁ := c'.grow h₁.1
  exact wpAny_mono (hc s₁ vs E c₁.G c₁.tk c₁.ow h₁.2) (fun r s₂ h₂ => ⟨h₁.1.trans h₂.1, h₂.2⟩) (fun _ _ e => e)

/-- a def's contract: whatever calls it, with k frames to spare -/
noncomputable def CtF (w : World) (mg mb : Str → Option Value) (i k : Nat) (Vs : List PV) (R : PV) : Prop := ∀ (A : Around) (own : List Addr) (a : Addr), Room A k → mg (nameAt i) = some (.ref a) → Ct w mg mb A own (.ref a) Vs R

/-- a def that may run while an exception is handled -/
noncomputable def CtQ (w : World) (mg mb : Str → Option Value) (i k : Nat) (Vs : List PV) (R : PV) : Prop := ∀ (A : Around) (own : List Addr) (a : Addr), RoomQ A k → mg (nameAt i) = some (.ref a) → Ct w mg mb A own (.ref a) Vs R
theorem CtQ.toF {i k : Nat} {Vs : List PV} {R : PV} (h : CtQ w mg mb i k Vs R) : CtF w mg mb i k Vs R := fun A own a r => h A own a r.toRoomQ

theorem Ev.call_defG {i : Nat} {e : Expr} {es : List Expr} {x : Str} {p pos : Pos} {Vs : List PV} {R : PV} (c : Cx w mg mb A env own ρ names s) (hs : Evs w A env own s (e :: es) Vs) (hc : ∀ a, mg (nameAt i) = some (.ref a) → Ct w mg mb A own (.ref a) Vs R) (hx : x = nameAt i) (hi : i ∈ fnList)
    (hk : (names.lookup x == some .globalImplicit && !(x == Str.ofString "__debug__")) = true := by decide +kernel) (he : starEach (e :: es) env = (false, eval e env) :: starEach es env := by rfl) :
    Ev w A env own s (.Call (.Name x p) (e :: es) [] pos) R := fun s' g E => by
  subst hx
  rw [Bool.and_eq_true, Bool.not_eq_true', beq_iff_eq] at hk
  have c' := c.grow g
  obtain ⟨a, o, fd, hv, ho, hd, -⟩ := c'.G.fn i hi
  refine Call_ (c'.glob hk.1 hv hk.2 ?_)
  refine callWith_def_at ho hd (wpAny_mono (hs pos s' g E) (fun vs s₁ h₁ => ?_) (fun _ _ e => e)) he
  have c₁ := c'.grow h₁.1
  refine ⟨h₁.1.keep _ _ ho, ?_⟩
  exact wpAny_mono (hc a hv s₁ vs E c₁.G c₁.tk c₁.ow h₁.2) (fun r s₂ h₂ => ⟨h₁.1.trans h₂.1, h₂.2⟩) (fun _ _ e => e)

theorem Ev.call_def {i k : Nat} {e : Expr} {es : List Expr} {x : Str} {p pos : Pos} {Vs : List PV} {R : PV} (c : Cx w mg mb A env own ρ names s) (hs : Evs w A env own s (e :: es) Vs) (hc : CtF w mg mb i k Vs R) (hr : Room A k) (hx : x = nameAt i) (hi : i ∈ fnList)
    (hk : (names.lookup x == some .globalImplicit && !(x == Str.ofString "__debug__")) = true := by decide +kernel) (he : starEach (e :: es) env = (false, eval e env) :: starEach es env := by rfl) :
    Ev w A env own s (.Call (.Name x p) (e :: es) [] pos) R :=
  Ev.call_defG c hs (fun a hv => hc A own a hr hv) hx hi hk he
end
end Mine
end

-- Ev3
section
open PySem PySem.W PySem.Calls PyProof.Rows
namespace Mine

section
variable {w : World} {mg mb : Str → Option Value} {A : Around} {env : Env} {own : List Addr} {ρ : List (Str × PV)} {names : List (Str × NameKind)} {s : Shared}

theorem none_of_ge {h : Heap} {a : Addr} (l : h.objs.size ≤ a) : h.get? a = none := by
  cases e : h.get? a with
  | none => rfl
  | some o' => exact absurd (Heap.lt_size e) (Nat.not_lt.mpr l)

/-- a walk over plain items -/
structure WalkIs (w : World) (A : Around) (own : List Addr) (s₁ : Shared) (its : List PV) (I : Addr) (fp : List Addr) (P : Nat → Value → Prop) (St : Nat → Heap → Prop) (s₂ : Shared) : Prop where
  W : Walks PR w A I fp [I] its.length P St
  st : St 0 s₂.heap
  lt : ∀ b ∈ fp, b < s₂.heap.objs.size
  new : s₁.heap.get? I = none
  off : ∀ b ∈ fp, b ∉ own ∧ ∃ o, s₂.heap.get? b = some o ∧ IsVal o
  item : ∀ i v, i < its.length → P i v → ∀ h, (∀ b o, IsVal o → b ∉ own → s₁.heap.get? b = some o → h.get? b = some o) → ∃ V, its[i]? = some V ∧ VRep own h v V
  ex : ∀ i h, St i h → ∃ o, h.get? I = some o ∧ IsVal o
  nolet : ∀ (target : Expr) (v : Value) (Q : Unit → Shared → Prop) (E : Value → Shared → Prop) (s : Shared) (i : Nat), St i s.heap → Q () s → wpAny (model PR w) A (letOwnedTupleGo target (.ref I) v) Q E s

noncomputable def Itr (w : World) (A : Around) (own : List Addr) (s : Shared) (v : Value) (its : List PV) : Prop := ∀ (Q : Value → Shared → Prop) (E : Value → Shared → Prop),
  (∀ I fp P St s₂, Grow s s₂ → WalkIs w A own s its I fp P St s₂ → Q (.ref I) s₂) → wpAny (model PR w) A (pyIter v) Q E s

theorem nolet_of {target : Expr} {v : Value} {Q : Unit → Shared → Prop} {E : Value → Shared → Prop} {s : Shared} {I : Addr} {o : Obj} {T : String} (hg : s.heap.get? I = some o) (hc : o.cls = .type T)
    (hT : (["enumerate", "zip", "dict_itemiterator", "dict_reverseitemiterator", "odict_iterator", "itertools.zip_longest", "itertools.pairwise"] : List String).contains T = false) (h : Q () s) :
    wpAny (model PR w) A (letOwnedTupleGo target (.ref I) v) Q E s := by
  unfold letOwnedTupleGo
  split
  · cases v <;> first
      | exact wpAny_pure h
      | (refine wpAny_bind (wpAny_load hg ?_)
         rw [hc]
         cases o.data <;> first
           | exact wpAny_pure h
           | (dsimp only; rw [hT]; exact wpAny_pure h))
  · cases v <;> first
      | exact wpAny_pure h
      | (refine wpAny_bind (wpAny_load hg ?_)
         rw [hc]
         cases o.data <;> first
           | exact wpAny_pure h
           | (dsimp only; rw [hT]; exact wpAny_pure h))
  · exact wpAny_pure h

theorem Itr.list {a : Addr} {vs : List Value} {n : Nat} {l : List PV} (hh : A.handled = none) (g : s.heap.get? a = some (listObj vs n)) (ho : a ∉ own) (hw : Ow own s.heap) (r : VReps own s.heap vs l) : Itr w A own s (.ref a) l := fun Q E h => by
  have hl : s.heap.IsList a vs.toArray := ⟨_, g, rfl, _, rfl⟩
  have hne : a ≠ s.heap.objs.size := Nat.ne_of_lt (Heap.lt_size g)
  have e : vs.toArray.size = l.length := by simp [r.length]
  refine wpAny_pyIter_list hl (h _ [s.heap.objs.size, a] (fun i v => vs.toArray[i]? = some v) (fun i h => h.IsListIter s.heap.objs.size a i ∧ h.IsList a vs.toArray) _ Grow.push ⟨?_, ?_, ?_, none_of_ge (Nat.le_refl _), ?_, ?_, ?_, ?_⟩)
  · rw [← e]; exact Walks.list hh _ _ hne _
  · exact ⟨⟨_, Heap.get?_push_size _ rfl, rfl, rfl⟩, hl.at fun o e => Heap.get?_push_of_some _ e⟩
  · intro b hb
    simp only [Heap.size_push]
    rcases List.mem_cons.mp hb with rfl | hb
    · exact Nat.lt_succ_self _
    · rw [List.mem_singleton] at hb; subst hb; exact Nat.lt_succ_of_lt (Heap.lt_size g)
  · intro b hb
    rcases List.mem_cons.mp hb with rfl | hb
    · exact ⟨hw.new, _, Heap.get?_push_size _ rfl, .inr ⟨_, rfl⟩⟩
    · rw [List.mem_singleton] at hb; subst hb; exact ⟨ho, _, Heap.get?_push_of_some _ g, .inl ⟨_, _, rfl⟩⟩
  · intro i v hi hv h hk
    have hv' : vs[i]? = some v := by simpa using hv
    obtain ⟨v', e1, r1⟩ := r.get (List.getElem?_eq_getElem hi)
    rw [hv'] at e1; cases e1
    exact ⟨_, List.getElem?_eq_getElem hi, r1.move hk (fun _ _ x => x)⟩
  · intro i h st
    obtain ⟨o, ho, hc, d⟩ := st.1
    exact ⟨o, ho, .inr ⟨_, d⟩⟩
  · intro target v Q E s' i st hq
    obtain ⟨o, ho, hc, _⟩ := st.1
    exact nolet_of ho hc (by decide) hq

theorem Itr.tup {a : Addr} {vs : List Value} {n : Nat} {l : List PV} (hh : A.handled = none) (g : s.heap.get? a = some (tupObj vs n)) (ho : a ∉ own) (hw : Ow own s.heap) (r : VReps own s.heap vs l) : Itr w A own s (.ref a) l := fun Q E h => by
  have hl : s.heap.IsTuple a vs.toArray := ⟨_, g, rfl, _, rfl⟩
  have hne : a ≠ s.heap.objs.size := Nat.ne_of_lt (Heap.lt_size g)
  have e : vs.toArray.size = l.length := by simp [r.length]
  refine wpAny_pyIter_tuple hl (h _ [s.heap.objs.size, a] (fun i v => vs.toArray[i]? = some v) (fun i h => h.IsTupleIter s.heap.objs.size a i ∧ h.IsTuple a vs.toArray) _ Grow.push ⟨?_, ?_, ?_, none_of_ge (Nat.le_refl _), ?_, ?_, ?_, ?_⟩)
  · rw [← e]; exact Walks.tuple hh _ _ hne _
  · exact ⟨⟨_, Heap.get?_push_size _ rfl, rfl, rfl⟩, let ⟨o, x, r⟩ := hl; ⟨o, Heap.get?_push_of_some _ x, r⟩⟩
  · intro b hb
    simp only [Heap.size_push]
    rcases List.mem_cons.mp hb with rfl | hb
    · exact Nat.lt_succ_self _
    · rw [List.mem_singleton] at hb; subst hb; exact Nat.lt_succ_of_lt (Heap.lt_size g)
  · intro b hb
    rcases List.mem_cons.mp hb with rfl | hb
    · exact ⟨hw.new, _, Heap.get?_push_size _ rfl, .inr ⟨_, rfl⟩⟩
    · rw [List.mem_singleton] at hb; subst hb; exact ⟨ho, _, Heap.get?_push_of_some _ g, .inl ⟨_, _, rfl⟩⟩
  · intro i v hi hv h hk
    have hv' : vs[i]? = some v := by simpa using hv
    obtain ⟨v', e1, r1⟩ := r.get (List.getElem?_eq_getElem hi)
    rw [hv'] at e1; cases e1
    exact ⟨_, List.getElem?_eq_getElem hi, r1.move hk (fun _ _ x => x)⟩
  · intro i h st
    obtain ⟨o, ho, hc, d⟩ := st.1
    exact ⟨o, ho, .inr ⟨_, d⟩⟩
  · intro target v Q E s' i st hq
    obtain ⟨o, ho, hc, _⟩ := st.1
    exact nolet_of ho hc (by decide) hq

noncomputable def rngItems (lo hi st : Int) : List Int := (List.range (Builtin.Range.rangeSize lo hi st).toNat).map fun (i : Nat) => lo + (i : Int) * st
theorem Itr.rng {a : Addr} {lo hi st : Int} {t u v : Tok} (hh : A.handled = none) (g : IsRange s.heap a lo hi st t u v) (hw : Ow own s.heap) (hsm : Builtin.Range.small lo hi st = true) (h0 : 0 ≤ Builtin.Range.rangeSize lo hi st) :
    Itr w A own s (.ref a) ((rngItems lo hi st).map .int) := fun Q E h => by
  have hlen : ((rngItems lo hi st).map PV.int).length = (Builtin.Range.rangeSize lo hi st).toNat := by simp [rngItems]
  refine wpAny_pyIter_range g hsm (h _ [s.heap.objs.size] (fun i v => ∃ t, v = .int (lo + i * st) t)
    (fun i h => IsRangeIter h s.heap.objs.size (lo + (i : Nat) * st) (((Builtin.Range.rangeSize lo hi st).toNat : Int) - (i : Nat)) st) _ Grow.push ⟨?_, ?_, ?_, none_of_ge (Nat.le_refl _), ?_, ?_, ?_, ?_⟩)
  · rw [hlen]; exact Walks.range hh _ _ _ _
  · show (s.heap.push _).get? _ = _
    rw [Heap.get?_push_size _ rfl]
    simp [rawInt, Int.toNat_of_nonneg h0]
  · intro b hb
    rw [List.mem_singleton] at hb; subst hb
    simp only [Heap.size_push]
    exact Nat.lt_succ_self _
  · intro b hb
    rw [List.mem_singleton] at hb; subst hb
    exact ⟨hw.new, _, Heap.get?_push_size _ rfl, .inr ⟨_, rfl⟩⟩
  · rintro i v hi ⟨t, rfl⟩ h hk
    rw [hlen] at hi
    exact ⟨.int (lo + i * st), by simp [rngItems, hi], .int⟩
  · intro i h st
    exact ⟨_, st, .inr ⟨_, rfl⟩⟩
  · intro target v Q E s' i st hq
    exact nolet_of st rfl (by decide) hq

noncomputable def strItems (x : Str) : List PV := x.cps.toList.map fun c => .str ⟨#[c]⟩
theorem Itr.str {x : Str} {t : Tok} (hh : A.handled = none) (hw : Ow own s.heap) : Itr w A own s (.str x t) (strItems x) := fun Q E h => by
  have hlen : (strItems x).length = x.cps.size := by simp [strItems]
  have key : ∀ (ty : String), (["enumerate", "zip", "dict_itemiterator", "dict_reverseitemiterator", "odict_iterator", "itertools.zip_longest", "itertools.pairwise"] : List String).contains ty = false →
      Walks PR w A s.heap.objs.size [s.heap.objs.size] [s.heap.objs.size] x.cps.size (SignAt x) (fun i h => h.IsStrIter s.heap.objs.size ty x t i) →
      Q (.ref s.heap.objs.size) { s with heap := s.heap.push { cls := .type ty, data := .fields #[.str x t, .int 0 0] } } := fun ty hT W => by
    refine h _ [s.heap.objs.size] (SignAt x) (fun i h => h.IsStrIter s.heap.objs.size ty x t i) _ Grow.push ⟨?_, ?_, ?_, none_of_ge (Nat.le_refl _), ?_, ?_, ?_, ?_⟩
    · rw [hlen]; exact W
    · exact ⟨_, Heap.get?_push_size _ rfl, rfl, rfl⟩
    · intro b hb
      rw [List.mem_singleton] at hb; subst hb
      simp only [Heap.size_push]
      exact Nat.lt_succ_self _
    · intro b hb
      rw [List.mem_singleton] at hb; subst hb
      exact ⟨hw.new, _, Heap.get?_push_size _ rfl, .inr ⟨_, rfl⟩⟩
    · rintro i v hi ⟨c, u, e, rfl⟩ h hk
      exact ⟨.str ⟨#[c]⟩, by simp [strItems, e], .str⟩
    · intro i h st
      obtain ⟨o, ho, hc, d⟩ := st
      exact ⟨o, ho, .inr ⟨_, d⟩⟩
    · intro target v Q E s' i st hq
      obtain ⟨o, ho, hc, _⟩ := st
      exact nolet_of ho hc hT hq
  cases ha : x.cps.all (· < 128)
  · exact wpAny_pyIter_wide ha (key _ (by decide) (Walks.strWide hh _ x t))
  · exact wpAny_pyIter_ascii ha (key _ (by decide) (Walks.strAscii hh _ x t))

/-- the items of a plain value -/
inductive Its : PV → List PV → Prop
  | list {l : List PV} : Its (.list l) l
  | tup {l : List PV} : Its (.tup l) l
  | rng {lo hi st : Int} : Builtin.Range.small lo hi st = true → 0 ≤ Builtin.Range.rangeSize lo hi st → Its (.rng lo hi st) ((rngItems lo hi st).map .int)
  | str {x : Str} : Its (.str x) (strItems x)
theorem Itr.of {V : PV} {its : List PV} {v : Value} (hh : A.handled = none) (hw : Ow own s.heap) (r : VRep own s.heap v V) (i : Its V its) : Itr w A own s v its := by
  cases i with
  | list => cases r with | list g o r => exact Itr.list hh g o hw r
  | tup => cases r with | tup g o r => exact Itr.tup hh g o hw r
  | rng h1 h2 => cases r with | rng g o => exact Itr.rng hh g hw h1 h2
  | str => cases r; exact Itr.str hh hw
end
end Mine
end

-- Ev4
section
open PySem PySem.W PySem.Calls PyProof.Rows
namespace Mine

section
variable {w : World} {mg mb : Str → Option Value} {A : Around} {env : Env} {own : List Addr} {ρ : List (Str × PV)} {names : List (Str × NameKind)} {s : Shared}

/-- a block's env, cells of its own too -/
noncomputable def blockEnv (scope : Scope) (cl : List (Str × Addr)) (C : Addr) (env : Env) : Env :=
  { scope := relabel scope env, locals := C, globals := env.globals, cells := cellsFrom (C + 1) scope.names cl, qual := env.qual, func := none, code := env.code, frame := env.frame, builtins := env.builtins }

theorem cellsFrom_mem : ∀ (ns : List (Str × NameKind)) (n : Nat) (acc : List (Str × Addr)) (x : Str × Addr), x ∈ cellsFrom n ns acc → x ∈ acc ∨ (x.1, NameKind.cell) ∈ ns
  | [], n, acc, x, h => .inl h
  | (name, kind) :: r, n, acc, x, h => by
    unfold cellsFrom at h
    split at h
    · rename_i hk
      rcases cellsFrom_mem r _ _ _ h with h | h
      · rcases List.mem_cons.mp h with rfl | h
        · rw [eq_of_beq hk]; exact .inr List.mem_cons_self
        · exact .inl h
      · exact .inr (List.mem_cons_of_mem _ h)
    · rcases cellsFrom_mem r _ _ _ h with h | h
      · exact .inl h
      · exact .inr (List.mem_cons_of_mem _ h)
theorem cellsFrom_acc : ∀ (ns : List (Str × NameKind)) (n : Nat) (acc : List (Str × Addr)) (x : Str × Addr), x ∈ acc → x ∈ cellsFrom n ns acc
  | [], n, acc, x, h => h
  | (name, kind) :: r, n, acc, x, h => by
    unfold cellsFrom
    split
    · exact cellsFrom_acc r _ _ _ (List.mem_cons_of_mem _ h)
    · exact cellsFrom_acc r _ _ _ h
theorem cellsFrom_own : ∀ (ns : List (Str × NameKind)) (n : Nat) (acc : List (Str × Addr)) (x : Str), (x, NameKind.cell) ∈ ns → ∃ c, (x, c) ∈ cellsFrom n ns acc
  | (name, kind) :: r, n, acc, x, h => by
    unfold cellsFrom
    rcases List.mem_cons.mp h with h | h
    · cases h
      exact ⟨n, cellsFrom_acc r _ _ _ List.mem_cons_self⟩
    · split
      · exact cellsFrom_own r _ _ _ h
      · exact cellsFrom_own r _ _ _ h
theorem cellsFrom_ge : ∀ (ns : List (Str × NameKind)) (n : Nat) (acc : List (Str × Addr)) (x : Str × Addr), x ∈ cellsFrom n ns acc → x ∈ acc ∨ n ≤ x.2
  | [], n, acc, x, h => .inl h
  | (name, kind) :: r, n, acc, x, h => by
    unfold cellsFrom at h
    split at h
    · rcases cellsFrom_ge r _ _ _ h with h | h
      · rcases List.mem_cons.mp h with rfl | h
        · exact .inr (Nat.le_refl _)
        · exact .inl h
      · exact .inr (Nat.le_of_succ_le h)
    · exact cellsFrom_ge r _ _ _ h
/-- a lookup by a name that all the pairs of that name agree upon -/
theorem lookup_of_all {α : Type} : ∀ {l : List (Str × α)} {n : Str} {c : α}, (n, c) ∈ l → (∀ c', (n, c') ∈ l → c' = c) → l.lookup n = some c
  | (k, v) :: r, n, c, hm, hu => by
    rw [List.lookup_cons]
    cases hb : n == k with
    | true =>
      have : k = n := (eq_of_beq hb).symm
      subst this
      rw [hu v List.mem_cons_self]
    | false =>
      rcases List.mem_cons.mp hm with h | h
      · cases h; simp at hb
      · exact lookup_of_all h fun c' h' => hu c' (List.mem_cons_of_mem _ h')

/-- the closure of a block: the cells of its free names -/
theorem closureFor_some {scope : Scope} (hf : ∀ n, (n, NameKind.free) ∈ scope.names → ∃ c, env.cells.lookup n = some c) :
    ∃ cl, closureFor scope env = pure cl ∧ (∀ n c, (n, c) ∈ cl → (n, NameKind.free) ∈ scope.names ∧ env.cells.lookup n = some c) ∧ (∀ n, (n, NameKind.free) ∈ scope.names → ∃ c, (n, c) ∈ cl) := by
  have key : ∀ (ns : List (Str × NameKind)) (acc : List (Str × Addr)), (∀ n, (n, NameKind.free) ∈ ns → ∃ c, env.cells.lookup n = some c) →
      ∃ cl, (forIn ns acc (fun (x : Str × NameKind) (r : List (Str × Addr)) => (if (x.2 == NameKind.free) = true then (do let y ← cellOf env x.1; pure (ForInStep.yield ((x.1, y) :: r))) else pure (ForInStep.yield r) : Sem (ForInStep (List (Str × Addr)))))) = pure cl ∧
        (∀ n c, (n, c) ∈ cl → (n, c) ∈ acc ∨ ((n, NameKind.free) ∈ ns ∧ env.cells.lookup n = some c)) ∧ (∀ x ∈ acc, x ∈ cl) ∧ (∀ n, (n, NameKind.free) ∈ ns → ∃ c, (n, c) ∈ cl) := by
    intro ns
    induction ns with
    | nil => intro acc _; exact ⟨acc, rfl, fun n c h => .inl h, fun _ h => h, fun n h => by simp at h⟩
    | cons p r ih =>
      obtain ⟨name, kind⟩ := p
      intro acc hf
      rw [List.forIn_cons]
      by_cases hk : (kind == NameKind.free) = true
      · have : kind = .free := eq_of_beq hk
        subst this
        obtain ⟨c, hc⟩ := hf name List.mem_cons_self
        obtain ⟨cl, e, h1, h2, h3⟩ := ih ((name, c) :: acc) fun n h => hf n (List.mem_cons_of_mem _ h)
        refine ⟨cl, ?_, fun n c' h => ?_, fun x h => h2 x (List.mem_cons_of_mem _ h), fun n h => ?_⟩
        · have e1 : cellOf env name = pure c := by unfold cellOf; rw [hc]
          simp only [e1, pure_bind]
          exact e
        · rcases h1 n c' h with h | h
          · rcases List.mem_cons.mp h with h | h
            · cases h; exact .inr ⟨List.mem_cons_self, hc⟩
            · exact .inl h
          · exact .inr ⟨List.mem_cons_of_mem _ h.1, h.2⟩
        · rcases List.mem_cons.mp h with h | h
          · cases h; exact ⟨c, h2 _ List.mem_cons_self⟩
          · exact h3 n h
      · obtain ⟨cl, e, h1, h2, h3⟩ := ih acc fun n h => hf n (List.mem_cons_of_mem _ h)
        refine ⟨cl, ?_, fun n c' h => ?_, h2, fun n h => ?_⟩
        · simp only [if_neg hk, pure_bind]
          exact e
        · rcases h1 n c' h with h | h
          · exact .inl h
          · exact .inr ⟨List.mem_cons_of_mem _ h.1, h.2⟩
        · rcases List.mem_cons.mp h with h | h
          · cases h; simp at hk
          · exact h3 n h
  obtain ⟨cl, e, h1, _, h3⟩ := key scope.names [] hf
  refine ⟨cl, ?_, fun n c h => ?_, h3⟩
  · unfold closureFor
    exact (congrArg (fun t : Sem (List (Str × Addr)) => t >>= fun cs => pure cs) e).trans rfl
  · rcases h1 n c h with h | h
    · simp at h
    · exact h

theorem block_env {scope : Scope} {cl : List (Str × Addr)} {Q : Env → Shared → Prop} {E : Value → Shared → Prop}
    (h : Q (newEnv scope s.heap.objs.size env.globals (cellsFrom (s.heap.objs.size + 1) scope.names cl) env.qual none .none (some env) builtinsNs)
      { s with heap := pushCells (s.heap.push { cls := .type "dict", data := .dict #[] }) scope.names }) :
    wpAny (model PR w) A (newFunctionEnv scope env.globals cl [] env.qual none .none (some env)) Q E s := by
  simp only [newFunctionEnv, Option.isSome_some, if_true]
  refine wpAny_bind (wpAny_alloc ?_)
  refine wpAny_bind (wpAny_layCells _ (fun name kind cells => by cases hkc : kind == NameKind.cell <;> simp) _ _ _ _ ?_)
  rw [show ({ s with heap := s.heap.push { cls := .type "dict", data := .dict #[] } } : Shared).heap.objs.size = s.heap.objs.size + 1 from Heap.size_push ..]
  rw [List.forIn_nil]
  exact wpAny_bind (wpAny_pure (wpAny_pure h))

theorem newCells : ∀ (ns : List (Str × NameKind)) (h : Heap) (acc : List (Str × Addr)) (x : Str × Addr), x ∈ cellsFrom h.objs.size ns acc → x ∈ acc ∨ ((pushCells h ns).IsCell x.2 none ∧ h.objs.size ≤ x.2)
  | [], h, acc, x, hx => .inl hx
  | (name, kind) :: r, h, acc, x, hx => by
    unfold cellsFrom at hx
    unfold pushCells
    split at hx
    · rename_i hk
      rw [if_pos hk]
      have e : (h.push { cls := .type "cell", data := .cell none }).objs.size = h.objs.size + 1 := Heap.size_push ..
      rw [← e] at hx
      rcases newCells r _ _ _ hx with hx | ⟨h1, h2⟩
      · rcases List.mem_cons.mp hx with rfl | hx
        · exact .inr ⟨⟨_, pushCells_keeps r _ _ _ (Heap.get?_push_size _ rfl), rfl⟩, Nat.le_refl _⟩
        · exact .inl hx
      · exact .inr ⟨h1, by omega⟩
    · rename_i hk
      rw [if_neg hk]
      exact newCells r _ _ _ hx

theorem lookup_relabel (scope : Scope) (env : Env) (x : Str) : (relabel scope env).names.lookup x = (scope.names.lookup x).map fun k => if (k == NameKind.free && env.scope.kind == .function && env.kindOf x == some .cell) then NameKind.cell else k := by
  unfold relabel
  dsimp only
  induction scope.names with
  | nil => rfl
  | cons p r ih =>
    obtain ⟨n, k⟩ := p
    rw [List.map_cons, List.lookup_cons]
    by_cases hx : x = n
    · subst hx
      show List.lookup x ((if (k == NameKind.free && env.scope.kind == .function && env.kindOf x == some .cell) = true then (x, NameKind.cell) else (x, k)) :: _) = _
      by_cases hc : (k == NameKind.free && env.scope.kind == .function && env.kindOf x == some .cell) = true
      · rw [if_pos hc]
        simp only [List.lookup_cons, beq_self_eq_true, Option.map_some]
        rw [if_pos hc]
      · rw [if_neg hc]
        simp only [List.lookup_cons, beq_self_eq_true, Option.map_some]
        rw [if_neg hc]
    · have hb : (x == n) = false := by simpa using hx
      show List.lookup x ((if (k == NameKind.free && env.scope.kind == .function && env.kindOf n == some .cell) = true then (n, NameKind.cell) else (n, k)) :: _) = _
      by_cases hc : (k == NameKind.free && env.scope.kind == .function && env.kindOf n == some .cell) = true
      · rw [if_pos hc]
        simp only [List.lookup_cons, hb]
        exact ih
      · rw [if_neg hc]
        simp only [List.lookup_cons, hb]
        exact ih

theorem mem_of_lookup' {α : Type} {l : List (Str × α)} {n : Str} {c : α} (h : l.lookup n = some c) : (n, c) ∈ l := mem_of_lookup h
theorem lookup_some_of_mem {α : Type} : ∀ {l : List (Str × α)} {n : Str} {c : α}, (n, c) ∈ l → ∃ c', l.lookup n = some c'
  | (k, v) :: r, n, c, h => by
    rw [List.lookup_cons]
    cases hb : n == k with
    | true => exact ⟨v, rfl⟩
    | false =>
      rcases List.mem_cons.mp h with h | h
      · cases h; simp at hb
      · exact lookup_some_of_mem h
theorem nodup_snd : ∀ {l : List (Str × NameKind)}, (l.map (·.1)).Nodup → ∀ {n k k'}, (n, k) ∈ l → (n, k') ∈ l → k = k'
  | [], _, n, k, k', h, _ => by simp at h
  | (m, j) :: r, hn, n, k, k', h, h' => by
    rw [List.map_cons, List.nodup_cons] at hn
    rcases List.mem_cons.mp h with h | h <;> rcases List.mem_cons.mp h' with h' | h'
    · cases h; cases h'; rfl
    · cases h; exact absurd (List.mem_map_of_mem (f := (·.1)) h') hn.1
    · cases h'; exact absurd (List.mem_map_of_mem (f := (·.1)) h) hn.1
    · exact nodup_snd hn.2 h h'

/-- a block's env: what it needs of the scope and of the closure -/
structure Blk (w : World) (mg mb : Str → Option Value) (A : Around) (env : Env) (ρ : List (Str × PV)) (names : List (Str × NameKind)) (scope : Scope) (ρ' : List (Str × PV)) (x : Str) : Prop where
  kind : scope.kind = .function
  nd : (scope.names.map (·.1)).Nodup
  free : ∀ n, (n, NameKind.free) ∈ scope.names → names.lookup n = some .cell ∨ names.lookup n = some .free
  sub : ∀ q ∈ ρ', q ∈ ρ ∧ scope.names.lookup q.1 = some .free
  tgt : scope.names.lookup x = some .local ∨ scope.names.lookup x = some .cell

/-- the place that the target's store writes -/
noncomputable def tgtAt (scope : Scope) (cl : List (Str × Addr)) (C : Addr) (env : Env) (x : Str) : Addr :=
  if scope.names.lookup x = some .local then C else ((cellsFrom (C + 1) scope.names cl).lookup x).getD C
/-- the block's own places stand -/
structure BlkAt (scope : Scope) (cl : List (Str × Addr)) (C : Addr) (env : Env) (x : Str) (h : Heap) : Prop where
  ns : ∃ m, h.Ns C m
  cell : scope.names.lookup x = some .cell → ∃ c v, (cellsFrom (C + 1) scope.names cl).lookup x = some c ∧ h.IsCell c v ∧ C < c
theorem BlkAt.keeps {scope : Scope} {cl : List (Str × Addr)} {C : Addr} {env : Env} {x : Str} {h h' : Heap} (b : BlkAt scope cl C env x h) (hk : ∀ b, b = C ∨ b = tgtAt scope cl C env x → ∀ o, h.get? b = some o → h'.get? b = some o) : BlkAt scope cl C env x h' := by
  obtain ⟨⟨m, n⟩, c⟩ := b
  refine ⟨⟨m, n.at' fun o e => hk _ (.inl rfl) o e⟩, fun hx => ?_⟩
  obtain ⟨c, v, e, ⟨o, g, d⟩, l⟩ := c hx
  exact ⟨c, v, e, ⟨o, hk c (.inr (by unfold tgtAt; rw [if_neg (by rw [hx]; decide), e]; rfl)) o g, d⟩, l⟩

theorem BlkAt.val {scope : Scope} {cl : List (Str × Addr)} {C : Addr} {env : Env} {x : Str} {h : Heap} (b : BlkAt scope cl C env x h) (ht : scope.names.lookup x = some .local ∨ scope.names.lookup x = some .cell) :
    ∃ o, h.get? (tgtAt scope cl C env x) = some o ∧ ¬ IsVal o := by
  unfold tgtAt
  split
  · obtain ⟨m, o, es, ep, g, d, -⟩ := b.ns
    refine ⟨o, g, ?_⟩
    rintro (⟨xs, n, e⟩ | ⟨vs, e⟩) <;> rw [d] at e <;> cases e
  · rename_i hl
    obtain ⟨c, v, e, ⟨o, g, d⟩, l⟩ := b.cell (ht.resolve_left hl)
    rw [e]
    refine ⟨o, g, ?_⟩
    rintro (⟨xs, n, e⟩ | ⟨vs, e⟩) <;> rw [d] at e <;> cases e

theorem store_block {scope : Scope} {cl : List (Str × Addr)} {C : Addr} {x : Str} {px : Pos} {v : Value} {V : PV} {Q : Unit → Shared → Prop} {E : Value → Shared → Prop} (hk : scope.kind = .function) (ht : scope.names.lookup x = some .local ∨ scope.names.lookup x = some .cell)
    (b : BlkAt scope cl C env x s.heap) (r : VRep own s.heap v V)
    (h : ∀ h' tk, Heap.SameBut (tgtAt scope cl C env x) s.heap h' → s.toks ≤ tk → BlkAt scope cl C env x h' → LocV own h' (blockEnv scope cl C env) x V → Q () { s with heap := h', toks := tk }) :
    wpAny (model PR w) A (assign (.Name x px) (blockEnv scope cl C env) v) Q E s := by
  refine wpAny_assign_Name ?_
  have hkx : (blockEnv scope cl C env).kindOf x = scope.names.lookup x := by
    show (relabel scope env).names.lookup x = _
    rw [lookup_relabel]
    rcases ht with e | e <;> rw [e] <;> rfl
  have hfn : (blockEnv scope cl C env).scope.kind = .function := hk
  obtain ⟨o, g, nv⟩ := b.val ht
  have mv : ∀ h', Heap.SameBut (tgtAt scope cl C env x) s.heap h' → VRep own h' v V := fun h' hs => r.move (fun b' o' iv _ e => (hs.2 b' (by rintro rfl; rw [g] at e; cases e; exact nv iv)).trans e) (fun _ _ z => z)
  by_cases hl : scope.names.lookup x = some .local
  · have hT : tgtAt scope cl C env x = C := if_pos hl
    obtain ⟨m, n⟩ := b.ns
    refine wpAny_storeName_local (env := blockEnv scope cl C env) (hkx.trans hl) n (fun h' n' hs => ?_) (by rw [hfn]; rfl)
    have hs' : Heap.SameBut (tgtAt scope cl C env x) s.heap h' := by rw [hT]; exact hs
    refine h h' _ hs' (Nat.le_succ _) ⟨⟨_, n'⟩, fun hc => ?_⟩ (.inl ⟨hkx.trans hl, _, v, n', if_pos rfl, mv _ hs'⟩)
    rw [hl] at hc; cases hc
  · have hc := ht.resolve_left hl
    obtain ⟨c, v₀, e, ic, l⟩ := b.cell hc
    have hT : tgtAt scope cl C env x = c := by unfold tgtAt; rw [if_neg hl, e]; rfl
    refine wpAny_storeName_cell (env := blockEnv scope cl C env) hfn (hkx.trans hc) e ic (fun h' ic' hs => ?_)
    have hs' : Heap.SameBut (tgtAt scope cl C env x) s.heap h' := by rw [hT]; exact hs
    obtain ⟨m, n⟩ := b.ns
    refine h h' s.toks hs' (Nat.le_refl _) ⟨⟨m, n.sameBut hs (Nat.ne_of_lt l)⟩, fun _ => ⟨c, _, e, ic', l⟩⟩ (.inr ⟨.inl (hkx.trans hc), c, v, e, ic', mv _ hs'⟩)
end
end Mine
end

-- Ev5
section
open PySem PySem.W PySem.Calls PyProof.Rows
namespace Mine

section
variable {w : World} {mg mb : Str → Option Value} {A : Around} {env : Env} {own : List Addr} {ρ : List (Str × PV)} {names : List (Str × NameKind)} {s : Shared}

theorem natLt {a b : Addr} (h : a < b) : @LT.lt Nat _ a b := h
theorem natLe {a b : Addr} (h : a ≤ b) : @LE.le Nat _ a b := h
theorem neNat {a b : Addr} (h : @Ne Nat a b) : a ≠ b := h
theorem leNat {a b : Addr} (h : @LE.le Nat _ a b) : a ≤ b := h
/-- a block's tests -/
noncomputable def Etl (w : World) (A : Around) (env : Env) (s : Shared) (ifs : List Expr) (b : Bool) : Prop := ∀ s', Grow s s' → ∀ E : Value → Shared → Prop,
  wpAny (model PR w) A (forIn ifs true fun c r => if r = true then do let ok ← isTrue c env (eval c env); pure (ForInStep.yield ok) else pure (ForInStep.yield r)) (fun ok s'' => Grow s' s'' ∧ ok = b) E s'
theorem Etl.nil : Etl w A env s [] true := fun _ _ _ => wpAny_tests_nil ⟨Grow.refl _, rfl⟩
theorem Etl.one {c : Expr} {b : Bool} (h : Et w A env s c b) : Etl w A env s [c] b := fun s' g E => wpAny_tests_one (h.then g fun s'' g' => ⟨g', rfl⟩)

/-- the context within a block -/
theorem Cx.block {scope : Scope} {ρ' : List (Str × PV)} {x : Str} {cl : List (Str × Addr)} {C : Addr} {s₁ s' : Shared} {own' : List Addr} {V : PV} (c : Cx w mg mb A env own ρ names s₁) (B : Blk w mg mb A env ρ names scope ρ' x)
    (hcl : ∀ n c, (n, c) ∈ cl → (n, NameKind.free) ∈ scope.names ∧ env.cells.lookup n = some c) (hcl' : ∀ n, (n, NameKind.free) ∈ scope.names → ∃ c, (n, c) ∈ cl)
    (g : Grow s₁ s') (ow : Ow own' s'.heap) (hsub : ∀ b, (s₁.heap.get? b).isSome = true → b ∉ own → b ∉ own') (l : LocV own' s'.heap (blockEnv scope cl C env) x V) :
    Cx w mg mb A (blockEnv scope cl C env) own' ((x, V) :: ρ') scope.names s' := by
  have hkf : ∀ n, scope.names.lookup n = some .free → (blockEnv scope cl C env).kindOf n = some .cell ∨ (blockEnv scope cl C env).kindOf n = some .free := fun n h => by
    show (relabel scope env).names.lookup n = _ ∨ (relabel scope env).names.lookup n = _
    rw [lookup_relabel, h]
    by_cases q : (NameKind.free == NameKind.free && env.scope.kind == .function && env.kindOf n == some .cell) = true
    · left; simp only [Option.map_some]; rw [if_pos q]
    · right; simp only [Option.map_some]; rw [if_neg q]
  have hko : ∀ n k, scope.names.lookup n = some k → k ≠ .free → (blockEnv scope cl C env).kindOf n = some k := fun n k h hk => by
    show (relabel scope env).names.lookup n = _
    rw [lookup_relabel, h]
    have q : ¬ (k == NameKind.free && env.scope.kind == .function && env.kindOf n == some .cell) = true := by
      have : (k == NameKind.free) = false := by simpa using hk
      simp [this]
    simp only [Option.map_some]; rw [if_neg q]
  have hlk : ∀ n, (n, NameKind.free) ∈ scope.names → ∃ c', env.cells.lookup n = some c' ∧ (blockEnv scope cl C env).cells.lookup n = some c' := fun n h => by
    obtain ⟨c', hc'⟩ := hcl' n h
    refine ⟨c', (hcl n c' hc').2, lookup_of_all (cellsFrom_acc _ _ _ _ hc') fun c'' h'' => ?_⟩
    rcases cellsFrom_mem _ _ _ _ h'' with q | q
    · have := (hcl n c'' q).2
      rw [(hcl n c' hc').2] at this; exact (Option.some.inj this).symm
    · have := nodup_snd B.nd h q; cases this
  refine ⟨B.kind, c.gl, c.bu, Nat.lt_of_lt_of_le c.tk g.2, c.G.keeps g.keep, ow, fun n h => hko n _ h (by decide), fun n h => ?_, fun q hq => ?_⟩
  · rcases h with h | h
    · refine ⟨.inl (hko n _ h (by decide)), ?_⟩
      obtain ⟨c', hc'⟩ := cellsFrom_own scope.names (C + 1) cl n (mem_of_lookup h)
      exact lookup_some_of_mem hc'
    · obtain ⟨c', _, e⟩ := hlk n (mem_of_lookup h)
      exact ⟨hkf n h, c', e⟩
  · rcases List.mem_cons.mp hq with rfl | hq
    · exact l
    · obtain ⟨hm, hf⟩ := B.sub q hq
      obtain ⟨c', e1, e2⟩ := hlk q.1 (mem_of_lookup hf)
      have hk := (c.ck q.1 (B.free q.1 (mem_of_lookup hf))).1
      rcases c.bd q hm with ⟨k, -⟩ | ⟨k, c'', v, e, ic, r⟩
      · rcases hk with hk | hk <;> rw [k] at hk <;> cases hk
      · rw [e1] at e; cases e
        exact .inr ⟨hkf q.1 hf, c', v, e2, ic.keeps g.keep, r.move (fun b o _ _ e => g.keep b o e) hsub⟩

theorem comp_block {α : Type} {inj : α → PV} {xs : List α} {elt iter : Expr} {ifs : List Expr} {x : Str} {px : Pos} {scope : Scope} {pos : Pos} {ρ' : List (Str × PV)} {cl : List (Str × Addr)} {s₁ s₂ : Shared} {I : Addr} {fp : List Addr} {P : Nat → Value → Prop} {St : Nat → Heap → Prop}
    {RR : Value → Addr → Result → Shared → Prop} {E : Value → Shared → Prop} (p : α → Bool) (f : α → PV)
    (c : Cx w mg mb A env own ρ names s₁) (B : Blk w mg mb A env ρ names scope ρ' x) (wi : WalkIs w A own s₁ (xs.map inj) I fp P St s₂) (g₁ : Grow s₁ s₂) (hsz : xs.length ≤ sizeLine)
    (hcl : ∀ n c, (n, c) ∈ cl → (n, NameKind.free) ∈ scope.names ∧ env.cells.lookup n = some c) (hcl' : ∀ n, (n, NameKind.free) ∈ scope.names → ∃ c, (n, c) ∈ cl)
    (hbody : ∀ a ∈ xs, ∀ own' s' env', Cx w mg mb A env' own' ((x, inj a) :: ρ') scope.names s' → Etl w A env' s' ifs (p a) ∧ (p a = true → Ev w A env' own' s' elt (f a)))
    (hRR : ∀ D C s' ys n, Grow s₁ s' → s₁.heap.get? D = none → s₁.heap.get? C = none → D ≠ C → (∃ m, s'.heap.Ns C m) → s'.heap.get? D = some (listObj ys n) → VReps own s'.heap ys ((xs.filter p).map f) → RR (.ref D) C (.ok .next) s') :
    wpAny (model PR w) A (newList []) (fun acc s₃ => wpAny (model PR w) A (newFunctionEnv scope env.globals cl [] env.qual none .none (some env)) (fun cenv s₄ =>
      codeAny (model PR w) A (.compStart (.ListComp elt [⟨.Name x px, iter, ifs, 0⟩] scope pos) 0 (.ref I) acc { cenv with scope := relabel scope env }) (RR acc cenv.locals) s₄) E s₃) E s₂ := by
  refine wpAny_newObj_type (block_env ?_)
  dsimp only
  generalize hH2 : s₂.heap.push { cls := .type "list", dict := none, data := .seq ([] : List Value).toArray } = H2
  have hC : H2.objs.size = s₂.heap.objs.size + 1 := by rw [← hH2, Heap.size_push]
  have ho₂ : ∀ a, s₂.heap.objs.size ≤ a → s₁.heap.get? a = none := fun a ha => by
    cases e : s₁.heap.get? a with
    | none => rfl
    | some o => exact absurd (Heap.lt_size (g₁.keep _ _ e)) (Nat.not_lt.mpr ha)
  generalize hD : s₂.heap.objs.size = D at hC ho₂
  have hDf : D ∉ fp := fun m => by have := natLt (wi.lt _ m); omega
  -- the state ahead of the loop
  generalize hCdef : H2.objs.size = C at hC
  have kp : ∀ b o, s₂.heap.get? b = some o → (pushCells (H2.push { cls := .type "dict", data := .dict #[] }) scope.names).get? b = some o := fun b o e =>
    pushCells_keeps _ _ b o (Heap.get?_push_of_some _ (hH2 ▸ Heap.get?_push_of_some _ e))
  have hDC : D ≠ C := neNat (by omega)
  have b₀ : BlkAt scope cl C env x (pushCells (H2.push { cls := .type "dict", data := .dict #[] }) scope.names) := by
    have hs : (H2.push { cls := .type "dict", data := .dict #[] }).objs.size = C + 1 := by rw [Heap.size_push, hCdef]
    refine ⟨⟨_, (hCdef ▸ Heap.Ns.new H2 (.type "dict")).keeps (pushCells_keeps _ _)⟩, fun hx => ?_⟩
    obtain ⟨c', hc'⟩ := cellsFrom_own scope.names (C + 1) cl x (mem_of_lookup hx)
    obtain ⟨c'', e⟩ := lookup_some_of_mem hc'
    have hm := mem_of_lookup e
    rw [← hs] at hm
    rcases newCells _ _ _ _ hm with q | ⟨q1, q2⟩
    · have := nodup_snd B.nd (hcl _ _ q).1 (mem_of_lookup hx); cases this
    · exact ⟨c'', _, e, q1, by rw [hs] at q2; exact q2⟩
  have hCf : ∀ b ∈ fp, b ≠ C ∧ b ≠ tgtAt scope cl C env x ∧ b ≠ D := fun b m => by
    have l := natLt (wi.lt _ m)
    refine ⟨neNat (by omega), ?_, neNat (by omega)⟩
    unfold tgtAt
    split
    · refine neNat ?_; omega
    · rename_i hl
      obtain ⟨c', v, e, -, l'⟩ := b₀.cell (B.tgt.resolve_left hl)
      have l' := natLt l'
      rw [e]; show @Ne Nat b c'; omega
  have hTD : tgtAt scope cl C env x ≠ D := by
    unfold tgtAt
    split
    · refine neNat ?_; omega
    · rename_i hl
      obtain ⟨c', v, e, -, l'⟩ := b₀.cell (B.tgt.resolve_left hl)
      have l' := natLt l'
      rw [e]; show @Ne Nat c' D; omega
  have hT₁ : s₁.heap.get? (tgtAt scope cl C env x) = none := by
    unfold tgtAt
    split
    · exact ho₂ _ (by omega)
    · rename_i hl
      obtain ⟨c', v, e, -, l'⟩ := b₀.cell (B.tgt.resolve_left hl)
      have l' := natLt l'
      rw [e]; exact ho₂ _ (by show @LE.le Nat _ D c'; omega)
  have hD₁ := ho₂ D (Nat.le_refl _)
  have hC₁ := ho₂ C (by omega)
  have old1 : ∀ {b o}, s₁.heap.get? b = some o → b ≠ I ∧ b ≠ D ∧ b ≠ C ∧ b ≠ tgtAt scope cl C env x := fun {b o} e =>
    ⟨(by rintro rfl; rw [wi.new] at e; cases e), (by rintro rfl; rw [hD₁] at e; cases e), (by rintro rfl; rw [hC₁] at e; cases e), (by rintro rfl; rw [hT₁] at e; cases e)⟩
  have loop : ∀ s₃ : Shared, s₃ = { s₂ with heap := pushCells (H2.push { cls := .type "dict", data := .dict #[] }) scope.names } →
      codeAny (model PR w) A (.compLoop (.ListComp elt [⟨.Name x px, iter, ifs, 0⟩] scope pos) 0 (.ref I) (.ref D) (blockEnv scope cl C env)) (RR (.ref D) C) s₃ := by
    rintro s₃ rfl
    have hIfp : I ∈ fp := wi.W.sub _ (List.mem_singleton.mpr rfl)
    have hDI : D ≠ I := by rintro rfl; exact hDf hIfp
    have hCI : C ≠ I := fun q => (hCf _ hIfp).1 q.symm
    have hTI : tgtAt scope cl C env x ≠ I := fun q => (hCf _ hIfp).2.1 q.symm
    refine codeAny_compLoop_tests (I := fun k s' => ∃ i ys n, i ≤ xs.length ∧ k = xs.length + 1 - i ∧ Grow s₁ s' ∧ St i s'.heap ∧ s'.heap.get? D = some (listObj ys n) ∧ VReps (I :: D :: own) s'.heap ys (((xs.take i).filter p).map f) ∧ BlkAt scope cl C env x s'.heap)
      (turn := ?turn) (n := xs.length + 1) (h := ?start)
    case start =>
      refine ⟨0, [], 0, Nat.zero_le _, rfl, g₁.trans (Grow.of (t := s₂.toks) kp (Nat.le_refl _)), wi.W.frame _ _ _ wi.st fun b _ o e => kp b o e, ?_, by simpa using VReps.nil, b₀⟩
      exact pushCells_keeps _ _ _ _ (Heap.get?_push_of_some _ (hH2 ▸ hD ▸ Heap.get?_push_size _ rfl))
    case turn =>
      rintro k s' ⟨i, ys, n, hi, rfl, ⟨⟨h', t', rfl, k'⟩, l'⟩, st, hD', hys, b⟩
      dsimp only at st hD' hys b
      have hxl : (xs.map inj).length = xs.length := by simp
      have hlys : ys.length ≤ i := by
        rw [hys.length]
        simp only [List.length_map]
        exact Nat.le_trans (List.length_filter_le _ _) (by rw [List.length_take]; omega)
      by_cases hlt : i < xs.length
      · refine grown (wi.W.item i _ _ _ (by rw [hxl]; exact hlt) st fun v h₁ tk₁ hPv st₁ hk₁ ht₁ => ?_)
        dsimp only at hk₁ ht₁ ⊢
        have ha := List.getElem?_eq_getElem hlt
        generalize hxa : xs[i] = a at ha
        have hmem : a ∈ xs := hxa ▸ List.getElem_mem hlt
        have k₁ : ∀ b o, s₁.heap.get? b = some o → h₁.get? b = some o := fun b o e => hk₁ b o (by simpa using (old1 e).1) (k' b o e)
        have r1 : VRep (I :: D :: own) h₁ v (inj a) := by
          obtain ⟨V', e2, r2⟩ := wi.item i v (by rw [hxl]; exact hlt) hPv s₁.heap (fun _ _ _ _ e => e)
          rw [List.getElem?_map, ha] at e2
          cases e2
          exact r2.move (fun b o _ _ e => k₁ b o e) (fun b hs ho hm => by
            rcases List.mem_cons.mp hm with rfl | hm
            · rw [wi.new] at hs; cases hs
            · rcases List.mem_cons.mp hm with rfl | hm
              · rw [hD₁] at hs; cases hs
              · exact ho hm)
        have b₁ : BlkAt scope cl C env x h₁ := b.keeps fun b' hb o e => hk₁ b' o (by
          rw [List.mem_singleton]
          rcases hb with rfl | rfl
          · exact hCI
          · exact hTI) e
        have hD₁' : h₁.get? D = some (listObj ys n) := hk₁ _ _ (by simpa using hDI) hD'
        refine store_block (s := { s₁ with heap := h₁, toks := tk₁ }) B.kind B.tgt b₁ r1 fun h₂ tk₂ hs₂ ht₂ b₂ l₂ => ?_
        dsimp only at hs₂ ht₂ ⊢
        have k₂ : ∀ b o, s₁.heap.get? b = some o → h₂.get? b = some o := fun b o e => (hs₂.2 b (old1 e).2.2.2).trans (k₁ b o e)
        have g₂ : Grow s₁ { s₁ with heap := h₂, toks := tk₂ } := Grow.of k₂ (Nat.le_trans l' (Nat.le_trans ht₁ ht₂))
        have hD₂ : h₂.get? D = some (listObj ys n) := (hs₂.2 D (Ne.symm hTD)).trans hD₁'
        have st₂ : St (i + 1) h₂ := wi.W.frame _ _ _ st₁ fun b hb o e => (hs₂.2 b (hCf b hb).2.1).trans e
        have ow₂ : Ow (I :: D :: own) h₂ := fun a m => by
          rcases List.mem_cons.mp m with rfl | m
          · obtain ⟨o, e, _⟩ := wi.ex _ _ st₂; exact ⟨o, e⟩
          · rcases List.mem_cons.mp m with rfl | m
            · exact ⟨_, hD₂⟩
            · exact (c.ow.keeps k₂) a m
        have hys₂ : VReps (I :: D :: own) h₂ ys (((xs.take i).filter p).map f) := hys.move (fun b' o iv hb e => by
            obtain ⟨ot, gt, nv⟩ := b₁.val B.tgt
            have e1 := hk₁ b' o (fun hm => hb (by rw [List.mem_singleton] at hm; subst hm; exact List.mem_cons_self)) e
            refine (hs₂.2 b' ?_).trans e1
            rintro rfl
            rw [gt] at e1; cases e1; exact nv iv) (fun _ _ z => z)
        have cx := c.block (own' := I :: D :: own) B hcl hcl' g₂ ow₂ (fun b hs ho hm => by
            rcases List.mem_cons.mp hm with rfl | hm
            · rw [wi.new] at hs; cases hs
            · rcases List.mem_cons.mp hm with rfl | hm
              · rw [hD₁] at hs; cases hs
              · exact ho hm) l₂
        obtain ⟨hb1, hb2⟩ := hbody a hmem _ _ _ cx
        refine wpAny_mono (hb1 _ (Grow.refl _) _) (fun ok s₃ h₃ => ?_) (fun _ _ e => e)
        obtain ⟨g₃, rfl⟩ := h₃
        have ht : (xs.take (i + 1)).filter p = (xs.take i).filter p ++ (if p a then [a] else []) := take_succ_filter p xs i a ha
        cases hpa : p a with
        | false =>
          simp only [Bool.false_eq_true, if_false]
          refine ⟨xs.length + 1 - (i + 1), by omega, i + 1, ys, n, hlt, rfl, g₂.trans g₃, wi.W.frame _ _ _ st₂ fun b _ o e => g₃.keep b o e, g₃.keep _ _ hD₂, ?_, b₂.keeps fun b _ o e => g₃.keep b o e⟩
          rw [ht, hpa]
          simpa using hys₂.keeps g₃.keep
        | true =>
          simp only [if_true]
          refine (hb2 hpa).then g₃ fun y s₄ g₄ r₄ => ?_
          obtain ⟨⟨h₄, t₄, e₄, k₄⟩, l₄⟩ := g₂.trans (g₃.trans g₄)
          have g₂₄ := g₃.trans g₄
          subst e₄
          have hD₄ : h₄.get? D = some (listObj ys n) := g₂₄.keep _ _ hD₂
          refine wpAny_list_append_plain (hsz := by rw [List.size_toArray]; exact Nat.le_trans hlys (Nat.le_trans hi hsz)) ⟨n, hD₄⟩ fun h₅ hl₅ hs₅ => ?_
          obtain ⟨n', hD₅⟩ := hl₅
          refine ⟨xs.length + 1 - (i + 1), by omega, i + 1, ys ++ [y], n', hlt, rfl, Grow.of (fun b o e => (hs₅.2 b (old1 e).2.1).trans (k₄ b o e)) l₄, ?_, ?_, ?_, ?_⟩
          · exact wi.W.frame _ _ _ st₂ fun b hb o e => (hs₅.2 b (hCf b hb).2.2).trans (g₂₄.keep b o e)
          · rw [hD₅]; simp
          · rw [ht, hpa]
            simp only [if_true, List.map_append, List.map_cons, List.map_nil]
            have mv : ∀ {vs ps}, VReps (I :: D :: own) h₄ vs ps → VReps (I :: D :: own) h₅ vs ps := fun r => r.move (fun b o _ hb e => (hs₅.2 b (by rintro rfl; simp at hb)).trans e) (fun _ _ z => z)
            exact mv ((hys₂.keeps g₂₄.keep).append (.cons r₄ .nil))
          · exact b₂.keeps fun b hb o e => (hs₅.2 b (by
              rcases hb with rfl | rfl
              · exact Ne.symm hDC
              · exact hTD)).trans (g₂₄.keep b o e)
      · have hin : i = xs.length := by omega
        subst hin
        refine grown (wi.W.done _ _ _ (by rw [hxl]; exact st) fun h₁ tk₁ hk₁ ht₁ => ?_)
        dsimp only at hk₁ ht₁ ⊢
        have k₁ : ∀ b o, s₁.heap.get? b = some o → h₁.get? b = some o := fun b o e => hk₁ b o (by simpa using (old1 e).1) (k' b o e)
        rw [List.take_length] at hys
        refine hRR D C _ ys n (Grow.of k₁ (Nat.le_trans l' ht₁)) hD₁ hC₁ hDC ?_ (hk₁ _ _ (by simpa using hDI) hD') ?_
        · exact (b.keeps (h' := h₁) fun b' hb o e => hk₁ b' o (by
            rw [List.mem_singleton]
            rcases hb with rfl | rfl
            · exact hCI
            · exact hTI) e).ns
        · exact hys.move (fun b o _ hb e => hk₁ b o (fun hm => hb (by rw [List.mem_singleton] at hm; subst hm; exact List.mem_cons_self)) e) (fun b _ hb hm => hb (List.mem_cons_of_mem _ (List.mem_cons_of_mem _ hm)))
  have l := loop _ rfl
  have hst : St 0 (pushCells (H2.push { cls := .type "dict", data := .dict #[] }) scope.names) := wi.W.frame _ _ _ wi.st fun b _ o e => kp b o e
  exact codeAny_compStart_list l (wi.W.self 0 _ _ _ hst l)
end
end Mine
end

-- Ev6
section
open PySem PySem.W PySem.Calls PyProof.Rows
namespace Mine

section
variable {w : World} {mg mb : Str → Option Value} {A : Around} {env : Env} {own : List Addr} {ρ : List (Str × PV)} {names : List (Str × NameKind)} {s : Shared}

theorem hnames_of {scope : Scope} (nd : (scope.names.map (·.1)).Nodup) : ∀ x ∈ scope.names, x.2 = .local → scope.names.lookup x.1 = some .local := fun x hx hl => by
  obtain ⟨n, k⟩ := x
  cases hl
  exact lookup_of_all hx fun k' h' => nodup_snd nd h' hx

theorem Ev.comp {α : Type} {inj : α → PV} {xs : List α} {S : PV} {elt iter : Expr} {ifs : List Expr} {x : Str} {px : Pos} {scope : Scope} {pos : Pos} {ρ' : List (Str × PV)} (p : α → Bool) (f : α → PV) (hh : A.handled = none)
    (c : Cx w mg mb A env own ρ names s) (hi : Ev w A env own s iter S) (hit : Its S (xs.map inj)) (hsz : xs.length ≤ sizeLine) (B : Blk w mg mb A env ρ names scope ρ' x)
    (hbody : ∀ a ∈ xs, ∀ own' s' env', Cx w mg mb A env' own' ((x, inj a) :: ρ') scope.names s' → Etl w A env' s' ifs (p a) ∧ (p a = true → Ev w A env' own' s' elt (f a)))
    (hs : ∀ x, foldedSetIterable iter env x = pure x := by intro _; rfl) :
    Ev w A env own s (.ListComp elt [⟨.Name x px, iter, ifs, 0⟩] scope pos) (.list ((xs.filter p).map f)) := fun s' g E => by
  have c' := c.grow g
  obtain ⟨cl, hcl, h1, h2⟩ := closureFor_some (env := env) (scope := scope) fun n h => (c'.ck n (B.free n h)).2
  rw [eval_ListComp]
  refine wpAny_comprehension_free (use := none) rfl hs hcl B.kind (hnames_of B.nd) ?_
  refine hi.then g fun v s₁ g₁ r => ?_
  have c₁ := c'.grow g₁
  refine Itr.of hh c₁.ow r hit _ _ fun I fp P St s₂ g₂ wi => ?_
  refine comp_block (RR := fun acc C => compPost (model PR w) A E none (fun v s'' => Grow s' s'' ∧ VRep own s''.heap v (.list ((xs.filter p).map f))) acc C) p f c₁ B wi g₂ hsz h1 h2 hbody ?_
  intro D C s₃ ys n g₃ hD hC hDC hn hl hys
  obtain ⟨m, hn⟩ := hn
  refine ⟨m, hn, fun h'' hs'' => ?_⟩
  have kk : ∀ b o, s₁.heap.get? b = some o → h''.get? b = some o := fun b o e => (hs''.2 b (by rintro rfl; rw [hC] at e; cases e)).trans (g₃.keep b o e)
  refine ⟨?_, ?_⟩
  · refine g₁.trans ?_
    obtain ⟨⟨h₃, t₃, rfl, k₃⟩, l₃⟩ := g₃
    exact Grow.of kk l₃
  · refine .list ((hs''.2 D hDC).trans hl) (c₁.ow.fresh hD) (hys.move (fun b o iv _ e => (hs''.2 b ?_).trans e) (fun _ _ z => z))
    rintro rfl
    obtain ⟨o', es, ep, g', d, -⟩ := hn
    rw [e] at g'; cases g'
    rcases iv with ⟨q1, q2, q3⟩ | ⟨q1, q2⟩ <;> rw [d] at * <;> contradiction
end
end Mine
end

-- Ev7
section
open PySem PySem.W PySem.Calls PyProof.Rows
namespace Mine

abbrev Opens := List (Str × Addr × List PV)
abbrev adrs (os : Opens) : List Addr := os.map (·.2.1)

section
variable {w : World} {mg mb : Str → Option Value} {A : Around} {env : Env} {own : List Addr} {ρ : List (Str × PV)} {names : List (Str × NameKind)} {s₀ : Base} {s : Shared} {os : Opens} {pn : List (Addr × Obj)} {ex : List Addr}

/-- where a def began; what names the callers' frames hold, of which the slots may turn -/
structure Base extends Shared where
  hid : List (Addr × (Str → Option Value)) := []
  dic : List (Addr × Obj) := []

/-- a def's frame: what its names hold; the lists that it still fills -/
structure Frm (w : World) (mg mb : Str → Option Value) (A : Around) (s₀ : Base) (env : Env) (own ex : List Addr) (pn : List (Addr × Obj)) (os : Opens) (ρ : List (Str × PV)) (names : List (Str × NameKind)) (s : Shared) : Prop where
  cx : Cx w mg mb A env (adrs os ++ (ex ++ own)) ρ names s
  kd : ∀ x, env.kindOf x = names.lookup x
  G₀ : GF w mg mb s₀.heap
  ow₀ : Ow own s₀.heap
  gr : Grow s₀.toShared s
  base : s₀.heap.objs.size ≤ env.locals
  ns : ∃ m, s.heap.Ns env.locals m
  cells : ∀ n c, env.cells.lookup n = some c → (∃ v, s.heap.IsCell c v) ∧ env.locals < c
  apart : env.cells.Pairwise fun x y => x.2 ≠ y.2
  ops : ∀ p ∈ os, env.kindOf p.1 = some .local ∧ (∃ m, s.heap.Ns env.locals m ∧ m p.1 = some (.ref p.2.1)) ∧ (∃ vs n, s.heap.get? p.2.1 = some (listObj vs n) ∧ VReps (adrs os ++ (ex ++ own)) s.heap vs p.2.2) ∧ s₀.heap.get? p.2.1 = none
  opd : (adrs os).Nodup
  pin : ∀ p ∈ pn, s.heap.get? p.1 = some p.2 ∧ IsVal p.2 ∧ p.1 ∉ adrs os ++ own
  exs : ∀ a ∈ ex, s₀.heap.get? a = none ∧ ∃ o, (a, o) ∈ pn
  hd : ∀ p ∈ s₀.hid, s.heap.Ns p.1 p.2 ∧ p.1 < s₀.heap.objs.size
  dc : ∀ p ∈ s₀.dic, s.heap.get? p.1 = some p.2 ∧ (∃ es ep, p.2.data = .dict es ep) ∧ p.1 ≠ env.locals

theorem Ns.uniq {h : Heap} {a : Addr} {m m' : Str → Option Value} (n : h.Ns a m) (n' : h.Ns a m') (x : Str) : m x = m' x := by
  obtain ⟨o, es, ep, g, d, -, f⟩ := n
  obtain ⟨o', es', ep', g', d', -, f'⟩ := n'
  rw [g] at g'; cases g'
  rw [d] at d'; cases d'
  rw [← f, ← f']

theorem Frm.grow {s' : Shared} (F : Frm w mg mb A s₀ env own ex pn os ρ names s) (g : Grow s s') : Frm w mg mb A s₀ env own ex pn os ρ names s' where
  cx := F.cx.grow g
  kd := F.kd
  G₀ := F.G₀
  ow₀ := F.ow₀
  gr := F.gr.trans g
  base := F.base
  ns := let ⟨m, n⟩ := F.ns; ⟨m, n.keeps g.keep⟩
  cells := fun n c e => let ⟨⟨v, ic⟩, l⟩ := F.cells n c e; ⟨⟨v, ic.keeps g.keep⟩, l⟩
  apart := F.apart
  ops := fun p hp => let ⟨k, ⟨m, n, e⟩, ⟨vs, j, g', r⟩, h⟩ := F.ops p hp; ⟨k, ⟨m, n.keeps g.keep, e⟩, ⟨vs, j, g.keep _ _ g', r.keeps g.keep⟩, h⟩
  opd := F.opd
  pin := fun p hp => let ⟨e, v, o⟩ := F.pin p hp; ⟨g.keep _ _ e, v, o⟩
  exs := F.exs
  hd := fun p hp => let ⟨n, l⟩ := F.hd p hp; ⟨n.keeps g.keep, l⟩
  dc := fun p hp => let ⟨e, d⟩ := F.dc p hp; ⟨g.keep _ _ e, d⟩

/-- fewer names -/
theorem Frm.sub {ρ' : List (Str × PV)} (F : Frm w mg mb A s₀ env own ex pn os ρ names s) (h : ∀ p ∈ ρ', p ∈ ρ) : Frm w mg mb A s₀ env own ex pn os ρ' names s :=
  { F with cx := { F.cx with bd := fun p hp => F.cx.bd p (h p hp) } }

/-- what a store into a name of the frame leaves -/
structure Stored (env : Env) (names : List (Str × NameKind)) (s₀ : Base) (s : Shared) (x : Str) (v : Value) (h' : Heap) (tk : Nat) : Prop where
  gr : Grow s₀.toShared { s with heap := h', toks := tk }
  kv : ∀ b o, IsVal o → s.heap.get? b = some o → h'.get? b = some o
  htk : s.toks ≤ tk
  ns : ∃ m, h'.Ns env.locals m
  cells : ∀ n c, env.cells.lookup n = some c → ∃ v, h'.IsCell c v
  oth : ∀ own' y V, y ≠ x → LocV own' s.heap env y V → LocV own' h' env y V
  opn : ∀ y a, y ≠ x → env.kindOf y = some .local → (∃ m, s.heap.Ns env.locals m ∧ m y = some (.ref a)) → ∃ m, h'.Ns env.locals m ∧ m y = some (.ref a)
  here : ∀ own' V, VRep own' s.heap v V → LocV own' h' env x V
  hereL : names.lookup x = some .local → ∃ m, h'.Ns env.locals m ∧ m x = some v
  but : ∃ T, Heap.SameBut T s.heap h' ∧ (T = env.locals ∨ env.cells.lookup x = some T)

theorem Frm.stored {x : Str} {v : Value} {Q : Unit → Shared → Prop} {E : Value → Shared → Prop} (F : Frm w mg mb A s₀ env own ex pn os ρ names s) (hx : names.lookup x = some .local ∨ names.lookup x = some .cell)
    (h : ∀ h' tk, Stored env names s₀ s x v h' tk → Q () { s with heap := h', toks := tk }) : wpAny (model PR w) A (storeName env x v) Q E s := by
  have hd : ∀ (h' : Heap) (T : Addr) (tk : Nat), Heap.SameBut T s.heap h' → env.locals ≤ T → s.toks ≤ tk → Grow s₀.toShared { s with heap := h', toks := tk } := by
    intro h' T tk hs hT htk
    have hTo : ∀ {b o}, s₀.heap.get? b = some o → b ≠ T := fun {b o} e => Nat.ne_of_lt (Nat.lt_of_lt_of_le (Heap.lt_size e) (Nat.le_trans F.base hT))
    obtain ⟨⟨h₁, t₁, rfl, k₁⟩, l₁⟩ := F.gr
    exact Grow.of (fun b o e => (hs.2 b (hTo e)).trans (k₁ b o e)) (Nat.le_trans l₁ htk)
  rcases hx with hx | hx
  · obtain ⟨m, n⟩ := F.ns
    refine wpAny_storeName_local ((F.kd x).trans hx) n (fun h' n' hs => ?_) (by rw [F.cx.fn]; rfl)
    obtain ⟨o, es, ep, g, d, -⟩ := id n
    have nv : ¬ IsVal o := by rintro (⟨xs, k, e⟩ | ⟨vs, e⟩) <;> rw [d] at e <;> cases e
    have kv : ∀ b o, IsVal o → s.heap.get? b = some o → h'.get? b = some o := fun b o' iv e => (hs.2 b (by rintro rfl; rw [g] at e; cases e; exact nv iv)).trans e
    refine h h' _ ⟨hd h' env.locals _ hs (Nat.le_refl _) (Nat.le_succ _), kv, Nat.le_succ _, ⟨_, n'⟩, fun nm c e => ?_, fun own' y V' hy l => ?_, fun y a hy k hm => ?_, fun own' V r => ?_, fun _ => ⟨_, n', if_pos rfl⟩, ⟨_, hs, .inl rfl⟩⟩
    · obtain ⟨⟨v, ic⟩, l⟩ := F.cells nm c e
      exact ⟨v, ic.sameBut hs (Nat.ne_of_gt l)⟩
    · rcases l with ⟨k, m', v', n'', e, r'⟩ | ⟨k, c, v', e, ic, r'⟩
      · exact .inl ⟨k, _, v', n', by rw [if_neg hy, Ns.uniq n n'']; exact e, r'.move (fun b o iv _ e => kv b o iv e) (fun _ _ z => z)⟩
      · exact .inr ⟨k, c, v', e, ic.sameBut hs (Nat.ne_of_gt (F.cells y c e).2), r'.move (fun b o iv _ e => kv b o iv e) (fun _ _ z => z)⟩
    · obtain ⟨m', n'', e⟩ := hm
      exact ⟨_, n', by rw [if_neg hy, Ns.uniq n n'']; exact e⟩
    · exact .inl ⟨(F.kd x).trans hx, _, v, n', if_pos rfl, r.move (fun b o iv _ e => kv b o iv e) (fun _ _ z => z)⟩
  · obtain ⟨c, hc⟩ := (F.cx.ck x (.inl hx)).2
    obtain ⟨⟨v₀, ic⟩, hl⟩ := F.cells x c hc
    refine wpAny_storeName_cell F.cx.fn ((F.kd x).trans hx) hc ic (fun h' ic' hs => ?_)
    obtain ⟨o, g, d⟩ := id ic
    have nv : ¬ IsVal o := by rintro (⟨xs, k, e⟩ | ⟨vs, e⟩) <;> rw [d] at e <;> cases e
    have kv : ∀ b o, IsVal o → s.heap.get? b = some o → h'.get? b = some o := fun b o' iv e => (hs.2 b (by rintro rfl; rw [g] at e; cases e; exact nv iv)).trans e
    obtain ⟨m, n⟩ := F.ns
    have n' := n.sameBut hs (Nat.ne_of_lt hl)
    refine h h' s.toks ⟨hd h' c _ hs (Nat.le_of_lt hl) (Nat.le_refl _), kv, Nat.le_refl _, ⟨_, n'⟩, fun nm c' e => ?_, fun own' y V' hy l => ?_, fun y a hy k hm => ?_, fun own' V r => ?_, fun q => (by rw [hx] at q; cases q), ⟨_, hs, .inr hc⟩⟩
    · obtain ⟨⟨v', ic''⟩, l⟩ := F.cells nm c' e
      by_cases hcc : c' = c
      · subst hcc; exact ⟨_, ic'⟩
      · exact ⟨v', ic''.sameBut hs hcc⟩
    · rcases l with ⟨k, m', v', n'', e, r'⟩ | ⟨k, c', v', e, ic'', r'⟩
      · exact .inl ⟨k, m', v', n''.sameBut hs (Nat.ne_of_lt hl), e, r'.move (fun b o iv _ e => kv b o iv e) (fun _ _ z => z)⟩
      · refine .inr ⟨k, c', v', e, ic''.sameBut hs ?_, r'.move (fun b o iv _ e => kv b o iv e) (fun _ _ z => z)⟩
        rintro rfl
        exact hy (name_of_addr F.apart (mem_of_lookup e) (mem_of_lookup hc))
    · obtain ⟨m', n'', e⟩ := hm
      exact ⟨m', n''.sameBut hs (Nat.ne_of_lt hl), e⟩
    · exact .inr ⟨.inl ((F.kd x).trans hx), c, v, hc, ic', r.move (fun b o iv _ e => kv b o iv e) (fun _ _ z => z)⟩

theorem Stored.old {x : Str} {v : Value} {h' : Heap} {tk : Nat} (S : Stored env names s₀ s x v h' tk) (F : Frm w mg mb A s₀ env own ex pn os ρ names s) {a : Addr} {m : Str → Option Value} (ha : a < s₀.heap.objs.size) (n : s.heap.Ns a m) : h'.Ns a m := by
  obtain ⟨T, hs, hT⟩ := S.but
  refine n.sameBut hs (Nat.ne_of_lt (Nat.lt_of_lt_of_le ha ?_))
  rcases hT with rfl | hT
  · exact F.base
  · exact Nat.le_trans F.base (Nat.le_of_lt (F.cells _ _ hT).2)
theorem Stored.dic {x : Str} {v : Value} {h' : Heap} {tk : Nat} (S : Stored env names s₀ s x v h' tk) (F : Frm w mg mb A s₀ env own ex pn os ρ names s) {p : Addr × Obj} (hp : p ∈ s₀.dic) : h'.get? p.1 = some p.2 := by
  obtain ⟨T, hs, hT⟩ := S.but
  obtain ⟨e, ⟨es, ep, d⟩, n⟩ := F.dc p hp
  refine (hs.2 _ ?_).trans e
  rcases hT with rfl | hT
  · exact n
  · rintro q
    obtain ⟨⟨v, o, g, dd⟩, -⟩ := F.cells _ _ hT
    rw [q, g] at e; cases e
    rw [dd] at d; cases d
/-- a store into a name of the frame: the other names stand -/
theorem Frm.afterStore {x : Str} {v : Value} {V : PV} {ρ' : List (Str × PV)} {h' : Heap} {tk : Nat} (F : Frm w mg mb A s₀ env own ex pn os ρ names s)
    (ho : ∀ p ∈ os, p.1 ≠ x) (hρ : ∀ p ∈ ρ', p ∈ ρ ∧ p.1 ≠ x) (r : VRep (adrs os ++ (ex ++ own)) s.heap v V) (S : Stored env names s₀ s x v h' tk) :
    Frm w mg mb A s₀ env own ex pn os ((x, V) :: ρ') names { s with heap := h', toks := tk } := by
  refine { cx := ⟨F.cx.fn, F.cx.gl, F.cx.bu, Nat.lt_of_lt_of_le F.cx.tk S.htk, F.G₀.keeps S.gr.keep, ?_, F.cx.gk, F.cx.ck, ?_⟩, kd := F.kd, G₀ := F.G₀, ow₀ := F.ow₀, gr := S.gr, base := F.base, ns := S.ns, cells := fun n c e => ⟨S.cells n c e, (F.cells n c e).2⟩, apart := F.apart, ops := ?_, opd := F.opd, pin := fun p hp => let ⟨e, v, o⟩ := F.pin p hp; ⟨S.kv _ _ v e, v, o⟩, exs := F.exs, hd := fun p hp => let ⟨n, l⟩ := F.hd p hp; ⟨S.old F l n, l⟩, dc := fun p hp => ⟨S.dic F hp, (F.dc p hp).2⟩ }
  · intro a ha
    rcases List.mem_append.mp ha with ha | ha
    · obtain ⟨p, hp, e⟩ := List.mem_map.mp ha
      obtain ⟨-, -, ⟨vs, n, g, -⟩, -⟩ := F.ops p hp
      rw [e] at g
      exact ⟨_, S.kv _ _ (.inl ⟨_, _, rfl⟩) g⟩
    · rcases List.mem_append.mp ha with ha | ha
      · obtain ⟨-, o, ho⟩ := F.exs a ha
        obtain ⟨e, v, -⟩ := F.pin _ ho
        exact ⟨_, S.kv _ _ v e⟩
      · exact (F.ow₀.keeps S.gr.keep) a ha
  · intro p hp
    rcases List.mem_cons.mp hp with rfl | hp
    · exact S.here _ _ r
    · exact S.oth _ _ _ (hρ p hp).2 (F.cx.bd p (hρ p hp).1)
  · intro p hp
    obtain ⟨k, hm, ⟨vs, j, g', r⟩, hn⟩ := F.ops p hp
    exact ⟨k, S.opn _ _ (ho p hp) k hm, ⟨vs, j, S.kv _ _ (.inl ⟨_, _, rfl⟩) g', r.move (fun b o iv _ e => S.kv b o iv e) (fun _ _ z => z)⟩, hn⟩

theorem Frm.store {x : Str} {v : Value} {V : PV} {ρ' : List (Str × PV)} {Q : Unit → Shared → Prop} {E : Value → Shared → Prop} (F : Frm w mg mb A s₀ env own ex pn os ρ names s) (hx : names.lookup x = some .local ∨ names.lookup x = some .cell)
    (ho : ∀ p ∈ os, p.1 ≠ x) (hρ : ∀ p ∈ ρ', p ∈ ρ ∧ p.1 ≠ x) (r : VRep (adrs os ++ (ex ++ own)) s.heap v V)
    (h : ∀ s', Frm w mg mb A s₀ env own ex pn os ((x, V) :: ρ') names s' → Q () s') : wpAny (model PR w) A (storeName env x v) Q E s := by
  exact F.stored hx fun h' tk S => h _ (F.afterStore ho hρ r S)

/-- a new list, still to be filled -/
theorem Frm.storeOpen {x : Str} {ρ' : List (Str × PV)} {Q : Unit → Shared → Prop} {E : Value → Shared → Prop} (F : Frm w mg mb A s₀ env own ex pn os ρ names s) (hx : names.lookup x = some .local)
    (ho : ∀ p ∈ os, p.1 ≠ x) (hρ : ∀ p ∈ ρ', p ∈ ρ ∧ p.1 ≠ x)
    (h : ∀ a s', Frm w mg mb A s₀ env own ex pn ((x, a, []) :: os) ρ' names s' → Q () s') : wpAny (model PR w) A (storeName env x (.ref s.heap.objs.size)) Q E { s with heap := s.heap.push (listObj [] 0) } := by
  have F₁ := F.grow (Grow.push (o := listObj [] 0))
  have hnew : s.heap.get? s.heap.objs.size = none := none_of_ge (Nat.le_refl _)
  have hat : (s.heap.push (listObj [] 0)).get? s.heap.objs.size = some (listObj [] 0) := Heap.get?_push_size _ rfl
  generalize s.heap.objs.size = a at *
  have up : ∀ b, (s.heap.get? b).isSome = true → b ∉ adrs os ++ (ex ++ own) → b ∉ a :: (adrs os ++ (ex ++ own)) := fun b hs ho hm => by
    rcases List.mem_cons.mp hm with rfl | hm
    · rw [hnew] at hs; cases hs
    · exact ho hm
  have n₀ : s₀.heap.get? a = none := by
    cases e : s₀.heap.get? a with
    | none => rfl
    | some o => have := F.gr.keep _ _ e; rw [hnew] at this; cases this
  refine F₁.stored (.inl hx) fun h' tk S => h a _ { cx := ⟨F.cx.fn, F.cx.gl, F.cx.bu, Nat.lt_of_lt_of_le F.cx.tk S.htk, F.G₀.keeps S.gr.keep, ?_, F.cx.gk, F.cx.ck, ?_⟩, kd := F.kd, G₀ := F.G₀, ow₀ := F.ow₀, gr := S.gr, base := F.base, ns := S.ns, cells := fun n c e => ⟨S.cells n c e, (F₁.cells n c e).2⟩, apart := F.apart, ops := ?_, opd := ?_, pin := ?_, exs := F.exs, hd := fun p hp => let ⟨n, l⟩ := F₁.hd p hp; ⟨S.old F₁ l n, l⟩, dc := fun p hp => ⟨S.dic F₁ hp, (F₁.dc p hp).2⟩ }
  · intro b hb
    rcases List.mem_cons.mp hb with rfl | hb
    · exact ⟨_, S.kv _ _ (.inl ⟨_, _, rfl⟩) hat⟩
    · rcases List.mem_append.mp hb with hb | hb
      · obtain ⟨p, hp, e⟩ := List.mem_map.mp hb
        obtain ⟨-, -, ⟨vs, n, g, -⟩, -⟩ := F₁.ops p hp
        rw [e] at g
        exact ⟨_, S.kv _ _ (.inl ⟨_, _, rfl⟩) g⟩
      · rcases List.mem_append.mp hb with hb | hb
        · obtain ⟨-, o, ho⟩ := F₁.exs b hb
          obtain ⟨e, v, -⟩ := F₁.pin _ ho
          exact ⟨_, S.kv _ _ v e⟩
        · exact (F.ow₀.keeps S.gr.keep) b hb
  · intro p hp
    refine S.oth _ _ _ (hρ p hp).2 ?_
    have kp : ∀ b o, s.heap.get? b = some o → (s.heap.push (listObj [] 0)).get? b = some o := fun b o e => Heap.get?_push_of_some _ e
    rcases F.cx.bd p (hρ p hp).1 with ⟨k, m', v', n'', e, r'⟩ | ⟨k, c, v', e, ic, r'⟩
    · exact .inl ⟨k, m', v', n''.keeps kp, e, r'.move (fun b o _ _ e => kp b o e) up⟩
    · exact .inr ⟨k, c, v', e, ic.keeps kp, r'.move (fun b o _ _ e => kp b o e) up⟩
  · intro p hp
    rcases List.mem_cons.mp hp with rfl | hp
    · exact ⟨(F.kd _).trans hx, S.hereL hx, ⟨[], 0, S.kv _ _ (.inl ⟨_, _, rfl⟩) hat, .nil⟩, n₀⟩
    · obtain ⟨k, hm, ⟨vs, j, g', r⟩, hn⟩ := F.ops p hp
      obtain ⟨-, hm₁, -⟩ := F₁.ops p hp
      have g₁ : (s.heap.push (listObj [] 0)).get? p.2.1 = some (listObj vs j) := Heap.get?_push_of_some _ g'
      exact ⟨k, S.opn _ _ (ho p hp) k hm₁, ⟨vs, j, S.kv _ _ (.inl ⟨_, _, rfl⟩) g₁, r.move (fun b o iv _ e => S.kv b o iv (Heap.get?_push_of_some _ e)) up⟩, hn⟩
  · rw [show adrs ((x, a, []) :: os) = a :: adrs os from rfl, List.nodup_cons]
    refine ⟨fun hm => ?_, F.opd⟩
    obtain ⟨p, hp, e⟩ := List.mem_map.mp hm
    obtain ⟨-, -, ⟨vs, n, g, -⟩, -⟩ := F.ops p hp
    rw [e, hnew] at g; cases g
  · intro p hp
    obtain ⟨e, v, o⟩ := F.pin p hp
    refine ⟨S.kv _ _ v (Heap.get?_push_of_some _ e), v, fun hm => ?_⟩
    rcases List.mem_cons.mp hm with q | hm
    · rw [q, hnew] at e; cases e
    · exact o hm

-- statements: Ex says how a body ends
noncomputable def Ex (w : World) (A : Around) (env : Env) (st : List Stmt) (P : Flow → Shared → Prop) (s : Shared) : Prop := ∀ E : Value → Shared → Prop, wpAny (model PR w) A (execs st env) P E s

theorem Ex.nil {P : Flow → Shared → Prop} (h : P .next s) : Ex w A env [] P s := fun E => wpAny_execs_nil h
theorem Ex.mono {st : List Stmt} {P P' : Flow → Shared → Prop} (x : Ex w A env st P s) (h : ∀ f s', P f s' → P' f s') : Ex w A env st P' s := fun E => wpAny_mono (x E) h (fun _ _ e => e)

theorem Ex.assign {x : Str} {px pos : Pos} {e : Expr} {V : PV} {ρ' : List (Str × PV)} {rest : List Stmt} {P : Flow → Shared → Prop} (F : Frm w mg mb A s₀ env own ex pn os ρ names s) (he : Ev w A env (adrs os ++ (ex ++ own)) s e V)
    (hx : names.lookup x = some .local ∨ names.lookup x = some .cell) (ho : ∀ p ∈ os, p.1 ≠ x) (hρ : ∀ p ∈ ρ', p ∈ ρ ∧ p.1 ≠ x)
    (h : ∀ s', Frm w mg mb A s₀ env own ex pn os ((x, V) :: ρ') names s' → Ex w A env rest P s') (hs : swapsWith e (some (.Name x px)) pos.line env = pure false := by rfl) :
    Ex w A env (.Assign [.Name x px] e pos :: rest) P s := fun E =>
  wpAny_execs_cons (wpAny_Assign_Name (he.then (Grow.refl _) fun v s₁ g₁ r => (F.grow g₁).store hx ho hρ r fun s₂ F₂ => h s₂ F₂ E) hs)

theorem Ex.ret {e : Expr} {pos : Pos} {V : PV} {rest : List Stmt} {P : Flow → Shared → Prop} {own' : List Addr} (he : Ev w A env own' s e V)
    (h : ∀ v s', Grow s s' → VRep own' s'.heap v V → P (.ret v) s') : Ex w A env (.Return (some e) pos :: rest) P s := fun E =>
  wpAny_execs_cons (wpAny_Return_some (he.then (Grow.refl _) fun v s₁ g₁ r => h v s₁ g₁ r))

/-- an if whose test is known to come out as b; both ways meet in M -/
theorem Ex.cond {t : Expr} {a b : List Stmt} {pos : Pos} {c : Bool} {rest : List Stmt} {P : Flow → Shared → Prop} (M : Shared → Prop) (ht : Et w A env s t c)
    (ha : c = true → ∀ s', Grow s s' → Ex w A env a (fun f s'' => f = .next ∧ M s'') s') (hb : c = false → ∀ s', Grow s s' → Ex w A env b (fun f s'' => f = .next ∧ M s'') s')
    (h : ∀ s', M s' → Ex w A env rest P s') : Ex w A env (.If t a b pos :: rest) P s := fun E => by
  refine wpAny_execs_cons (wpAny_If (ht.then (Grow.refl _) fun s₁ g₁ => ?_))
  cases c with
  | true => exact wpAny_mono (ha rfl s₁ g₁ E) (fun f s₂ h₂ => by obtain ⟨rfl, m⟩ := h₂; exact h s₂ m E) (fun _ _ e => e)
  | false => exact wpAny_mono (hb rfl s₁ g₁ E) (fun f s₂ h₂ => by obtain ⟨rfl, m⟩ := h₂; exact h s₂ m E) (fun _ _ e => e)
/-- an if that is not taken -/
theorem Ex.skip {t : Expr} {a : List Stmt} {pos : Pos} {rest : List Stmt} {P : Flow → Shared → Prop} (ht : Et w A env s t false)
    (h : ∀ s', Grow s s' → Ex w A env rest P s') : Ex w A env (.If t a [] pos :: rest) P s := fun E => by
  refine wpAny_execs_cons (wpAny_If (ht.then (Grow.refl _) fun s₁ g₁ => ?_))
  exact wpAny_execs_nil (h s₁ g₁ E)
/-- an if whose body leaves -/
theorem Ex.leave {t : Expr} {a : List Stmt} {pos : Pos} {c : Bool} {rest : List Stmt} {P : Flow → Shared → Prop} (ht : Et w A env s t c)
    (ha : c = true → ∀ s', Grow s s' → Ex w A env a (fun f s'' => f ≠ .next ∧ P f s'') s')
    (h : c = false → ∀ s', Grow s s' → Ex w A env rest P s') : Ex w A env (.If t a [] pos :: rest) P s := fun E => by
  refine wpAny_execs_cons (wpAny_If (ht.then (Grow.refl _) fun s₁ g₁ => ?_))
  cases c with
  | true => exact wpAny_mono (ha rfl s₁ g₁ E) (fun f s₂ h₂ => by
      obtain ⟨hf, m⟩ := h₂
      cases f with
      | next => exact absurd rfl hf
      | brk => exact m
      | cont => exact m
      | ret v => exact m) (fun _ _ e => e)
  | false => exact wpAny_execs_nil (h rfl s₁ g₁ E)

theorem Ex.openList {x : Str} {px pos lp : Pos} {ρ' : List (Str × PV)} {rest : List Stmt} {P : Flow → Shared → Prop} (F : Frm w mg mb A s₀ env own ex pn os ρ names s)
    (hx : names.lookup x = some .local) (ho : ∀ p ∈ os, p.1 ≠ x) (hρ : ∀ p ∈ ρ', p ∈ ρ ∧ p.1 ≠ x)
    (h : ∀ a s', Frm w mg mb A s₀ env own ex pn ((x, a, []) :: os) ρ' names s' → Ex w A env rest P s') :
    Ex w A env (.Assign [.Name x px] (.List [] lp) pos :: rest) P s := fun E => by
  refine wpAny_execs_cons (wpAny_Assign_Name ?_)
  rw [arm_eval_List]
  refine wpAny_bind (wpAny_standAt (wpAny_bind (m := spliced []) (Calls.spliced_nil (wpAny_newObj_type ?_))))
  exact F.storeOpen hx ho hρ fun a s' F' => h a s' F' E

/-- x.append(e) where x is still filled -/
theorem Ex.append {x : Str} {p1 apos cpos epos : Pos} {e : Expr} {a : Addr} {l : List PV} {V : PV} {os₁ os₂ : Opens} {rest : List Stmt} {P : Flow → Shared → Prop} (F : Frm w mg mb A s₀ env own ex pn (os₁ ++ (x, a, l) :: os₂) ρ names s)
    (he : Ev w A env (adrs (os₁ ++ (x, a, l) :: os₂) ++ (ex ++ own)) s e V) (hl : l.length ≤ sizeLine)
    (h : ∀ s', Frm w mg mb A s₀ env own ex pn (os₁ ++ (x, a, l ++ [V]) :: os₂) ρ names s' → Ex w A env rest P s')
    (hdo : (x == Str.ofString "__debug__") = false := by decide +kernel)
    (hline : (apos.endLine == cpos.line) = true := by rfl)
    (hs : starEach [e] env = [(false, eval e env)] := by rfl)
    (hsw : swapsWith (.Call (.Attribute (.Name x p1) "append" apos) [e] [] cpos) none epos.line env = pure false := by rfl)
    (hbase : attributeBase (.Name x p1) "append" env (eval (.Name x p1) env) = eval (.Name x p1) env := by rfl) :
    Ex w A env (.Expr (.Call (.Attribute (.Name x p1) "append" apos) [e] [] cpos) epos :: rest) P s := fun E => by
  have hi : interactive env = false := by unfold interactive; rw [F.cx.fn]; rfl
  have hmem : (x, a, l) ∈ os₁ ++ (x, a, l) :: os₂ := List.mem_append_right _ List.mem_cons_self
  obtain ⟨k, ⟨m, n, em⟩, ⟨vs, j, g, r⟩, hn⟩ := F.ops _ hmem
  refine wpAny_execs_cons (wpAny_Expr (wpAny_Call_append hbase (by rw [hs]; rfl) hline (by rw [hs]; rfl) (wpAny_Name (wpAny_loadName_local F.cx.fn k n em ⟨a, vs.toArray, rfl, ⟨_, j, g, rfl, rfl, rfl⟩, ?_⟩) hdo)) hi hsw)
  refine he.then (Grow.refl _) fun y s₁ g₁ r₁ => ?_
  have F₁ := F.grow g₁
  have ga := g₁.keep _ _ g
  refine wpAny_list_append_plain (hsz := by rw [List.size_toArray, r.length]; exact hl) ⟨j, ga⟩ fun h₂ hl₂ hs₂ => ?_
  obtain ⟨j₂, g₂⟩ := hl₂
  refine h _ ?_ E
  have ea : adrs (os₁ ++ (x, a, l ++ [V]) :: os₂) = adrs (os₁ ++ (x, a, l) :: os₂) := by simp [adrs]
  have hown : a ∈ adrs (os₁ ++ (x, a, l) :: os₂) ++ (ex ++ own) := List.mem_append_left _ (List.mem_map.mpr ⟨_, hmem, rfl⟩)
  have hold : ∀ {b o}, s₀.heap.get? b = some o → b ≠ a := fun {b o} e => by rintro rfl; rw [hn] at e; cases e
  have mv : ∀ {v p}, VRep (adrs (os₁ ++ (x, a, l) :: os₂) ++ (ex ++ own)) s₁.heap v p → VRep (adrs (os₁ ++ (x, a, l) :: os₂) ++ (ex ++ own)) h₂ v p := fun r => r.move (fun b o _ hb e => (hs₂.2 b (by rintro rfl; exact hb hown)).trans e) (fun _ _ z => z)
  have mvs : ∀ {v p}, VReps (adrs (os₁ ++ (x, a, l) :: os₂) ++ (ex ++ own)) s₁.heap v p → VReps (adrs (os₁ ++ (x, a, l) :: os₂) ++ (ex ++ own)) h₂ v p := fun r => r.move (fun b o _ hb e => (hs₂.2 b (by rintro rfl; exact hb hown)).trans e) (fun _ _ z => z)
  have nsK : ∀ {b m}, s₁.heap.Ns b m → h₂.Ns b m := fun {b m} n => by
    refine n.sameBut hs₂ ?_
    rintro rfl
    obtain ⟨o, es, ep, g', d, -⟩ := n
    rw [ga] at g'; cases g'; cases d
  have icK : ∀ {c v}, s₁.heap.IsCell c v → h₂.IsCell c v := fun {c v} ic => by
    refine ic.sameBut hs₂ ?_
    rintro rfl
    obtain ⟨o, g', d⟩ := ic
    rw [ga] at g'; cases g'; cases d
  have gr : Grow s₀.toShared { s₁ with heap := h₂ } := by
    obtain ⟨⟨h', t', rfl, k'⟩, l'⟩ := F₁.gr
    exact Grow.of (fun b o e => (hs₂.2 b (hold e)).trans (k' b o e)) l'
  refine { cx := ⟨F₁.cx.fn, F₁.cx.gl, F₁.cx.bu, F₁.cx.tk, F₁.G₀.keeps gr.keep, ?_, F₁.cx.gk, F₁.cx.ck, ?_⟩, kd := F₁.kd, G₀ := F₁.G₀, ow₀ := F₁.ow₀, gr := gr, base := F₁.base, ns := let ⟨m, n⟩ := F₁.ns; ⟨m, nsK n⟩, cells := fun n c e => let ⟨⟨v, ic⟩, l⟩ := F₁.cells n c e; ⟨⟨v, icK ic⟩, l⟩, apart := F₁.apart, ops := ?_, opd := by rw [ea]; exact F₁.opd, pin := fun p hp => let ⟨e, v, o⟩ := F₁.pin p hp; ⟨(hs₂.2 _ (by intro q; rw [q] at o; exact o (List.mem_append_left _ (List.mem_map.mpr ⟨_, hmem, rfl⟩)))).trans e, v, by rw [ea]; exact o⟩, exs := F₁.exs, hd := fun p hp => let ⟨n, l⟩ := F₁.hd p hp; ⟨nsK n, l⟩, dc := fun p hp => let ⟨e, ⟨es, ep, d⟩, n⟩ := F₁.dc p hp; ⟨(hs₂.2 _ (by intro q; rw [q, ga] at e; rw [← Option.some.inj e] at d; cases d)).trans e, ⟨es, ep, d⟩, n⟩ }
  · rw [ea]
    intro b hb
    by_cases hba : b = a
    · subst hba; exact ⟨_, g₂⟩
    · obtain ⟨o, e⟩ := F₁.cx.ow b hb
      exact ⟨o, (hs₂.2 b hba).trans e⟩
  · rw [ea]
    intro p hp
    rcases F₁.cx.bd p hp with ⟨k, m', v', n'', e, r'⟩ | ⟨k, c, v', e, ic, r'⟩
    · exact .inl ⟨k, m', v', nsK n'', e, mv r'⟩
    · exact .inr ⟨k, c, v', e, icK ic, mv r'⟩
  · rw [ea]
    have main : ∀ p ∈ os₁ ++ (x, a, l) :: os₂, p.2.1 ≠ a → env.kindOf p.1 = some .local ∧ (∃ m, h₂.Ns env.locals m ∧ m p.1 = some (.ref p.2.1)) ∧ (∃ vs n, h₂.get? p.2.1 = some (listObj vs n) ∧ VReps (adrs (os₁ ++ (x, a, l) :: os₂) ++ (ex ++ own)) h₂ vs p.2.2) ∧ s₀.heap.get? p.2.1 = none := fun p hp hne => by
      obtain ⟨k', ⟨m', n', e'⟩, ⟨vs', j', g', r'⟩, hn'⟩ := F₁.ops p hp
      exact ⟨k', ⟨m', nsK n', e'⟩, ⟨vs', j', (hs₂.2 _ hne).trans g', mvs r'⟩, hn'⟩
    have nd := F₁.opd
    simp only [adrs, List.map_append, List.map_cons, List.nodup_append, List.nodup_cons] at nd
    intro p hp
    rcases List.mem_append.mp hp with hp | hp
    · refine main p (List.mem_append_left _ hp) ?_
      exact nd.2.2 _ (List.mem_map_of_mem (f := (·.2.1)) hp) _ List.mem_cons_self
    · rcases List.mem_cons.mp hp with rfl | hp
      · obtain ⟨k', ⟨m', n', e'⟩, -, hn'⟩ := F₁.ops _ hmem
        refine ⟨k', ⟨m', nsK n', e'⟩, ⟨vs ++ [y], j₂, by rw [g₂]; simp, ?_⟩, hn'⟩
        exact (mvs (r.keeps g₁.keep)).append (.cons (mv r₁) .nil)
      · refine main p (List.mem_append_right _ (List.mem_cons_of_mem _ hp)) ?_
        intro q
        exact nd.2.1.1 (List.mem_map.mpr ⟨p, hp, q⟩)
end
end Mine
end

-- Ev8
section
open PySem PySem.W PySem.Calls PyProof.Rows
namespace Mine

section
variable {w : World} {mg mb : Str → Option Value} {A : Around} {env : Env} {own : List Addr} {ρ : List (Str × PV)} {names : List (Str × NameKind)} {s₀ : Base} {s : Shared} {os : Opens} {pn : List (Addr × Obj)} {ex : List Addr}

theorem Frm.move {ex' : List Addr} {pn' : List (Addr × Obj)} {h' : Heap} {tk : Nat} (F : Frm w mg mb A s₀ env own ex pn os ρ names s) (htk : s.toks ≤ tk) (hk : ∀ b o, b ∉ ex → s.heap.get? b = some o → h'.get? b = some o)
    (hup : ∀ b, (s.heap.get? b).isSome = true → b ∉ adrs os ++ (ex ++ own) → b ∉ adrs os ++ (ex' ++ own)) (hpin : ∀ p ∈ pn', h'.get? p.1 = some p.2 ∧ IsVal p.2 ∧ p.1 ∉ adrs os ++ own) (hexs : ∀ a ∈ ex', s₀.heap.get? a = none ∧ ∃ o, (a, o) ∈ pn') :
    Frm w mg mb A s₀ env own ex' pn' os ρ names { s with heap := h', toks := tk } := by
  have he : ∀ a ∈ ex, s₀.heap.get? a = none ∧ (∃ o, s.heap.get? a = some o ∧ IsVal o) ∧ a ∉ adrs os := fun a ha => by
    obtain ⟨n, o, ho⟩ := F.exs a ha
    obtain ⟨e, v, q⟩ := F.pin _ ho
    exact ⟨n, ⟨o, e, v⟩, fun hm => q (List.mem_append_left _ hm)⟩
  have nv : ∀ {b o}, s.heap.get? b = some o → ¬ IsVal o → b ∉ ex := fun {b o} e n hm => by
    obtain ⟨-, ⟨o', e', v⟩, -⟩ := he b hm
    rw [e] at e'; cases e'; exact n v
  have mv : ∀ {v p}, VRep (adrs os ++ (ex ++ own)) s.heap v p → VRep (adrs os ++ (ex' ++ own)) h' v p := fun r => r.move (fun b o _ hb e => hk b o (fun hm => hb (List.mem_append_right _ (List.mem_append_left _ hm))) e) hup
  have mvs : ∀ {v p}, VReps (adrs os ++ (ex ++ own)) s.heap v p → VReps (adrs os ++ (ex' ++ own)) h' v p := fun r => r.move (fun b o _ hb e => hk b o (fun hm => hb (List.mem_append_right _ (List.mem_append_left _ hm))) e) hup
  have nsK : ∀ {b m}, s.heap.Ns b m → h'.Ns b m := fun {b m} n => n.at' fun o e => hk _ o (nv e (by
    obtain ⟨o', es, ep, g', d, -⟩ := n
    rw [e] at g'; cases g'
    rintro (⟨xs, k, q⟩ | ⟨vs, q⟩) <;> rw [d] at q <;> cases q)) e
  have icK : ∀ {c v}, s.heap.IsCell c v → h'.IsCell c v := fun {c v} ic => by
    obtain ⟨o, g, d⟩ := ic
    exact ⟨o, hk c o (nv g (by rintro (⟨xs, k, q⟩ | ⟨vs, q⟩) <;> rw [d] at q <;> cases q)) g, d⟩
  have gr : Grow s₀.toShared { s with heap := h', toks := tk } := by
    obtain ⟨⟨h₁, t₁, rfl, k₁⟩, l₁⟩ := F.gr
    refine Grow.of (fun b o e => hk b o (fun hm => ?_) (k₁ b o e)) (Nat.le_trans l₁ htk)
    rw [(he b hm).1] at e; cases e
  have opk : ∀ p ∈ os, ∀ o, s.heap.get? p.2.1 = some o → h'.get? p.2.1 = some o := fun p hp o e => hk _ _ (fun hm => (he _ hm).2.2 (List.mem_map_of_mem (f := (·.2.1)) hp)) e
  refine { cx := ⟨F.cx.fn, F.cx.gl, F.cx.bu, Nat.lt_of_lt_of_le F.cx.tk htk, F.G₀.keeps gr.keep, ?_, F.cx.gk, F.cx.ck, ?_⟩, kd := F.kd, G₀ := F.G₀, ow₀ := F.ow₀, gr := gr, base := F.base, ns := let ⟨m, n⟩ := F.ns; ⟨m, nsK n⟩, cells := fun n c e => let ⟨⟨v, ic⟩, l⟩ := F.cells n c e; ⟨⟨v, icK ic⟩, l⟩, apart := F.apart, ops := ?_, opd := F.opd, pin := hpin, exs := hexs, hd := fun p hp => let ⟨n, l⟩ := F.hd p hp; ⟨nsK n, l⟩, dc := fun p hp => let ⟨e, ⟨es, ep, d⟩, n⟩ := F.dc p hp; ⟨hk _ _ (nv e (by rintro (⟨xs, k, q⟩ | ⟨vs, q⟩) <;> rw [d] at q <;> cases q)) e, ⟨es, ep, d⟩, n⟩ }
  · intro a ha
    rcases List.mem_append.mp ha with ha | ha
    · obtain ⟨p, hp, e⟩ := List.mem_map.mp ha
      obtain ⟨-, -, ⟨vs, n, g, -⟩, -⟩ := F.ops p hp
      have := opk p hp _ g
      rw [e] at this; exact ⟨_, this⟩
    · rcases List.mem_append.mp ha with ha | ha
      · obtain ⟨-, o, ho⟩ := hexs a ha
        exact ⟨_, (hpin _ ho).1⟩
      · exact (F.ow₀.keeps gr.keep) a ha
  · intro p hp
    rcases F.cx.bd p hp with ⟨k, m', v', n'', e, r'⟩ | ⟨k, c, v', e, ic, r'⟩
    · exact .inl ⟨k, m', v', nsK n'', e, mv r'⟩
    · exact .inr ⟨k, c, v', e, icK ic, mv r'⟩
  · intro p hp
    obtain ⟨k', ⟨m', n', e'⟩, ⟨vs', j', g', r'⟩, hn'⟩ := F.ops p hp
    exact ⟨k', ⟨m', nsK n', e'⟩, ⟨vs', j', opk p hp _ g', mvs r'⟩, hn'⟩

/-- pins that come and go -/
theorem Frm.pins {pn' : List (Addr × Obj)} (F : Frm w mg mb A s₀ env own ex pn os ρ names s) (hpin : ∀ p ∈ pn', p ∈ pn) (hexs : ∀ a ∈ ex, ∃ o, (a, o) ∈ pn') : Frm w mg mb A s₀ env own ex pn' os ρ names s :=
  { F with pin := fun p hp => F.pin p (hpin p hp), exs := fun a ha => ⟨(F.exs a ha).1, hexs a ha⟩ }

/-- a list of objects at places -/
theorem pins_of {h : Heap} : ∀ (fp : List Addr), (∀ b ∈ fp, ∃ o, h.get? b = some o ∧ IsVal o) → ∃ pn : List (Addr × Obj), (∀ p ∈ pn, p.1 ∈ fp ∧ h.get? p.1 = some p.2 ∧ IsVal p.2) ∧ ∀ b ∈ fp, ∃ o, (b, o) ∈ pn
  | [], _ => ⟨[], fun _ h => by simp at h, fun _ h => by simp at h⟩
  | b :: r, h => by
    obtain ⟨o, e, v⟩ := h b List.mem_cons_self
    obtain ⟨pn, h1, h2⟩ := pins_of r fun b' hb => h b' (List.mem_cons_of_mem _ hb)
    refine ⟨(b, o) :: pn, fun p hp => ?_, fun b' hb => ?_⟩
    · rcases List.mem_cons.mp hp with rfl | hp
      · exact ⟨List.mem_cons_self, e, v⟩
      · exact ⟨List.mem_cons_of_mem _ (h1 p hp).1, (h1 p hp).2⟩
    · rcases List.mem_cons.mp hb with rfl | hb
      · exact ⟨o, List.mem_cons_self⟩
      · obtain ⟨o', h'⟩ := h2 b' hb
        exact ⟨o', List.mem_cons_of_mem _ h'⟩

noncomputable def PV.flat : PV → Bool
  | .none | .bool _ | .int _ | .str _ | .raw _ => true
  | _ => false
theorem VRep.flat {own own' : List Addr} {h h' : Heap} {v : Value} {V : PV} (hf : V.flat = true) (r : VRep own h v V) : VRep own' h' v V := by
  cases r with
  | none => exact .none
  | bool => exact .bool
  | int => exact .int
  | str => exact .str
  | list => cases hf
  | tup => cases hf
  | rng => cases hf
  | raw => exact .raw

theorem Ex.forIn {x : Str} {px pos : Pos} {iter : Expr} {body rest : List Stmt} {S : PV} {its : List PV} {osI : Nat → Opens} {ρI : Nat → List (Str × PV)} {P : Flow → Shared → Prop}
    (hh : A.handled = none) (F : Frm w mg mb A s₀ env own [] [] (osI 0) (ρI 0) names s) (hadr : ∀ i, adrs (osI i) = adrs (osI 0)) (hi : Ev w A env (adrs (osI 0) ++ own) s iter S) (hit : Its S its) (hfl : ∀ V ∈ its, V.flat = true)
    (hx : names.lookup x = some .local ∨ names.lookup x = some .cell) (hox : ∀ i, ∀ p ∈ osI i, p.1 ≠ x) (hρx : ∀ i, ∀ p ∈ ρI i, p.1 ≠ x)
    (hbody : ∀ i V, its[i]? = some V → ∀ ex pn s', Frm w mg mb A s₀ env own ex pn (osI i) ((x, V) :: ρI i) names s' →
      Ex w A env body (fun fl s'' => fl = .next ∧ Frm w mg mb A s₀ env own ex pn (osI (i + 1)) (ρI (i + 1)) names s'') s')
    (h : ∀ s', Frm w mg mb A s₀ env own [] [] (osI its.length) (ρI its.length) names s' → Ex w A env rest P s')
    (hs : ∀ x, foldedSetIterable iter env x = pure x := by intro _; rfl) :
    Ex w A env (.For (.Name x px) iter body [] pos :: rest) P s := fun E => by
  refine wpAny_execs_cons (wpAny_For (hi.then (Grow.refl _) fun v s₁ g₁ r => ?_) hs)
  have F₁ := F.grow g₁
  refine Itr.of hh (by simpa using F₁.cx.ow) r hit _ _ fun I fp Pw St s₂ g₂ wi => ?_
  have hIfp : I ∈ fp := wi.W.sub _ (List.mem_singleton.mpr rfl)
  have hI₀ : s₀.heap.get? I = none := by
    cases e : s₀.heap.get? I with
    | none => rfl
    | some o => have := F₁.gr.keep _ _ e; rw [wi.new] at this; cases this
  have offI : I ∉ adrs (osI 0) ++ own := (wi.off I hIfp).1
  -- the loop's frame: the iterator is shielded
  have hup : ∀ i b, (s₁.heap.get? b).isSome = true → b ∉ adrs (osI i) ++ ([] ++ own) → b ∉ adrs (osI i) ++ ([I] ++ own) := fun i b hs hb hm => by
    rcases List.mem_append.mp hm with q | hm
    · exact hb (List.mem_append_left _ q)
    · rcases List.mem_append.mp hm with hm | hm
      · rw [List.mem_singleton] at hm; subst hm; rw [wi.new] at hs; cases hs
      · exact hb (List.mem_append_right _ (List.mem_append_right _ hm))
  refine codeAny_forLoop (I := fun k s' => ∃ i pn, i ≤ its.length ∧ k = its.length + 1 - i ∧ Frm w mg mb A s₀ env own [I] pn (osI i) (ρI i) names s' ∧ St i s'.heap ∧ (∀ p ∈ pn, p.1 ∈ fp) ∧ ∀ b ∈ fp, ∃ o, (b, o) ∈ pn)
    (turn := ?turn) (n := its.length + 1) (h := ?start)
  case start =>
    obtain ⟨pn, h1, h2⟩ := pins_of (h := s₂.heap) fp fun b hb => (wi.off b hb).2
    refine ⟨0, pn, Nat.zero_le _, rfl, ?_, wi.st, fun p hp => (h1 p hp).1, h2⟩
    obtain ⟨⟨h₂, t₂, rfl, k₂⟩, l₂⟩ := g₂
    exact F₁.move l₂ (fun b o _ e => k₂ b o e) (hup 0) (fun p hp => ⟨(h1 p hp).2.1, (h1 p hp).2.2, (wi.off _ (h1 p hp).1).1⟩) fun a ha => by
      rw [List.mem_singleton] at ha; subst ha; exact ⟨hI₀, h2 a hIfp⟩
  case turn =>
    rintro k s' ⟨i, pn, hi', rfl, F', st, hp1, hp2⟩
    by_cases hlt : i < its.length
    · refine grown (wi.W.item i s' _ _ hlt st fun v h₁ tk₁ hPv st₁ hk₁ ht₁ => ?_)
      -- the pins behind the drawing
      have hval : ∀ b ∈ fp, ∃ o, h₁.get? b = some o ∧ IsVal o := fun b hb => by
        by_cases hbI : b = I
        · subst hbI; exact wi.ex _ _ st₁
        · obtain ⟨o, ho⟩ := hp2 b hb
          obtain ⟨e, v, -⟩ := F'.pin _ ho
          exact ⟨o, hk₁ b o (by simpa using hbI) e, v⟩
      obtain ⟨pn₁, q1, q2⟩ := pins_of (h := h₁) fp hval
      have F₂ := F'.move (ex' := [I]) (pn' := pn₁) (h' := h₁) (tk := tk₁) ht₁ (fun b o hb e => hk₁ b o hb e) (fun _ _ z => z) (fun p hp => ⟨(q1 p hp).2.1, (q1 p hp).2.2, by rw [hadr i]; exact (wi.off _ (q1 p hp).1).1⟩) (fun a ha => by
        rw [List.mem_singleton] at ha; subst ha; exact ⟨hI₀, q2 a hIfp⟩)
      have hVe := List.getElem?_eq_getElem hlt
      generalize its[i] = V at hVe
      -- the item, seen from the state ahead of the loop
      have rV : VRep (adrs (osI i) ++ ([I] ++ own)) h₁ v V := by
        obtain ⟨V', e2, r2⟩ := wi.item i v hlt hPv s₁.heap (fun _ _ _ _ e => e)
        rw [hVe] at e2; cases e2
        exact r2.flat (hfl V (List.mem_of_getElem? hVe))
      refine wpAny_assign_Name (F₂.store hx (hox i) (fun p hp => ⟨hp, hρx i p hp⟩) rV fun s₃ F₃ => ?_)
      refine wpAny_mono (hbody i V hVe [I] pn₁ s₃ F₃ _) (fun f s₄ h₄ => ?_) (fun _ _ e => e)
      obtain ⟨rfl, F₄⟩ := h₄
      refine ⟨its.length + 1 - (i + 1), by omega, i + 1, pn₁, hlt, rfl, F₄, ?_, fun p hp => (q1 p hp).1, q2⟩
      refine wi.W.frame _ _ _ st₁ fun b hb o e => ?_
      obtain ⟨o', ho'⟩ := q2 b hb
      have e1 := (q1 _ ho').2.1
      rw [e] at e1; cases e1
      exact (F₄.pin _ ho').1
    · have hin : i = its.length := by omega
      subst hin
      refine grown (wi.W.done s' _ _ st fun h₁ tk₁ hk₁ ht₁ => ?_)
      refine wpAny_execs_nil (h _ ?_ E)
      exact F'.move (ex' := []) (pn' := []) ht₁ (fun b o hb e => hk₁ b o hb e) (fun b _ hb hm => hb (by
        rcases List.mem_append.mp hm with hm | hm
        · exact List.mem_append_left _ hm
        · exact List.mem_append_right _ (List.mem_append_right _ hm))) (fun p hp => by simp at hp) (fun a ha => by simp at ha)

/-- a while by an invariant of the turn's number; it ends where its test fails -/
theorem Ex.whileN {test : Expr} {body rest : List Stmt} {pos : Pos} {P : Flow → Shared → Prop} (n : Nat) (M : Nat → Shared → Prop) (h0 : M 0 s)
    (htest : ∀ i s', i ≤ n → M i s' → Et w A env s' test (decide (i < n)))
    (hg : ∀ i s' s'', M i s' → Grow s' s'' → M i s'')
    (hbody : ∀ i s', i < n → M i s' → Ex w A env body (fun fl s'' => fl = .next ∧ M (i + 1) s'') s')
    (h : ∀ s', M n s' → Ex w A env rest P s') : Ex w A env (.While test body [] pos :: rest) P s := fun E => by
  refine wpAny_execs_cons (wpAny_While ?_)
  refine codeAny_whileLoop (I := fun k s' => ∃ i, i ≤ n ∧ k = n - i ∧ M i s') (turn := ?turn) (n := n) (h := ⟨0, Nat.zero_le _, rfl, h0⟩)
  case turn =>
    rintro k s' ⟨i, hi, rfl, hM⟩
    refine (htest i s' hi hM).then (Grow.refl _) fun s₁ g₁ => ?_
    have hM₁ := hg _ _ _ hM g₁
    by_cases hlt : i < n
    · rw [decide_eq_true hlt, if_pos rfl]
      refine wpAny_mono (hbody i s₁ hlt hM₁ _) (fun f s₂ h₂ => ?_) (fun _ _ e => e)
      obtain ⟨rfl, hM₂⟩ := h₂
      exact ⟨n - (i + 1), by omega, i + 1, hlt, rfl, hM₂⟩
    · have hin : i = n := by omega
      subst hin
      rw [decide_eq_false hlt, if_neg (by decide)]
      exact wpAny_execs_nil (h _ hM₁ E)

-- a list that is still filled, read
theorem Ev.opened {x : Str} {a : Addr} {l : List PV} {pos : Pos} (F : Frm w mg mb A s₀ env own ex pn os ρ names s) (hm : (x, a, l) ∈ os) (hd : (x == Str.ofString "__debug__") = false := by decide +kernel) :
    Ev w A env own s (.Name x pos) (.list l) := fun s' g E => by
  have F' := F.grow g
  obtain ⟨k, ⟨m, n, e⟩, ⟨vs, j, g', r⟩, hn⟩ := F'.ops _ hm
  refine wpAny_Name (wpAny_loadName_local F.cx.fn k n e ⟨Grow.refl _, .list g' (F.ow₀.fresh hn) (r.move (fun _ _ _ _ e => e) fun b _ hb hm => hb (List.mem_append_right _ (List.mem_append_right _ hm)))⟩) hd

-- entering a def
noncomputable def Ret (own : List Addr) (s₀ : Base) (R : PV) : Flow → Shared → Prop := fun fl s' => ∃ v, fl = .ret v ∧ Grow s₀.toShared s' ∧ VRep own s'.heap v R

theorem bindL_other {kindOf : Str → Option NameKind} : ∀ {binds : List (Str × Value)} {m : Str → Option Value} {x : Str}, (∀ p ∈ binds, p.1 ≠ x) → bindL kindOf binds m x = m x
  | [], m, x, h => rfl
  | (n, u) :: r, m, x, h => by
    unfold bindL
    rw [bindL_other fun p hp => h p (List.mem_cons_of_mem _ hp)]
    split
    · exact if_neg (fun (q : x = n) => h _ List.mem_cons_self q.symm)
    · rfl
theorem bindL_mem {kindOf : Str → Option NameKind} : ∀ {binds : List (Str × Value)} {m : Str → Option Value} {x : Str} {v : Value}, (binds.map (·.1)).Nodup → (x, v) ∈ binds → kindOf x = some .local → bindL kindOf binds m x = some v
  | (n, u) :: r, m, x, v, nd, h, hk => by
    rw [List.map_cons, List.nodup_cons] at nd
    unfold bindL
    rcases List.mem_cons.mp h with h | h
    · cases h
      rw [bindL_other fun p hp q => nd.1 (List.mem_map.mpr ⟨p, hp, q⟩), if_pos hk]
      exact if_pos rfl
    · exact bindL_mem nd.2 h hk
theorem bindC_other {kindOf : Str → Option NameKind} : ∀ {binds : List (Str × Value)} {m : Str → Option Value} {x : Str}, (∀ p ∈ binds, p.1 ≠ x) → bindC kindOf binds m x = m x
  | [], m, x, h => rfl
  | (n, u) :: r, m, x, h => by
    unfold bindC
    rw [bindC_other fun p hp => h p (List.mem_cons_of_mem _ hp)]
    split
    · rfl
    · exact if_neg (fun (q : x = n) => h _ List.mem_cons_self q.symm)
theorem bindC_mem {kindOf : Str → Option NameKind} : ∀ {binds : List (Str × Value)} {m : Str → Option Value} {x : Str} {v : Value}, (binds.map (·.1)).Nodup → (x, v) ∈ binds → kindOf x ≠ some .local → bindC kindOf binds m x = some v
  | (n, u) :: r, m, x, v, nd, h, hk => by
    rw [List.map_cons, List.nodup_cons] at nd
    unfold bindC
    rcases List.mem_cons.mp h with h | h
    · cases h
      rw [bindC_other fun p hp q => nd.1 (List.mem_map.mpr ⟨p, hp, q⟩), if_neg hk]
      exact if_pos rfl
    · exact bindC_mem nd.2 h hk

theorem VReps.zip {own : List Addr} {h : Heap} : ∀ {vs : List Value} {Vs : List PV}, VReps own h vs Vs → ∀ {ns : List Str} {p : Str × PV}, p ∈ ns.zip Vs → ∃ v, (p.1, v) ∈ ns.zip vs ∧ VRep own h v p.2
  | _, _, .nil, ns, p, hp => by simp at hp
  | _, _, .cons a r, [], p, hp => by simp at hp
  | _, _, .cons a r, n :: ns, p, hp => by
    rw [List.zip_cons_cons] at hp ⊢
    rcases List.mem_cons.mp hp with rfl | hp
    · exact ⟨_, List.mem_cons_self, a⟩
    · obtain ⟨v, hv, rv⟩ := VReps.zip r hp
      exact ⟨v, List.mem_cons_of_mem _ hv, rv⟩

/-- what a def's own text must be for the lines here -/
noncomputable def goodFn (i : Nat) : Bool := (scopeAt i).kind == .function && !(scopeAt i).isCoroutine && !(scopeAt i).isGenerator && (scopeAt i).names.all (fun q => q.2 != .free) &&
  decide ((paramsAt i).Nodup) && (paramsAt i).all (fun x => (scopeAt i).names.lookup x == some .local || (scopeAt i).names.lookup x == some .cell)

theorem enterX {i k : Nat} {Vs : List PV} {R : PV} (Rm : Around → Nat → Prop) (hdp : ∀ A env, Rm A (k + 1) → Rm (A.deeper env) k) (hrq : ∀ A, Rm A (k + 1) → A.depth + (k + 1) < recursionLimit) (hi : i ∈ fnList) (hg : goodFn i = true) (hlen : Vs.length = (paramsAt i).length)
    (hb : ∀ (A : Around) (own : List Addr) (s₀ : Base) (env : Env) (s : Shared), Rm A k → Frm w mg mb A s₀ env own [] [] [] ((paramsAt i).zip Vs) (scopeAt i).names s → Ex w A env (bodyAt i) (Ret own s₀ R) s)
    {A : Around} {own : List Addr} {a : Addr} (hr : Rm A (k + 1)) (hv : mg (nameAt i) = some (.ref a)) : Ct w mg mb A own (.ref a) Vs R := by
  intro s vs E G tk ow rs
  obtain ⟨a', o, fd, hv', ho, hd, hbody, hsc, hgl, hcl, hbu, hcd, hbind⟩ := G.fn i hi
  rw [hv] at hv'; cases hv'
  simp only [goodFn, Bool.and_eq_true, beq_iff_eq, Bool.not_eq_true', decide_eq_true_eq, List.all_eq_true, Bool.or_eq_true, bne_iff_ne, ne_eq] at hg
  obtain ⟨⟨⟨⟨⟨hkind, hco⟩, hgen⟩, hfree⟩, hnd⟩, hpar⟩ := hg
  have hvl : vs.length = (paramsAt i).length := rs.length.trans hlen
  have hkx : ∀ x, (callEnvC fd s.heap.objs.size a).kindOf x = (scopeAt i).names.lookup x := fun x => by show fd.scope.names.lookup x = _; rw [hsc]
  have hbn : (((paramsAt i).zip vs).map (·.1)) = paramsAt i := by rw [List.map_fst_zip (by omega)]
  refine wpAny_call (codeAny_call_function (by have := hrq A hr; omega) ho hd (by rw [hsc]; exact hco) (by rw [hsc]; exact hgen) hbody hcd ?_)
  rw [hbind vs hvl, hcl]
  refine wpAny_pure (wpAny_with_toks (n := s.toks) (Nat.le_refl _) (wpAny_newFunctionEnv_cells (by rw [hsc]; exact hkind) ?_ fun env' he s₁ X htk => ?_))
  · intro x hx
    rw [hsc]
    have hx' := hpar x.1 (List.of_mem_zip hx).1
    rcases hx' with h | h
    · exact .inl h
    · refine .inr ⟨h, ?_⟩
      obtain ⟨c, hc⟩ := cellsFrom_own (scopeAt i).names (s.heap.objs.size + 1) [] x.1 (mem_of_lookup h)
      obtain ⟨c', e⟩ := lookup_some_of_mem hc
      rw [e]; rfl
  · subst he
    refine ⟨G.nl.keeps X.toInCall.keep, codeAny_func ?_⟩
    change InCallC s (callEnvC fd s.heap.objs.size a).locals (bindL (callEnvC fd s.heap.objs.size a).kindOf ((paramsAt i).zip vs) fun _ => none) (callEnvC fd s.heap.objs.size a).cells (bindC (callEnvC fd s.heap.objs.size a).kindOf ((paramsAt i).zip vs) fun _ => none) s₁ at X
    have hfr : Frm w mg mb (A.deeper (callEnvC fd s.heap.objs.size a)) ⟨s, [], []⟩ (callEnvC fd s.heap.objs.size a) own [] [] [] ((paramsAt i).zip Vs) (scopeAt i).names s₁ := by
      have hgr : Grow s s₁ := by
        obtain ⟨h', t', rfl, k'⟩ := X.done
        exact Grow.of k' htk
      refine { cx := ⟨by show fd.scope.kind = _; rw [hsc]; exact hkind, hgl, hbu, Nat.lt_of_lt_of_le tk hgr.2, G.keeps hgr.keep, by simpa using ow.keeps hgr.keep, fun x h => (hkx x).trans h, fun x h => ?_, fun p hp => ?_⟩, kd := hkx, G₀ := G, ow₀ := ow, gr := hgr, base := Nat.le_refl _, ns := ⟨_, X.toInCall.ns⟩, cells := fun n c e => ⟨⟨_, X.cell n c e⟩, X.above n c (mem_of_lookup e)⟩, apart := X.apart, ops := fun p hp => by simp at hp, opd := List.nodup_nil, pin := fun p hp => by simp at hp, exs := fun a ha => by simp at ha, hd := fun p hp => by simp at hp, dc := fun p hp => by simp at hp }
      · rcases h with h | h
        · refine ⟨.inl ((hkx x).trans h), ?_⟩
          obtain ⟨c, hc⟩ := cellsFrom_own (scopeAt i).names (s.heap.objs.size + 1) [] x (mem_of_lookup h)
          obtain ⟨c', e⟩ := lookup_some_of_mem hc
          refine ⟨c', ?_⟩
          show (cellsFrom (s.heap.objs.size + 1) fd.scope.names []).lookup x = _
          rw [hsc]; exact e
        · exact absurd rfl (hfree _ (mem_of_lookup h))
      · obtain ⟨v, hv, rv⟩ := rs.zip hp
        have rv' : VRep (adrs [] ++ ([] ++ own)) s₁.heap v p.2 := rv.keeps hgr.keep
        rcases hpar p.1 (List.of_mem_zip hp).1 with h | h
        · exact .inl ⟨(hkx _).trans h, _, v, X.toInCall.ns, bindL_mem (by rw [hbn]; exact hnd) hv ((hkx _).trans h), rv'⟩
        · obtain ⟨c, hc⟩ := cellsFrom_own (scopeAt i).names (s.heap.objs.size + 1) [] p.1 (mem_of_lookup h)
          obtain ⟨c', e⟩ := lookup_some_of_mem hc
          have e' : (callEnvC fd s.heap.objs.size a).cells.lookup p.1 = some c' := by
            show (cellsFrom (s.heap.objs.size + 1) fd.scope.names []).lookup p.1 = _
            rw [hsc]; exact e
          refine .inr ⟨.inl ((hkx _).trans h), c', v, e', ?_, rv'⟩
          have := X.cell _ _ e'
          rwa [bindC_mem (by rw [hbn]; exact hnd) hv (by rw [hkx, h]; decide)] at this
    refine wpAny_mono (hb _ own ⟨s, [], []⟩ _ s₁ (hdp _ _ hr) hfr (fun _ _ => False)) (fun f s₂ h₂ => ?_) (fun _ _ e => e.elim)
    obtain ⟨v, rfl, g₂, r₂⟩ := h₂
    exact ⟨g₂, r₂⟩
theorem enter {i k : Nat} {Vs : List PV} {R : PV} (hi : i ∈ fnList) (hg : goodFn i = true) (hlen : Vs.length = (paramsAt i).length)
    (hb : ∀ (A : Around) (own : List Addr) (s₀ : Base) (env : Env) (s : Shared), Room A k → Frm w mg mb A s₀ env own [] [] [] ((paramsAt i).zip Vs) (scopeAt i).names s → Ex w A env (bodyAt i) (Ret own s₀ R) s) :
    CtF w mg mb i (k + 1) Vs R := fun A own a hr hv => enterX Room (fun _ _ r => r.deeper) (fun _ r => r.depth) hi hg hlen hb hr hv
theorem enterQ {i k : Nat} {Vs : List PV} {R : PV} (hi : i ∈ fnList) (hg : goodFn i = true) (hlen : Vs.length = (paramsAt i).length)
    (hb : ∀ (A : Around) (own : List Addr) (s₀ : Base) (env : Env) (s : Shared), RoomQ A k → Frm w mg mb A s₀ env own [] [] [] ((paramsAt i).zip Vs) (scopeAt i).names s → Ex w A env (bodyAt i) (Ret own s₀ R) s) :
    CtQ w mg mb i (k + 1) Vs R := fun A own a hr hv => enterX RoomQ (fun _ _ r => r.deeper) (fun _ r => r.depth) hi hg hlen hb hr hv
end
end Mine
end

-- Ev9
section
open PySem PySem.W PySem.Calls PyProof.Rows
namespace Mine

section
variable {w : World} {mg mb : Str → Option Value} {A : Around} {env : Env} {own own₁ own₂ : List Addr} {s : Shared}

theorem Grow.hp {s : Shared} {h : Heap} (k : ∀ b o, s.heap.get? b = some o → h.get? b = some o) : Grow s { s with heap := h } := Grow.of (t := s.toks) k (Nat.le_refl _)

-- operators
theorem Ev.bin {a b : Expr} {op : Operator} {U V R : PV} {pos : Pos} (ha : Ev w A env own₁ s a U) (hb : Ev w A env own₂ s b V)
    (h : ∀ s' u v (E : Value → Shared → Prop), Grow s s' → VRep own₁ s'.heap u U → VRep own₂ s'.heap v V → wpAny (model PR w) A (binaryOp op u v) (fun r s'' => Grow s' s'' ∧ VRep own s''.heap r R) E s') :
    Ev w A env own s (.BinOp a op b pos) R := fun s' g E => by
  refine wpAny_BinOp (ha.then g fun v s₁ g₁ r => hb.then (g.trans g₁) fun u s₂ g₂ r₂ => ?_)
  exact wpAny_mono (h s₂ _ _ E ((g.trans g₁).trans g₂) (r.keeps g₂.keep) r₂) (fun c s₃ x => ⟨(g₁.trans g₂).trans x.1, x.2⟩) (fun _ _ e => e)

theorem Ev.cat {a b : Expr} {x y : Str} {pos : Pos} (ha : Ev w A env own s a (.str x)) (hb : Ev w A env own s b (.str y)) (hsz : (x ++ y).length ≤ sizeLine) : Ev w A env own s (.BinOp a .Add b pos) (.str (x ++ y)) :=
  ha.bin hb fun s' u v E g r₁ r₂ => by
    cases r₁; cases r₂
    exact grown (PyProof.Rows.add_str (hsz := by rw [← Str.length_append]; exact hsz) fun t' tk ht => ⟨Grow.tok ht, .str⟩)
theorem Ev.times {a b : Expr} {x : Str} {n : Int} {pos : Pos} (ha : Ev w A env own s a (.str x)) (hb : Ev w A env own s b (.int n)) (hok : MulOk x n) : Ev w A env own s (.BinOp a .Mult b pos) (.str (Txt.mul x n)) :=
  ha.bin hb fun s' u v E g r₁ r₂ => by
    cases r₁; cases r₂
    exact grown (SB.mul hok fun t' tk ht => ⟨Grow.tok ht, .str⟩)
theorem Ec.eq_str {x y : Str} {o1 o2 : List Addr} : Ec w A .Eq (.str x) (.str y) o1 o2 (x == y) := fun s u v E r₁ r₂ => by
  cases r₁; cases r₂; exact PyProof.Rows.eq_str ⟨Grow.refl _, rfl⟩
theorem Ec.ne_str {x y : Str} {o1 o2 : List Addr} : Ec w A .NotEq (.str x) (.str y) o1 o2 (x != y) := fun s u v E r₁ r₂ => by
  cases r₁; cases r₂; exact PyProof.Rows.ne_str ⟨Grow.refl _, rfl⟩
theorem Ec.lt_str {x y : Str} {o1 o2 : List Addr} : Ec w A .Lt (.str x) (.str y) o1 o2 (decide (x.cps.toList < y.cps.toList)) := fun s u v E r₁ r₂ => by
  cases r₁; cases r₂; exact PyProof.Rows.lt_str ⟨Grow.refl _, rfl⟩
theorem Ec.in_str {x y : Str} {o1 o2 : List Addr} : Ec w A .In (.str y) (.str x) o1 o2 (Txt.contains x y) := fun s u v E r₁ r₂ => by
  cases r₁; cases r₂; exact PyProof.Rows.in_str ⟨Grow.refl _, rfl⟩

-- displays
theorem Ev.listD {es : List Expr} {Vs : List PV} {pos : Pos} (hs : Evs w A env own s es Vs) (ow : Ow own s.heap) (hsz : Vs.length ≤ sizeLine) : Ev w A env own s (.List es pos) (.list Vs) := fun s' g E => by
  rw [arm_eval_List]
  refine wpAny_bind (wpAny_standAt (wpAny_bind (wpAny_mono (hs pos s' g E) (fun vs s₁ h₁ => ?_) (fun _ _ e => e))))
  obtain ⟨g₁, r⟩ := h₁
  refine wpAny_newObj_type ⟨g₁.trans Grow.push, .list (Heap.get?_push_size _ rfl) ((ow.keeps (g.trans g₁).keep).new) (r.keeps fun b o e => Heap.get?_push_of_some _ e)⟩ (by show vs.toArray.size ≤ sizeLine; rw [List.size_toArray, r.length]; exact hsz)
theorem Ev.tupD {es : List Expr} {Vs : List PV} {k : Nat} {pos : Pos} (hs : Evs w A env own s es Vs) (ow : Ow own s.heap) (hsz : Vs.length ≤ sizeLine) : Ev w A env own s (.Tuple es k pos) (.tup Vs) := fun s' g E => by
  rw [arm_eval_Tuple]
  refine wpAny_bind (wpAny_standAt (wpAny_bind (wpAny_mono (hs pos s' g E) (fun vs s₁ h₁ => ?_) (fun _ _ e => e))))
  obtain ⟨g₁, r⟩ := h₁
  refine wpAny_newObj_type ⟨g₁.trans Grow.push, .tup (Heap.get?_push_size _ rfl) ((ow.keeps (g.trans g₁).keep).new) (r.keeps fun b o e => Heap.get?_push_of_some _ e)⟩ (by show vs.toArray.size ≤ sizeLine; rw [List.size_toArray, r.length]; exact hsz)

-- items
theorem Ev.subs {value slice : Expr} {U I R : PV} {pos : Pos} (hv : Ev w A env own₁ s value U) (hi : Ev w A env own₂ s slice I)
    (h : ∀ s' u i (E : Value → Shared → Prop), Grow s s' → VRep own₁ s'.heap u U → VRep own₂ s'.heap i I → wpAny (model PR w) A (subscriptTail value slice u i) (fun r s'' => Grow s' s'' ∧ VRep own s''.heap r R) E s') :
    Ev w A env own s (.Subscript value slice pos) R := fun s' g E => by
  refine PyProof.Rows.Subscript_ (hv.then g fun v s₁ g₁ r => hi.then (g.trans g₁) fun u s₂ g₂ r₂ => ?_)
  exact wpAny_mono (h s₂ _ _ E ((g.trans g₁).trans g₂) (r.keeps g₂.keep) r₂) (fun c s₃ x => ⟨(g₁.trans g₂).trans x.1, x.2⟩) (fun _ _ e => e)

theorem Ev.item {value slice : Expr} {l : List PV} {k : Int} {V : PV} {pos : Pos} (hv : Ev w A env own s value (.list l)) (hi : Ev w A env own₂ s slice (.int k)) (h0 : 0 ≤ k) (hfit : k < 2 ^ 63) (hk : l[k.toNat]? = some V)
    (hs : ∀ o i, subscripted slice false o i = operate [o, i] (getItem o i) := by intro _ _; with_unfolding_all rfl) : Ev w A env own s (.Subscript value slice pos) V :=
  hv.subs hi fun s' u i E g r₁ r₂ => by
    cases r₂
    cases r₁ with
    | list gl o r =>
      obtain ⟨v, e, rv⟩ := r.get hk
      have hl : s'.heap.IsList _ _ := ⟨_, gl, rfl, _, rfl⟩
      exact tail_any hl.typeIs slot_list_getitem.lookup (wpAny_getItem_list hl h0 hfit (by simpa using e) ⟨Grow.refl _, rv⟩) (hs _ _)
theorem Ev.itemF {value slice : Expr} {l : List PV} {k : Int} {V : PV} {pos : Pos} (hv : Ev w A env own₁ s value (.list l)) (hi : Ev w A env own s slice (.int k)) (h0 : 0 ≤ k) (hfit : k < 2 ^ 63) (hk : l[k.toNat]? = some V) (hf : V.flat = true)
    (hs : ∀ o i, subscripted slice false o i = operate [o, i] (getItem o i) := by intro _ _; with_unfolding_all rfl) : Ev w A env own s (.Subscript value slice pos) V := fun s' g E =>
  (Ev.item hv hi h0 hfit hk hs).then g fun v s₁ g₁ r => ⟨g₁, r.flat hf⟩
theorem Ev.tupItemF {value slice : Expr} {l : List PV} {k : Int} {V : PV} {pos : Pos} (hv : Ev w A env own₁ s value (.tup l)) (hi : Ev w A env own s slice (.int k)) (h0 : 0 ≤ k) (hfit : k < 2 ^ 63) (hk : l[k.toNat]? = some V) (hf : V.flat = true)
    (hs : ∀ o i, subscripted slice false o i = operate [o, i] (getItem o i) := by intro _ _; with_unfolding_all rfl) : Ev w A env own s (.Subscript value slice pos) V :=
  hv.subs hi fun s' u i E g r₁ r₂ => by
    cases r₂
    cases r₁ with
    | @tup a vs n _ gl o r =>
      obtain ⟨v, e, rv⟩ := r.get hk
      have ht : IsTup s'.heap _ _ := ⟨_, gl, rfl, _, rfl⟩
      have hlt : k.toNat < l.length := (List.getElem?_eq_some_iff.mp hk).1
      have hq : seqIndex? k vs.toArray.size = some k.toNat := by
        rw [List.size_toArray, r.length]
        unfold seqIndex?
        simp only [show ¬ k < 0 by omega, if_false]
        rw [if_pos (by simp only [Bool.and_eq_true, decide_eq_true_eq]; omega)]
      refine tail_any (T := "tuple") ⟨_, gl, rfl⟩ F.slot_tuple_getitem.lookup (PyProof.Rows.getItem_tuple ht (by omega) hfit hq (by simpa using e) ⟨Grow.refl _, rv.flat hf⟩) (hs _ _)
theorem Ev.char {value slice : Expr} {x : Str} {i : Int} {pos : Pos} (hv : Ev w A env own s value (.str x)) (hi : Ev w A env own s slice (.int i)) (h1 : -(x.length : Int) ≤ i) (h2 : i < x.length) (hr : fitsSsize i = true)
    (hs : ∀ o i, subscripted slice false o i = operate [o, i] (getItem o i) := by intro _ _; with_unfolding_all rfl) (ht : ∀ o r, letTemporaryGo value o r = pure () := by intro _ _; with_unfolding_all rfl) : Ev w A env own s (.Subscript value slice pos) (.str (Txt.item x i)) :=
  hv.subs hi fun s' u v E g r₁ r₂ => by
    cases r₁; cases r₂
    exact PyProof.Rows.item_str hr h1 h2 (fun _ => ⟨Grow.tok (Nat.le_succ _), .str⟩) (hs _ _) (ht _)

-- slices
noncomputable def cut {α : Type} (l : List α) (lo hi : Option Int) : List α := (l.drop (kms_lo lo l.length)).take (kms_hi hi l.length - kms_lo lo l.length)

/-- a slice's part -/
inductive Ep (w : World) (A : Around) (env : Env) (s : Shared) : Option Expr → Option Int → Prop
  | none : Ep w A env s none none
  | some {e : Expr} {i : Int} {own : List Addr} : Ev w A env own s e (.int i) → Ep w A env s (some e) (some i)
theorem Ep.grow {e : Option Expr} {i : Option Int} {s' : Shared} (x : Ep w A env s e i) (g : Grow s s') : Ep w A env s' e i := by
  cases x with
  | none => exact .none
  | some h => exact .some (h.grow g)
theorem Ep.then {e : Option Expr} {i : Option Int} {Q : Value → Shared → Prop} {E : Value → Shared → Prop} {s₀ : Shared} (x : Ep w A env s₀ e i) (g : Grow s₀ s)
    (h : ∀ v s', Grow s s' → IsPart v i → Q v s') : wpAny (model PR w) A (evalPart e env) Q E s := by
  cases x with
  | none => exact wpAny_evalPart_none (h _ _ (Grow.refl _) .none)
  | some e => exact wpAny_evalPart_some (e.then g fun v s' g' r => by cases r; exact h _ _ g' (.int _ _))

theorem VReps.pick {h : Heap} {vs : List Value} {l : List PV} (r : VReps own h vs l) (lo hi : Option Int) : VReps own h (kms_pick vs lo hi) (cut l lo hi) := by
  unfold kms_pick cut
  rw [r.length]
  exact (r.drop _).take _

theorem Ev.sliceL {value : Expr} {el eu : Option Expr} {p pos : Pos} {l : List PV} {lo hi : Option Int} (hv : Ev w A env own s value (.list l)) (hl : Ep w A env s el lo) (hu : Ep w A env s eu hi) (ow : Ow own s.heap) (hsz : l.length ≤ sizeLine)
    (hs : ∀ o i, subscripted (.Slice el eu none p) false o i = operate [i, o] (getItem o i) := by intro _ _; with_unfolding_all rfl) (ht : ∀ o r, letTemporaryGo value o r = pure () := by intro _ _; with_unfolding_all rfl) :
    Ev w A env own s (.Subscript value (.Slice el eu none p) pos) (.list (cut l lo hi)) := fun s' g E => by
  refine PyProof.Rows.Subscript_ (hv.then g fun v s₁ g₁ r => wpAny_Slice (hl.then (g.trans g₁) fun vl s₂ g₂ pl => hu.then ((g.trans g₁).trans g₂) fun vu s₃ g₃ pu => wpAny_evalPart_none ?_))
  have r₃ := r.keeps (g₂.trans g₃).keep
  cases r₃ with
  | list gl o rs =>
    have g' := (g₁.trans g₂).trans g₃
    have hn := (ow.keeps (g.trans g').keep)
    refine slice_listK ⟨_, gl, rfl, _, rfl⟩ pl pu ⟨g'.trans (Grow.hp fun b o e => Heap.get?_push_of_some _ (Heap.get?_push_of_some _ e)), ?_⟩ (hs _ _) (ht _) (by rw [List.size_toArray, rs.length]; exact hsz)
    rw [kms_pick_eq]
    have hz : (s₃.heap.push { cls := .type "slice", data := .fields #[vl, vu, .none] }).objs.size = s₃.heap.objs.size + 1 := Heap.size_push ..
    refine .list (vs := kms_pick _ lo hi) (n := 0) ?_ ?_ ((rs.keeps fun b o e => Heap.get?_push_of_some _ (Heap.get?_push_of_some _ e)).pick lo hi)
    · rw [← hz]; exact Heap.get?_push_size _ rfl
    · intro hm
      obtain ⟨o', e'⟩ := hn _ hm
      have := natLt (Heap.lt_size e')
      omega

theorem ltg_str (value : Expr) (x : Str) (t : Tok) (r : Value) : letTemporaryGo value (.str x t) r = pure () := by
  unfold letTemporaryGo; cases value <;> rfl
theorem Ev.sliceS {value : Expr} {el eu : Option Expr} {p pos : Pos} {x : Str} {lo hi : Option Int} (hv : Ev w A env own s value (.str x)) (hl : Ep w A env s el lo) (hu : Ep w A env s eu hi) (hsz : x.length ≤ sizeLine)
    (hs : ∀ o i, subscripted (.Slice el eu none p) false o i = operate [i, o] (getItem o i) := by intro _ _; with_unfolding_all rfl) :
    Ev w A env own s (.Subscript value (.Slice el eu none p) pos) (.str (Txt.slice x lo hi)) := fun s' g E => by
  refine PyProof.Rows.Subscript_ (hv.then g fun v s₁ g₁ r => wpAny_Slice (hl.then (g.trans g₁) fun vl s₂ g₂ pl => hu.then ((g.trans g₁).trans g₂) fun vu s₃ g₃ pu => wpAny_evalPart_none ?_))
  cases r
  have g' := (g₁.trans g₂).trans g₃
  have kept : KeptH (fun h => ∀ b o, s₃.heap.get? b = some o → h.get? b = some o) := fun h ob k b o e => Heap.get?_push_of_some _ (k b o e)
  refine grown ?_
  cases pl <;> cases pu
  · exact tail_of_ItemOn (SBH.sliceItem_nn kept (fun _ _ e => e) (fun h' t' k kp ht => ⟨g'.trans (Grow.of kp ht), .str⟩) hsz) (hs _ _) (fun r => ltg_str value _ _ r)
  · exact tail_of_ItemOn (SBH.sliceItem_ns kept (fun _ _ e => e) (fun h' t' k kp ht => ⟨g'.trans (Grow.of kp ht), .str⟩) hsz) (hs _ _) (fun r => ltg_str value _ _ r)
  · exact tail_of_ItemOn (SBH.sliceItem_sn kept (fun _ _ e => e) (fun h' t' k kp ht => ⟨g'.trans (Grow.of kp ht), .str⟩) hsz) (hs _ _) (fun r => ltg_str value _ _ r)
  · exact tail_of_ItemOn (SBH.sliceItem_ss kept (fun _ _ e => e) (fun h' t' k kp ht => ⟨g'.trans (Grow.of kp ht), .str⟩) hsz) (hs _ _) (fun r => ltg_str value _ _ r)

-- lists
theorem Ev.catL {a b : Expr} {x y : List PV} {pos : Pos} (ha : Ev w A env own s a (.list x)) (hb : Ev w A env own s b (.list y)) (ow : Ow own s.heap) (hsz : x.length + y.length ≤ sizeLine) : Ev w A env own s (.BinOp a .Add b pos) (.list (x ++ y)) :=
  ha.bin hb fun s' u v E g r₁ r₂ => by
    cases r₁ with
    | @list _ v1 n1 _ g1 o1 q1 =>
      cases r₂ with
      | @list _ v2 n2 _ g2 o2 q2 =>
        refine P.add_list g1 g2 ⟨Grow.push, ?_⟩ (by rw [List.size_toArray, List.size_toArray, q1.length, q2.length]; exact hsz)
        refine .list (vs := v1 ++ v2) (n := 0) ?_ ((ow.keeps g.keep).new) ((q1.append q2).keeps fun b o e => Heap.get?_push_of_some _ e)
        rw [show listObj (v1 ++ v2) 0 = { cls := .type "list", data := .seq (v1.toArray ++ v2.toArray) } by simp [listObj]]
        exact Heap.get?_push_size _ rfl

theorem ints_of {h : Heap} : ∀ {vs : List Value} {ns : List Int}, VReps own h vs (ns.map .int) → IntsAre vs ns
  | _, [], r => by cases r; exact .nil
  | _, n :: ns, r => by
    cases r with
    | cons a r => cases a; exact .cons _ _ (ints_of r)

theorem Ct.len_list {l : List PV} (hl : (l.length : Int) < 2 ^ 63) : Ct w mg mb A own (.builtin "len") [.list l] (.int l.length) := fun s vs E G tk ow r => by
  cases r with
  | cons a r =>
    cases r
    cases a with
    | list g o q =>
      refine call_len_list ⟨_, g, rfl, _, rfl⟩ (by rw [List.size_toArray, q.length]; exact hl) ⟨Grow.tok (by omega), ?_⟩
      rw [List.size_toArray, q.length]; exact .int
theorem Ct.len_str {x : Str} (hl : (x.length : Int) < 2 ^ 63) : Ct w mg mb A own (.builtin "len") [.str x] (.int x.length) := fun s vs E G tk ow r => by
  cases r with
  | cons a r =>
    cases r
    cases a
    exact PyProof.Rows.len_str (by omega) ⟨Grow.tok (by omega), .int⟩
theorem Ct.range1 {n : Int} : Ct w mg mb A own (.type "range") [.int n] (.rng 0 n 1) := fun s vs E G tk ow r => by
  cases r with
  | cons a r =>
    cases r; cases a
    exact call_range_1 ⟨Grow.of (fun b o e => Heap.get?_push_of_some _ e) (by omega), .rng (Heap.get?_push_size _ rfl) ow.new⟩
theorem Ct.range2 {a b : Int} : Ct w mg mb A own (.type "range") [.int a, .int b] (.rng a b 1) := fun s vs E G tk ow r => by
  cases r with
  | cons a r =>
    cases r with
    | cons b r =>
      cases r; cases a; cases b
      exact call_range_2 ⟨Grow.of (fun b o e => Heap.get?_push_of_some _ e) (by omega), .rng (Heap.get?_push_size _ rfl) ow.new⟩
theorem Ct.range3 {a b c : Int} (hc : c ≠ 0) (hp : Builtin.divisionGoesByPylong (b - a) c = false) : Ct w mg mb A own (.type "range") [.int a, .int b, .int c] (.rng a b c) := fun s vs E G tk ow r => by
  cases r with
  | cons a r =>
    cases r with
    | cons b r =>
      cases r with
      | cons c r =>
        cases r; cases a; cases b; cases c
        exact call_range_3 hc ⟨Grow.of (t := s.toks) (fun b o e => Heap.get?_push_of_some _ e) (by omega), .rng (Heap.get?_push_size _ rfl) ow.new⟩ (.inl hp)
theorem Ct.sum {ns : List Int} (hh : A.handled = none) : Ct w mg mb A own (.builtin "sum") [.list (ns.map .int)] (.int ns.sum) := fun s vs E G tk ow r => by
  cases r with
  | cons a r =>
    cases r
    cases a with
    | list g o q =>
      have hi := ints_of q
      obtain ⟨xs, e⟩ := hi.allInts.items
      refine grown (sum_intListG hh (xs := xs) ⟨_, g, rfl, _, congrArg (fun z => Data.seq z _) e⟩ fun h' tk' t' hk ht => ⟨Grow.of hk ht, ?_⟩)
      have : ns.sum = preSum (numAt xs) xs.size := by
        rw [preSum_eq, List.take_of_length_le (by simp), ← nums_intItems, ← e]
        rw [show (List.toArray _).toList = _ from rfl, hi.numsOf]
      rw [this]; exact .int
theorem Ct.ord {x : Str} (h1 : x.length = 1) : Ct w mg mb A own (.builtin "ord") [.str x] (.int (x.cps.getD 0 0 : Nat)) := fun s vs E G tk ow r => by
  cases r with
  | cons a r =>
    cases r; cases a
    exact ord_of_one h1 ⟨Grow.tok (Nat.le_succ _), .int⟩
theorem Ct.str_int {i : Int} (h1 : i.natAbs.log2 < 1920) : Ct w mg mb A own (.type "str") [.int i] (.str (Str.ofString (toString i))) := fun s vs E G tk ow r => by
  cases r with
  | cons a r =>
    cases r; cases a
    exact P.str_of_int h1 ⟨Grow.tok (Nat.le_succ _), .str⟩
theorem Ct.int_str {x : Str} {n : Int} (hn : PySem.intText? x = some n) (hl : x.length ≤ 640) : Ct w mg mb A own (.type "int") [.str x] (.int n) := fun s vs E G tk ow r => by
  cases r with
  | cons a r =>
    cases r; cases a
    exact KIN.call_text hn hl ⟨Grow.tok (Nat.le_succ _), .int⟩
end
end Mine
end

-- Ev10
section
open PySem PySem.W PySem.Calls PyProof.Rows PyProof.V PySem.Spec PySem.Builtin.Str PySem.SeqAt
namespace Mine

section
variable {w : World} {mg mb : Str → Option Value} {A : Around} {env : Env} {own own₁ own₂ : List Addr} {s : Shared}

-- a method of a text
theorem Ev.methS {o e : Expr} {es : List Expr} {name : Str} {id : String} {apos pos : Pos} {x : Str} {Vs : List PV} {R : PV} (slot : Slot "str" name id) (ty : typeOf (.builtin id) = pure (.type "method_descriptor"))
    (ho : Ev w A env own s o (.str x)) (hs : Evs w A env own s (e :: es) Vs)
    (hc : ∀ s' t vs (E : Value → Shared → Prop), Grow s s' → VReps own s'.heap vs Vs → wpAny (model PR w) A (call (.builtin id) (.str x t :: vs)) (fun r s'' => Grow s' s'' ∧ VRep own s''.heap r R) E s')
    (he : starEach (e :: es) env = (false, eval e env) :: starEach es env := by rfl) (hpl : ((backTo pos (starEach es env)).any fun x => x.fst) = false := by rfl)
    (hbase : attributeBase o name env (eval o env) = eval o env := by rfl) (hline : (apos.endLine == pos.line) = true := by rfl)
    (hfew : ((backTo pos (starEach (e :: es) env)).all (fun x => !x.1) && (backToKw pos (keywordEach [] env)).all (fun x => x.1.isSome)
      && decide ((e :: es).length + ([] : List Keyword).length + (if ([] : List Keyword).isEmpty then 0 else 1) < 30)) = true := by rfl) :
    Ev w A env own s (.Call (.Attribute o name apos) (e :: es) [] pos) R := fun s' g E => by
  refine wpAny_Call_method_lateS hbase hfew hline (ho.then g fun v s₁ g₁ r => ?_)
  cases r
  refine ⟨"str", id, F.plainAttrs_str, slot, ty, typeIs_str _ _ _, (fun _ e => nomatch e), ?_⟩
  refine callWith_method1 (wpAny_mono (hs pos s₁ (g.trans g₁) E) (fun vs s₂ h₂ => ?_) (fun _ _ e => e)) he hpl
  exact wpAny_mono (hc s₂ _ vs E ((g.trans g₁).trans h₂.1) h₂.2) (fun r s₃ h₃ => ⟨(g₁.trans h₂.1).trans h₃.1, h₃.2⟩) (fun _ _ e => e)

theorem Ev.find {o e : Expr} {apos pos : Pos} {x y : Str} (ho : Ev w A env own s o (.str x)) (hy : Ev w A env own s e (.str y))
    (he : starEach [e] env = [(false, eval e env)] := by rfl) (hbase : attributeBase o "find" env (eval o env) = eval o env := by rfl) (hline : (apos.endLine == pos.line) = true := by rfl) :
    Ev w A env own s (.Call (.Attribute o "find" apos) [e] [] pos) (.int (Txt.find x y)) :=
  Ev.methS F.slot_str_find F.type_str_find ho (Evs.cons hy Evs.nil he) (fun s' t vs E g r => by
    cases r with
    | cons a r => cases r; cases a; exact SC.find ⟨Grow.tok (Nat.le_succ _), .int⟩) he rfl hbase hline (by rw [he]; rfl)

theorem strs_of {h : Heap} : ∀ {vs : List Value} {ns : List Str}, VReps own h vs (ns.map .str) → ∃ l : List (Str × Tok), vs = strValues l ∧ l.map (·.1) = ns
  | _, [], r => by cases r; exact ⟨[], rfl, rfl⟩
  | _, n :: ns, r => by
    cases r with
    | @cons v vs _ _ a r =>
      cases a with
      | @str _ t =>
        obtain ⟨l, e1, e2⟩ := strs_of r
        exact ⟨(n, t) :: l, by rw [e1]; rfl, by rw [List.map_cons, e2]⟩
theorem reps_strs {h : Heap} : ∀ (l : List (Str × Tok)), VReps own h (strValues l) ((l.map (·.1)).map .str)
  | [] => .nil
  | p :: l => .cons .str (reps_strs l)

theorem Ev.join {o e : Expr} {apos pos : Pos} {x : Str} {ts : List Str} (ho : Ev w A env own s o (.str x)) (hy : Ev w A env own s e (.list (ts.map .str))) (hok : JoinOk x ts = true)
    (he : starEach [e] env = [(false, eval e env)] := by rfl) (hbase : attributeBase o "join" env (eval o env) = eval o env := by rfl) (hline : (apos.endLine == pos.line) = true := by rfl) :
    Ev w A env own s (.Call (.Attribute o "join" apos) [e] [] pos) (.str (Txt.join x ts)) :=
  Ev.methS F.slot_str_join F.type_str_join ho (Evs.cons hy Evs.nil he) (fun s' t vs E g r => by
    cases r with
    | cons a r =>
      cases r
      cases a with
      | list gl o q =>
        obtain ⟨l, rfl, e2⟩ := strs_of q
        exact grown (SC.join ⟨_, gl, rfl, _, rfl⟩ e2 hok fun t' k ht => ⟨Grow.tok ht, .str⟩)) he rfl hbase hline (by rw [he]; rfl)

theorem Ev.find3 {o e₁ e₂ : Expr} {apos pos : Pos} {x y : Str} {i : Int} (ho : Ev w A env own s o (.str x)) (hy : Ev w A env own s e₁ (.str y)) (hi : Ev w A env own s e₂ (.int i))
    (he : starEach [e₁, e₂] env = [(false, eval e₁ env), (false, eval e₂ env)] := by rfl) (he₂ : starEach [e₂] env = [(false, eval e₂ env)] := by rfl) (hbase : attributeBase o "find" env (eval o env) = eval o env := by rfl) (hline : (apos.endLine == pos.line) = true := by rfl) :
    Ev w A env own s (.Call (.Attribute o "find" apos) [e₁, e₂] [] pos) (.int (Txt.find3 x y i)) :=
  Ev.methS F.slot_str_find F.type_str_find ho (Evs.cons hy (Evs.cons hi Evs.nil he₂) (by rw [he, he₂])) (fun s' t vs E g r => by
    cases r with
    | cons a r =>
      cases r with
      | cons b r =>
        cases r; cases a; cases b
        exact SC.find3 ⟨Grow.tok (Nat.le_succ _), .int⟩) (by rw [he, he₂]) (by rw [he₂]; rfl) hbase hline (by rw [he]; rfl)

theorem call_split {x y : Str} {t u : Tok} {Q : Value → Shared → Prop} {E : Value → Shared → Prop} (hy : (y.length == 0) = false) (hx : x.length ≤ sizeLine) (hn : (partsBetween x (Builtin.Str.occurrences x y 0 x.length (x.length + 1)) y.length).length ≤ sizeLine)
    (h : ∀ h' tk l, l.map (·.1) = Txt.split x y → (∀ b o, s.heap.get? b = some o → h'.get? b = some o) → s.toks ≤ tk → h'.get? s.heap.objs.size = some (listObj (strValues l) 0) → Q (.ref s.heap.objs.size) { s with heap := h', toks := tk }) :
    wpAny (model PR w) A (call (.builtin "str.split") [.str x t, .str y u]) Q E s := by
  have one : Txt.split x y = [x] → Q (.ref s.heap.objs.size) { s with heap := s.heap.push { cls := .type "list", data := .seq [Value.str x t].toArray } } := fun e =>
    h _ s.toks [(x, t)] e.symm (fun b o e => Heap.get?_push_of_some _ e) (Nat.le_refl _) (Heap.get?_push_size _ rfl)
  cases h1 : (decide (x.length < y.length) || decide (Builtin.Str.strKind x < Builtin.Str.strKind y)) with
  | true => exact call_meets F.slot_str_split (typeIs_str _ _ _) F.entry_str_split (F.args_str_split_2 _ _) (meets_str_split_cannot_occur x y t u h1) (one (if_pos h1))
  | false =>
    cases hf : (Builtin.Str.occurrences x y 0 x.length (x.length + 1)).isEmpty with
    | true => exact call_meets F.slot_str_split (typeIs_str _ _ _) F.entry_str_split (F.args_str_split_2 _ _) (meets_str_split_not_found x y t u h1 hy hf) (one ((if_neg (ne_true_of_eq_false h1)).trans (if_pos hf)))
    | false =>
      refine call_meets F.slot_str_split (typeIs_str _ _ _) F.entry_str_split (F.args_str_split_2 _ _) (meets_str_split_sep x y t u h1 hy hf hx hn) ?_
      refine h _ _ (numbered s.toks (partsBetween x (Builtin.Str.occurrences x y 0 x.length (x.length + 1)) y.length)) ((numbered_texts _ _).trans ((if_neg (ne_true_of_eq_false h1)).trans (if_neg (ne_true_of_eq_false hf))).symm)
        (fun b o e => Heap.get?_push_of_some _ e) (Nat.le_add_right _ _) ?_
      rw [← strsFrom_eq]
      exact Heap.get?_push_size _ rfl

theorem Ev.split {o e : Expr} {apos pos : Pos} {x y : Str} (ho : Ev w A env own s o (.str x)) (hy : Ev w A env own s e (.str y)) (ow : Ow own s.heap) (h0 : (y.length == 0) = false) (hx : x.length ≤ sizeLine)
    (hn : (partsBetween x (Builtin.Str.occurrences x y 0 x.length (x.length + 1)) y.length).length ≤ sizeLine)
    (he : starEach [e] env = [(false, eval e env)] := by rfl) (hbase : attributeBase o "split" env (eval o env) = eval o env := by rfl) (hline : (apos.endLine == pos.line) = true := by rfl) :
    Ev w A env own s (.Call (.Attribute o "split" apos) [e] [] pos) (.list ((Txt.split x y).map .str)) :=
  Ev.methS F.slot_str_split F.type_str_split ho (Evs.cons hy Evs.nil he) (fun s' t vs E g r => by
    cases r with
    | cons a r =>
      cases r; cases a
      refine call_split h0 hx hn fun h' tk l hl hk ht hg => ⟨Grow.of hk ht, ?_⟩
      rw [← hl]
      exact .list hg ((ow.keeps g.keep).new) (reps_strs l)) he rfl hbase hline (by rw [he]; rfl)

/-- replace by two written texts -/
theorem Ev.replace {o : Expr} {apos pos p1 p2 : Pos} {k1 k2 : Nat} {x y z : Str} (ho : Ev w A env own s o (.str x)) (htk : 0 < s.toks) (hyz : (y == z) = false) (hb : x.length + (x.length + 1) * z.length ≤ 16777216)
    (hbase : attributeBase o "replace" env (eval o env) = eval o env := by rfl) (hline : (apos.endLine == pos.line) = true := by rfl) :
    Ev w A env own s (.Call (.Attribute o "replace" apos) [.Constant (.str y) k1 p1, .Constant (.str z) k2 p2] [] pos) (.str (Txt.replace x y z)) := fun s' g E => by
  refine wpAny_Call_method_lateS hbase rfl hline (ho.then g fun v s₁ g₁ r => ?_)
  cases r
  have h1 : 0 < s₁.toks := Nat.lt_of_lt_of_le htk (g.trans g₁).2
  refine ⟨"str", _, F.plainAttrs_str, F.slot_str_replace, F.type_str_replace, typeIs_str _ _ _, (fun _ e => nomatch e), ?_⟩
  refine callWith_method1 (args_cons (Constant_str (args_cons (Constant_str (args_nil ?_)))))
  refine grown (SC.replace (by show (s₁.toks : Nat) ≠ 0; omega) (by show (s₁.toks + 1 : Nat) ≠ 0; omega) (by show (s₁.toks : Nat) ≠ s₁.toks + 1; omega) hyz hb fun t' k ht => ?_)
  refine ⟨(g₁.trans (Grow.tok (t := s₁.toks + 1 + 1) (by omega))).trans (Grow.tok ht), .str⟩

-- equality of lists
mutual
noncomputable def toPy : PV → PyData
  | .none => .none
  | .bool b => .bool b
  | .int i => .int i
  | .str s => .str s
  | .list l => .list (toPys l)
  | .tup l => .tuple (toPys l)
  | .rng _ _ _ => .none
  | .raw _ => .none
noncomputable def toPys : List PV → List PyData
  | [] => []
  | p :: l => toPy p :: toPys l
end
mutual
noncomputable def noRng : PV → Bool
  | .none | .bool _ | .int _ | .str _ => true
  | .list l | .tup l => noRngs l
  | .rng _ _ _ => false
  | .raw _ => false
noncomputable def noRngs : List PV → Bool
  | [] => true
  | p :: l => noRng p && noRngs l
end
mutual
theorem reads_of {h : Heap} : ∀ {v : Value} {V : PV}, VRep own h v V → noRng V = true → ∃ as, Reads h v (toPy V) as
  | _, _, .none, _ => ⟨_, .none⟩
  | _, _, .bool, _ => ⟨_, .bool _⟩
  | _, _, .int, _ => ⟨_, .int _ _⟩
  | _, _, .str, _ => ⟨_, .str _ _⟩
  | _, _, .list g o r, n => by
    obtain ⟨as, ra⟩ := readss_of r (by simpa [noRng] using n)
    exact ⟨_, by rw [toPy]; exact .list g rfl rfl (by simpa using ra)⟩
  | _, _, .tup g o r, n => by
    obtain ⟨as, ra⟩ := readss_of r (by simpa [noRng] using n)
    exact ⟨_, by rw [toPy]; exact .tuple g rfl rfl (by simpa using ra)⟩
  | _, _, .rng g o, n => by simp [noRng] at n
  | _, _, .raw, n => by simp [noRng] at n
theorem readss_of {h : Heap} : ∀ {vs : List Value} {Vs : List PV}, VReps own h vs Vs → noRngs Vs = true → ∃ as, ReadsAll h vs (toPys Vs) as
  | _, _, .nil, _ => ⟨_, .nil⟩
  | _, _, .cons a r, n => by
    rw [noRngs, Bool.and_eq_true] at n
    obtain ⟨as, ra⟩ := reads_of a n.1
    obtain ⟨bs, rb⟩ := readss_of r n.2
    exact ⟨_, by rw [toPys]; exact .cons ra rb⟩
end
/-- two lists compared -/
theorem Ec.ne_list {U V : PV} (hu : Room A 0) (n1 : noRng U = true) (n2 : noRng V = true) (s1 : shaped (toPy U) = true) (s2 : shaped (toPy V) = true) (hm : noMix (toPy U) (toPy V) = true) : Ec w A .NotEq U V own₁ own₂ (!Spec.same (toPy U) (toPy V)) := fun s u v E r₁ r₂ => by
  obtain ⟨as, ra⟩ := reads_of r₁ n1
  obtain ⟨bs, rb⟩ := reads_of r₂ n2
  exact ne_dataH_same ra rb s1 s2 (by have := hu.units; omega) hm ⟨Grow.refl _, rfl⟩
theorem Ec.eq_list {U V : PV} (hu : Room A 0) (n1 : noRng U = true) (n2 : noRng V = true) (s1 : shaped (toPy U) = true) (s2 : shaped (toPy V) = true) (hm : noMix (toPy U) (toPy V) = true) : Ec w A .Eq U V own₁ own₂ (Spec.same (toPy U) (toPy V)) := fun s u v E r₁ r₂ => by
  obtain ⟨as, ra⟩ := reads_of r₁ n1
  obtain ⟨bs, rb⟩ := reads_of r₂ n2
  exact eq_dataH_same ra rb s1 s2 (by have := hu.units; omega) hm ⟨Grow.refl _, rfl⟩
theorem Ec.in_ints {k : Int} {ns : List Int} : Ec w A .In (.int k) (.list (ns.map .int)) own₁ own₂ (ns.any (· == k)) := fun s u v E r₁ r₂ => by
  cases r₁
  cases r₂ with
  | list g o r => exact in_list_ints ⟨_, g, rfl, _, rfl⟩ (ints_of r) ⟨Grow.refl _, rfl⟩
end
end Mine
end

-- Ev11
section
open PySem PySem.W PySem.Calls PyProof.Rows PyProof.V PySem.Spec PySem.Builtin.Str PySem.SeqAt
namespace Mine

section
variable {w : World} {mg mb : Str → Option Value} {A : Around} {env : Env} {own own₁ own₂ : List Addr} {ρ : List (Str × PV)} {names : List (Str × NameKind)} {s₀ : Base} {s : Shared} {os : Opens} {pn : List (Addr × Obj)} {ex : List Addr}

theorem Ev.cast {e : Expr} {V V' : PV} (h : Ev w A env own s e V) (he : V = V') : Ev w A env own s e V' := he ▸ h
theorem Et.cast {e : Expr} {b b' : Bool} (h : Et w A env s e b) (he : b = b') : Et w A env s e b' := he ▸ h

theorem Ev.lenL {e : Expr} {l : List PV} {p pos : Pos} (c : Cx w mg mb A env own ρ names s) (h : Ev w A env own s e (.list l)) (hl : l.length ≤ 16777216)
    (hk : (names.lookup (Str.ofString "len") == some .globalImplicit && !(Str.ofString "len" == Str.ofString "__debug__")) = true := by decide +kernel) (he : starEach [e] env = (false, eval e env) :: starEach [] env := by rfl) :
    Ev w A env own s (.Call (.Name (Str.ofString "len") p) [e] [] pos) (.int l.length) :=
  Ev.call_bi c (Evs.cons h Evs.nil he) (Ct.len_list (by omega)) (by decide) hk he
theorem Ev.lenS {e : Expr} {x : Str} {p pos : Pos} (c : Cx w mg mb A env own ρ names s) (h : Ev w A env own s e (.str x)) (hl : x.length ≤ 16777216)
    (hk : (names.lookup (Str.ofString "len") == some .globalImplicit && !(Str.ofString "len" == Str.ofString "__debug__")) = true := by decide +kernel) (he : starEach [e] env = (false, eval e env) :: starEach [] env := by rfl) :
    Ev w A env own s (.Call (.Name (Str.ofString "len") p) [e] [] pos) (.int x.length) :=
  Ev.call_bi c (Evs.cons h Evs.nil he) (Ct.len_str (by omega)) (by decide) hk he
theorem Ev.range1 {e : Expr} {n : Int} {p pos : Pos} (c : Cx w mg mb A env own ρ names s) (h : Ev w A env own s e (.int n))
    (hk : (names.lookup (Str.ofString "range") == some .globalImplicit && !(Str.ofString "range" == Str.ofString "__debug__")) = true := by decide +kernel) (he : starEach [e] env = (false, eval e env) :: starEach [] env := by rfl) :
    Ev w A env own s (.Call (.Name (Str.ofString "range") p) [e] [] pos) (.rng 0 n 1) :=
  Ev.call_ty c (Evs.cons h Evs.nil he) Ct.range1 (by decide) hk he
theorem Ev.range2 {e₁ e₂ : Expr} {m n : Int} {p pos : Pos} (c : Cx w mg mb A env own ρ names s) (h : Ev w A env own s e₁ (.int m)) (h' : Ev w A env own s e₂ (.int n))
    (hk : (names.lookup (Str.ofString "range") == some .globalImplicit && !(Str.ofString "range" == Str.ofString "__debug__")) = true := by decide +kernel)
    (he : starEach [e₁, e₂] env = (false, eval e₁ env) :: starEach [e₂] env := by rfl) (he' : starEach [e₂] env = (false, eval e₂ env) :: starEach [] env := by rfl) :
    Ev w A env own s (.Call (.Name (Str.ofString "range") p) [e₁, e₂] [] pos) (.rng m n 1) :=
  Ev.call_ty c (Evs.cons h (Evs.cons h' Evs.nil he') he) Ct.range2 (by decide) hk he (by rw [he']; rfl)

theorem Its.range {n : Nat} (hn : n ≤ 16777216) : Its (.rng 0 n 1) (((List.range n).map fun (i : Nat) => (i : Int)).map .int) := by
  have e : (Builtin.Range.rangeSize 0 (n : Int) 1).toNat = n := by
    rw [rangeSize_one]; split <;> omega
  have : rngItems 0 n 1 = (List.range n).map fun (i : Nat) => (i : Int) := by
    unfold rngItems
    rw [e]
    refine List.map_congr_left fun i _ => ?_
    simp
  rw [← this]
  exact .rng (small_one (by omega) (by omega) (by omega) (by omega)) (by rw [rangeSize_one]; split <;> omega)
/-- a range's items as naturals -/
theorem Its.rangeN {n : Nat} (hn : n ≤ 16777216) : Its (.rng 0 n 1) ((List.range n).map fun (i : Nat) => .int i) := by
  have := Its.range hn
  rwa [List.map_map] at this

noncomputable def blkOk (names : List (Str × NameKind)) (scope : Scope) (x : Str) : Bool := scope.kind == .function && decide ((scope.names.map (·.1)).Nodup) &&
  scope.names.all (fun q => q.2 != .free || (names.lookup q.1 == some .cell || names.lookup q.1 == some .free)) && (scope.names.lookup x == some .local || scope.names.lookup x == some .cell)
theorem Blk.of {scope : Scope} {x : Str} {ρ' : List (Str × PV)} (h : blkOk names scope x = true) (hs : ∀ q ∈ ρ', q ∈ ρ ∧ scope.names.lookup q.1 = some .free) : Blk w mg mb A env ρ names scope ρ' x := by
  simp only [blkOk, Bool.and_eq_true, beq_iff_eq, decide_eq_true_eq, List.all_eq_true, Bool.or_eq_true, bne_iff_ne, ne_eq] at h
  obtain ⟨⟨⟨h1, h2⟩, h3⟩, h4⟩ := h
  refine ⟨h1, h2, fun n hn => ?_, hs, h4⟩
  rcases h3 _ hn with q | q
  · exact absurd rfl q
  · exact q

/-- max of a list of ints -/
theorem Ct.max {n : Int} {ns : List Int} (hh : A.handled = none) (M : Int) (hM : M ∈ n :: ns) (hle : ∀ a ∈ n :: ns, a ≤ M) : Ct w mg mb A own (.builtin "max") [.list ((n :: ns).map .int)] (.int M) := fun s vs E G tk ow r => by
  cases r with
  | cons a r =>
    cases r
    cases a with
    | list g o q =>
      have hi := ints_of q
      obtain ⟨xs, e⟩ := hi.allInts.items
      have hn : numsOf (intItems xs).toList = n :: ns := by rw [← e]; exact hi.numsOf
      rw [nums_intItems] at hn
      have hsz : 0 < xs.size := by
        have := congrArg List.length hn
        simp at this; omega
      refine grown (max_intList hh (xs := xs) ⟨_, g, rfl, _, congrArg (fun z => Data.seq z _) e⟩ hsz fun v h' tk' hv hk ht => ⟨Grow.of hk ht, ?_⟩)
      obtain ⟨t, rfl⟩ := intItems_at hv
      obtain ⟨h1, h2⟩ := argBest_gt (numAt xs) (xs.size - 1)
      have hle' : numAt xs (argBest (fun i j => decide (numAt xs i > numAt xs j)) (xs.size - 1)) = M := by
        refine Int.le_antisymm (hle _ ?_) ?_
        · rw [← hn, numAt_eq]; exact getD_mem (by rw [List.length_map, Array.length_toList]; omega)
        · rw [← hn] at hM
          obtain ⟨j, hj, rfl⟩ := mem_getD hM
          rw [List.length_map, Array.length_toList] at hj
          rw [← numAt_eq]; exact h2 j (by omega)
      rw [hle']; exact .int

-- two names bound to a pair
theorem Ex.unpack2 {x y : Str} {px py tp pos : Pos} {k : Nat} {e : Expr} {U V : PV} {ρ' : List (Str × PV)} {rest : List Stmt} {P : Flow → Shared → Prop} (hh : A.handled = none) (F : Frm w mg mb A s₀ env own ex pn os ρ names s) (he : Ev w A env (adrs os ++ (ex ++ own)) s e (.tup [U, V]))
    (hx : names.lookup x = some .local ∨ names.lookup x = some .cell) (hy : names.lookup y = some .local ∨ names.lookup y = some .cell) (hxy : x ≠ y) (hox : ∀ p ∈ os, p.1 ≠ x) (hoy : ∀ p ∈ os, p.1 ≠ y) (hρ : ∀ p ∈ ρ', p ∈ ρ ∧ p.1 ≠ x) (hρy : ∀ p ∈ ρ', p.1 ≠ y)
    (h : ∀ s', Frm w mg mb A s₀ env own ex pn os ((y, V) :: (x, U) :: ρ') names s' → Ex w A env rest P s')
    (hs : swapsWithSole [.Tuple [.Name x px, .Name y py] k tp] e pos.line env = pure false := by rfl) (hw : swappedStores [.Tuple [.Name x px, .Name y py] k tp] e env = pure none := by rfl) :
    Ex w A env (.Assign [.Tuple [.Name x px, .Name y py] k tp] e pos :: rest) P s := fun E => by
  refine wpAny_execs_cons (PyProof.Rows.Assign_Tuple (he.then (Grow.refl _) fun v s₁ g₁ r => ?_) hs hw)
  cases r with
  | @tup a vs n _ g o q =>
    cases q with
    | @cons v1 _ _ _ r1 q =>
      cases q with
      | @cons v2 _ _ _ r2 q =>
        cases q
        refine assign_Tuple_tuple hh (items := [v1, v2].toArray) ⟨_, g, rfl, _, rfl⟩ rfl rfl fun h' hk => ?_
        have kk : ∀ b o, s₁.heap.get? b = some o → h'.get? b = some o := fun b o e => hk b o (Nat.ne_of_lt (Heap.lt_size e)) e
        have F₂ := (F.grow g₁).grow (Grow.hp kk)
        show wpAny _ A (assignInOrder [PySem.assign (.Name x px) env, PySem.assign (.Name y py) env] [v1, v2]) _ E _
        refine assignInOrder_cons (wpAny_assign_Name (F₂.stored hx fun h₃ tk S => ?_))
        have F₃ := F₂.afterStore (V := U) (ρ' := ρ') hox hρ (r1.keeps kk) S
        refine assignInOrder_cons (wpAny_assign_Name (F₃.store (V := V) (ρ' := (x, U) :: ρ') hy hoy (List.forall_mem_cons.mpr ⟨⟨List.mem_cons_self, hxy⟩, fun p hp => ⟨List.mem_cons_of_mem _ hp, hρy p hp⟩⟩) ((r2.keeps kk).move (fun b o iv _ e => S.kv b o iv e) (fun _ _ z => z)) fun s₄ F₄ => ?_))

        exact PyProof.Rows.assignInOrder_nil (h _ F₄ E)

/-- a dict that nothing here speaks of turns -/
theorem Frm.drop {C : Addr} {h' : Heap} (F : Frm w mg mb A s₀ env own ex pn os ρ names s) (hC : ∃ o, s.heap.get? C = some o ∧ ¬ IsVal o) (hL : env.locals ≠ C) (hc : ∀ n c, env.cells.lookup n = some c → c ≠ C) (h₀ : s₀.heap.get? C = none) (hs : Heap.SameBut C s.heap h') (hCh : ∀ p ∈ s₀.hid, p.1 ≠ C) (hCd : ∀ p ∈ s₀.dic, p.1 ≠ C) :
    Frm w mg mb A s₀ env own ex pn os ρ names { s with heap := h' } := by
  obtain ⟨oC, gC, nC⟩ := hC
  have kv : ∀ b o, IsVal o → s.heap.get? b = some o → h'.get? b = some o := fun b o iv e => (hs.2 b (by rintro rfl; rw [gC] at e; cases e; exact nC iv)).trans e
  have mv : ∀ {own v p}, VRep own s.heap v p → VRep own h' v p := fun r => r.move (fun b o iv _ e => kv b o iv e) (fun _ _ z => z)
  have mvs : ∀ {own v p}, VReps own s.heap v p → VReps own h' v p := fun r => r.move (fun b o iv _ e => kv b o iv e) (fun _ _ z => z)
  have nsK : ∀ {m}, s.heap.Ns env.locals m → h'.Ns env.locals m := fun {m} n => n.sameBut hs hL
  have gr : Grow s₀.toShared { s with heap := h' } := by
    obtain ⟨⟨h₁, t₁, rfl, k₁⟩, l₁⟩ := F.gr
    exact Grow.of (fun b o e => (hs.2 b (by rintro rfl; rw [h₀] at e; cases e)).trans (k₁ b o e)) l₁
  refine { cx := ⟨F.cx.fn, F.cx.gl, F.cx.bu, F.cx.tk, F.G₀.keeps gr.keep, ?_, F.cx.gk, F.cx.ck, ?_⟩, kd := F.kd, G₀ := F.G₀, ow₀ := F.ow₀, gr := gr, base := F.base, ns := let ⟨m, n⟩ := F.ns; ⟨m, nsK n⟩, cells := fun n c e => let ⟨⟨v, ic⟩, l⟩ := F.cells n c e; ⟨⟨v, ic.sameBut hs (hc n c e)⟩, l⟩, apart := F.apart, ops := ?_, opd := F.opd, pin := fun p hp => let ⟨e, v, o⟩ := F.pin p hp; ⟨kv _ _ v e, v, o⟩, exs := F.exs, hd := fun p hp => let ⟨n, l⟩ := F.hd p hp; ⟨n.sameBut hs (hCh p hp), l⟩, dc := fun p hp => let ⟨e, d⟩ := F.dc p hp; ⟨(hs.2 _ (hCd p hp)).trans e, d⟩ }
  · intro a ha
    rcases List.mem_append.mp ha with ha | ha
    · obtain ⟨p, hp, e⟩ := List.mem_map.mp ha
      obtain ⟨-, -, ⟨vs, n, g, -⟩, -⟩ := F.ops p hp
      rw [e] at g
      exact ⟨_, kv _ _ (.inl ⟨_, _, rfl⟩) g⟩
    · rcases List.mem_append.mp ha with ha | ha
      · obtain ⟨-, o, ho⟩ := F.exs a ha
        obtain ⟨e, v, -⟩ := F.pin _ ho
        exact ⟨_, kv _ _ v e⟩
      · exact (F.ow₀.keeps gr.keep) a ha
  · intro p hp
    rcases F.cx.bd p hp with ⟨k, m', v', n'', e, r'⟩ | ⟨k, c, v', e, ic, r'⟩
    · exact .inl ⟨k, m', v', nsK n'', e, mv r'⟩
    · exact .inr ⟨k, c, v', e, ic.sameBut hs (hc _ _ e), mv r'⟩
  · intro p hp
    obtain ⟨k', ⟨m', n', e'⟩, ⟨vs', j', g', r'⟩, hn'⟩ := F.ops p hp
    exact ⟨k', ⟨m', nsK n', e'⟩, ⟨vs', j', kv _ _ (.inl ⟨_, _, rfl⟩) g', mvs r'⟩, hn'⟩

/-- y = [.. for x in ..], where the store is exchanged with the block's end -/
theorem Ex.assignComp {α : Type} {inj : α → PV} {xs : List α} {S : PV} {elt iter : Expr} {ifs : List Expr} {x y : Str} {px py : Pos} {scope : Scope} {pos spos : Pos} {ρ' ρ'' : List (Str × PV)} {rest : List Stmt} {P : Flow → Shared → Prop} (p : α → Bool) (f : α → PV) (hh : A.handled = none)
    (F : Frm w mg mb A s₀ env own ex pn os ρ names s) (hi : Ev w A env (adrs os ++ (ex ++ own)) s iter S) (hit : Its S (xs.map inj)) (hsz : xs.length ≤ sizeLine) (B : Blk w mg mb A env ρ names scope ρ' x)
    (hbody : ∀ a ∈ xs, ∀ own' s' env', Cx w mg mb A env' own' ((x, inj a) :: ρ') scope.names s' → Etl w A env' s' ifs (p a) ∧ (p a = true → Ev w A env' own' s' elt (f a)))
    (hy : names.lookup y = some .local) (ho : ∀ p ∈ os, p.1 ≠ y) (hρ : ∀ p ∈ ρ'', p ∈ ρ ∧ p.1 ≠ y)
    (h : ∀ s', Frm w mg mb A s₀ env own ex pn os ((y, .list ((xs.filter p).map f)) :: ρ'') names s' → Ex w A env rest P s')
    (hsw : swapsWith (.ListComp elt [⟨.Name x px, iter, ifs, 0⟩] scope pos) (some (.Name y py)) spos.line env = pure true)
    (hs : ∀ x, foldedSetIterable iter env x = pure x := by intro _; rfl) :
    Ex w A env (.Assign [.Name y py] (.ListComp elt [⟨.Name x px, iter, ifs, 0⟩] scope pos) spos :: rest) P s := fun E => by
  obtain ⟨cl, hcl, h1, h2⟩ := closureFor_some (env := env) (scope := scope) fun n h => (F.cx.ck n (B.free n h)).2
  refine wpAny_execs_cons ?_
  rw [exec_Assign_Name_used _ _ _ _ hsw]
  refine wpAny_bind (wpAny_standAt (wpAny_bind ?_))
  show wpAny _ A (do let _ ← comprehension (.ListComp elt [⟨.Name x px, iter, ifs, 0⟩] scope pos) scope env _ (newList []) false (eval iter env) (some (PySem.assign (PySem.Expr.Name y py) env))) _ _ s
  refine wpAny_bind (wpAny_mono (wpAny_comprehension_free (use := some (PySem.assign (PySem.Expr.Name y py) env)) (Q := fun _ s' => wpAny (model PR w) A (execs rest env) P E s') rfl hs hcl B.kind (hnames_of B.nd)
    (hi.then (Grow.refl _) fun v s₁ g₁ r => ?_)) (fun _ s' hq => wpAny_pure (wpAny_pure hq)) fun _ _ e => e)
  have F₁ := F.grow g₁
  refine Itr.of hh F₁.cx.ow r hit _ _ fun I fp Pw St s₂ g₂ wi => ?_
  refine comp_block (RR := fun acc C => compPost (model PR w) A E (some (PySem.assign (PySem.Expr.Name y py) env)) (fun _ s' => wpAny (model PR w) A (execs rest env) P E s') acc C) p f F₁.cx B wi g₂ hsz h1 h2 hbody ?_
  intro D C s₃ ys n g₃ hD hC hDC hn hl hys
  have F₃ := F₁.grow g₃
  have hLC : env.locals ≠ C := by
    rintro q
    obtain ⟨m, o, es, ep, g, -⟩ := F₁.ns
    rw [q, hC] at g; cases g
  have hcC : ∀ n c, env.cells.lookup n = some c → c ≠ C := fun n c e q => by
    obtain ⟨⟨v, o, g, -⟩, -⟩ := F₁.cells n c e
    rw [q, hC] at g; cases g
  have h₀ : s₀.heap.get? C = none := by
    cases e : s₀.heap.get? C with
    | none => rfl
    | some o => have := F₁.gr.keep _ _ e; rw [hC] at this; cases this
  have hCh : ∀ p ∈ s₀.hid, p.1 ≠ C := fun p hp q => by
    obtain ⟨⟨o, es, ep, g, -⟩, -⟩ := F₁.hd p hp
    rw [q, hC] at g; cases g
  have hCd : ∀ p ∈ s₀.dic, p.1 ≠ C := fun p hp q => by
    have := (F₁.dc p hp).1
    rw [q, hC] at this; cases this
  show wpAny _ A (PySem.assign (PySem.Expr.Name y py) env (.ref D)) _ E s₃
  refine wpAny_assign_Name ?_
  obtain ⟨mC, nC⟩ := hn
  obtain ⟨m, nL⟩ := F₃.ns
  -- the store, with what it leaves of C
  have key : ∀ s₄, Frm w mg mb A s₀ env own ex pn os ((y, .list ((xs.filter p).map f)) :: ρ'') names s₄ → (∃ m', s₄.heap.Ns C m') →
      ∃ m', s₄.heap.Ns C m' ∧ ∀ h', Heap.SameBut C s₄.heap h' → wpAny (model PR w) A (execs rest env) P E { s₄ with heap := h' } := fun s₄ F₄ ⟨m', n'⟩ => by
    refine ⟨m', n', fun h' hs' => h _ (F₄.drop ?_ hLC hcC h₀ hs' hCh hCd) E⟩
    obtain ⟨o, es, ep, g, d, -⟩ := n'
    exact ⟨o, g, by rintro (⟨xs, k, e⟩ | ⟨vs, e⟩) <;> rw [d] at e <;> cases e⟩
  refine F₃.stored (.inl hy) fun h' tk S => key _ (F₃.afterStore ho hρ (.list hl (fun hm => by obtain ⟨o, e⟩ := F₁.cx.ow D hm; rw [hD] at e; cases e) hys) S) ?_
  obtain ⟨T, hsT, hT⟩ := S.but
  refine ⟨_, nC.sameBut hsT ?_⟩
  rcases hT with rfl | hT
  · exact fun q => hLC q.symm
  · exact fun q => hcC _ _ hT q.symm
/-- written constants: own is fixed -/
theorem Ev.ci {i : Int} {k : Nat} {p : Pos} : Ev w A env [] s (.Constant (.int i) k p) (.int i) := Ev.cint
theorem Ev.cs {x : Str} {k : Nat} {p : Pos} : Ev w A env [] s (.Constant (.str x) k p) (.str x) := Ev.cstr
end
end Mine
end

-- Ev12
section
open PySem PySem.W PySem.Calls PyProof.Rows PyProof.V PySem.Spec PySem.Builtin.Str PySem.SeqAt
namespace Mine

theorem map_at {α β : Type} {l : List α} {i : Nat} (f : α → β) (d : α) (h : i < l.length) : (l.map f)[i]? = some (f (l.getD i d)) := by
  simp [List.getD, h]
theorem idx_range {n i : Nat} {V : PV} (h : ((List.range n).map fun (i : Nat) => PV.int i)[i]? = some V) : i < n ∧ V = .int i := by
  have hn : i < n := by
    have := (List.getElem?_eq_some_iff.mp h).1
    simpa using this
  exact ⟨hn, by simp [hn] at h; exact h.symm⟩
theorem idx_map {α : Type} {f : α → PV} {l : List α} {i : Nat} {V : PV} (d : α) (h : (l.map f)[i]? = some V) : i < l.length ∧ V = f (l.getD i d) := by
  have hn : i < l.length := by
    have := (List.getElem?_eq_some_iff.mp h).1
    simpa using this
  exact ⟨hn, by simp [hn] at h; simp [List.getD, hn, h]⟩
theorem cut_to {α : Type} (l : List α) {k : Nat} (h : k ≤ l.length) : cut l none (some k) = l.take k := by
  have : ¬ ((k : Int) < 0) := by omega
  simp only [cut, kms_lo, kms_hi, if_neg this]
  simp [Nat.min_eq_left h]
theorem cut_from {α : Type} (l : List α) {k : Nat} (h : k ≤ l.length) : cut l (some k) none = l.drop k := by
  have : ¬ ((k : Int) < 0) := by omega
  simp only [cut, kms_lo, kms_hi, if_neg this]
  rw [Int.toNat_natCast, Nat.min_eq_left h]
  exact List.take_of_length_le (by simp)
theorem mulOk {x : Str} {n : Nat} (hx : x.length ≤ 100) (hn : n ≤ 100) : MulOk x n := mulOk_of 100 100 hx (by omega) (by omega) (by decide) (by decide)
end Mine
end

-- W70
section
open PySem PySem.W PySem.Calls PyProof.Rows PyProof.V PySem.Spec PySem.Builtin.Str PySem.SeqAt
namespace Mine

local macro_rules | `(tactic| walk_at "mem") => `(tactic| first | exact List.mem_cons_self | (refine List.mem_cons_of_mem _ ?_; walk_at "mem"))
local macro_rules | `(tactic| walk_at "kind") => `(tactic| first | exact Or.inl (by decide +kernel) | exact Or.inr (by decide +kernel))
local macro_rules | `(tactic| walk_at "ne") => `(tactic| first | exact (fun _ h => absurd h List.not_mem_nil) | (refine List.forall_mem_cons.mpr ⟨by dsimp only; decide +kernel, ?_⟩; walk_at "ne"))
local macro_rules | `(tactic| walk_at "sub") => `(tactic| first | exact (fun _ h => absurd h List.not_mem_nil) | (refine List.forall_mem_cons.mpr ⟨⟨by walk_at "mem", by dsimp only; decide +kernel⟩, ?_⟩; walk_at "sub"))
local macro_rules | `(tactic| walk_at "subs") => `(tactic| first | exact (fun _ h => absurd h List.not_mem_nil) | (refine List.forall_mem_cons.mpr ⟨by walk_at "mem", ?_⟩; walk_at "subs"))

local macro_rules | `(tactic| walk_at "blk") => `(tactic| first | exact (fun _ h => absurd h List.not_mem_nil) | (refine List.forall_mem_cons.mpr ⟨⟨by walk_at "mem", by dsimp only; decide +kernel⟩, ?_⟩; walk_at "blk"))

noncomputable def sgt : Str := ⟨#[62]⟩
noncomputable def sql : Str := ⟨#[34, 60]⟩
noncomputable def nm1 (ps : List Int) (acc : List Str) (k : Nat) : Str :=
  (if ps.getD k 0 == 0 then Str.empty else acc.getD (ps.getD k 0 - 1).toNat Str.empty ++ sql) ++ Txt.mul sgt (((ps.take k).filter fun one => one == ps.getD k 0).length : Nat)
noncomputable def nmsF (ps : List Int) : Nat → List Str
  | 0 => []
  | k + 1 => nmsF ps k ++ [nm1 ps (nmsF ps k) k]

section
variable {w : World} {mg mb : Str → Option Value}

theorem len_nmsF (ps : List Int) : ∀ k, (nmsF ps k).length = k
  | 0 => rfl
  | k + 1 => by simp [nmsF, len_nmsF ps k]

theorem nmsF_mem (ps : List Int) {k : Nat} : ∀ {n}, k < n → nm1 ps (nmsF ps k) k ∈ nmsF ps n
  | n + 1, h => by
    rcases Nat.lt_or_eq_of_le (Nat.le_of_lt_succ h) with h | rfl
    · exact List.mem_append_left _ (nmsF_mem ps h)
    · exact List.mem_append_right _ List.mem_cons_self
theorem c_names {ps : List Int} (hl : ps.length ≤ 100) (hlen : ∀ x ∈ nmsF ps ps.length, x.length ≤ 100) (hps : ∀ k, k < ps.length → 0 ≤ ps.getD k 0 ∧ ps.getD k 0 ≤ k) : CtF w mg mb 70 1 [.list (ps.map .int)] (.list ((nmsF ps ps.length).map .str)) := by
  have hsz : sizeLine = 16777216 := sizeLine_eq
  refine enter (k := 0) (by decide) (by decide +kernel) rfl fun A own s₀ env s hr F => ?_
  refine Ex.openList (ρ' := [(Str.ofString "parents", .list (ps.map .int))]) F (by decide +kernel) (by walk_at "ne") (by walk_at "sub") fun a s₁ F₁ => ?_
  have c₁ := F₁.cx
  refine Ex.forIn (S := .rng 0 ps.length 1) (its := (List.range ps.length).map fun (i : Nat) => .int i) (osI := fun i => [(Str.ofString "names", a, (nmsF ps i).map .str)]) (ρI := fun _ => [(Str.ofString "parents", .list (ps.map .int))])
    hr.hh F₁ (fun _ => rfl) ?_ (Its.rangeN (by omega)) (by simp [PV.flat]) (by walk_at "kind") (fun _ => by walk_at "ne") (fun _ => by walk_at "ne") ?_ ?_
  · exact (Ev.range1 c₁ (Ev.lenL c₁ (Ev.name c₁ (by walk_at "mem")) (by simp; omega))).cast (by simp)
  · intro k V hk ex pn s₂ F₂
    obtain ⟨hkl, rfl⟩ := idx_range hk
    have c₂ := F₂.cx
    have hpk := hps k hkl
    have hpar : ∀ {own' s' A env names ρ'} , Cx w mg mb A env own' ρ' names s' → (Str.ofString "parents", PV.list (ps.map .int)) ∈ ρ' → (Str.ofString "k", PV.int k) ∈ ρ' → ∀ {p p1 p2}, Ev w A env own' s' (.Subscript (.Name (Str.ofString "parents") p) (.Name (Str.ofString "k") p1) p2) (.int (ps.getD k 0)) := fun c h1 h2 => by
      intros
      refine Ev.itemF (Ev.name c h1) (Ev.name c h2) (by omega) (by omega) (by simp [List.getD, hkl]) rfl
    refine Ex.assign (V := .str (if ps.getD k 0 == 0 then Str.empty else (nmsF ps k).getD (ps.getD k 0 - 1).toNat Str.empty ++ sql)) (ρ' := [(Str.ofString "k", .int k), (Str.ofString "parents", .list (ps.map .int))]) F₂ ?_ (by walk_at "kind") (by walk_at "ne") (by walk_at "sub") fun s₃ F₃ => ?_
    · refine (Ev.ite (c := ps.getD k 0 == 0) (V := .str Str.empty) (W := .str ((nmsF ps k).getD (ps.getD k 0 - 1).toNat Str.empty ++ sql)) (Et.cmp (hpar c₂ (by walk_at "mem") (by walk_at "mem")) Ev.cint Ec.eq_int) (fun _ => Ev.cstr) fun h0 => ?_).cast (by split <;> rfl)
      have h0' : ps.getD k 0 ≠ 0 := by simpa using h0
      refine Ev.cat (Ev.itemF (Ev.opened F₂ (by walk_at "mem")) (Ev.sub (hpar c₂ (by walk_at "mem") (by walk_at "mem")) Ev.cint) (by omega) (by omega) ?_ rfl) Ev.cstr ?_
      · exact map_at _ _ (by rw [len_nmsF]; omega)
      · have := hlen _ (nmsF_mem ps hkl)
        rw [nm1, h0, if_neg (by decide), Str.length_append] at this
        omega
    have c₃ := F₃.cx
    refine Ex.append (os₁ := []) (os₂ := []) (V := .str (nm1 ps (nmsF ps k) k)) F₃ ?_ (by simp [len_nmsF]; omega) fun s₄ F₄ => Ex.nil ⟨rfl, ?_⟩
    · refine Ev.cat (Ev.name c₃ (by walk_at "mem")) (Ev.times Ev.cstr ((Ev.lenL c₃ (Ev.comp (inj := .int) (xs := ps.take k) (fun one => one == ps.getD k 0) .int hr.hh c₃ (ρ' := [(Str.ofString "k", .int k), (Str.ofString "parents", .list (ps.map .int))]) (S := .list ((ps.take k).map .int)) ?_ (Its.list) ?_ (Blk.of (by decide +kernel) (by walk_at "blk")) ?_) ?_).cast (by simp)) ?_) ?_
      · exact (Ev.sliceL (Ev.name c₃ (by walk_at "mem")) .none (.some (Ev.name c₃ (by walk_at "mem"))) c₃.ow (by simp; omega)).cast (by rw [cut_to _ (by simp; omega), ← List.map_take])
      · simp; omega
      · intro a ha own' s' env' c'
        exact ⟨.one (.cmp (Ev.name c' (by walk_at "mem")) (hpar c' (by walk_at "mem") (by walk_at "mem")) Ec.eq_int), fun _ => Ev.name c' (by walk_at "mem")⟩
      · simp; exact Nat.le_trans (List.length_filter_le _ _) (by simp; omega)
      · exact mulOk (by decide) (by
          have := (List.length_filter_le (fun one => one == ps.getD k 0) (ps.take k))
          simp at this ⊢; omega)
      · have := hlen _ (nmsF_mem ps hkl)
        exact Nat.le_trans this (by omega)
    · have : List.map PV.str (nmsF ps (k + 1)) = List.map PV.str (nmsF ps k) ++ [.str (nm1 ps (nmsF ps k) k)] := by simp [nmsF]
      rw [this]
      exact F₄.sub (by walk_at "subs")
  · intro s₂ F₂
    refine Ex.ret (own' := own) (V := .list ((nmsF ps ps.length).map .str)) ?_ fun v s' g r => ⟨v, rfl, F₂.gr.trans g, r⟩
    exact (Ev.opened F₂ (x := Str.ofString "names") (a := a) (l := (nmsF ps ps.length).map .str) (by simp))
end
end Mine
end

-- W67
section
open PySem PySem.W PySem.Calls PyProof.Rows PyProof.V PySem.Spec PySem.Builtin.Str PySem.SeqAt
namespace Mine

local macro_rules | `(tactic| walk_at "mem") => `(tactic| first | exact List.mem_cons_self | (refine List.mem_cons_of_mem _ ?_; walk_at "mem"))
local macro_rules | `(tactic| walk_at "kind") => `(tactic| first | exact Or.inl (by decide +kernel) | exact Or.inr (by decide +kernel))
local macro_rules | `(tactic| walk_at "ne") => `(tactic| first | exact (fun _ h => absurd h List.not_mem_nil) | (refine List.forall_mem_cons.mpr ⟨by dsimp only; decide +kernel, ?_⟩; walk_at "ne"))
local macro_rules | `(tactic| walk_at "sub") => `(tactic| first | exact (fun _ h => absurd h List.not_mem_nil) | (refine List.forall_mem_cons.mpr ⟨⟨by walk_at "mem", by dsimp only; decide +kernel⟩, ?_⟩; walk_at "sub"))
local macro_rules | `(tactic| walk_at "subs") => `(tactic| first | exact (fun _ h => absurd h List.not_mem_nil) | (refine List.forall_mem_cons.mpr ⟨by walk_at "mem", ?_⟩; walk_at "subs"))
local macro_rules | `(tactic| walk_at "blk") => `(tactic| first | exact (fun _ h => absurd h List.not_mem_nil) | (refine List.forall_mem_cons.mpr ⟨⟨by walk_at "mem", by dsimp only; decide +kernel⟩, ?_⟩; walk_at "blk"))

section
variable {w : World} {mg mb : Str → Option Value}
theorem c_isnon {x : Int} : CtF w mg mb 67 1 [.int x] (.bool (decide (256 ≤ x))) := by
  refine enter (k := 0) (by decide) (by decide +kernel) rfl fun A own s₀ env s hr F => ?_
  refine Ex.ret (own' := own) (Ev.cmp (Ev.name F.cx (by walk_at "mem")) (Ev.gint F.cx (by decide +kernel)) Ec.ge_int) fun v s' g r => ⟨v, rfl, F.gr.trans g, r⟩
theorem c_iseof {x : Int} : CtF w mg mb 68 1 [.int x] (.bool (x == 0)) := by
  refine enter (k := 0) (by decide) (by decide +kernel) rfl fun A own s₀ env s hr F => ?_
  refine Ex.ret (own' := own) (Ev.cmp (Ev.name F.cx (by walk_at "mem")) (Ev.gint F.cx (by decide +kernel)) Ec.eq_int) fun v s' g r => ⟨v, rfl, F.gr.trans g, r⟩
end

end Mine
end

-- W2
section
open PySem PySem.W PySem.Calls PyProof.Rows PyProof.V PySem.Spec PySem.Builtin.Str PySem.SeqAt
namespace Mine

local macro_rules | `(tactic| walk_at "mem") => `(tactic| first | exact List.mem_cons_self | (refine List.mem_cons_of_mem _ ?_; walk_at "mem"))
local macro_rules | `(tactic| walk_at "kind") => `(tactic| first | exact Or.inl (by decide +kernel) | exact Or.inr (by decide +kernel))
local macro_rules | `(tactic| walk_at "ne") => `(tactic| first | exact (fun _ h => absurd h List.not_mem_nil) | (refine List.forall_mem_cons.mpr ⟨by dsimp only; decide +kernel, ?_⟩; walk_at "ne"))
local macro_rules | `(tactic| walk_at "sub") => `(tactic| first | exact (fun _ h => absurd h List.not_mem_nil) | (refine List.forall_mem_cons.mpr ⟨⟨by walk_at "mem", by dsimp only; decide +kernel⟩, ?_⟩; walk_at "sub"))
local macro_rules | `(tactic| walk_at "subs") => `(tactic| first | exact (fun _ h => absurd h List.not_mem_nil) | (refine List.forall_mem_cons.mpr ⟨by walk_at "mem", ?_⟩; walk_at "subs"))
local macro_rules | `(tactic| walk_at "blk") => `(tactic| first | exact (fun _ h => absurd h List.not_mem_nil) | (refine List.forall_mem_cons.mpr ⟨⟨by walk_at "mem", by dsimp only; decide +kernel⟩, ?_⟩; walk_at "blk"))

noncomputable def tx : Str := Str.ofString "text"
noncomputable def rp (c z x : Str) : Str := if Txt.contains x c then Txt.replace x c z else x
noncomputable def escF : List (Str × Str) → Str → Str
  | [], x => x
  | (c, z) :: l, x => escF l (rp c z x)
noncomputable def escOk : List (Str × Str) → Str → Bool
  | [], x => decide (x.length ≤ 1000)
  | (c, z) :: l, x => decide (x.length ≤ 1000) && escOk l (rp c z x)

section
variable {w : World} {mg mb : Str → Option Value} {A : Around} {env : Env} {own own₁ own₂ : List Addr} {ρ : List (Str × PV)} {names : List (Str × NameKind)} {s₀ : Base} {s : Shared}

theorem Ex.tryOk {body : List Stmt} {h₀ : ExceptHandler} {hs : List ExceptHandler} {pos : Pos} {rest : List Stmt} {P : Flow → Shared → Prop} (hb : Ex w A env body (fun f s' => f ≠ .next ∧ P f s') s) :
    Ex w A env (.Try body (h₀ :: hs) [] [] pos :: rest) P s := fun E => by
  refine wpAny_execs_cons ?_
  rw [arm_exec_Try]
  refine wpAny_bind (wpAny_standAt ?_)
  refine wpAny_tryStmt_except (wpAny_mono (hb _) (fun f s₁ h₁ => ?_) (fun _ _ e => e))
  obtain ⟨hf, m⟩ := h₁
  cases f with
  | next => exact absurd rfl hf
  | brk => exact m
  | cont => exact m
  | ret v => exact m

theorem Ex.rp {c z x : Str} {p1 p2 p3 p4 p5 p6 p7 p8 p9 pa pb : Pos} {k1 k2 k3 : Nat} {rest : List Stmt} {P : Flow → Shared → Prop} (F : Frm w mg mb A s₀ env own [] [] [] [(tx, .str x)] names s) (hx : x.length ≤ 1000) (hz : z.length ≤ 10) (hcz : (c == z) = false)
    (hn : names.lookup tx = some .local) (h : ∀ s', Frm w mg mb A s₀ env own [] [] [] [(tx, .str (Mine.rp c z x))] names s' → Ex w A env rest P s') (hl : (p4.endLine == p5.line) = true := by rfl) :
    Ex w A env (.If (.Compare (.Constant (.str c) k1 p1) [.In] [.Name tx p2] p3) [.Assign [.Name tx p6] (.Call (.Attribute (.Name tx p7) "replace" p4) [.Constant (.str c) k2 p8, .Constant (.str z) k3 p9] [] p5) pa] [] pb :: rest) P s := by
  have hm : (tx, PV.str x) ∈ [(tx, PV.str x)] := List.mem_cons_self
  refine Ex.cond (c := Txt.contains x c) (fun s' => Frm w mg mb A s₀ env own [] [] [] [(tx, .str (Mine.rp c z x))] names s') (Et.cmp Ev.cstr (Ev.name F.cx hm) Ec.in_str) (fun ht s' g => ?_) (fun hf s' g => ?_) h
  · have F' := F.grow g
    have e : Mine.rp c z x = Txt.replace x c z := by rw [Mine.rp, ht, if_pos rfl]
    rw [e]
    have h1 : (x.length + 1) * z.length ≤ 1001 * 10 := Nat.mul_le_mul (by omega) hz
    exact Ex.assign (ρ' := []) F' (Ev.replace (Ev.name F'.cx hm) F'.cx.tk hcz (by omega) rfl hl) (.inl hn) (fun p hp => by simp at hp) (fun p hp => by simp at hp) (fun s'' F'' => Ex.nil ⟨rfl, F''⟩) rfl
  · have e : Mine.rp c z x = x := by rw [Mine.rp, hf, if_neg (by decide)]
    rw [e]
    exact Ex.nil ⟨rfl, F.grow g⟩

theorem escOk_le : ∀ {l : List (Str × Str)} {x : Str}, escOk l x = true → x.length ≤ 1000
  | [], x, h => by simpa [escOk] using h
  | (c, z) :: l, x, h => by simp only [escOk, Bool.and_eq_true, decide_eq_true_eq] at h; exact h.1
theorem escOk_next {c z : Str} {l : List (Str × Str)} {x : Str} (h : escOk ((c, z) :: l) x = true) : escOk l (rp c z x) = true := by
  simp only [escOk, Bool.and_eq_true] at h; exact h.2

noncomputable def esc2 : List (Str × Str) := [("&", "&amp;"), ("<", "&lt;"), (">", "&gt;")]
noncomputable def esc3 : List (Str × Str) := [("&", "&amp;"), ("<", "&lt;"), (">", "&gt;"), ("\"", "&quot;"), ("\r", "&#13;"), ("\n", "&#10;"), ("\t", "&#09;")]
noncomputable def esc4 : List (Str × Str) := [("&", "&amp;"), (">", "&gt;"), ("\"", "&quot;")]
noncomputable def esc5 : List (Str × Str) := [("&", "&amp;"), ("<", "&lt;"), (">", "&gt;"), ("\r", "&#xD;")]
noncomputable def esc6 : List (Str × Str) := [("&", "&amp;"), ("<", "&lt;"), ("\"", "&quot;"), ("\t", "&#x9;"), ("\n", "&#xA;"), ("\r", "&#xD;")]

theorem c_esc2 {x : Str} (ho : escOk esc2 x = true) : CtF w mg mb 2 1 [.str x] (.str (escF esc2 x)) := by
  refine enter (k := 0) (by decide) (by decide +kernel) rfl fun A own s₀ env s hr F => ?_
  refine Ex.tryOk ?_
  refine Ex.rp F (escOk_le ho) (by decide +kernel) (by decide +kernel) (by decide +kernel) (fun s F => ?_) rfl
  replace ho := escOk_next ho
  refine Ex.rp F (escOk_le ho) (by decide +kernel) (by decide +kernel) (by decide +kernel) (fun s F => ?_) rfl
  replace ho := escOk_next ho
  refine Ex.rp F (escOk_le ho) (by decide +kernel) (by decide +kernel) (by decide +kernel) (fun s F => ?_) rfl
  replace ho := escOk_next ho
  exact Ex.ret (own' := own) (Ev.name F.cx List.mem_cons_self) fun v s' g r => ⟨nofun, v, rfl, F.gr.trans g, r⟩

theorem c_esc3 {x : Str} (ho : escOk esc3 x = true) : CtF w mg mb 3 1 [.str x] (.str (escF esc3 x)) := by
  refine enter (k := 0) (by decide) (by decide +kernel) rfl fun A own s₀ env s hr F => ?_
  refine Ex.tryOk ?_
  refine Ex.rp F (escOk_le ho) (by decide +kernel) (by decide +kernel) (by decide +kernel) (fun s F => ?_) rfl
  replace ho := escOk_next ho
  refine Ex.rp F (escOk_le ho) (by decide +kernel) (by decide +kernel) (by decide +kernel) (fun s F => ?_) rfl
  replace ho := escOk_next ho
  refine Ex.rp F (escOk_le ho) (by decide +kernel) (by decide +kernel) (by decide +kernel) (fun s F => ?_) rfl
  replace ho := escOk_next ho
  refine Ex.rp F (escOk_le ho) (by decide +kernel) (by decide +kernel) (by decide +kernel) (fun s F => ?_) rfl
  replace ho := escOk_next ho
  refine Ex.rp F (escOk_le ho) (by decide +kernel) (by decide +kernel) (by decide +kernel) (fun s F => ?_) rfl
  replace ho := escOk_next ho
  refine Ex.rp F (escOk_le ho) (by decide +kernel) (by decide +kernel) (by decide +kernel) (fun s F => ?_) rfl
  replace ho := escOk_next ho
  refine Ex.rp F (escOk_le ho) (by decide +kernel) (by decide +kernel) (by decide +kernel) (fun s F => ?_) rfl
  replace ho := escOk_next ho
  exact Ex.ret (own' := own) (Ev.name F.cx List.mem_cons_self) fun v s' g r => ⟨nofun, v, rfl, F.gr.trans g, r⟩

theorem c_esc4 {x : Str} (ho : escOk esc4 x = true) : CtF w mg mb 4 1 [.str x] (.str (escF esc4 x)) := by
  refine enter (k := 0) (by decide) (by decide +kernel) rfl fun A own s₀ env s hr F => ?_
  refine Ex.tryOk ?_
  refine Ex.rp F (escOk_le ho) (by decide +kernel) (by decide +kernel) (by decide +kernel) (fun s F => ?_) rfl
  replace ho := escOk_next ho
  refine Ex.rp F (escOk_le ho) (by decide +kernel) (by decide +kernel) (by decide +kernel) (fun s F => ?_) rfl
  replace ho := escOk_next ho
  refine Ex.rp F (escOk_le ho) (by decide +kernel) (by decide +kernel) (by decide +kernel) (fun s F => ?_) rfl
  replace ho := escOk_next ho
  exact Ex.ret (own' := own) (Ev.name F.cx List.mem_cons_self) fun v s' g r => ⟨nofun, v, rfl, F.gr.trans g, r⟩

theorem c_esc5 {x : Str} (ho : escOk esc5 x = true) : CtF w mg mb 5 1 [.str x] (.str (escF esc5 x)) := by
  refine enter (k := 0) (by decide) (by decide +kernel) rfl fun A own s₀ env s hr F => ?_
  refine Ex.tryOk ?_
  refine Ex.rp F (escOk_le ho) (by decide +kernel) (by decide +kernel) (by decide +kernel) (fun s F => ?_) rfl
  replace ho := escOk_next ho
  refine Ex.rp F (escOk_le ho) (by decide +kernel) (by decide +kernel) (by decide +kernel) (fun s F => ?_) rfl
  replace ho := escOk_next ho
  refine Ex.rp F (escOk_le ho) (by decide +kernel) (by decide +kernel) (by decide +kernel) (fun s F => ?_) rfl
  replace ho := escOk_next ho
  refine Ex.rp F (escOk_le ho) (by decide +kernel) (by decide +kernel) (by decide +kernel) (fun s F => ?_) rfl
  replace ho := escOk_next ho
  exact Ex.ret (own' := own) (Ev.name F.cx List.mem_cons_self) fun v s' g r => ⟨nofun, v, rfl, F.gr.trans g, r⟩

theorem c_esc6 {x : Str} (ho : escOk esc6 x = true) : CtF w mg mb 6 1 [.str x] (.str (escF esc6 x)) := by
  refine enter (k := 0) (by decide) (by decide +kernel) rfl fun A own s₀ env s hr F => ?_
  refine Ex.tryOk ?_
  refine Ex.rp F (escOk_le ho) (by decide +kernel) (by decide +kernel) (by decide +kernel) (fun s F => ?_) rfl
  replace ho := escOk_next ho
  refine Ex.rp F (escOk_le ho) (by decide +kernel) (by decide +kernel) (by decide +kernel) (fun s F => ?_) rfl
  replace ho := escOk_next ho
  refine Ex.rp F (escOk_le ho) (by decide +kernel) (by decide +kernel) (by decide +kernel) (fun s F => ?_) rfl
  replace ho := escOk_next ho
  refine Ex.rp F (escOk_le ho) (by decide +kernel) (by decide +kernel) (by decide +kernel) (fun s F => ?_) rfl
  replace ho := escOk_next ho
  refine Ex.rp F (escOk_le ho) (by decide +kernel) (by decide +kernel) (by decide +kernel) (fun s F => ?_) rfl
  replace ho := escOk_next ho
  refine Ex.rp F (escOk_le ho) (by decide +kernel) (by decide +kernel) (by decide +kernel) (fun s F => ?_) rfl
  replace ho := escOk_next ho
  exact Ex.ret (own' := own) (Ev.name F.cx List.mem_cons_self) fun v s' g r => ⟨nofun, v, rfl, F.gr.trans g, r⟩
end

end Mine
end

-- W14
section
open PySem PySem.W PySem.Calls PyProof.Rows PyProof.V PySem.Spec PySem.Builtin.Str PySem.SeqAt
namespace Mine

local macro_rules | `(tactic| walk_at "mem") => `(tactic| first | exact List.mem_cons_self | (refine List.mem_cons_of_mem _ ?_; walk_at "mem"))
local macro_rules | `(tactic| walk_at "kind") => `(tactic| first | exact Or.inl (by decide +kernel) | exact Or.inr (by decide +kernel))
local macro_rules | `(tactic| walk_at "ne") => `(tactic| first | exact (fun _ h => absurd h List.not_mem_nil) | (refine List.forall_mem_cons.mpr ⟨by dsimp only; decide +kernel, ?_⟩; walk_at "ne"))
local macro_rules | `(tactic| walk_at "sub") => `(tactic| first | exact (fun _ h => absurd h List.not_mem_nil) | (refine List.forall_mem_cons.mpr ⟨⟨by walk_at "mem", by dsimp only; decide +kernel⟩, ?_⟩; walk_at "sub"))
local macro_rules | `(tactic| walk_at "subs") => `(tactic| first | exact (fun _ h => absurd h List.not_mem_nil) | (refine List.forall_mem_cons.mpr ⟨by walk_at "mem", ?_⟩; walk_at "subs"))
local macro_rules | `(tactic| walk_at "blk") => `(tactic| first | exact (fun _ h => absurd h List.not_mem_nil) | (refine List.forall_mem_cons.mpr ⟨⟨by walk_at "mem", by dsimp only; decide +kernel⟩, ?_⟩; walk_at "blk"))

section
variable {w : World} {mg mb : Str → Option Value} {A : Around} {env : Env} {own own₁ own₂ : List Addr} {ρ : List (Str × PV)} {names : List (Str × NameKind)} {s₀ : Base} {s : Shared}

/-- an if in full -/
theorem Ex.ifs {t : Expr} {a b : List Stmt} {pos : Pos} {c : Bool} {rest : List Stmt} {P : Flow → Shared → Prop} (ht : Et w A env s t c)
    (ha : c = true → ∀ s', Grow s s' → Ex w A env a (fun f s'' => match f with | .next => Ex w A env rest P s'' | f => P f s'') s')
    (hb : c = false → ∀ s', Grow s s' → Ex w A env b (fun f s'' => match f with | .next => Ex w A env rest P s'' | f => P f s'') s') : Ex w A env (.If t a b pos :: rest) P s := fun E => by
  refine wpAny_execs_cons (wpAny_If (ht.then (Grow.refl _) fun s₁ g₁ => ?_))
  cases c with
  | true => exact wpAny_mono (ha rfl s₁ g₁ E) (fun f s₂ h₂ => by cases f <;> first | exact h₂ E | exact h₂) (fun _ _ e => e)
  | false => exact wpAny_mono (hb rfl s₁ g₁ E) (fun f s₂ h₂ => by cases f <;> first | exact h₂ E | exact h₂) (fun _ _ e => e)
theorem Ex.brk {pos : Pos} {rest : List Stmt} {P : Flow → Shared → Prop} (h : P .brk s) : Ex w A env (.Break pos :: rest) P s := fun E => by
  refine wpAny_execs_cons ?_
  rw [arm_exec_Break]
  exact wpAny_bind (wpAny_standAt (wpAny_pure h))

/-- a loop that may be left -/
theorem Ex.whileB {test : Expr} {body rest : List Stmt} {pos : Pos} {P : Flow → Shared → Prop} (I : Nat → Shared → Prop) (D : Shared → Prop) (n : Nat) (h0 : I n s)
    (turn : ∀ k s', I k s' → ∃ b, Et w A env s' test b ∧ ∀ s'', Grow s' s'' → (b = true → Ex w A env body (fun fl s3 => (fl = .next ∧ ∃ m, m < k ∧ I m s3) ∨ (fl = .brk ∧ D s3)) s'') ∧ (b = false → D s''))
    (h : ∀ s', D s' → Ex w A env rest P s') : Ex w A env (.While test body [] pos :: rest) P s := fun E => by
  refine wpAny_execs_cons (wpAny_While ?_)
  refine codeAny_whileLoop (I := I) (turn := ?turn) (n := n) (h := h0)
  case turn =>
    intro k s' hI
    obtain ⟨b, ht, hb⟩ := turn k s' hI
    refine ht.then (Grow.refl _) fun s₁ g₁ => ?_
    obtain ⟨h1, h2⟩ := hb s₁ g₁
    cases b with
    | true =>
      rw [if_pos rfl]
      refine wpAny_mono (h1 rfl _) (fun f s₂ h₂ => ?_) (fun _ _ e => e)
      rcases h₂ with ⟨rfl, m⟩ | ⟨rfl, d⟩
      · exact m
      · exact h _ d E
    | false =>
      rw [if_neg (by decide)]
      exact wpAny_execs_nil (h _ (h2 rfl) E)

noncomputable def qt : Str := ⟨#[34]⟩
noncomputable def pl (r : Str) : Nat → Nat → Str → Str
  | 0, _, d => d
  | f + 1, i, d => if i < r.length then
      (if Txt.item r i == qt then (if decide (r.length ≤ i + 1) || Txt.item r ((i + 1 : Nat) : Int) != qt then d else pl r f (i + 2) (d ++ Txt.item r i)) else pl r f (i + 1) (d ++ Txt.item r i))
    else d
noncomputable def p257 (r : Str) : Str := pl r r.length 5 Str.empty
noncomputable def ok257 (r : Str) : Bool := decide (r.length ≤ 1000) && (Txt.slice r none (some 3) == Str.ofString "257") && (Txt.slice r (some 3) (some 5) == Str.ofString " \"")

theorem item_len (r : Str) (i : Int) : (Txt.item r i).length = 1 := rfl

theorem c_257 {r : Str} (ho : ok257 r = true) : CtF w mg mb 14 1 [.str r] (.str (p257 r)) := by
  simp only [ok257, Bool.and_eq_true, decide_eq_true_eq] at ho
  obtain ⟨⟨hl, h3⟩, h5⟩ := ho
  have hsz : sizeLine = 16777216 := sizeLine_eq
  refine enter (k := 0) (by decide) (by decide +kernel) rfl fun A own s₀ env s hr F => ?_
  refine Ex.skip ((Et.cmp (Ev.sliceS (Ev.name F.cx (by walk_at "mem")) .none (.some Ev.ci) (by omega)) Ev.cstr Ec.ne_str).cast (by rw [bne, h3]; rfl)) fun s' g => ?_
  replace F := F.grow g
  clear g
  refine Ex.skip ((Et.cmp (Ev.sliceS (Ev.name F.cx (by walk_at "mem")) (.some Ev.ci) (.some Ev.ci) (by omega)) Ev.cstr Ec.ne_str).cast (by rw [bne, h5]; rfl)) fun s' g => ?_
  replace F := F.grow g
  clear g
  refine Ex.assign (V := .str Str.empty) (ρ' := [(Str.ofString "resp", .str r)]) F Ev.cstr (by walk_at "kind") (by walk_at "ne") (by walk_at "sub") fun s F => ?_
  refine Ex.assign (V := .int 5) (ρ' := [(Str.ofString "dirname", .str Str.empty), (Str.ofString "resp", .str r)]) F Ev.cint (by walk_at "kind") (by walk_at "ne") (by walk_at "sub") fun s F => ?_
  refine Ex.assign (V := .int r.length) (ρ' := [(Str.ofString "i", .int 5), (Str.ofString "dirname", .str Str.empty), (Str.ofString "resp", .str r)]) F (Ev.lenS F.cx (Ev.name F.cx (by walk_at "mem")) (by omega)) (by walk_at "kind") (by walk_at "ne") (by walk_at "sub") fun s F => ?_
  refine Ex.whileB (I := fun k s' => ∃ (i : Nat) (d : Str), r.length ≤ i + k ∧ d.length ≤ i ∧ pl r k i d = p257 r ∧ Frm w mg mb A s₀ env own [] [] [] [(Str.ofString "n", .int r.length), (Str.ofString "i", .int i), (Str.ofString "dirname", .str d), (Str.ofString "resp", .str r)] (scopeAt 14).names s')
    (D := fun s' => Frm w mg mb A s₀ env own [] [] [] [(Str.ofString "dirname", .str (p257 r))] (scopeAt 14).names s') r.length ⟨5, Str.empty, by omega, by decide, rfl, F⟩ ?_ fun s F => ?_
  · rintro k s ⟨i, d, hk, hd, hp, F⟩
    refine ⟨decide (i < r.length), (Et.cmp (Ev.name F.cx (by walk_at "mem")) (Ev.name F.cx (by walk_at "mem")) Ec.lt_int).cast (by simp), fun s' g => ?_⟩
    replace F := F.grow g
    clear g
    refine ⟨fun hb => ?_, fun hb => ?_⟩
    · have hi : i < r.length := by simpa using hb
      obtain ⟨k, rfl⟩ : ∃ k', k = k' + 1 := ⟨k - 1, by omega⟩
      rw [pl, if_pos hi] at hp
      refine Ex.assign (V := .str (Txt.item r i)) (ρ' := [(Str.ofString "n", .int r.length), (Str.ofString "i", .int i), (Str.ofString "dirname", .str d), (Str.ofString "resp", .str r)]) F (Ev.char (Ev.name F.cx (by walk_at "mem")) (Ev.name F.cx (by walk_at "mem")) (by omega) (by omega) (fitsSsize_of (N := 100000) (by omega) (by omega) (by decide))) (by walk_at "kind") (by walk_at "ne") (by walk_at "sub") fun s F => ?_
      refine Ex.assign (V := .int (i + 1)) (ρ' := [(Str.ofString "c", .str (Txt.item r i)), (Str.ofString "n", .int r.length), (Str.ofString "dirname", .str d), (Str.ofString "resp", .str r)]) F (Ev.add (Ev.name F.cx (by walk_at "mem")) Ev.cint) (by walk_at "kind") (by walk_at "ne") (by walk_at "sub") fun s F => ?_
      have fin : ∀ (j : Nat) s, pl r k j (d ++ Txt.item r i) = p257 r → i + 1 ≤ j → Frm w mg mb A s₀ env own [] [] [] [(Str.ofString "i", .int j), (Str.ofString "c", .str (Txt.item r i)), (Str.ofString "n", .int r.length), (Str.ofString "dirname", .str d), (Str.ofString "resp", .str r)] (scopeAt 14).names s → ∀ {p1 p2 p3 p4 p5 : Pos},
          Ex w A env [Stmt.Assign [.Name (Str.ofString "dirname") p1] (.BinOp (.Name (Str.ofString "dirname") p2) .Add (.Name (Str.ofString "c") p3) p4) p5] (fun fl s3 => (fl = .next ∧ ∃ m, m < k + 1 ∧ ∃ (i : Nat) (d : Str), r.length ≤ i + m ∧ d.length ≤ i ∧ pl r m i d = p257 r ∧ Frm w mg mb A s₀ env own [] [] [] [(Str.ofString "n", .int r.length), (Str.ofString "i", .int i), (Str.ofString "dirname", .str d), (Str.ofString "resp", .str r)] (scopeAt 14).names s3) ∨ (fl = .brk ∧ Frm w mg mb A s₀ env own [] [] [] [(Str.ofString "dirname", .str (p257 r))] (scopeAt 14).names s3)) s := fun j s hp hj F => by
        intros
        have hd' : (d ++ Txt.item r i).length ≤ i + 1 := by rw [Str.length_append, item_len]; omega
        refine Ex.assign (V := .str (d ++ Txt.item r i)) (ρ' := [(Str.ofString "i", .int j), (Str.ofString "c", .str (Txt.item r i)), (Str.ofString "n", .int r.length), (Str.ofString "resp", .str r)]) F (Ev.cat (Ev.name F.cx (by walk_at "mem")) (Ev.name F.cx (by walk_at "mem")) (by omega)) (by walk_at "kind") (by walk_at "ne") (by walk_at "sub") (fun s F => Ex.nil (.inl ⟨rfl, k, by omega, j, _, by omega, by omega, hp, F.sub (by walk_at "subs")⟩)) rfl
      refine Ex.ifs (c := Txt.item r i == qt) (Et.cmp (Ev.name F.cx (by walk_at "mem")) Ev.cstr Ec.eq_str) (fun hc s' g => ?_) (fun hc s' g => ?_)
      · replace F := F.grow g
        clear g
        rw [hc, if_pos rfl] at hp
        refine Ex.ifs (c := decide (r.length ≤ i + 1) || Txt.item r ((i + 1 : Nat) : Int) != qt) (Et.or ((Et.cmp (Ev.name F.cx (by walk_at "mem")) (Ev.name F.cx (by walk_at "mem")) Ec.ge_int).cast (by simp; omega)) fun hb => Et.cmp (Ev.char (Ev.name F.cx (by walk_at "mem")) ((Ev.name (V := .int (i + 1)) F.cx (by walk_at "mem")).cast (by simp)) ?_ ?_ ?_) Ev.cstr Ec.ne_str) (fun hb s' g => ?_) (fun hb s' g => ?_)
        · omega
        · have : ¬ r.length ≤ i + 1 := by simpa using hb
          omega
        · exact fitsSsize_of (N := 100000) (by omega) (by omega) (by decide)
        · rw [hb, if_pos rfl] at hp
          refine Ex.brk (.inr ⟨rfl, ?_⟩)
          subst hp
          exact (F.grow g).sub (by walk_at "subs")
        · rw [hb, if_neg (by decide)] at hp
          replace F := F.grow g
          refine Ex.nil ?_
          refine Ex.assign (V := .int ((i + 2 : Nat) : Int)) (ρ' := [(Str.ofString "c", .str (Txt.item r i)), (Str.ofString "n", .int r.length), (Str.ofString "dirname", .str d), (Str.ofString "resp", .str r)]) F ((Ev.add (Ev.name (V := .int (i + 1)) F.cx (by walk_at "mem")) Ev.cint).cast (by simp; omega)) (by walk_at "kind") (by walk_at "ne") (by walk_at "sub") (fun s F => Ex.nil ?_) rfl
          exact fin (i + 2) _ hp (by omega) F
      · rw [hc, if_neg (by decide)] at hp
        refine Ex.nil (fin (i + 1) _ hp (by omega) ?_)
        exact (F.grow g)
    · have hi : ¬ i < r.length := by simpa using hb
      have : pl r k i d = d := by cases k <;> simp [pl, hi]
      rw [this] at hp
      subst hp
      exact F.sub (by walk_at "subs")
  · exact Ex.ret (own' := own) (Ev.name F.cx List.mem_cons_self) fun v s' g r => ⟨v, rfl, F.gr.trans g, r⟩
end

end Mine
end

-- W13
section
open PySem PySem.W PySem.Calls PyProof.Rows PyProof.V PySem.Spec PySem.Builtin.Str PySem.SeqAt
namespace Mine

local macro_rules | `(tactic| walk_at "mem") => `(tactic| first | exact List.mem_cons_self | (refine List.mem_cons_of_mem _ ?_; walk_at "mem"))
local macro_rules | `(tactic| walk_at "kind") => `(tactic| first | exact Or.inl (by decide +kernel) | exact Or.inr (by decide +kernel))
local macro_rules | `(tactic| walk_at "ne") => `(tactic| first | exact (fun _ h => absurd h List.not_mem_nil) | (refine List.forall_mem_cons.mpr ⟨by dsimp only; decide +kernel, ?_⟩; walk_at "ne"))
local macro_rules | `(tactic| walk_at "sub") => `(tactic| first | exact (fun _ h => absurd h List.not_mem_nil) | (refine List.forall_mem_cons.mpr ⟨⟨by walk_at "mem", by dsimp only; decide +kernel⟩, ?_⟩; walk_at "sub"))
local macro_rules | `(tactic| walk_at "subs") => `(tactic| first | exact (fun _ h => absurd h List.not_mem_nil) | (refine List.forall_mem_cons.mpr ⟨by walk_at "mem", ?_⟩; walk_at "subs"))
local macro_rules | `(tactic| walk_at "blk") => `(tactic| first | exact (fun _ h => absurd h List.not_mem_nil) | (refine List.forall_mem_cons.mpr ⟨⟨by walk_at "mem", by dsimp only; decide +kernel⟩, ?_⟩; walk_at "blk"))

noncomputable def ok229 (r : Str) (p : Int) : Bool :=
  let L := Txt.find r "("
  let R := Txt.find3 r ")" (L + 1)
  let m := Txt.item r (L + 1)
  let sl := Txt.slice r (some (L + 1)) (some R)
  decide (r.length ≤ 1000) && (Txt.slice r none (some 3) == Str.ofString "229") && decide (0 ≤ L) && decide (0 ≤ R) && decide (L + 1 < r.length) && decide (0 ≤ R - 1) && decide (R - 1 < r.length) && (m == Txt.item r (R - 1)) &&
    decide (sl.length ≤ 1000) && decide ((partsBetween sl (Builtin.Str.occurrences sl m 0 sl.length (sl.length + 1)) m.length).length ≤ 1000) && ((Txt.split sl m).length == 5) &&
    (PySem.intText? ((Txt.split sl m).getD 3 Str.empty) == some p) && decide (((Txt.split sl m).getD 3 Str.empty).length ≤ 640)

section
variable {w : World} {mg mb : Str → Option Value} {A : Around} {env : Env} {own own₁ own₂ : List Addr} {ρ : List (Str × PV)} {names : List (Str × NameKind)} {s₀ : Base} {s : Shared}

theorem c_229 {r : Str} {h p : Int} {q : PV} (hq : q.flat = true) (ho : ok229 r p = true) : CtQ w mg mb 13 1 [.str r, .tup [.int h, q]] (.tup [.int h, .int p]) := by
  have hsz : sizeLine = 16777216 := sizeLine_eq
  simp only [ok229, Bool.and_eq_true, decide_eq_true_eq] at ho
  obtain ⟨⟨⟨⟨⟨⟨⟨⟨⟨⟨⟨⟨h1, h2⟩, h3⟩, h4⟩, h5⟩, h6⟩, h7⟩, h8⟩, h9⟩, h10⟩, h11⟩, h12⟩, h13⟩ := ho
  refine enterQ (k := 0) (by decide) (by decide +kernel) rfl fun A own s₀ env s hr F => ?_
  refine Ex.skip ((Et.cmp (Ev.sliceS (Ev.name F.cx (by walk_at "mem")) .none (.some Ev.ci) (by omega)) Ev.cstr Ec.ne_str).cast (by rw [bne, h2]; rfl)) fun s' g => ?_
  replace F := F.grow g
  clear g
  generalize hL : Txt.find r "(" = L at *
  generalize hR : Txt.find3 r ")" (L + 1) = R at *
  refine Ex.assign (V := .int L) (ρ' := [(Str.ofString "resp", .str r), (Str.ofString "peer", .tup [.int h, q])]) F ((Ev.find (Ev.name F.cx (by walk_at "mem")) Ev.cstr).cast (by rw [← hL])) (by walk_at "kind") (by walk_at "ne") (by walk_at "sub") fun s F => ?_
  refine Ex.skip ((Et.cmp (Ev.name F.cx (by walk_at "mem")) Ev.cint Ec.lt_int).cast (by simp; omega)) fun s' g => ?_
  replace F := F.grow g
  clear g
  refine Ex.assign (V := .int R) (ρ' := [(Str.ofString "left", .int L), (Str.ofString "resp", .str r), (Str.ofString "peer", .tup [.int h, q])]) F ((Ev.find3 (Ev.name F.cx (by walk_at "mem")) Ev.cstr (Ev.add (Ev.name F.cx (by walk_at "mem")) Ev.cint)).cast (by rw [← hR])) (by walk_at "kind") (by walk_at "ne") (by walk_at "sub") fun s F => ?_
  refine Ex.skip ((Et.cmp (Ev.name F.cx (by walk_at "mem")) Ev.cint Ec.lt_int).cast (by simp; omega)) fun s' g => ?_
  replace F := F.grow g
  clear g
  have fit : ∀ i : Int, -2000 < i → i < 2000 → fitsSsize i = true := fun i a b => fitsSsize_of (N := 2000) a b (by decide)
  refine Ex.skip ((Et.cmp (Ev.char (Ev.name F.cx (by walk_at "mem")) (Ev.add (Ev.name F.cx (by walk_at "mem")) Ev.cint) (by omega) (by omega) (fit _ (by omega) (by omega))) (Ev.char (Ev.name F.cx (by walk_at "mem")) (Ev.sub (Ev.name F.cx (by walk_at "mem")) Ev.cint) (by omega) (by omega) (fit _ (by omega) (by omega))) Ec.ne_str).cast (by rw [bne, h8]; rfl)) fun s' g => ?_
  replace F := F.grow g
  clear g
  generalize hm : Txt.item r (L + 1) = m at *
  generalize hsl : Txt.slice r (some (L + 1)) (some R) = sl at *
  generalize hsp : Txt.split sl m = parts at *
  refine Ex.assign (V := .list (parts.map .str)) (ρ' := [(Str.ofString "left", .int L), (Str.ofString "resp", .str r), (Str.ofString "peer", .tup [.int h, q])]) F
    ((Ev.split (x := sl) (y := m) ((Ev.sliceS (Ev.name F.cx (by walk_at "mem")) (.some (Ev.add (Ev.name F.cx (by walk_at "mem")) Ev.cint)) (.some (Ev.name F.cx (by walk_at "mem"))) (by omega)).cast (by rw [← hsl])) ((Ev.char (Ev.name F.cx (by walk_at "mem")) (Ev.add (Ev.name F.cx (by walk_at "mem")) Ev.cint) (by omega) (by omega) (fit _ (by omega) (by omega))).cast (by rw [← hm])) F.cx.ow (by rw [← hm]; rfl) (by omega) (by omega)).cast (by rw [hsp]))
    (by walk_at "kind") (by walk_at "ne") (by walk_at "sub") fun s F => ?_
  have hlen : parts.length = 5 := by simpa using h11
  refine Ex.skip ((Et.cmp (Ev.lenL F.cx (Ev.name F.cx (by walk_at "mem")) (by simp; omega)) Ev.cint Ec.ne_int).cast (by simp [hlen])) fun s' g => ?_
  replace F := F.grow g
  clear g
  refine Ex.assign (V := .int h) (ρ' := [(Str.ofString "parts", .list (parts.map .str))]) F (Ev.tupItemF (Ev.name F.cx (by walk_at "mem")) Ev.cint (by omega) (by omega) rfl rfl) (by walk_at "kind") (by walk_at "ne") (by walk_at "sub") fun s F => ?_
  refine Ex.assign (V := .int p) (ρ' := [(Str.ofString "host", .int h)]) F (Ev.call_ty F.cx (Evs.cons (Ev.itemF (V := .str (parts.getD 3 Str.empty)) (Ev.name F.cx (by walk_at "mem")) Ev.cint (by omega) (by omega) (map_at _ _ (by rw [hlen]; decide)) rfl) Evs.nil) (Ct.int_str (by simpa using h12) (by omega)) (by decide)) (by walk_at "kind") (by walk_at "ne") (by walk_at "sub") fun s F => ?_
  exact Ex.ret (own' := own) (Ev.tupD (Evs.cons (Ev.name F.cx (by walk_at "mem")) (Evs.cons (Ev.name F.cx (by walk_at "mem")) Evs.nil)) F.cx.ow (by simp; omega)) fun v s' g r => ⟨v, rfl, F.gr.trans g, r⟩
end

end Mine
end

-- L1
section
open PySem PySem.W PySem.Calls PyProof.Rows PyProof.V PySem.Spec PySem.Builtin.Str PySem.SeqAt
namespace Mine

noncomputable def ofL (l : List Nat) : Str := ⟨l.toArray⟩
theorem ofL_toL (x : Str) : ofL x.cps.toList = x := by
  obtain ⟨⟨l⟩⟩ := x; rfl
theorem ofL_cps (l : List Nat) : (ofL l).cps.toList = l := rfl
theorem ofL_app (a b : List Nat) : ofL a ++ ofL b = ofL (a ++ b) := by
  show Str.append _ _ = _
  simp [Str.append, ofL]
theorem ofL_len (l : List Nat) : (ofL l).length = l.length := by simp [ofL, Str.length]
theorem toL_inj {x y : Str} (h : x.cps.toList = y.cps.toList) : x = y := by rw [← ofL_toL x, h, ofL_toL]

noncomputable def jn (sep : List Nat) : List (List Nat) → List Nat
  | [] => []
  | [p] => p
  | p :: q :: r => p ++ sep ++ jn sep (q :: r)
theorem join_jn (sep : Str) : ∀ ts : List Str, (Txt.join sep ts).cps.toList = jn sep.cps.toList (ts.map (·.cps.toList)) := by
  intro ts
  show (glued sep ts).cps.toList = _
  rw [StrLaws.glued_eq_join]
  induction ts with
  | nil => rfl
  | cons x r ih =>
    cases r with
    | nil => rfl
    | cons y r =>
      show (x ++ sep ++ Str.join sep (y :: r)).cps.toList = _
      simp only [Str.cps_append, Array.toList_append, ih]
      rfl
theorem cut_uniq {c : Nat} : ∀ {p q a b : List Nat}, c ∉ p → c ∉ q → p ++ c :: a = q ++ c :: b → p = q ∧ a = b
  | [], [], a, b, _, _, h => ⟨rfl, (List.cons.inj h).2⟩
  | [], y :: q, a, b, _, hq, h => absurd (List.cons.inj h).1 (fun e => hq (e ▸ List.mem_cons_self))
  | x :: p, [], a, b, hp, _, h => absurd (List.cons.inj h).1 (fun e => hp (e ▸ List.mem_cons_self))
  | x :: p, y :: q, a, b, hp, hq, h => by
    obtain ⟨e, h⟩ := List.cons.inj h
    obtain ⟨r1, r2⟩ := cut_uniq (fun m => hp (List.mem_cons_of_mem _ m)) (fun m => hq (List.mem_cons_of_mem _ m)) h
    exact ⟨by rw [e, r1], r2⟩
theorem jn_uniq (c : Nat) (t : List Nat) : ∀ {ps qs : List (List Nat)}, ps ≠ [] → qs ≠ [] → (∀ p ∈ ps, c ∉ p) → (∀ q ∈ qs, c ∉ q) → jn (c :: t) ps = jn (c :: t) qs → ps = qs
  | [], _, h, _, _, _, _ => absurd rfl h
  | _, [], _, h, _, _, _ => absurd rfl h
  | [p], [q], _, _, _, _, h => by rw [show p = q from h]
  | [p], q :: q' :: r, _, _, hp, _, h => absurd (show c ∈ p by rw [show p = _ from h]; simp [jn]) (hp p List.mem_cons_self)
  | p :: p' :: r, [q], _, _, _, hq, h => absurd (show c ∈ q by rw [show q = _ from h.symm]; simp [jn]) (hq q List.mem_cons_self)
  | p :: p' :: r, q :: q' :: s, _, _, hp, hq, h => by
    simp only [jn, List.append_assoc, List.cons_append] at h
    obtain ⟨e, h⟩ := cut_uniq (hp p List.mem_cons_self) (hq q List.mem_cons_self) h
    have := jn_uniq c t (ps := p' :: r) (qs := q' :: s) (by simp) (by simp) (fun x m => hp x (List.mem_cons_of_mem _ m)) (fun x m => hq x (List.mem_cons_of_mem _ m)) (List.append_cancel_left h)
    rw [e, this]

noncomputable def spl (c : Nat) : List Nat → List (List Nat)
  | [] => [[]]
  | a :: r => bif Nat.beq a c then [] :: spl c r else match spl c r with
    | [] => [[a]]
    | p :: ps => (a :: p) :: ps
theorem spl_ok (c : Nat) : ∀ l, spl c l ≠ [] ∧ (∀ p ∈ spl c l, c ∉ p) ∧ jn [c] (spl c l) = l
  | [] => by simp [spl, jn]
  | a :: r => by
    obtain ⟨h1, h2, h3⟩ := spl_ok c r
    cases e : spl c r with
    | nil => exact absurd e h1
    | cons p ps =>
      rw [e] at h2 h3
      by_cases hac : a = c
      · subst hac
        have : Nat.beq a a = true := Nat.beq_refl a
        simp only [spl, this, cond_true, e]
        refine ⟨by simp, fun q hq => ?_, ?_⟩
        · rcases List.mem_cons.mp hq with rfl | hq
          · simp
          · exact h2 q hq
        · show [] ++ [a] ++ jn [a] (p :: ps) = _
          rw [h3]; rfl
      · have : Nat.beq a c = false := by
          rw [Bool.eq_false_iff]; intro q; exact hac (Nat.eq_of_beq_eq_true q)
        simp only [spl, this, cond_false, e]
        refine ⟨by simp, fun q hq => ?_, ?_⟩
        · rcases List.mem_cons.mp hq with rfl | hq
          · intro m
            rcases List.mem_cons.mp m with rfl | m
            · exact hac rfl
            · exact h2 p List.mem_cons_self m
          · exact h2 q (List.mem_cons_of_mem _ hq)
        · cases ps with
          | nil => show a :: p = _; rw [← h3]; rfl
          | cons q s => show (a :: p) ++ [c] ++ jn [c] (q :: s) = _; rw [← h3]; rfl

theorem split_ne (x y : Str) : Txt.split x y ≠ [] := by
  intro h
  have := split_pos x y
  rw [h] at this; simp at this
theorem map_ofL : ∀ ts : List Str, (ts.map (·.cps.toList)).map ofL = ts
  | [] => rfl
  | t :: ts => by rw [List.map_cons, List.map_cons, map_ofL ts, ofL_toL]
theorem split_spl (x : Str) (c : Nat) : Txt.split x ⟨#[c]⟩ = (spl c x.cps.toList).map ofL := by
  have hj := congrArg (fun s : Str => s.cps.toList) (StrLaws.join_split x ⟨#[c]⟩)
  rw [← StrLaws.glued_eq_join] at hj
  have hj' := (join_jn ⟨#[c]⟩ (Txt.split x ⟨#[c]⟩)).symm.trans hj
  have hu : (Txt.split x ⟨#[c]⟩).map (·.cps.toList) = spl c x.cps.toList :=
    jn_uniq c [] (by simpa using split_ne x ⟨#[c]⟩) (spl_ok c _).1 (fun p hp => by
      obtain ⟨q, hq, rfl⟩ := List.mem_map.mp hp
      exact StrLaws.split_free x c q hq) (spl_ok c _).2.1 (hj'.trans (spl_ok c _).2.2.symm)
  rw [← hu, map_ofL]

/-- each c becomes z -/
noncomputable def rpl (c : Nat) (z : List Nat) : List Nat → List Nat
  | [] => []
  | a :: r => bif Nat.beq a c then z ++ rpl c z r else a :: rpl c z r
theorem rpl_app (c : Nat) (z : List Nat) : ∀ a b, rpl c z (a ++ b) = rpl c z a ++ rpl c z b
  | [], _ => rfl
  | a :: r, b => by
    simp only [List.cons_append, rpl, rpl_app c z r b]
    cases Nat.beq a c <;> simp
theorem rpl_free (c : Nat) (z : List Nat) : ∀ {l}, c ∉ l → rpl c z l = l
  | [], _ => rfl
  | a :: r, h => by
    have : Nat.beq a c = false := by
      rw [Bool.eq_false_iff]; intro q; exact h (Nat.eq_of_beq_eq_true q ▸ List.mem_cons_self)
    simp only [rpl, this, cond_false, rpl_free c z (fun m => h (List.mem_cons_of_mem _ m))]
theorem rpl_jn (c : Nat) (z : List Nat) : ∀ {ps : List (List Nat)}, (∀ p ∈ ps, c ∉ p) → rpl c z (jn [c] ps) = jn z ps
  | [], _ => rfl
  | [p], h => rpl_free c z (h p List.mem_cons_self)
  | p :: q :: r, h => by
    show rpl c z (p ++ [c] ++ jn [c] (q :: r)) = p ++ z ++ jn z (q :: r)
    rw [rpl_app, rpl_app, rpl_free c z (h p List.mem_cons_self), rpl_jn c z (fun x m => h x (List.mem_cons_of_mem _ m))]
    simp [rpl]
theorem replace_rpl (x z : Str) (c : Nat) : Txt.replace x ⟨#[c]⟩ z = ofL (rpl c z.cps.toList x.cps.toList) := by
  apply toL_inj
  rw [StrLaws.replace_one, ← StrLaws.glued_eq_join]
  rw [show (glued z (Txt.split x ⟨#[c]⟩)).cps.toList = _ from join_jn z _, split_spl, List.map_map]
  have : ((fun s : Str => s.cps.toList) ∘ ofL) = id := rfl
  rw [this, List.map_id, ← rpl_jn c _ (spl_ok c _).2.1, (spl_ok c _).2.2]
  rfl
theorem contains_mem (x : Str) (c : Nat) : Txt.contains x ⟨#[c]⟩ = decide (c ∈ x.cps.toList) := StrLaws.found_one x c
theorem rp_rpl (x z : Str) (c : Nat) : rp ⟨#[c]⟩ z x = ofL (rpl c z.cps.toList x.cps.toList) := by
  rw [rp, contains_mem]
  by_cases h : c ∈ x.cps.toList
  · rw [decide_eq_true h, if_pos rfl, replace_rpl]
  · rw [decide_eq_false h, if_neg (by decide), rpl_free _ _ h, ofL_toL]
end Mine
end

-- L2
section
open PySem PySem.W PySem.Calls PyProof.Rows PyProof.V PySem.Spec PySem.Builtin.Str PySem.SeqAt
namespace Mine

abbrev At' (x y : Str) (k : Nat) : Prop := StrLaws.At x y x.length k
theorem part_freeP (x y : Str) (c a b : Nat) (hA : ∀ k, x.cps.toList[k]? = some c → At' x y k) (hn : ∀ k, a ≤ k → k < b → ¬ At' x y k) : c ∉ (strSub x a b).cps.toList := by
  intro hm
  rw [StrLaws.strSub_toList] at hm
  obtain ⟨j, hj⟩ := List.getElem?_of_mem hm
  have hlt : j < b - a := by
    have h1 : j < ((x.cps.toList.drop a).take (b - a)).length := (List.getElem?_eq_some_iff.mp hj).1
    simp at h1
    omega
  rw [List.getElem?_take_of_lt hlt, List.getElem?_drop] at hj
  exact hn (a + j) (by omega) (by omega) (hA _ hj)
theorem parts_freeP (x y : Str) (c : Nat) (hA : ∀ k, x.cps.toList[k]? = some c → At' x y k) : ∀ (cuts : List Nat) (a f : Nat), StrLaws.ChainG x y x.length a cuts f → (∀ k, f ≤ k → ¬ At' x y k) → ∀ p ∈ StrLaws.partsFrom x y.length a cuts, c ∉ p.cps.toList
  | [], a, f, h, hn, p, hp => by
    have e : f = a := h
    subst e
    rw [List.mem_singleton.mp hp]
    exact part_freeP x y c f x.length hA fun k h1 _ => hn k h1
  | d :: r, a, f, h, hn, p, hp => by
    rcases List.mem_cons.mp hp with rfl | hp'
    · exact part_freeP x y c a d hA h.2.2.1
    · exact parts_freeP x y c hA r _ f h.2.2.2 hn p hp'
theorem split_freeP (x y : Str) (c : Nat) (hy : 1 ≤ y.length) (hk : Builtin.Str.strKind y ≤ Builtin.Str.strKind x) (hA : ∀ k, x.cps.toList[k]? = some c → At' x y k) : ∀ p ∈ Txt.split x y, c ∉ p.cps.toList := by
  obtain ⟨f, hG, hn⟩ := StrLaws.occ_tight x y hy
  unfold Txt.split
  split
  · rename_i hc
    intro p hp
    rw [List.mem_singleton.mp hp]
    intro hm
    obtain ⟨j, hj⟩ := List.getElem?_of_mem hm
    have := (hA j hj).1
    rw [Bool.or_eq_true, decide_eq_true_eq, decide_eq_true_eq] at hc
    omega
  · split
    · rename_i he
      intro p hp
      rw [List.mem_singleton.mp hp]
      rw [List.isEmpty_iff.mp he] at hG
      have ef : f = 0 := hG
      subst ef
      rw [← StrLaws.sub_whole x]
      exact part_freeP x y c 0 x.length hA fun k h1 _ => hn k h1
    · rw [StrLaws.partsBetween_eq]
      exact parts_freeP x y c hA _ 0 f hG hn

theorem jn_pair (c d : Nat) (hd : c ≠ d) : ∀ {ps : List (List Nat)}, (∀ p ∈ ps, c ∉ p) → ∀ k, (jn [c, d] ps)[k]? = some c → (jn [c, d] ps)[k + 1]? = some d
  | [], _, k, h => by simp [jn] at h
  | [p], hp, k, h => absurd (List.mem_of_getElem? h) (hp p List.mem_cons_self)
  | p :: q :: r, hp, k, h => by
    have ih := jn_pair c d hd (ps := q :: r) (fun x m => hp x (List.mem_cons_of_mem _ m))
    have e : jn [c, d] (p :: q :: r) = p ++ ([c, d] ++ jn [c, d] (q :: r)) := by simp [jn]
    rw [e] at h ⊢
    by_cases hk : k < p.length
    · rw [List.getElem?_append_left hk] at h
      exact absurd (List.mem_of_getElem? h) (hp p List.mem_cons_self)
    · rw [List.getElem?_append_right (by omega)] at h ⊢
      · generalize hj : k - p.length = j at h
        rw [show k + 1 - p.length = j + 1 by omega]
        match j, h with
        | 0, h => rfl
        | 1, h => simp at h; exact absurd h.symm hd
        | j + 2, h =>
          have h' : (jn [c, d] (q :: r))[j]? = some c := by simpa using h
          have := ih j h'
          simpa using this

theorem split_crlf (ts : List Str) (hne : ts ≠ []) (hf : ∀ t ∈ ts, 13 ∉ t.cps.toList) : Txt.split (Txt.join ⟨#[13, 10]⟩ ts) ⟨#[13, 10]⟩ = ts := by
  have hj := join_jn ⟨#[13, 10]⟩ ts
  have hf' : ∀ p ∈ ts.map (·.cps.toList), 13 ∉ p := fun p hp => by
    obtain ⟨q, hq, rfl⟩ := List.mem_map.mp hp
    exact hf q hq
  generalize hx : Txt.join ⟨#[13, 10]⟩ ts = x at hj
  have hfree := split_freeP x ⟨#[13, 10]⟩ 13 (by decide) (by
    rw [show Builtin.Str.strKind ⟨#[13, 10]⟩ = 1 by decide +kernel]
    unfold Builtin.Str.strKind
    split
    · exact Nat.le_refl _
    · split <;> omega) (fun k hk => by
      have h2 : x.cps.toList[k + 1]? = some 10 := by
        rw [hj] at hk ⊢
        exact jn_pair 13 10 (by decide) hf' k hk
      have hlt := (List.getElem?_eq_some_iff.mp h2).1
      refine ⟨by simp [Str.length] at hlt ⊢; omega, ?_⟩
      rw [StrLaws.subAt_eq]
      have e : List.take (⟨#[13, 10]⟩ : Str).length (List.drop k x.cps.toList) = [13, 10] := by
        show List.take 2 _ = _
        apply List.ext_getElem?
        intro i
        match i with
        | 0 => simpa using hk
        | 1 => simpa using h2
        | i + 2 => simp; omega
      rw [e]; rfl)
  have hj2 := congrArg (fun s : Str => s.cps.toList) (StrLaws.join_split x ⟨#[13, 10]⟩)
  rw [← StrLaws.glued_eq_join] at hj2
  have hj3 := (join_jn ⟨#[13, 10]⟩ (Txt.split x ⟨#[13, 10]⟩)).symm.trans hj2
  have hu : (Txt.split x ⟨#[13, 10]⟩).map (·.cps.toList) = ts.map (·.cps.toList) :=
    jn_uniq 13 [10] (by simpa using split_ne x _) (by simpa using hne) (fun p hp => by
      obtain ⟨q, hq, rfl⟩ := List.mem_map.mp hp
      exact hfree q hq) hf' (hj3.trans hj)
  have := congrArg (List.map ofL) hu
  rwa [map_ofL, map_ofL] at this
end Mine
end

-- W71
section
open PySem PySem.W PySem.Calls PyProof.Rows PyProof.V PySem.Spec PySem.Builtin.Str PySem.SeqAt
namespace Mine

local macro_rules | `(tactic| walk_at "mem") => `(tactic| first | exact List.mem_cons_self | (refine List.mem_cons_of_mem _ ?_; walk_at "mem"))
local macro_rules | `(tactic| walk_at "kind") => `(tactic| first | exact Or.inl (by decide +kernel) | exact Or.inr (by decide +kernel))
local macro_rules | `(tactic| walk_at "ne") => `(tactic| first | exact (fun _ h => absurd h List.not_mem_nil) | (refine List.forall_mem_cons.mpr ⟨by dsimp only; decide +kernel, ?_⟩; walk_at "ne"))
local macro_rules | `(tactic| walk_at "sub") => `(tactic| first | exact (fun _ h => absurd h List.not_mem_nil) | (refine List.forall_mem_cons.mpr ⟨⟨by walk_at "mem", by dsimp only; decide +kernel⟩, ?_⟩; walk_at "sub"))
local macro_rules | `(tactic| walk_at "subs") => `(tactic| first | exact (fun _ h => absurd h List.not_mem_nil) | (refine List.forall_mem_cons.mpr ⟨by walk_at "mem", ?_⟩; walk_at "subs"))
local macro_rules | `(tactic| walk_at "blk") => `(tactic| first | exact (fun _ h => absurd h List.not_mem_nil) | (refine List.forall_mem_cons.mpr ⟨⟨by walk_at "mem", by dsimp only; decide +kernel⟩, ?_⟩; walk_at "blk"))

theorem atD {α : Type} {l : List α} {d : α} {k : Nat} (h : k < l.length) : l.getD k d ∈ l := by
  simp [List.getD, h]
noncomputable def crlf : Str := ⟨#[13, 10]⟩
noncomputable def ln1 (nm : Str) : Str := Str.ofString "257 \"" ++ Txt.replace nm (Str.ofString "\"") (Str.ofString "\"\"") ++ Str.ofString "=\""
noncomputable def ln2 (mark : Str) (p : Int) : Str := Str.ofString "229 (" ++ Txt.mul mark 3 ++ Str.ofString (toString p) ++ mark ++ Str.ofString ")"
noncomputable def tlk (names : List Str) (parents : List Int) (mark : Str) : Nat → List Str
  | 0 => []
  | k + 1 => tlk names parents mark k ++ [ln1 (names.getD k Str.empty)] ++ [ln2 mark (parents.getD k 0)]
theorem tlk_len (names : List Str) (parents : List Int) (mark : Str) : ∀ k, (tlk names parents mark k).length = 2 * k
  | 0 => rfl
  | k + 1 => by simp [tlk, tlk_len names parents mark k]; omega
theorem tlk_all {names : List Str} {parents : List Int} {mark : Str} {p : Str → Prop} : ∀ {k}, k ≤ names.length → k ≤ parents.length → (∀ nm ∈ names, p (ln1 nm)) → (∀ q ∈ parents, p (ln2 mark q)) → ∀ t ∈ tlk names parents mark k, p t
  | 0, _, _, _, _, t, h => by simp [tlk] at h
  | k + 1, h1, h2, ha, hb, t, h => by
    rcases List.mem_append.mp h with h | h
    · rcases List.mem_append.mp h with h | h
      · exact tlk_all (by omega) (by omega) ha hb t h
      · rw [List.mem_singleton.mp h]; exact ha _ (atD (by omega))
    · rw [List.mem_singleton.mp h]; exact hb _ (atD (by omega))

theorem joinOk_of {sep : Str} {ts : List Str} (h1 : ts.length ≤ 300) (h2 : ∀ t ∈ ts, t.length ≤ 1000) (h3 : sep.length ≤ 10) : JoinOk sep ts = true := by
  have key : ∀ (ts : List Str) (a : Nat), (∀ t ∈ ts, t.length ≤ 1000) → ts.foldl (fun x y => x + y.length + sep.length) a ≤ a + ts.length * 1010 := by
    intro ts
    induction ts with
    | nil => intro a _; simp
    | cons t r ih =>
      intro a h
      rw [List.foldl_cons]
      have := ih (a + t.length + sep.length) (fun x m => h x (List.mem_cons_of_mem _ m))
      have := h t List.mem_cons_self
      simp only [List.length_cons]
      omega
  have := key ts 0 h2
  have hsz : sizeLine = 16777216 := sizeLine_eq
  unfold JoinOk tooLong
  rw [List.foldl_toArray]
  simp only [Bool.not_eq_true', decide_eq_false_iff_not]
  omega

section
variable {w : World} {mg mb : Str → Option Value} {A : Around} {env : Env} {own own₁ own₂ : List Addr} {ρ : List (Str × PV)} {names : List (Str × NameKind)} {s₀ : Base} {s : Shared}

theorem Ev.toOwn {e : Expr} {V : PV} (h : Ev w A env own₁ s e V) (hf : V.flat = true := by rfl) : Ev w A env own₂ s e V := fun s' g E =>
  wpAny_mono (h s' g E) (fun v s'' h => ⟨h.1, h.2.flat hf⟩) (fun _ _ e => e)

theorem c_talk {nms : List Str} {ps : List Int} {mark : Str} (hn : nms.length = ps.length) (hl : ps.length ≤ 100) (hm : mark.length ≤ 100) (h1 : ∀ nm ∈ nms, nm.length ≤ 100 ∧ (ln1 nm).length ≤ 1000) (h2 : ∀ p ∈ ps, p.natAbs.log2 < 1920 ∧ (ln2 mark p).length ≤ 1000) :
    CtF w mg mb 71 1 [.list (nms.map .str), .list (ps.map .int), .str mark] (.str (Txt.join crlf (tlk nms ps mark ps.length))) := by
  have hsz : sizeLine = 16777216 := sizeLine_eq
  refine enter (k := 0) (by decide) (by decide +kernel) rfl fun A own s₀ env s hr F => ?_
  refine Ex.openList (ρ' := [(Str.ofString "names", .list (nms.map .str)), (Str.ofString "parents", .list (ps.map .int)), (Str.ofString "mark", .str mark)]) F (by decide +kernel) (by walk_at "ne") (by walk_at "sub") fun a s₁ F₁ => ?_
  refine Ex.forIn (S := .rng 0 ps.length 1) (its := (List.range ps.length).map fun (i : Nat) => .int i) (osI := fun i => [(Str.ofString "lines", a, (tlk nms ps mark i).map .str)]) (ρI := fun _ => [(Str.ofString "names", .list (nms.map .str)), (Str.ofString "parents", .list (ps.map .int)), (Str.ofString "mark", .str mark)])
    hr.hh F₁ (fun _ => rfl) ?_ (Its.rangeN (by omega)) (by simp [PV.flat]) (by walk_at "kind") (fun _ => by walk_at "ne") (fun _ => by walk_at "ne") ?_ ?_
  · exact (Ev.range1 F₁.cx (Ev.lenL F₁.cx (Ev.name F₁.cx (by walk_at "mem")) (by simp; omega))).cast (by simp [hn])
  · intro k V hk ex pn s₂ F₂
    obtain ⟨hkl, rfl⟩ := idx_range hk
    have hnm := h1 _ (atD (l := nms) (d := Str.empty) (k := k) (by omega))
    have hpm := h2 _ (atD (l := ps) (d := 0) (k := k) hkl)
    refine Ex.append (os₁ := []) (os₂ := []) (V := .str (ln1 (nms.getD k Str.empty))) F₂ ?_ (by simp [tlk_len]; omega) fun s₃ F₃ => ?_
    · have hb := hnm.2
      simp only [ln1, Str.length_append] at hb
      refine Ev.cat (Ev.cat Ev.cstr (Ev.replace (Ev.itemF (Ev.name F₂.cx (by walk_at "mem")) (Ev.name F₂.cx (by walk_at "mem")) (by omega) (by omega) (map_at (l := nms) (i := k) PV.str Str.empty (by omega)) rfl) F₂.cx.tk (by decide +kernel) ?_) ?_) Ev.cstr ?_
      · have : (nms.getD k Str.empty).length ≤ 100 := hnm.1
        rw [show (Str.ofString "\"\"").length = 2 by decide +kernel]
        omega
      · simp only [Str.length_append]; omega
      · simp only [Str.length_append]; omega
    · refine Ex.append (os₁ := []) (os₂ := []) (V := .str (ln2 mark (ps.getD k 0))) F₃ ?_ (by simp [tlk_len]; omega) fun s₄ F₄ => Ex.nil ⟨rfl, ?_⟩
      · have hb := hpm.2
        simp only [ln2, Str.length_append] at hb
        refine Ev.cat (Ev.cat (Ev.cat (Ev.cat Ev.cstr (Ev.times (Ev.name F₃.cx (by walk_at "mem")) Ev.cint (mulOk hm (n := 3) (by omega))) ?_) (Ev.call_ty F₃.cx (Evs.cons (Ev.itemF (V := .int (ps.getD k 0)) (Ev.name F₃.cx (by walk_at "mem")) (Ev.name F₃.cx (by walk_at "mem")) (by omega) (by omega) (map_at (l := ps) (i := k) PV.int 0 (by omega)) rfl) Evs.nil) (Ct.str_int hpm.1) (by decide)) ?_) (Ev.name F₃.cx (by walk_at "mem")) ?_) Ev.cstr ?_
        all_goals (simp only [Str.length_append]; omega)
      · have : List.map PV.str (tlk nms ps mark (k + 1)) = List.map PV.str (tlk nms ps mark k) ++ [.str (ln1 (nms.getD k Str.empty))] ++ [.str (ln2 mark (ps.getD k 0))] := by simp [tlk]
        rw [this]
        exact F₄.sub (by walk_at "subs")
  · intro s₂ F₂
    refine Ex.ret (own' := own) ?_ fun v s' g r => ⟨v, rfl, F₂.gr.trans g, r⟩
    rw [List.length_map, List.length_range] at F₂
    have hall := tlk_all (k := ps.length) (names := nms) (parents := ps) (mark := mark) (p := fun t => t.length ≤ 1000) (by omega) (Nat.le_refl _) (fun nm h => (h1 nm h).2) (fun q h => (h2 q h).2)
    exact Ev.join (Ev.toOwn (Ev.crlf F₂.cx)) (Ev.opened F₂ (x := Str.ofString "lines") (a := a) List.mem_cons_self) (joinOk_of (by rw [tlk_len]; omega) hall (by decide))
end

end Mine
end

-- W73
section
open PySem PySem.W PySem.Calls PyProof.Rows PyProof.V PySem.Spec PySem.Builtin.Str PySem.SeqAt
namespace Mine

local macro_rules | `(tactic| walk_at "mem") => `(tactic| first | exact List.mem_cons_self | (refine List.mem_cons_of_mem _ ?_; walk_at "mem"))
local macro_rules | `(tactic| walk_at "kind") => `(tactic| first | exact Or.inl (by decide +kernel) | exact Or.inr (by decide +kernel))
local macro_rules | `(tactic| walk_at "ne") => `(tactic| first | exact (fun _ h => absurd h List.not_mem_nil) | (refine List.forall_mem_cons.mpr ⟨by dsimp only; decide +kernel, ?_⟩; walk_at "ne"))
local macro_rules | `(tactic| walk_at "sub") => `(tactic| first | exact (fun _ h => absurd h List.not_mem_nil) | (refine List.forall_mem_cons.mpr ⟨⟨by walk_at "mem", by dsimp only; decide +kernel⟩, ?_⟩; walk_at "sub"))
local macro_rules | `(tactic| walk_at "subs") => `(tactic| first | exact (fun _ h => absurd h List.not_mem_nil) | (refine List.forall_mem_cons.mpr ⟨by walk_at "mem", ?_⟩; walk_at "subs"))
local macro_rules | `(tactic| walk_at "blk") => `(tactic| first | exact (fun _ h => absurd h List.not_mem_nil) | (refine List.forall_mem_cons.mpr ⟨⟨by walk_at "mem", by dsimp only; decide +kernel⟩, ?_⟩; walk_at "blk"))

noncomputable def qq : Str := ⟨#[34, 34]⟩
noncomputable def rep (ts : List Str) (k : Nat) : Str := Str.ofString "257 \"" ++ Txt.join qq (ts.take k) ++ qt ++ Txt.join qq (ts.drop k) ++ qt
noncomputable def frs (ts : List Str) : Nat → List Str
  | 0 => []
  | k + 1 => frs ts k ++ [p257 (rep ts (k + 1))]
theorem frs_len (ts : List Str) : ∀ k, (frs ts k).length = k
  | 0 => rfl
  | k + 1 => by simp [frs, frs_len ts k]
noncomputable def frontsF (x : Str) : List Str := frs (Txt.split x qt) ((Txt.split x qt).length - 1)
noncomputable def okF (x : Str) : Bool := decide (x.length ≤ 100) && (List.range ((Txt.split x qt).length - 1)).all fun k => ok257 (rep (Txt.split x qt) (k + 1))

theorem Its.range1N {n : Nat} (hn : n ≤ 16777216) : Its (.rng 1 n 1) ((List.range (n - 1)).map fun (i : Nat) => .int ((i + 1 : Nat) : Int)) := by
  have e : (Builtin.Range.rangeSize 1 (n : Int) 1).toNat = n - 1 := by
    rw [rangeSize_one]; split <;> omega
  have : (rngItems 1 n 1).map PV.int = (List.range (n - 1)).map fun (i : Nat) => .int ((i + 1 : Nat) : Int) := by
    unfold rngItems
    rw [e, List.map_map]
    refine List.map_congr_left fun i _ => ?_
    simp; omega
  rw [← this]
  exact .rng (small_one (by omega) (by omega) (by omega) (by omega)) (by rw [rangeSize_one]; split <;> omega)
theorem idx_range1 {n i : Nat} {V : PV} (h : ((List.range n).map fun (i : Nat) => PV.int ((i + 1 : Nat) : Int))[i]? = some V) : i < n ∧ V = .int ((i + 1 : Nat) : Int) := by
  have hn : i < n := by
    have := (List.getElem?_eq_some_iff.mp h).1
    simpa using this
  exact ⟨hn, by simp [hn] at h; exact h.symm⟩

theorem parts_le (x y : Str) (h : x.length ≤ 1000) : (partsBetween x (Builtin.Str.occurrences x y 0 x.length (x.length + 1)) y.length).length ≤ sizeLine := by
  rw [length_partsBetween]
  have := StrLaws.occ_length_le x y 0 x.length (x.length + 1)
  have hsz : sizeLine = 16777216 := sizeLine_eq
  omega

section
variable {w : World} {mg mb : Str → Option Value} {A : Around} {env : Env} {own own₁ own₂ : List Addr} {ρ : List (Str × PV)} {names : List (Str × NameKind)} {s₀ : Base} {s : Shared}

set_option maxRecDepth 100000 in
theorem c_fronts {x : Str} (ho : okF x = true) : CtF w mg mb 73 2 [.str x] (.list ((frontsF x).map .str)) := by
  have hsz : sizeLine = 16777216 := sizeLine_eq
  simp only [okF, Bool.and_eq_true, decide_eq_true_eq, List.all_eq_true, List.mem_range] at ho
  obtain ⟨hx, hok⟩ := ho
  unfold frontsF
  have hsp := split_le x qt
  have hsh : ∀ a ∈ Txt.split x qt, a.length ≤ 1000 := fun a h => Nat.le_trans (part_short h) (by omega)
  have hpb := parts_le x qt (by omega)
  generalize hts : Txt.split x qt = ts at *
  refine enter (k := 1) (by decide) (by decide +kernel) rfl fun A own s₀ env s hr F => ?_
  refine Ex.assign (V := .list (ts.map .str)) (ρ' := []) F ((Ev.split (y := qt) (Ev.name F.cx (by walk_at "mem")) Ev.cstr F.cx.ow rfl (by omega) hpb).cast (by rw [hts])) (by walk_at "kind") (by walk_at "ne") (by walk_at "sub") fun s F => ?_
  refine Ex.openList (ρ' := [(Str.ofString "parts", .list (ts.map .str))]) F (by decide +kernel) (by walk_at "ne") (by walk_at "sub") fun a s₁ F₁ => ?_
  refine Ex.forIn (S := .rng 1 ts.length 1) (its := (List.range (ts.length - 1)).map fun (i : Nat) => .int ((i + 1 : Nat) : Int)) (osI := fun i => [(Str.ofString "fronts", a, (frs ts i).map .str)]) (ρI := fun _ => [(Str.ofString "parts", .list (ts.map .str))])
    hr.hh F₁ (fun _ => rfl) ?_ (Its.range1N (by omega)) (by simp [PV.flat]) (by walk_at "kind") (fun _ => by walk_at "ne") (fun _ => by walk_at "ne") ?_ ?_
  · exact (Ev.range2 F₁.cx Ev.cint (Ev.lenL F₁.cx (Ev.name F₁.cx (by walk_at "mem")) (by simp; omega))).cast (by simp)
  · intro k V hk ex pn s₂ F₂
    obtain ⟨hkl, rfl⟩ := idx_range1 hk
    have hk' := hok k (by omega)
    have hrl : (rep ts (k + 1)).length ≤ 1000 := by
      simp only [ok257, Bool.and_eq_true, decide_eq_true_eq] at hk'
      exact hk'.1.1
    refine Ex.assign (V := .str (rep ts (k + 1))) (ρ' := [(Str.ofString "parts", .list (ts.map .str))]) F₂ ?_ (by walk_at "kind") (by walk_at "ne") (by walk_at "sub") fun s₃ F₃ => ?_
    · simp only [rep, Str.length_append] at hrl
      refine Ev.cat (x := Str.ofString "257 \"" ++ Txt.join qq (ts.take (k + 1)) ++ qt ++ Txt.join qq (ts.drop (k + 1))) (y := qt) ?_ ?_ ?_
      · refine Ev.cat (x := Str.ofString "257 \"" ++ Txt.join qq (ts.take (k + 1)) ++ qt) (y := Txt.join qq (ts.drop (k + 1))) ?_ ?_ ?_
        · refine Ev.cat (x := Str.ofString "257 \"" ++ Txt.join qq (ts.take (k + 1))) (y := qt) ?_ ?_ ?_
          · refine Ev.cat (x := Str.ofString "257 \"") (y := Txt.join qq (ts.take (k + 1))) ?_ ?_ ?_
            · exact Ev.cstr
            · refine Ev.join (x := qq) (ts := ts.take (k + 1)) ?_ ?_ ?_
              · exact Ev.cstr
              · exact ((Ev.sliceL (Ev.name F₂.cx (by walk_at "mem")) .none (.some (Ev.name F₂.cx (by walk_at "mem"))) F₂.cx.ow (by simp; omega)).cast (by rw [cut_to _ (by simp; omega), ← List.map_take]))
              · exact joinOk_of (by simp; omega) (fun t h => hsh t (List.mem_of_mem_take h)) (by decide)
            · simp only [Str.length_append]; omega
          · exact Ev.cstr
          · simp only [Str.length_append]; omega
        · refine Ev.join (x := qq) (ts := ts.drop (k + 1)) ?_ ?_ ?_
          · exact Ev.cstr
          · exact ((Ev.sliceL (Ev.name F₂.cx (by walk_at "mem")) (.some (Ev.name F₂.cx (by walk_at "mem"))) .none F₂.cx.ow (by simp; omega)).cast (by rw [cut_from _ (by simp; omega), ← List.map_drop]))
          · exact joinOk_of (by simp; omega) (fun t h => hsh t (List.mem_of_mem_drop h)) (by decide)
        · simp only [Str.length_append]; omega
      · exact Ev.cstr
      · simp only [Str.length_append]; omega
    · refine Ex.append (os₁ := []) (os₂ := []) (V := .str (p257 (rep ts (k + 1)))) F₃ (Ev.call_def F₃.cx (Evs.cons (Ev.name F₃.cx (by walk_at "mem")) Evs.nil) (c_257 hk') hr rfl (by decide)) (by simp [frs_len]; omega) fun s₄ F₄ => Ex.nil ⟨rfl, ?_⟩
      have : List.map PV.str (frs ts (k + 1)) = List.map PV.str (frs ts k) ++ [.str (p257 (rep ts (k + 1)))] := by simp [frs]
      rw [this]
      exact F₄.sub (by walk_at "subs")
  · intro s₂ F₂
    rw [List.length_map, List.length_range] at F₂
    exact Ex.ret (own' := own) (Ev.opened F₂ (x := Str.ofString "fronts") (a := a) List.mem_cons_self) fun v s' g r => ⟨v, rfl, F₂.gr.trans g, r⟩
end

end Mine
end

-- W74
section
open PySem PySem.W PySem.Calls PyProof.Rows PyProof.V PySem.Spec PySem.Builtin.Str PySem.SeqAt
namespace Mine

local macro_rules | `(tactic| walk_at "mem") => `(tactic| first | exact List.mem_cons_self | (refine List.mem_cons_of_mem _ ?_; walk_at "mem"))
local macro_rules | `(tactic| walk_at "kind") => `(tactic| first | exact Or.inl (by decide +kernel) | exact Or.inr (by decide +kernel))
local macro_rules | `(tactic| walk_at "ne") => `(tactic| first | exact (fun _ h => absurd h List.not_mem_nil) | (refine List.forall_mem_cons.mpr ⟨by dsimp only; decide +kernel, ?_⟩; walk_at "ne"))
local macro_rules | `(tactic| walk_at "sub") => `(tactic| first | exact (fun _ h => absurd h List.not_mem_nil) | (refine List.forall_mem_cons.mpr ⟨⟨by walk_at "mem", by dsimp only; decide +kernel⟩, ?_⟩; walk_at "sub"))
local macro_rules | `(tactic| walk_at "subs") => `(tactic| first | exact (fun _ h => absurd h List.not_mem_nil) | (refine List.forall_mem_cons.mpr ⟨by walk_at "mem", ?_⟩; walk_at "subs"))
local macro_rules | `(tactic| walk_at "blk") => `(tactic| first | exact (fun _ h => absurd h List.not_mem_nil) | (refine List.forall_mem_cons.mpr ⟨⟨by walk_at "mem", by dsimp only; decide +kernel⟩, ?_⟩; walk_at "blk"))

noncomputable def abL (ps : List Int) : Nat → Int → List Int → List Int
  | 0, _, acc => acc
  | f + 1, p, acc => if p == 0 then acc else abL ps f (ps.getD (p - 1).toNat 0) ((p - 1) :: acc)
noncomputable def aboveF (ps : List Int) (k : Nat) : List Int := abL ps (k + 1) (ps.getD k 0) []

section
variable {w : World} {mg mb : Str → Option Value} {A : Around} {env : Env} {own own₁ own₂ : List Addr} {ρ : List (Str × PV)} {names : List (Str × NameKind)} {s₀ : Base} {s : Shared}

theorem c_above {ps : List Int} {k : Nat} (hk : k < ps.length) (hl : ps.length ≤ 100) (hps : ∀ k, k < ps.length → 0 ≤ ps.getD k 0 ∧ ps.getD k 0 ≤ k) :
    CtF w mg mb 74 2 [.list (ps.map .int), .int k] (.list ((aboveF ps k).map .int)) := by
  have hsz : sizeLine = 16777216 := sizeLine_eq
  refine enter (k := 1) (by decide) (by decide +kernel) rfl fun A own s₀ env s hr F => ?_
  refine Ex.assign (V := .list []) (ρ' := [(Str.ofString "ports", .list (ps.map .int)), (Str.ofString "k", .int k)]) F (Ev.listD Evs.nil F.cx.ow (by simp)) (by walk_at "kind") (by walk_at "ne") (by walk_at "sub") fun s F => ?_
  refine Ex.assign (V := .int (ps.getD k 0)) (ρ' := [(Str.ofString "above", .list []), (Str.ofString "ports", .list (ps.map .int))]) F (Ev.itemF (Ev.name F.cx (by walk_at "mem")) (Ev.name F.cx (by walk_at "mem")) (by omega) (by omega) (map_at (l := ps) (i := k) PV.int 0 hk) rfl) (by walk_at "kind") (by walk_at "ne") (by walk_at "sub") fun s F => ?_
  refine Ex.whileB (I := fun f s' => ∃ (p : Int) (acc : List Int), 0 ≤ p ∧ p < f ∧ p ≤ ps.length ∧ acc.length + f ≤ 200 ∧ abL ps f p acc = aboveF ps k ∧ Frm w mg mb A s₀ env own [] [] [] [(Str.ofString "port", .int p), (Str.ofString "above", .list (acc.map .int)), (Str.ofString "ports", .list (ps.map .int))] (scopeAt 74).names s')
    (D := fun s' => Frm w mg mb A s₀ env own [] [] [] [(Str.ofString "above", .list ((aboveF ps k).map .int))] (scopeAt 74).names s') (k + 1) ⟨ps.getD k 0, [], (hps k hk).1, by have := (hps k hk).2; omega, by have := (hps k hk).2; omega, by simp; omega, rfl, F⟩ ?_ fun s F => ?_
  · rintro f s ⟨p, acc, h0, hf, hpl, hal, he, F⟩
    refine ⟨!(p == 0), Et.not (Et.of_bool (Ev.call_def F.cx (Evs.cons (Ev.name F.cx (by walk_at "mem")) Evs.nil) c_iseof hr rfl (by decide))), fun s' g => ?_⟩
    replace F := F.grow g
    clear g
    obtain ⟨f, rfl⟩ : ∃ f', f = f' + 1 := ⟨f - 1, by omega⟩
    rw [abL] at he
    refine ⟨fun hb => ?_, fun hb => ?_⟩
    · have hp0 : (p == 0) = false := by simpa using hb
      rw [hp0, if_neg (by decide)] at he
      have hp : p ≠ 0 := by simpa using hp0
      have hq := hps (p - 1).toNat (by omega)
      refine Ex.assign (V := .list ((((p - 1) :: acc)).map .int)) (ρ' := [(Str.ofString "port", .int p), (Str.ofString "ports", .list (ps.map .int))]) F (Ev.catL (x := [.int (p - 1)]) (Ev.listD (Evs.cons (Ev.sub (Ev.name F.cx (by walk_at "mem")) Ev.cint) Evs.nil) F.cx.ow (by simp; omega)) (Ev.name F.cx (by walk_at "mem")) F.cx.ow (by simp; omega)) (by walk_at "kind") (by walk_at "ne") (by walk_at "sub") fun s F => ?_
      refine Ex.assign (V := .int (ps.getD (p - 1).toNat 0)) (ρ' := [(Str.ofString "above", .list (((p - 1) :: acc).map .int)), (Str.ofString "ports", .list (ps.map .int))]) F (Ev.itemF (Ev.name F.cx (by walk_at "mem")) (Ev.sub (Ev.name F.cx (by walk_at "mem")) Ev.cint) (by omega) (by omega) (map_at (l := ps) PV.int 0 (by omega)) rfl) (by walk_at "kind") (by walk_at "ne") (by walk_at "sub") fun s F => Ex.nil (.inl ⟨rfl, f, by omega, _, _, hq.1, by omega, by omega, by simp; omega, he, F⟩)
    · have hp0 : (p == 0) = true := by simpa using hb
      rw [hp0, if_pos rfl] at he
      subst he
      exact F.sub (by walk_at "subs")
  · exact Ex.ret (own' := own) (Ev.name F.cx List.mem_cons_self) fun v s' g r => ⟨v, rfl, F.gr.trans g, r⟩
end

end Mine
end

-- Ev13
section
open PySem PySem.W PySem.Calls PyProof.Rows PyProof.V PySem.Spec PySem.Builtin.Str PySem.SeqAt
namespace Mine

local macro_rules | `(tactic| walk_at "mem") => `(tactic| first | exact List.mem_cons_self | (refine List.mem_cons_of_mem _ ?_; walk_at "mem"))
local macro_rules | `(tactic| walk_at "kind") => `(tactic| first | exact Or.inl (by decide +kernel) | exact Or.inr (by decide +kernel))
local macro_rules | `(tactic| walk_at "ne") => `(tactic| first | exact (fun _ h => absurd h List.not_mem_nil) | (refine List.forall_mem_cons.mpr ⟨by dsimp only; decide +kernel, ?_⟩; walk_at "ne"))
local macro_rules | `(tactic| walk_at "sub") => `(tactic| first | exact (fun _ h => absurd h List.not_mem_nil) | (refine List.forall_mem_cons.mpr ⟨⟨by walk_at "mem", by dsimp only; decide +kernel⟩, ?_⟩; walk_at "sub"))
local macro_rules | `(tactic| walk_at "subs") => `(tactic| first | exact (fun _ h => absurd h List.not_mem_nil) | (refine List.forall_mem_cons.mpr ⟨by walk_at "mem", ?_⟩; walk_at "subs"))
local macro_rules | `(tactic| walk_at "blk") => `(tactic| first | exact (fun _ h => absurd h List.not_mem_nil) | (refine List.forall_mem_cons.mpr ⟨⟨by walk_at "mem", by dsimp only; decide +kernel⟩, ?_⟩; walk_at "blk"))

structure Shp (n : Nat) (V : PV) : Prop where
  can : (toPy V).canLay0 = true
  dep : (toPy V).depth ≤ n
  rng : noRng V = true
  mix : noMix (toPy V) (toPy V) = true
theorem Shp.int {i : Int} {n : Nat} : Shp n (.int i) := ⟨by simp [toPy, PyData.canLay0], by simp [toPy, PyData.depth], rfl, rfl⟩
theorem Shp.str {x : Str} {n : Nat} (h : PyData.strOk x = true) : Shp n (.str x) := ⟨by rw [toPy, PyData.canLay0]; exact h, by simp [toPy, PyData.depth], rfl, rfl⟩
theorem Shp.all {n : Nat} : ∀ {l : List PV}, (∀ V ∈ l, Shp n V) → PyData.canLayAll0 (toPys l) = true ∧ PyData.depthAll (toPys l) ≤ n ∧ noRngs l = true ∧ noMixAll (toPys l) (toPys l) = true
  | [], _ => ⟨rfl, Nat.zero_le _, rfl, rfl⟩
  | V :: l, h => by
    obtain ⟨h1, h2, h3, h4⟩ := Shp.all fun x m => h x (List.mem_cons_of_mem _ m)
    have hV := h V List.mem_cons_self
    refine ⟨?_, ?_, ?_, ?_⟩
    · simp only [toPys, PyData.canLayAll0, hV.can, h1, Bool.and_self]
    · simp only [toPys, PyData.depthAll]; have := hV.dep; omega
    · simp only [noRngs, hV.rng, h3, Bool.and_self]
    · simp only [toPys, noMixAll, hV.mix, h4, Bool.and_self]
theorem Shp.list {n : Nat} {l : List PV} (h : ∀ V ∈ l, Shp n V) : Shp (n + 1) (.list l) := by
  obtain ⟨h1, h2, h3, h4⟩ := Shp.all h
  exact ⟨by simpa [toPy, PyData.canLay0] using h1, by simp only [toPy, PyData.depth]; omega, by simpa [noRng] using h3, by simpa [toPy, noMix] using h4⟩
theorem Shp.tup {n : Nat} {l : List PV} (h : ∀ V ∈ l, Shp n V) : Shp (n + 1) (.tup l) := by
  obtain ⟨h1, h2, h3, h4⟩ := Shp.all h
  exact ⟨by simpa [toPy, PyData.canLay0] using h1, by simp only [toPy, PyData.depth]; omega, by simpa [noRng] using h3, by simpa [toPy, noMix] using h4⟩
theorem Shp.ints {n : Nat} (l : List Int) : Shp (n + 1) (.list (l.map .int)) := Shp.list fun V h => by
  obtain ⟨i, -, rfl⟩ := List.mem_map.mp h
  exact .int
theorem Shp.shaped {V : PV} {n : Nat} (h : Shp n V) (hn : n ≤ 64) : shaped (toPy V) = true := by
  rw [SeqAt.shaped, Bool.and_eq_true, decide_eq_true_eq]; exact ⟨h.can, Nat.le_trans h.dep hn⟩

section
variable {w : World} {mg mb : Str → Option Value} {A : Around} {env : Env} {own own₁ own₂ : List Addr} {ρ : List (Str × PV)} {names : List (Str × NameKind)} {s₀ : Base} {s : Shared}

theorem Ec.ne_self {V : PV} {n : Nat} (hu : Room A 0) (h : Shp n V) (hn : n ≤ 64 := by decide) : Ec w A .NotEq V V own₁ own₂ false := by
  have := Ec.ne_list (w := w) (own₁ := own₁) (own₂ := own₂) hu h.rng h.rng (h.shaped hn) (h.shaped hn) h.mix
  rwa [same_refl] at this
theorem Ec.eq_self {V : PV} {n : Nat} (hu : Room A 0) (h : Shp n V) (hn : n ≤ 64 := by decide) : Ec w A .Eq V V own₁ own₂ true := by
  have := Ec.eq_list (w := w) (own₁ := own₁) (own₂ := own₂) hu h.rng h.rng (h.shaped hn) (h.shaped hn) h.mix
  rwa [same_refl] at this
theorem Ec.ne_nil {l : List PV} {n : Nat} (hu : Room A 0) (h : Shp n (.list l)) (hn : n ≤ 64 := by decide) : Ec w A .NotEq (.list l) (.list []) own₁ own₂ (!l.isEmpty) := by
  have hnil : Shp 1 (.list []) := Shp.list fun V h => by simp at h
  have := Ec.ne_list (w := w) (own₁ := own₁) (own₂ := own₂) hu h.rng hnil.rng (h.shaped hn) (hnil.shaped (by decide)) (by cases l <;> simp [toPy, toPys, noMix, noMixAll])
  have e : Spec.same (toPy (.list l)) (toPy (.list [])) = l.isEmpty := by
    cases l <;> simp [toPy, toPys, Spec.same, Spec.sameAll]
  rwa [e] at this
end

end Mine
end

-- W75
section
open PySem PySem.W PySem.Calls PyProof.Rows PyProof.V PySem.Spec PySem.Builtin.Str PySem.SeqAt
namespace Mine

local macro_rules | `(tactic| walk_at "mem") => `(tactic| first | exact List.mem_cons_self | (refine List.mem_cons_of_mem _ ?_; walk_at "mem"))
local macro_rules | `(tactic| walk_at "kind") => `(tactic| first | exact Or.inl (by decide +kernel) | exact Or.inr (by decide +kernel))
local macro_rules | `(tactic| walk_at "ne") => `(tactic| first | exact (fun _ h => absurd h List.not_mem_nil) | (refine List.forall_mem_cons.mpr ⟨by dsimp only; decide +kernel, ?_⟩; walk_at "ne"))
local macro_rules | `(tactic| walk_at "sub") => `(tactic| first | exact (fun _ h => absurd h List.not_mem_nil) | (refine List.forall_mem_cons.mpr ⟨⟨by walk_at "mem", by dsimp only; decide +kernel⟩, ?_⟩; walk_at "sub"))
local macro_rules | `(tactic| walk_at "subs") => `(tactic| first | exact (fun _ h => absurd h List.not_mem_nil) | (refine List.forall_mem_cons.mpr ⟨by walk_at "mem", ?_⟩; walk_at "subs"))
local macro_rules | `(tactic| walk_at "blk") => `(tactic| first | exact (fun _ h => absurd h List.not_mem_nil) | (refine List.forall_mem_cons.mpr ⟨⟨by walk_at "mem", by dsimp only; decide +kernel⟩, ?_⟩; walk_at "blk"))

noncomputable def ledB (ps ab : List Int) (k j : Nat) : Bool := (ab.any (· == (j : Int))) || !((ab ++ [(k : Int)]).filter fun one => decide ((j : Int) < one) && (ps.getD j 0 == ps.getD one.toNat 0)).isEmpty
noncomputable def ledF (ps ab : List Int) (k : Nat) : Nat → List Int
  | 0 => []
  | j + 1 => ledF ps ab k j ++ (if ledB ps ab k j then [(j : Int)] else [])
theorem ledF_len (ps ab : List Int) (k : Nat) : ∀ j, (ledF ps ab k j).length ≤ j
  | 0 => Nat.le_refl _
  | j + 1 => by
    have := ledF_len ps ab k j
    rw [ledF, List.length_append]
    split <;> simp <;> omega

section
variable {w : World} {mg mb : Str → Option Value} {A : Around} {env : Env} {own own₁ own₂ : List Addr} {ρ : List (Str × PV)} {names : List (Str × NameKind)} {s₀ : Base} {s : Shared}

theorem c_leading {ps ab : List Int} {k : Nat} (hk : k < ps.length) (hl : ps.length ≤ 100) (hal : ab.length ≤ 100) (hab : ∀ a ∈ ab, 0 ≤ a ∧ a < ps.length) :
    CtF w mg mb 75 1 [.list (ps.map .int), .list (ab.map .int), .int k] (.list ((ledF ps ab k k).map .int)) := by
  have hsz : sizeLine = 16777216 := sizeLine_eq
  refine enter (k := 0) (by decide) (by decide +kernel) rfl fun A own s₀ env s hr F => ?_
  let ρ₀ : List (Str × PV) := [(Str.ofString "ports", .list (ps.map .int)), (Str.ofString "above", .list (ab.map .int)), (Str.ofString "k", .int k)]
  refine Ex.openList (ρ' := [(Str.ofString "ports", .list (ps.map .int)), (Str.ofString "above", .list (ab.map .int)), (Str.ofString "k", .int k)]) F (by decide +kernel) (by walk_at "ne") (by walk_at "sub") fun a s₁ F₁ => ?_
  refine Ex.forIn (S := .rng 0 k 1) (its := (List.range k).map fun (i : Nat) => .int i) (osI := fun i => [(Str.ofString "leading", a, (ledF ps ab k i).map .int)]) (ρI := fun _ => [(Str.ofString "ports", .list (ps.map .int)), (Str.ofString "above", .list (ab.map .int)), (Str.ofString "k", .int k)])
    hr.hh F₁ (fun _ => rfl) ?_ (Its.rangeN (by omega)) (by simp [PV.flat]) (by walk_at "kind") (fun _ => by walk_at "ne") (fun _ => by walk_at "ne") ?_ ?_
  · exact Ev.range1 F₁.cx (Ev.name F₁.cx (by walk_at "mem"))
  · intro j V hj ex pn s₂ F₂
    obtain ⟨hjk, rfl⟩ := idx_range hj
    have hnn : ∀ a ∈ ab ++ [(k : Int)], 0 ≤ a ∧ a < ps.length := fun a h => by
      rcases List.mem_append.mp h with h | h
      · exact hab a h
      · rw [List.mem_singleton.mp h]; omega
    refine Ex.cond (c := ledB ps ab k j) (fun s' => Frm w mg mb A s₀ env own ex pn [(Str.ofString "leading", a, (ledF ps ab k (j + 1)).map .int)] [(Str.ofString "ports", .list (ps.map .int)), (Str.ofString "above", .list (ab.map .int)), (Str.ofString "k", .int k)] (scopeAt 75).names s') ?_ (fun hc s' g => ?_) (fun hc s' g => ?_) fun s' F' => Ex.nil ⟨rfl, F'⟩
    · refine Et.or (Et.cmp (Ev.name F₂.cx (by walk_at "mem")) (Ev.name F₂.cx (by walk_at "mem")) Ec.in_ints) fun _ => ?_
      refine (Et.cmp (Ev.comp (inj := .int) (xs := ab ++ [(k : Int)]) (S := .list ((ab ++ [(k : Int)]).map .int)) (fun one => decide ((j : Int) < one) && (ps.getD j 0 == ps.getD one.toNat 0)) .int hr.hh F₂.cx (ρ' := [(Str.ofString "j", .int j), (Str.ofString "ports", .list (ps.map .int))]) ?_ Its.list ?_ (Blk.of (by decide +kernel) (by walk_at "blk")) ?_) (Ev.listD Evs.nil F₂.cx.ow (by simp)) (Ec.ne_nil hr (Shp.ints (n := 0) _))).cast (by rw [List.isEmpty_map])
      · exact (Ev.catL (y := [.int k]) (Ev.name F₂.cx (by walk_at "mem")) (Ev.listD (Evs.cons (Ev.name F₂.cx (by walk_at "mem")) Evs.nil) F₂.cx.ow (by simp; omega)) F₂.cx.ow (by simp; omega)).cast (by simp)
      · simp; omega
      · intro one h1 own' s' env' c'
        have := hnn one h1
        refine ⟨.one (Et.and (Et.cmp (Ev.name c' (by walk_at "mem")) (Ev.name c' (by walk_at "mem")) Ec.lt_int) fun _ => Et.cmp (Ev.itemF (Ev.name c' (by walk_at "mem")) (Ev.name c' (by walk_at "mem")) (by omega) (by omega) (map_at (l := ps) (i := j) PV.int 0 (by omega)) rfl) (Ev.itemF (Ev.name c' (by walk_at "mem")) (Ev.name c' (by walk_at "mem")) (by omega) (by omega) (map_at (l := ps) PV.int 0 (by omega)) rfl) Ec.eq_int), fun _ => Ev.name c' (by walk_at "mem")⟩
    · replace F₂ := F₂.grow g
      refine Ex.append (os₁ := []) (os₂ := []) (V := .int j) F₂ (Ev.name F₂.cx (by walk_at "mem")) (by have := ledF_len ps ab k j; simp; omega) fun s₄ F₄ => Ex.nil ⟨rfl, ?_⟩
      have : List.map PV.int (ledF ps ab k (j + 1)) = List.map PV.int (ledF ps ab k j) ++ [.int j] := by simp [ledF, hc]
      rw [this]
      exact F₄.sub (by walk_at "subs")
    · have : ledF ps ab k (j + 1) = ledF ps ab k j := by simp [ledF, hc]
      rw [this]
      exact Ex.nil ⟨rfl, (F₂.grow g).sub (by walk_at "subs")⟩
  · intro s₂ F₂
    rw [List.length_map, List.length_range] at F₂
    exact Ex.ret (own' := own) (Ev.opened F₂ (x := Str.ofString "leading") (a := a) List.mem_cons_self) fun v s' g r => ⟨v, rfl, F₂.gr.trans g, r⟩

noncomputable def ltS (x y : Str) : Bool := decide (x.cps.toList < y.cps.toList)
noncomputable def aheadF (pg : List Str) : List (List Int) := pg.map fun page => ((List.range pg.length).filter fun j => ltS (pg.getD j Str.empty) page).map fun (j : Nat) => (j : Int)
noncomputable def pvLL (l : List (List Int)) : PV := .list (l.map fun r => .list (r.map .int))

theorem c_ahead {pg : List Str} (hl : pg.length ≤ 100) : CtF w mg mb 76 1 [.list (pg.map .str)] (pvLL (aheadF pg)) := by
  have hsz : sizeLine = 16777216 := sizeLine_eq
  refine enter (k := 0) (by decide) (by decide +kernel) rfl fun A own s₀ env s hr F => ?_
  refine Ex.ret (own' := own) (V := pvLL (aheadF pg)) ?_ fun v s' g r => ⟨v, rfl, F.gr.trans g, r⟩
  refine (Ev.comp (inj := .str) (xs := pg) (S := .list (pg.map .str)) (fun _ => true) (fun page => .list (((List.range pg.length).filter fun j => ltS (pg.getD j Str.empty) page).map fun (j : Nat) => .int j)) hr.hh F.cx (ρ' := [(Str.ofString "pages", .list (pg.map .str))]) ?_ Its.list ?_ (Blk.of (by decide +kernel) (by walk_at "blk")) ?_).cast ?_
  · exact Ev.name F.cx (by walk_at "mem")
  · omega
  · intro page hp own' s' env' c'
    refine ⟨.nil, fun _ => ?_⟩
    refine Ev.comp (α := Nat) (inj := fun (j : Nat) => .int j) (xs := List.range pg.length) (S := .rng 0 pg.length 1) (fun j => ltS (pg.getD j Str.empty) page) (fun j => .int j) hr.hh c' (ρ' := [(Str.ofString "page", .str page), (Str.ofString "pages", .list (pg.map .str))]) ?_ (Its.rangeN (by omega)) ?_ (Blk.of (by decide +kernel) (by walk_at "blk")) ?_
    · exact (Ev.range1 c' (Ev.lenL c' (Ev.name c' (by walk_at "mem")) (by simp; omega))).cast (by simp)
    · simp; omega
    · intro j hj own' s' env' c''
      have hj' : j < pg.length := List.mem_range.mp hj
      exact ⟨.one (Et.cmp (Ev.itemF (Ev.name c'' (by walk_at "mem")) (Ev.name c'' (by walk_at "mem")) (by omega) (by omega) (map_at (l := pg) (i := j) PV.str Str.empty hj') rfl) (Ev.name c'' (by walk_at "mem")) Ec.lt_str), fun _ => Ev.name c'' (by walk_at "mem")⟩
  · rw [List.filter_eq_self.mpr (fun _ _ => rfl)]; simp [pvLL, aheadF, Function.comp_def]
end

end Mine
end

-- Ev14
section
open PySem PySem.W PySem.Calls PyProof.Rows PyProof.V PySem.Spec PySem.Builtin.Str PySem.SeqAt
namespace Mine

local macro_rules | `(tactic| walk_at "mem") => `(tactic| first | exact List.mem_cons_self | (refine List.mem_cons_of_mem _ ?_; walk_at "mem"))
local macro_rules | `(tactic| walk_at "kind") => `(tactic| first | exact Or.inl (by decide +kernel) | exact Or.inr (by decide +kernel))
local macro_rules | `(tactic| walk_at "ne") => `(tactic| first | exact (fun _ h => absurd h List.not_mem_nil) | (refine List.forall_mem_cons.mpr ⟨by dsimp only; decide +kernel, ?_⟩; walk_at "ne"))
local macro_rules | `(tactic| walk_at "sub") => `(tactic| first | exact (fun _ h => absurd h List.not_mem_nil) | (refine List.forall_mem_cons.mpr ⟨⟨by walk_at "mem", by dsimp only; decide +kernel⟩, ?_⟩; walk_at "sub"))
local macro_rules | `(tactic| walk_at "subs") => `(tactic| first | exact (fun _ h => absurd h List.not_mem_nil) | (refine List.forall_mem_cons.mpr ⟨by walk_at "mem", ?_⟩; walk_at "subs"))
local macro_rules | `(tactic| walk_at "blk") => `(tactic| first | exact (fun _ h => absurd h List.not_mem_nil) | (refine List.forall_mem_cons.mpr ⟨⟨by walk_at "mem", by dsimp only; decide +kernel⟩, ?_⟩; walk_at "blk"))

section
variable {w : World} {mg mb : Str → Option Value} {A : Around} {env : Env} {own own₁ own₂ : List Addr} {ρ : List (Str × PV)} {names : List (Str × NameKind)} {s₀ : Base} {s : Shared} {os : Opens} {pn : List (Addr × Obj)} {ex : List Addr}

/-- plain data of a flat value -/
inductive FlatPV : PV → PyData → Prop
  | int {i : Int} : FlatPV (.int i) (.int i)
  | str {x : Str} : FlatPV (.str x) (.str x)
theorem FlatPV.flat {V : PV} {d : PyData} {h : Heap} {v : Value} (f : FlatPV V d) (r : VRep own h v V) : Flat v d := by
  cases f <;> cases r
  · exact Flat.int _ _
  · exact Flat.str _ _
theorem FlatPV.back {V : PV} {d : PyData} {h : Heap} {v : Value} (f : FlatPV V d) (r : Flat v d) : VRep own h v V := by
  cases f
  · obtain ⟨t, rfl⟩ := r.int_inv; exact .int
  · obtain ⟨t, rfl⟩ := r.str_inv; exact .str
theorem FlatPV.isFlat {V : PV} {d : PyData} (f : FlatPV V d) : V.flat = true := by cases f <;> rfl

theorem dictObj_empty {K : Type} [DecidableEq K] {knd : KeyKind PR w K} : Obj.IsDictOf knd { cls := .type "dict", data := .dict #[] } [] := by
  obtain ⟨o, ho, hd⟩ := Heap.dictOf_iff.mp (Heap.DictOf.new (knd := knd) { objs := #[] })
  rw [Heap.get?_push_size _ rfl] at ho
  exact (Option.some.inj ho) ▸ hd
/-- what a dict's display is made of -/
inductive EPs {K : Type} [DecidableEq K] (w : World) (A : Around) (env : Env) (s : Shared) (knd : KeyKind PR w K) (enc : K → PyData) (pos : Pos) : List (Expr × Expr) → List K → List (PyData × PyData) → Prop
  | nil : EPs w A env s knd enc pos [] [] []
  | cons {ke ve : Expr} {es : List (Expr × Expr)} {k : K} {ks : List K} {D : List (PyData × PyData)} {V U : PV} {d : PyData} : Ev w A env [] s ke U → (∀ h v, VRep [] h v U → knd.is k v = true) → Ev w A env [] s ve V → FlatPV V d → EPs w A env s knd enc pos es ks D →
      EPs w A env s knd enc pos ((ke, ve) :: es) (k :: ks) ((enc k, d) :: D)
theorem EPs.then {K : Type} [DecidableEq K] {knd : KeyKind PR w K} {enc : K → PyData} {pos : Pos} {E : Value → Shared → Prop} : ∀ {es : List (Expr × Expr)} {ks : List K} {D : List (PyData × PyData)}, EPs w A env s knd enc pos es ks D → ∀ {s' : Shared} {Q : List (Value × Value) → Shared → Prop}, Grow s s' →
    (∀ vs kvs s'', Grow s' s'' → Carries knd vs kvs → FlatPairs enc kvs D → kvs.map (·.1) = ks → Q vs s'') →
    wpAny (model PR w) A (evalPairs (es.map fun p => (eval p.1 env, do let x ← eval p.2 env; standAt pos; pure x))) Q E s'
  | _, _, _, .nil, s', Q, g, h => evalPairs_nil (h [] [] s' (Grow.refl _) trivial .nil rfl)
  | _, _, _, .cons hk hi hv hf hr, s', Q, g, h => by
    refine evalPairs_cons (hk.then g fun kv s₁ g₁ r₁ => wpAny_bind (hv.then (g.trans g₁) fun vv s₂ g₂ r₂ => wpAny_bind (wpAny_standAt (wpAny_pure ?_))))
    refine EPs.then hr ((g.trans g₁).trans g₂) fun vs kvs s₃ g₃ c f e => ?_
    exact h _ (_ :: kvs) s₃ ((g₁.trans g₂).trans g₃) ⟨hi _ _ r₁, rfl, c⟩ (.cons (hf.flat r₂) f) (by rw [List.map_cons, e])

theorem eps_shape {dp : Pos} : ∀ es : List (Expr × Expr), (evalEachOpt (es.map fun p => some p.1) env).zip ((evalEach (es.map (·.2)) env).map fun v => do let x ← v; standAt dp; pure x) = (es.map fun p => (eval p.1 env, do let x ← eval p.2 env; standAt dp; pure x)).map fun p => (some p.1, p.2)
  | [] => rfl
  | p :: es => by
    simp only [List.map_cons, evalEachOpt, evalEach, List.zip_cons_cons, eps_shape es, evalOpt]
    try rfl
/-- a name that from now on holds a dict -/
theorem Ex.assignDict {K : Type} [DecidableEq K] {knd : KeyKind PR w K} {enc : K → PyData} {x : Str} {px pos dp : Pos} {es : List (Expr × Expr)} {ks : List K} {D : List (PyData × PyData)} {keys : List (Option Expr)} {values : List Expr} {ρ' : List (Str × PV)} {rest : List Stmt} {P : Flow → Shared → Prop}
    (F : Frm w mg mb A s₀ env own ex pn os ρ names s) (he : EPs w A env s knd enc dp es ks D) (hn : ks.Nodup) (hne : es ≠ []) (hlen : es.length ≤ 15)
    (hke : keys = es.map fun p => some p.1) (hve : values = es.map (·.2))
    (hx : names.lookup x = some .local ∨ names.lookup x = some .cell) (ho : ∀ p ∈ os, p.1 ≠ x) (hρ : ∀ p ∈ ρ', p ∈ ρ ∧ p.1 ≠ x)
    (h : ∀ a o s', (∀ h : Heap, h.get? a = some o → TabAt knd enc h a D) → Frm w mg mb A { s₀ with dic := (a, o) :: s₀.dic } env own ex pn os ((x, .raw (.ref a)) :: ρ') names s' → Ex w A env rest P s')
    (hs : swapsWith (.Dict keys values dp) (some (.Name x px)) pos.line env = pure false := by rfl) :
    Ex w A env (.Assign [.Name x px] (.Dict keys values dp) pos :: rest) P s := fun E => by
  have hshape : (evalEachOpt keys env).zip ((evalEach values env).map fun v => do let x ← v; standAt dp; pure x) = (es.map fun p => (eval p.1 env, do let x ← eval p.2 env; standAt dp; pure x)).map fun p => (some p.1, p.2) := by
    subst hke hve
    exact eps_shape es
  refine wpAny_execs_cons (wpAny_Assign_Name (wpAny_Dict_pairs (knd := knd) hshape (by simpa using hne) (by simpa using hlen) ?_) hs)
  have hnew : s.heap.get? s.heap.objs.size = none := none_of_ge (Nat.le_refl _)
  have g₀ : Grow s { s with heap := s.heap.push { cls := .type "dict", data := .dict #[] } } := Grow.push
  have hat : (s.heap.push { cls := .type "dict", data := .dict #[] }).get? s.heap.objs.size = some { cls := .type "dict", data := .dict #[] } := Heap.get?_push_size _ rfl
  have hbig : (s.heap.objs.size == sysModules) = false := by
    have : mainGlobals < s.heap.objs.size := F.cx.G.g.lt
    have e : mainGlobals = 3 := rfl
    have e' : sysModules = 1 := rfl
    rw [e] at this
    rw [e']
    exact beq_false_of_ne (by
      intro q
      rw [q] at this
      exact absurd this (by decide))
  generalize s.heap.objs.size = a at *
  refine EPs.then he g₀ fun vs kvs s₁ g₁ hc hf hk => ?_
  have hat₁ := g₁.keep _ _ hat
  have F₁ := F.grow (g₀.trans g₁)
  refine ⟨kvs, hc, Heap.dictOf_iff.mpr ⟨_, hat₁, dictObj_empty⟩, fun h' hd hsb => ?_⟩
  rw [merged_nil_of_nodup kvs (by rw [hk]; exact hn)] at hd
  obtain ⟨o, ho', hdo⟩ := Heap.dictOf_iff.mp hd
  have hne' : ∀ {b o'}, s.heap.get? b = some o' → b ≠ a := fun {b o'} e q => by rw [q, hnew] at e; cases e
  have h₀ : s₀.heap.get? a = none := by
    cases e : s₀.heap.get? a with
    | none => rfl
    | some o => have := F.gr.keep _ _ e; rw [hnew] at this; cases this
  have hL : env.locals ≠ a := by
    obtain ⟨m, o', es', ep', g, -⟩ := F.ns
    exact hne' g
  have hcl : ∀ n c, env.cells.lookup n = some c → c ≠ a := fun n c e => by
    obtain ⟨⟨v, o', g, -⟩, -⟩ := F.cells n c e
    exact hne' g
  have F₂ : Frm w mg mb A s₀ env own ex pn os ρ names { s₁ with heap := h' } := F₁.drop ⟨_, hat₁, by rintro (⟨xs, k, e⟩ | ⟨vs, e⟩) <;> cases e⟩ hL hcl h₀ hsb (fun p hp q => by
    obtain ⟨⟨o', es', ep', g, -⟩, -⟩ := F.hd p hp
    exact hne' g q) (fun p hp q => hne' (F.dc p hp).1 q)
  have F₃ : Frm w mg mb A { s₀ with dic := (a, o) :: s₀.dic } env own ex pn os ρ names { s₁ with heap := h', toks := s₁.toks + vs.length } := by
    have F₃ := F₂.grow (Grow.tok (s := { s₁ with heap := h' }) (t := s₁.toks + vs.length) (Nat.le_add_right _ _))
    exact { F₃ with dc := List.forall_mem_cons.mpr ⟨⟨ho', let ⟨es', ep', _, e, _⟩ := hdo; ⟨es', ep', e⟩, Ne.symm hL⟩, F₃.dc⟩ }
  exact F₃.store hx ho hρ .raw fun s₄ F₄ => h a o s₄ (fun h hh => TabAt.ofObj hbig hh hdo hf) F₄ E

theorem Ev.dicGet {K : Type} [DecidableEq K] {knd : KeyKind PR w K} {enc : K → PyData} {D : List (PyData × PyData)} {a : Addr} {o e₁ e₂ : Expr} {apos pos : Pos} {U V R : PV} {k : K} {dd : PyData} (henc : ∀ a b, Spec.same (enc a) (enc b) = decide (a = b)) (ho : Ev w A env own s o (.raw (.ref a))) (hT : ∀ s', Grow s s' → TabAt knd enc s'.heap a D)
    (h1 : Ev w A env own s e₁ U) (hi : ∀ h v, VRep own h v U → knd.is k v = true) (h2 : Ev w A env own s e₂ V) (hf : FlatPV V dd) (hR : FlatPV R ((Spec.lookup (enc k) D).getD dd))
    (he : starEach [e₁, e₂] env = (false, eval e₁ env) :: starEach [e₂] env := by rfl) (he₂ : starEach [e₂] env = (false, eval e₂ env) :: starEach [] env := by rfl) (hpl : ((backTo pos (starEach [e₂] env)).any fun x => x.fst) = false := by rfl)
    (hbase : attributeBase o "get" env (eval o env) = eval o env := by rfl) (hline : (apos.endLine == pos.line) = true := by rfl)
    (hfew : ((backTo pos (starEach [e₁, e₂] env)).all (fun x => !x.1) && (backToKw pos (keywordEach [] env)).all (fun x => x.1.isSome)
      && decide ([e₁, e₂].length + ([] : List Keyword).length + (if ([] : List Keyword).isEmpty then 0 else 1) < 30)) = true := by rfl) :
    Ev w A env own s (.Call (.Attribute o "get" apos) [e₁, e₂] [] pos) R := fun s' g E => by
  refine wpAny_Call_method_lateS hbase hfew hline (ho.then g fun v s₁ g₁ r => ?_)
  cases r
  obtain ⟨lo, kvs, hd, hfp⟩ := hT s₁ (g.trans g₁)
  refine ⟨"dict", "dict.get", F.plainAttrs_dict, F.slot_dict_get, F.type_dict_get, hd.typeIs, hd.mapOf.noDict, ?_⟩
  refine callWith_method1 (wpAny_mono (Evs.cons h1 (Evs.cons h2 Evs.nil he₂) he pos s₁ (g.trans g₁) E) (fun vs s₂ h₂ => ?_) (fun _ _ e => e)) he hpl
  obtain ⟨g₂, rr⟩ := h₂
  cases rr with
  | cons r1 rr =>
    cases rr with
    | cons r2 rr =>
      cases rr
      refine call_get2_tab henc (hi _ _ r1) (hT s₂ ((g.trans g₁).trans g₂)) (hf.flat r2) fun v hv => ⟨(g₁.trans g₂).trans (Grow.tok (Nat.le_succ _)), hR.back hv⟩

noncomputable def exName : Str := Str.ofString "EXACT_TOKEN_TYPES"
theorem Et.in_tab {l : Expr} {p pos : Pos} {x : Str} (c : Cx w mg mb A env own ρ names s) (hl : Ev w A env own s l (.str x)) (hk : names.lookup exName = some .globalImplicit := by decide +kernel) (hm : behindInMarks .In (.Name exName p) = false := by with_unfolding_all rfl) :
    Et w A env s (.Compare l [.In] [.Name exName p] pos) (Spec.lookup (.str x) exD).isSome := fun s' g E => by
  refine wpAny_isTrue_Compare1 (hl.then g fun v s₁ g₁ r₁ => ?_) hm
  have c₁ := (c.grow g).grow g₁
  obtain ⟨a, e, T⟩ := c₁.G.tab
  refine c₁.glob hk e (by decide +kernel) ?_
  cases r₁
  exact in_strTab T (wpAny_truthy_bool ⟨g₁.trans (Grow.tok (Nat.le_succ _)), rfl⟩)
theorem Ev.tabGet {e₁ e₂ : Expr} {apos pos p : Pos} {x : Str} {V R : PV} {dd : PyData} (c : Cx w mg mb A env own ρ names s) (h1 : Ev w A env own s e₁ (.str x)) (h2 : Ev w A env own s e₂ V) (hf : FlatPV V dd) (hR : FlatPV R ((Spec.lookup (.str x) exD).getD dd)) (hk : names.lookup exName = some .globalImplicit := by decide +kernel)
    (he : starEach [e₁, e₂] env = (false, eval e₁ env) :: starEach [e₂] env := by rfl) (he₂ : starEach [e₂] env = (false, eval e₂ env) :: starEach [] env := by rfl) (hpl : ((backTo pos (starEach [e₂] env)).any fun x => x.fst) = false := by rfl)
    (hline : (apos.endLine == pos.line) = true := by rfl)
    (hfew : ((backTo pos (starEach [e₁, e₂] env)).all (fun x => !x.1) && (backToKw pos (keywordEach [] env)).all (fun x => x.1.isSome)
      && decide ([e₁, e₂].length + ([] : List Keyword).length + (if ([] : List Keyword).isEmpty then 0 else 1) < 30)) = true := by rfl) :
    Ev w A env own s (.Call (.Attribute (.Name exName p) "get" apos) [e₁, e₂] [] pos) R := by
  obtain ⟨a, e, T⟩ := c.G.tab
  refine Ev.dicGet (knd := strKind PR w) (enc := PyData.str) (a := a) (k := x) same_str (fun s' g E => ?_) (fun s' g => T.keep g.keep) h1 (fun h v r => by cases r; exact strKind_is PR w _ _) h2 hf hR he he₂ hpl rfl hline hfew
  exact (c.grow g).glob hk e (by decide +kernel) ⟨Grow.refl _, .raw⟩
end

end Mine
end

-- W77
section
open PySem PySem.W PySem.Calls PyProof.Rows PyProof.V PySem.Spec PySem.Builtin.Str PySem.SeqAt
namespace Mine

local macro_rules | `(tactic| walk_at "mem") => `(tactic| first | exact List.mem_cons_self | (refine List.mem_cons_of_mem _ ?_; walk_at "mem"))
local macro_rules | `(tactic| walk_at "kind") => `(tactic| first | exact Or.inl (by decide +kernel) | exact Or.inr (by decide +kernel))
local macro_rules | `(tactic| walk_at "ne") => `(tactic| first | exact (fun _ h => absurd h List.not_mem_nil) | (refine List.forall_mem_cons.mpr ⟨by dsimp only; decide +kernel, ?_⟩; walk_at "ne"))
local macro_rules | `(tactic| walk_at "sub") => `(tactic| first | exact (fun _ h => absurd h List.not_mem_nil) | (refine List.forall_mem_cons.mpr ⟨⟨by walk_at "mem", by dsimp only; decide +kernel⟩, ?_⟩; walk_at "sub"))
local macro_rules | `(tactic| walk_at "subs") => `(tactic| first | exact (fun _ h => absurd h List.not_mem_nil) | (refine List.forall_mem_cons.mpr ⟨by walk_at "mem", ?_⟩; walk_at "subs"))
local macro_rules | `(tactic| walk_at "blk") => `(tactic| first | exact (fun _ h => absurd h List.not_mem_nil) | (refine List.forall_mem_cons.mpr ⟨⟨by walk_at "mem", by dsimp only; decide +kernel⟩, ?_⟩; walk_at "blk"))

noncomputable def eqL : List Nat → List Nat → Bool
  | [], [] => true
  | a :: r, b :: s => Nat.beq a b && eqL r s
  | _, _ => false
theorem eqL_iff : ∀ {a b : List Nat}, eqL a b = true ↔ a = b
  | [], [] => by simp [eqL]
  | [], _ :: _ => by simp [eqL]
  | _ :: _, [] => by simp [eqL]
  | a :: r, b :: s => by
    rw [eqL, Bool.and_eq_true, eqL_iff, List.cons.injEq]
    exact ⟨fun h => ⟨Nat.eq_of_beq_eq_true h.1, h.2⟩, fun h => ⟨h.1 ▸ Nat.beq_refl a, h.2⟩⟩
theorem eqL_str (a b : Str) : (a == b) = eqL a.cps.toList b.cps.toList := by
  rw [Bool.eq_iff_iff, beq_iff_eq, eqL_iff]
  exact ⟨fun h => h ▸ rfl, toL_inj⟩
noncomputable def lk (y : List Nat) : List (Str × Int) → Option Int
  | [] => none
  | p :: r => bif eqL p.1.cps.toList y then some p.2 else lk y r
theorem lookup_lk (y : Str) : ∀ l : List (Str × Int), Spec.lookup (.str y) (l.map fun p => (.str p.1, .int p.2)) = (lk y.cps.toList l).map PyData.int
  | [] => rfl
  | p :: r => by
    rw [List.map_cons, Spec.lookup, Spec.same, eqL_str, lk]
    cases eqL p.1.cps.toList y.cps.toList
    · simp only [Bool.false_eq_true, if_false, cond_false]; exact lookup_lk y r
    · simp only [if_true, cond_true, Option.map_some]
noncomputable def lki (y : Int) : List (Int × Int) → Option Int
  | [] => none
  | p :: r => if p.1 == y then some p.2 else lki y r
theorem lookup_lki (y : Int) : ∀ l : List (Int × Int), Spec.lookup (.int y) (l.map fun p => (.int p.1, .int p.2)) = (lki y l).map PyData.int
  | [] => rfl
  | p :: r => by
    rw [List.map_cons, Spec.lookup, Spec.same, lki]
    split
    · rfl
    · exact lookup_lki y r

noncomputable def cutk (x : Str) (k : Nat) (n : Int) : Str := Txt.slice x (some k) (some (k + n))
noncomputable def inT (x : Str) (k : Nat) (n : Int) : Bool := (lk (cutk x k n).cps.toList exTab).isSome
noncomputable def szF (x : Str) (k : Nat) : Nat := if inT x k 3 then 3 else if inT x k 2 then 2 else 1
noncomputable def syF (x : Str) (k : Nat) : Int := (lk (cutk x k (szF x k)).cps.toList exTab).getD (256 + ((Txt.item x k).cps.getD 0 0 : Nat))
noncomputable def moreL : List (Int × Int) := [(21, 1), (30, 1), (34, 2), (45, 2)]
noncomputable def cnt : Str → Nat → Nat → Int → Int → Int × Int
  | _, 0, _, q, g => (q, g)
  | x, f + 1, k, q, g => if k < x.length then
      (if 256 ≤ syF x k then cnt x f (k + szF x k) (q + 1) g else cnt x f (k + szF x k) q (g + (lki (syF x k) moreL).getD 0)) else (q, g)
noncomputable def cntF (x : Str) : Int × Int := cnt x x.length 0 0 0

section
variable {w : World} {mg mb : Str → Option Value} {A : Around} {env : Env} {own own₁ own₂ : List Addr} {ρ : List (Str × PV)} {names : List (Str × NameKind)} {s₀ : Base} {s : Shared}

theorem szF_pos (x : Str) (k : Nat) : 1 ≤ szF x k ∧ szF x k ≤ 3 := by
  unfold szF; split
  · omega
  · split <;> omega

set_option maxHeartbeats 4000000 in
theorem c_counts {x : Str} (hx : x.length ≤ 100) : CtF w mg mb 77 2 [.str x] (.tup [.int (cntF x).1, .int (cntF x).2]) := by
  have hsz : sizeLine = 16777216 := sizeLine_eq
  have fit : ∀ i : Int, -2000 < i → i < 2000 → fitsSsize i = true := fun i a b => fitsSsize_of (N := 2000) a b (by decide)
  refine enter (k := 1) (by decide) (by decide +kernel) rfl fun A own s₀ env s hr F => ?_
  refine Ex.assignDict (knd := intKind PR w) (enc := PyData.int) (ρ' := [(Str.ofString "text", .str x)]) (ks := [21, 30, 34, 45]) (D := moreL.map fun p => (.int p.1, .int p.2)) F
    (.cons (Ev.toOwn (Ev.gint F.cx (i := 21) (by decide +kernel))) (fun h v r => by cases r; exact intKind_is PR w _ _) Ev.cint .int
      (.cons (Ev.toOwn (Ev.gint F.cx (i := 30) (by decide +kernel))) (fun h v r => by cases r; exact intKind_is PR w _ _) Ev.cint .int
        (.cons (Ev.toOwn (Ev.gint F.cx (i := 34) (by decide +kernel))) (fun h v r => by cases r; exact intKind_is PR w _ _) Ev.cint .int
          (.cons (Ev.toOwn (Ev.gint F.cx (i := 45) (by decide +kernel))) (fun h v r => by cases r; exact intKind_is PR w _ _) Ev.cint .int .nil))))
    (by decide) (by simp) (by simp) rfl rfl (by walk_at "kind") (by walk_at "ne") (by walk_at "sub") fun ad o s hT F => ?_
  refine Ex.assign (V := .int 0) (ρ' := [(Str.ofString "more", .raw (.ref ad)), (Str.ofString "text", .str x)]) F Ev.cint (by walk_at "kind") (by walk_at "ne") (by walk_at "sub") fun s F => ?_
  refine Ex.assign (V := .int 0) (ρ' := [(Str.ofString "quotes", .int 0), (Str.ofString "more", .raw (.ref ad)), (Str.ofString "text", .str x)]) F Ev.cint (by walk_at "kind") (by walk_at "ne") (by walk_at "sub") fun s F => ?_
  refine Ex.assign (V := .int 0) (ρ' := [(Str.ofString "greater", .int 0), (Str.ofString "quotes", .int 0), (Str.ofString "more", .raw (.ref ad)), (Str.ofString "text", .str x)]) F Ev.cint (by walk_at "kind") (by walk_at "ne") (by walk_at "sub") fun s F => ?_
  refine Ex.whileB (I := fun f s' => ∃ (k : Nat) (q g : Int), x.length ≤ k + f ∧ k ≤ x.length + 3 ∧ cnt x f k q g = cntF x ∧ Frm w mg mb A { s₀ with dic := (ad, o) :: s₀.dic } env own [] [] [] [(Str.ofString "k", .int k), (Str.ofString "greater", .int g), (Str.ofString "quotes", .int q), (Str.ofString "more", .raw (.ref ad)), (Str.ofString "text", .str x)] (scopeAt 77).names s')
    (D := fun s' => Frm w mg mb A { s₀ with dic := (ad, o) :: s₀.dic } env own [] [] [] [(Str.ofString "greater", .int (cntF x).2), (Str.ofString "quotes", .int (cntF x).1)] (scopeAt 77).names s') x.length ⟨0, 0, 0, by omega, by omega, rfl, F⟩ ?_ fun s F => ?_
  · rintro f s ⟨k, q, g, hf, hk3, he, F⟩
    refine ⟨decide (k < x.length), (Et.cmp (Ev.name F.cx (by walk_at "mem")) (Ev.lenS F.cx (Ev.name F.cx (by walk_at "mem")) (by omega)) Ec.lt_int).cast (by simp), fun s' g' => ?_⟩
    replace F := F.grow g'
    clear g'
    refine ⟨fun hb => ?_, fun hb => ?_⟩
    · have hkl : k < x.length := by simpa using hb
      obtain ⟨f, rfl⟩ : ∃ f', f = f' + 1 := ⟨f - 1, by omega⟩
      rw [cnt, if_pos hkl] at he
      have hsp := szF_pos x k
      refine Ex.assign (V := .int (szF x k)) (ρ' := [(Str.ofString "k", .int k), (Str.ofString "greater", .int g), (Str.ofString "quotes", .int q), (Str.ofString "more", .raw (.ref ad)), (Str.ofString "text", .str x)]) F
        (Ev.call_bi F.cx (Evs.cons (V := .list ((1 :: [2, 3].filter fun n => inT x k n).map .int)) ?_ Evs.nil) (Ct.max hr.hh (szF x k) ?_ ?_) (by decide)) (by walk_at "kind") (by walk_at "ne") (by walk_at "sub") fun s F => ?_
      · refine (Ev.catL (x := [.int 1]) (Ev.listD (Evs.cons Ev.cint Evs.nil) F.cx.ow (by simp; omega)) (Ev.comp (inj := .int) (xs := [2, 3]) (S := .tup [.int 2, .int 3]) (fun n => inT x k n) .int hr.hh F.cx (ρ' := [(Str.ofString "k", .int k), (Str.ofString "text", .str x)]) ?_ Its.tup ?_ (Blk.of (by decide +kernel) (by walk_at "blk")) ?_) F.cx.ow ?_).cast (by simp)
        · exact Ev.tupD (Evs.cons Ev.cint (Evs.cons Ev.cint Evs.nil)) F.cx.ow (by simp; omega)
        · simp; omega
        · intro n hn own' s' env' c'
          refine ⟨.one ((Et.in_tab c' (Ev.sliceS (Ev.name c' (by walk_at "mem")) (.some (Ev.name c' (by walk_at "mem"))) (.some (Ev.add (Ev.name c' (by walk_at "mem")) (Ev.name c' (by walk_at "mem")))) (by omega))).cast ?_), fun _ => Ev.name c' (by walk_at "mem")⟩
          rw [exD, lookup_lk, Option.isSome_map]; rfl
        · have := List.length_filter_le (fun n => inT x k n) [2, 3]
          simp at this ⊢; omega
      · unfold szF
        cases h3 : inT x k 3 <;> cases h2 : inT x k 2 <;> simp [List.filter, h2, h3]
      · unfold szF
        cases h3 : inT x k 3 <;> cases h2 : inT x k 2 <;> simp [List.filter, h2, h3]
      refine Ex.assign (V := .int (syF x k)) (ρ' := [(Str.ofString "size", .int (szF x k)), (Str.ofString "k", .int k), (Str.ofString "greater", .int g), (Str.ofString "quotes", .int q), (Str.ofString "more", .raw (.ref ad)), (Str.ofString "text", .str x)]) F
        (Ev.tabGet (x := cutk x k (szF x k)) (V := .int (256 + ((Txt.item x k).cps.getD 0 0 : Nat))) F.cx (Ev.sliceS (Ev.name F.cx (by walk_at "mem")) (.some (Ev.name F.cx (by walk_at "mem"))) (.some (Ev.add (Ev.name F.cx (by walk_at "mem")) (Ev.name F.cx (by walk_at "mem")))) (by omega))
          (Ev.add (Ev.gint F.cx (i := 256) (by decide +kernel)) (Ev.call_bi F.cx (Evs.cons (Ev.char (Ev.name F.cx (by walk_at "mem")) (Ev.name F.cx (by walk_at "mem")) (by omega) (by omega) (fit _ (by omega) (by omega))) Evs.nil) (Ct.ord (item_len _ _)) (by decide))) .int ?_) (by walk_at "kind") (by walk_at "ne") (by walk_at "sub") fun s F => ?_
      · rw [exD, lookup_lk]
        unfold syF
        cases lk (cutk x k (szF x k)).cps.toList exTab <;> exact .int
      have fin : ∀ (q' g' : Int) s, cnt x f (k + szF x k) q' g' = cntF x → Frm w mg mb A { s₀ with dic := (ad, o) :: s₀.dic } env own [] [] [] [(Str.ofString "greater", .int g'), (Str.ofString "quotes", .int q'), (Str.ofString "size", .int (szF x k)), (Str.ofString "k", .int k), (Str.ofString "more", .raw (.ref ad)), (Str.ofString "text", .str x)] (scopeAt 77).names s → ∀ {p1 p2 p3 p4 p5 : Pos},
          Ex w A env [Stmt.Assign [.Name (Str.ofString "k") p1] (.BinOp (.Name (Str.ofString "k") p2) .Add (.Name (Str.ofString "size") p3) p4) p5] (fun fl s3 => (fl = .next ∧ ∃ m, m < f + 1 ∧ ∃ (k : Nat) (q g : Int), x.length ≤ k + m ∧ k ≤ x.length + 3 ∧ cnt x m k q g = cntF x ∧ Frm w mg mb A { s₀ with dic := (ad, o) :: s₀.dic } env own [] [] [] [(Str.ofString "k", .int k), (Str.ofString "greater", .int g), (Str.ofString "quotes", .int q), (Str.ofString "more", .raw (.ref ad)), (Str.ofString "text", .str x)] (scopeAt 77).names s3) ∨ (fl = .brk ∧ Frm w mg mb A { s₀ with dic := (ad, o) :: s₀.dic } env own [] [] [] [(Str.ofString "greater", .int (cntF x).2), (Str.ofString "quotes", .int (cntF x).1)] (scopeAt 77).names s3)) s := fun q' g' s hc F => by
        intros
        exact Ex.assign (V := .int ((k + szF x k : Nat) : Int)) (ρ' := [(Str.ofString "greater", .int g'), (Str.ofString "quotes", .int q'), (Str.ofString "more", .raw (.ref ad)), (Str.ofString "text", .str x)]) F ((Ev.add (Ev.name F.cx (by walk_at "mem")) (Ev.name F.cx (by walk_at "mem"))).cast (by simp)) (by walk_at "kind") (by walk_at "ne") (by walk_at "sub") (fun s F => Ex.nil (.inl ⟨rfl, f, by omega, _, q', g', by omega, by omega, hc, F⟩)) rfl
      refine Ex.ifs (c := decide (256 ≤ syF x k)) (Et.of_bool (Ev.call_def F.cx (Evs.cons (Ev.name F.cx (by walk_at "mem")) Evs.nil) c_isnon hr rfl (by decide))) (fun hc s' g' => ?_) (fun hc s' g' => ?_)
      · replace F := F.grow g'
        rw [if_pos (by simpa using hc)] at he
        refine Ex.assign (V := .int (q + 1)) (ρ' := [(Str.ofString "symbol", .int (syF x k)), (Str.ofString "size", .int (szF x k)), (Str.ofString "k", .int k), (Str.ofString "greater", .int g), (Str.ofString "more", .raw (.ref ad)), (Str.ofString "text", .str x)]) F (Ev.add (Ev.name F.cx (by walk_at "mem")) Ev.cint) (by walk_at "kind") (by walk_at "ne") (by walk_at "sub") fun s F => Ex.nil ?_
        exact fin (q + 1) g _ he (F.sub (by walk_at "subs"))
      · replace F := F.grow g'
        rw [if_neg (by simpa using hc)] at he
        refine Ex.assign (V := .int (g + (lki (syF x k) moreL).getD 0)) (ρ' := [(Str.ofString "symbol", .int (syF x k)), (Str.ofString "size", .int (szF x k)), (Str.ofString "k", .int k), (Str.ofString "quotes", .int q), (Str.ofString "more", .raw (.ref ad)), (Str.ofString "text", .str x)]) F
          (Ev.add (Ev.name F.cx (by walk_at "mem")) (Ev.dicGet (knd := intKind PR w) (enc := PyData.int) (D := moreL.map fun p => (.int p.1, .int p.2)) (a := ad) (k := syF x k) (V := .int 0) same_int (Ev.name F.cx (by walk_at "mem")) (fun s' g => hT _ (g.keep _ _ (F.dc _ List.mem_cons_self).1)) (Ev.name F.cx (by walk_at "mem")) (fun h v r => by cases r; exact intKind_is PR w _ _) Ev.cint .int ?_)) (by walk_at "kind") (by walk_at "ne") (by walk_at "sub") fun s F => Ex.nil ?_
        · rw [lookup_lki]
          cases lki (syF x k) moreL <;> exact .int
        · exact fin q _ _ he (F.sub (by walk_at "subs"))
    · have hkl : ¬ k < x.length := by simpa using hb
      have : cnt x f k q g = (q, g) := by cases f <;> simp [cnt, hkl]
      rw [this] at he
      rw [← he]
      exact F.sub (by walk_at "subs")
  · exact Ex.ret (own' := own) (Ev.tupD (Evs.cons (Ev.name F.cx (by walk_at "mem")) (Evs.cons (Ev.name F.cx (by walk_at "mem")) Evs.nil)) F.cx.ow (by simp; omega)) fun v s' g r => ⟨v, rfl, F.gr.trans g, r⟩
end

end Mine
end

-- W78
section
open PySem PySem.W PySem.Calls PyProof.Rows PyProof.V PySem.Spec PySem.Builtin.Str PySem.SeqAt
namespace Mine

local macro_rules | `(tactic| walk_at "mem") => `(tactic| first | exact List.mem_cons_self | (refine List.mem_cons_of_mem _ ?_; walk_at "mem"))
local macro_rules | `(tactic| walk_at "kind") => `(tactic| first | exact Or.inl (by decide +kernel) | exact Or.inr (by decide +kernel))
local macro_rules | `(tactic| walk_at "ne") => `(tactic| first | exact (fun _ h => absurd h List.not_mem_nil) | (refine List.forall_mem_cons.mpr ⟨by dsimp only; decide +kernel, ?_⟩; walk_at "ne"))
local macro_rules | `(tactic| walk_at "sub") => `(tactic| first | exact (fun _ h => absurd h List.not_mem_nil) | (refine List.forall_mem_cons.mpr ⟨⟨by walk_at "mem", by dsimp only; decide +kernel⟩, ?_⟩; walk_at "sub"))
local macro_rules | `(tactic| walk_at "subs") => `(tactic| first | exact (fun _ h => absurd h List.not_mem_nil) | (refine List.forall_mem_cons.mpr ⟨by walk_at "mem", ?_⟩; walk_at "subs"))
local macro_rules | `(tactic| walk_at "blk") => `(tactic| first | exact (fun _ h => absurd h List.not_mem_nil) | (refine List.forall_mem_cons.mpr ⟨⟨by walk_at "mem", by dsimp only; decide +kernel⟩, ?_⟩; walk_at "blk"))

noncomputable def lks (y : List Nat) : List (Str × Str) → Option Str
  | [] => none
  | p :: r => bif eqL p.1.cps.toList y then some p.2 else lks y r
theorem lookup_lks (y : Str) : ∀ l : List (Str × Str), Spec.lookup (.str y) (l.map fun p => (.str p.1, .str p.2)) = (lks y.cps.toList l).map PyData.str
  | [] => rfl
  | p :: r => by
    rw [List.map_cons, Spec.lookup, Spec.same, eqL_str, lks]
    cases eqL p.1.cps.toList y.cps.toList
    · simp only [Bool.false_eq_true, if_false, cond_false]; exact lookup_lks y r
    · simp only [if_true, cond_true, Option.map_some]
noncomputable def signL : List (Str × Str) := [(Str.ofString "lt", Str.ofString "<"), (Str.ofString "gt", Str.ofString ">"), (Str.ofString "quot", Str.ofString "\"")]
noncomputable def amp : Str := ⟨#[38]⟩
noncomputable def semi : Str := ⟨#[59]⟩
noncomputable def sgnF (p : Str) : Str := (lks (Txt.slice p none (some (Txt.find p semi))).cps.toList signL).getD amp
noncomputable def resF (p : Str) : Str := Txt.slice p (some (Txt.find p semi + 1)) none
noncomputable def undN (ts : List Str) : Nat → Str × Str
  | 0 => (ts.getD 0 Str.empty, ts.getD 0 Str.empty)
  | i + 1 => ((undN ts i).1 ++ sgnF (ts.getD (i + 1) Str.empty) ++ resF (ts.getD (i + 1) Str.empty), (undN ts i).2 ++ resF (ts.getD (i + 1) Str.empty))
noncomputable def undF (pg : Str) : Str × Str := undN (Txt.split pg amp) ((Txt.split pg amp).length - 1)

theorem sgn_len (p : Str) : (sgnF p).length ≤ 1 := by
  unfold sgnF
  generalize (Txt.slice p none (some (Txt.find p semi))).cps.toList = y
  unfold signL
  simp only [lks]
  cases eqL (Str.ofString "lt").cps.toList y <;> cases eqL (Str.ofString "gt").cps.toList y <;> cases eqL (Str.ofString "quot").cps.toList y <;> simp only [cond_true, cond_false, Option.getD_some, Option.getD_none] <;> decide +kernel
theorem undN_len {ts : List Str} (h : ∀ t ∈ ts, t.length ≤ 1000) : ∀ i, i < ts.length → (undN ts i).1.length ≤ 1001 * (i + 1) ∧ (undN ts i).2.length ≤ 1001 * (i + 1)
  | 0, h0 => by
    have := h _ (atD (l := ts) (d := Str.empty) h0)
    simp only [undN]; omega
  | i + 1, h0 => by
    have ih := undN_len h i (by omega)
    have h1 := h _ (atD (l := ts) (d := Str.empty) h0)
    have h2 := Txt.slice_le (ts.getD (i + 1) Str.empty) (some (Txt.find (ts.getD (i + 1) Str.empty) semi + 1)) none
    have h3 := sgn_len (ts.getD (i + 1) Str.empty)
    simp only [undN, Str.length_append, resF]
    omega

section
variable {w : World} {mg mb : Str → Option Value} {A : Around} {env : Env} {own own₁ own₂ : List Addr} {ρ : List (Str × PV)} {names : List (Str × NameKind)} {s₀ : Base} {s : Shared}

set_option maxHeartbeats 4000000 in
theorem c_undone {x : Str} (hx : x.length ≤ 1000) : CtF w mg mb 78 1 [.str x] (.tup [.str (undF x).1, .str (undF x).2]) := by
  have hsz : sizeLine = 16777216 := sizeLine_eq
  unfold undF
  have hsp := split_le x amp
  have hsh : ∀ a ∈ Txt.split x amp, a.length ≤ 1000 := fun a h => Nat.le_trans (part_short h) (by omega)
  have hpb := parts_le x amp (by omega)
  have hne := split_pos x amp
  generalize hts : Txt.split x amp = ts at *
  refine enter (k := 0) (by decide) (by decide +kernel) rfl fun A own s₀ env s hr F => ?_
  refine Ex.assignDict (knd := strKind PR w) (enc := PyData.str) (ρ' := [(Str.ofString "page", .str x)]) (ks := signL.map (·.1)) (D := signL.map fun p => (.str p.1, .str p.2)) F
    (.cons Ev.cstr (fun h v r => by cases r; exact strKind_is PR w _ _) Ev.cstr .str
      (.cons Ev.cstr (fun h v r => by cases r; exact strKind_is PR w _ _) Ev.cstr .str
        (.cons Ev.cstr (fun h v r => by cases r; exact strKind_is PR w _ _) Ev.cstr .str .nil)))
    (by decide +kernel) (by simp) (by simp) rfl rfl (by walk_at "kind") (by walk_at "ne") (by walk_at "sub") fun ad o s hT F => ?_
  refine Ex.assign (V := .list (ts.map .str)) (ρ' := [(Str.ofString "signs", .raw (.ref ad))]) F ((Ev.split (y := amp) (Ev.name F.cx (by walk_at "mem")) Ev.cstr F.cx.ow rfl (by omega) hpb).cast (by rw [hts])) (by walk_at "kind") (by walk_at "ne") (by walk_at "sub") fun s F => ?_
  refine Ex.assign (V := .str (ts.getD 0 Str.empty)) (ρ' := [(Str.ofString "parts", .list (ts.map .str)), (Str.ofString "signs", .raw (.ref ad))]) F (Ev.itemF (Ev.name F.cx (by walk_at "mem")) Ev.cint (by omega) (by omega) (map_at (l := ts) (i := 0) PV.str Str.empty (by omega)) rfl) (by walk_at "kind") (by walk_at "ne") (by walk_at "sub") fun s F => ?_
  refine Ex.assign (V := .str (ts.getD 0 Str.empty)) (ρ' := [(Str.ofString "text", .str (ts.getD 0 Str.empty)), (Str.ofString "parts", .list (ts.map .str)), (Str.ofString "signs", .raw (.ref ad))]) F (Ev.itemF (Ev.name F.cx (by walk_at "mem")) Ev.cint (by omega) (by omega) (map_at (l := ts) (i := 0) PV.str Str.empty (by omega)) rfl) (by walk_at "kind") (by walk_at "ne") (by walk_at "sub") fun s F => ?_
  replace F := F.sub (ρ' := [(Str.ofString "bare", .str (undN ts 0).2), (Str.ofString "text", .str (undN ts 0).1), (Str.ofString "parts", .list (ts.map .str)), (Str.ofString "signs", .raw (.ref ad))]) (by walk_at "subs")
  refine Ex.forIn (S := .list ((ts.drop 1).map .str)) (its := (ts.drop 1).map .str) (osI := fun i => []) (ρI := fun i => [(Str.ofString "bare", .str (undN ts i).2), (Str.ofString "text", .str (undN ts i).1), (Str.ofString "parts", .list (ts.map .str)), (Str.ofString "signs", .raw (.ref ad))])
    hr.hh F (fun _ => rfl) ?_ Its.list (fun V hV => by obtain ⟨t, -, rfl⟩ := List.mem_map.mp hV; rfl) (by walk_at "kind") (fun _ => by walk_at "ne") (fun _ => by walk_at "ne") ?_ ?_
  · exact (Ev.sliceL (Ev.name F.cx (by walk_at "mem")) (.some Ev.ci) .none F.cx.ow (by simp; omega)).cast (by rw [show (1 : Int) = ((1 : Nat) : Int) from rfl, cut_from _ (by simp; omega), ← List.map_drop])
  · intro i V hV ex pn s F
    obtain ⟨hi, rfl⟩ := idx_map Str.empty hV
    rw [List.length_drop] at hi
    have e : (ts.drop 1).getD i Str.empty = ts.getD (i + 1) Str.empty := by simp [List.getD]
    rw [e] at F
    have hl := undN_len hsh (i + 1) (by omega)
    have hp := hsh _ (atD (l := ts) (d := Str.empty) (k := i + 1) (by omega))
    generalize hpe : ts.getD (i + 1) Str.empty = p at F hp
    have e1 : (undN ts (i + 1)).1 = (undN ts i).1 ++ sgnF p ++ resF p := by rw [undN, hpe]
    have e2 : (undN ts (i + 1)).2 = (undN ts i).2 ++ resF p := by rw [undN, hpe]
    rw [e1, e2] at hl
    simp only [Str.length_append] at hl
    refine Ex.assign (V := .int (Txt.find p semi)) (ρ' := [(Str.ofString "part", .str p), (Str.ofString "bare", .str (undN ts i).2), (Str.ofString "text", .str (undN ts i).1), (Str.ofString "parts", .list (ts.map .str)), (Str.ofString "signs", .raw (.ref ad))]) F (Ev.find (Ev.name F.cx (by walk_at "mem")) Ev.cstr) (by walk_at "kind") (by walk_at "ne") (by walk_at "sub") fun s F => ?_
    refine Ex.assign (V := .str ((undN ts i).1 ++ sgnF p ++ resF p)) (ρ' := [(Str.ofString "end", .int (Txt.find p semi)), (Str.ofString "part", .str p), (Str.ofString "bare", .str (undN ts i).2), (Str.ofString "parts", .list (ts.map .str)), (Str.ofString "signs", .raw (.ref ad))]) F ?_ (by walk_at "kind") (by walk_at "ne") (by walk_at "sub") fun s F => ?_
    · refine Ev.cat (Ev.cat (Ev.name F.cx (by walk_at "mem")) (Ev.dicGet (knd := strKind PR w) (enc := PyData.str) (D := signL.map fun p => (.str p.1, .str p.2)) (a := ad) (k := Txt.slice p none (some (Txt.find p semi))) (V := .str amp) (dd := .str amp) same_str (Ev.name F.cx (by walk_at "mem")) (fun s' g => hT _ (g.keep _ _ (F.dc _ List.mem_cons_self).1))
          (Ev.sliceS (Ev.name F.cx (by walk_at "mem")) .none (.some (Ev.name F.cx (by walk_at "mem"))) (by omega)) (fun h v r => by cases r; exact strKind_is PR w _ _) Ev.cstr .str ?_) ?_) (Ev.sliceS (Ev.name F.cx (by walk_at "mem")) (.some (Ev.add (Ev.name F.cx (by walk_at "mem")) Ev.cint)) .none (by omega)) ?_
      · rw [lookup_lks]
        unfold sgnF
        cases lks (Txt.slice p none (some (Txt.find p semi))).cps.toList signL <;> exact .str
      · rw [Str.length_append]; omega
      · rw [Str.length_append, Str.length_append]; show _ + (resF p).length ≤ _; omega
    refine Ex.assign (V := .str ((undN ts i).2 ++ resF p)) (ρ' := [(Str.ofString "text", .str ((undN ts i).1 ++ sgnF p ++ resF p)), (Str.ofString "parts", .list (ts.map .str)), (Str.ofString "signs", .raw (.ref ad))]) F
      (Ev.cat (Ev.name F.cx (by walk_at "mem")) (Ev.sliceS (Ev.name F.cx (by walk_at "mem")) (.some (Ev.add (Ev.name F.cx (by walk_at "mem")) Ev.cint)) .none (by omega)) (by rw [Str.length_append]; show _ + (resF p).length ≤ _; omega)) (by walk_at "kind") (by walk_at "ne") (by walk_at "sub") fun s F => Ex.nil ⟨rfl, ?_⟩
    rw [e1, e2]
    exact F
  · intro s F
    rw [List.length_map, List.length_drop] at F
    exact Ex.ret (own' := own) (Ev.tupD (Evs.cons (Ev.name F.cx (by walk_at "mem")) (Evs.cons (Ev.name F.cx (by walk_at "mem")) Evs.nil)) F.cx.ow (by simp; omega)) fun v s' g r => ⟨v, rfl, F.gr.trans g, r⟩
end

end Mine
end

-- Ev15
section
open PySem PySem.W PySem.Calls PyProof.Rows PyProof.V PySem.Spec PySem.Builtin.Str PySem.SeqAt
namespace Mine

local macro_rules | `(tactic| walk_at "mem") => `(tactic| first | exact List.mem_cons_self | (refine List.mem_cons_of_mem _ ?_; walk_at "mem"))
local macro_rules | `(tactic| walk_at "kind") => `(tactic| first | exact Or.inl (by decide +kernel) | exact Or.inr (by decide +kernel))
local macro_rules | `(tactic| walk_at "ne") => `(tactic| first | exact (fun _ h => absurd h List.not_mem_nil) | (refine List.forall_mem_cons.mpr ⟨by dsimp only; decide +kernel, ?_⟩; walk_at "ne"))
local macro_rules | `(tactic| walk_at "sub") => `(tactic| first | exact (fun _ h => absurd h List.not_mem_nil) | (refine List.forall_mem_cons.mpr ⟨⟨by walk_at "mem", by dsimp only; decide +kernel⟩, ?_⟩; walk_at "sub"))
local macro_rules | `(tactic| walk_at "subs") => `(tactic| first | exact (fun _ h => absurd h List.not_mem_nil) | (refine List.forall_mem_cons.mpr ⟨by walk_at "mem", ?_⟩; walk_at "subs"))
local macro_rules | `(tactic| walk_at "blk") => `(tactic| first | exact (fun _ h => absurd h List.not_mem_nil) | (refine List.forall_mem_cons.mpr ⟨⟨by walk_at "mem", by dsimp only; decide +kernel⟩, ?_⟩; walk_at "blk"))

theorem compTurn_two0 (elt t0 i0 t1 i1 : Expr) (scope : Scope) (pos : Pos) (it acc : Value) (env : Env) :
    compTurn (.ListComp elt [⟨t0, i0, [], 0⟩, ⟨t1, i1, [], 0⟩] scope pos) 0 it acc env = (do
      standAt i0.pos
      match ← pyNext it with
      | none => pure (.done .next)
      | some v =>
        letOwnedTupleGo t0 it v
        assign t0 env v
        let mut ok := true
        for c in ([] : List Expr) do
          if ok then ok ← isTrue c env (eval c env)
        if ok then
          let x ← eval i1 env
          standAt i1.pos
          let x ← foldedSetIterable i1 env x
          let _ ← runOwn (.compStart (.ListComp elt [⟨t0, i0, [], 0⟩, ⟨t1, i1, [], 0⟩] scope pos) 1 (← holding [x] (pyIter x)) acc env) env
        again (.compLoop (.ListComp elt [⟨t0, i0, [], 0⟩, ⟨t1, i1, [], 0⟩] scope pos) 0 it acc env)) := by rfl
theorem compTurn_two1 (elt t0 i0 t1 i1 : Expr) (scope : Scope) (pos : Pos) (it acc : Value) (env : Env) :
    compTurn (.ListComp elt [⟨t0, i0, [], 0⟩, ⟨t1, i1, [], 0⟩] scope pos) 1 it acc env = (do
      standAt i1.pos
      match ← pyNext it with
      | none => pure (.done .next)
      | some v =>
        letOwnedTupleGo t1 it v
        assign t1 env v
        let mut ok := true
        for c in ([] : List Expr) do
          if ok then ok ← isTrue c env (eval c env)
        if ok then
          (do let _ ← call (.builtin "list.append") [acc, ← eval elt env])
        again (.compLoop (.ListComp elt [⟨t0, i0, [], 0⟩, ⟨t1, i1, [], 0⟩] scope pos) 1 it acc env)) := by rfl

section
variable {prog : Program} {w : World} {A : Around} {E : Value → Shared → Prop} {R : Result → Shared → Prop} {s : Shared} {elt t0 i0 t1 i1 : Expr} {scope : Scope} {pos : Pos} {it acc : Value} {env : Env}

theorem loop_two0 (I : Nat → Shared → Prop)
    (turn : ∀ n s, I n s → wpAny (model prog w) A (pyNext it) (fun r s₁ => match r with
      | none => R (.ok .next) s₁
      | some v => wpAny (model prog w) A (PySem.assign t0 env v) (fun _ s₂ => wpAny (model prog w) A (eval i1 env) (fun x s₃ => wpAny (model prog w) A (pyIter x) (fun J s₄ =>
          codeAny (model prog w) (A.mark none) (.compStart (.ListComp elt [⟨t0, i0, [], 0⟩, ⟨t1, i1, [], 0⟩] scope pos) 1 J acc env) (fun r s₅ => match r with
            | .ok _ => ∃ m, m < n ∧ I m s₅
            | .error x => cameBackBy (model prog w) A env (notedBy (model prog w) A env fun e s' => R (.error e) s') x s₅) s₄)
          (notedBy (model prog w) A env fun e s' => R (.error e) s') s₃) (notedBy (model prog w) A env fun e s' => R (.error e) s') s₂) (notedBy (model prog w) A env fun e s' => R (.error e) s') s₁) (notedBy (model prog w) A env fun e s' => R (.error e) s') s)
    (n : Nat) (h : I n s) (ht : ∀ v, letOwnedTupleGo t0 it v = pure () := by intro _; rfl) (hf : ∀ x, foldedSetIterable i1 env x = pure x := by intro _; rfl) :
    codeAny (model prog w) A (.compLoop (.ListComp elt [⟨t0, i0, [], 0⟩, ⟨t1, i1, [], 0⟩] scope pos) 0 it acc env) R s := by
  refine codeAny_loop rfl I (fun n s hI => ?_) n h
  show wpAny _ A ((compTurn (.ListComp elt [⟨t0, i0, [], 0⟩, ⟨t1, i1, [], 0⟩] scope pos) 0 it acc env).onRaise (fun x => do noteFrame x env; theTreesLotGoes x)) _ _ s
  refine wpAny_noted ?_
  rw [compTurn_two0]
  refine wpAny_bind (wpAny_standAt (wpAny_bind (wpAny_mono (turn n s hI) (fun r s₁ h₁ => ?_) fun _ _ h' => h')))
  cases r with
  | none => exact wpAny_pure h₁
  | some v =>
    refine wpAny_bind (wpAny_of_eq (ht v) ?_)
    refine wpAny_bind (wpAny_mono h₁ (fun _ s₂ h₂ => wpAny_bind (wpAny_pure ?_)) fun _ _ h' => h')
    refine wpAny_bind (wpAny_mono h₂ (fun x s₃ h₃ => ?_) fun _ _ h' => h')
    refine wpAny_bind (wpAny_standAt ?_)
    rw [hf]
    refine wpAny_bind (wpAny_pure (wpAny_bind (wpAny_holding (wpAny_mono h₃ (fun J s₄ h₄ => ?_) fun _ _ h' => h'))))
    refine wpAny_bind (wpAny_runOwn (codeAny_mono h₄ fun r s₅ h₅ => ?_))
    cases r with
    | ok f => exact wpAny_pure ⟨rfl, h₅⟩
    | error x => exact h₅

theorem loop_two1 (I : Nat → Shared → Prop)
    (turn : ∀ n s, I n s → wpAny (model prog w) A (pyNext it) (fun r s₁ => match r with
      | none => R (.ok .next) s₁
      | some v => wpAny (model prog w) A (PySem.assign t1 env v) (fun _ s₂ => wpAny (model prog w) A (eval elt env) (fun x s₄ =>
              wpAny (model prog w) A (call (.builtin "list.append") [acc, x]) (fun _ s₅ => ∃ m, m < n ∧ I m s₅) (notedBy (model prog w) A env fun e s' => R (.error e) s') s₄) (notedBy (model prog w) A env fun e s' => R (.error e) s') s₂) (notedBy (model prog w) A env fun e s' => R (.error e) s') s₁) (notedBy (model prog w) A env fun e s' => R (.error e) s') s)
    (n : Nat) (h : I n s) (ht : ∀ v, letOwnedTupleGo t1 it v = pure () := by intro _; rfl) :
    codeAny (model prog w) A (.compLoop (.ListComp elt [⟨t0, i0, [], 0⟩, ⟨t1, i1, [], 0⟩] scope pos) 1 it acc env) R s := by
  refine codeAny_loop rfl I (fun n s hI => ?_) n h
  show wpAny _ A ((compTurn (.ListComp elt [⟨t0, i0, [], 0⟩, ⟨t1, i1, [], 0⟩] scope pos) 1 it acc env).onRaise (fun x => do noteFrame x env; theTreesLotGoes x)) _ _ s
  refine wpAny_noted ?_
  rw [compTurn_two1]
  refine wpAny_bind (wpAny_standAt (wpAny_bind (wpAny_mono (turn n s hI) (fun r s₁ h₁ => ?_) fun _ _ h' => h')))
  cases r with
  | none => exact wpAny_pure h₁
  | some v =>
    refine wpAny_bind (wpAny_of_eq (ht v) ?_)
    refine wpAny_bind (wpAny_mono h₁ (fun _ s₂ h₂ => wpAny_bind (wpAny_pure ?_)) fun _ _ h' => h')
    exact wpAny_bind (wpAny_bind (wpAny_mono h₂ (fun x s₄ h₄ => wpAny_bind (wpAny_mono h₄ (fun _ s₅ h₅ => wpAny_pure (wpAny_pure ⟨rfl, h₅⟩)) fun _ _ h' => h')) fun _ _ h' => h'))

theorem start_two1 (h0 : codeAny (model prog w) A (.compLoop (.ListComp elt [⟨t0, i0, [], 0⟩, ⟨t1, i1, [], 0⟩] scope pos) 1 it acc env) R s)
    (h : wpAny (model prog w) A (pyIter it) (fun it' s' => codeAny (model prog w) A (.compLoop (.ListComp elt [⟨t0, i0, [], 0⟩, ⟨t1, i1, [], 0⟩] scope pos) 1 it' acc env) R s') (notedBy (model prog w) A env fun x s' => R (.error x) s') s) :
    codeAny (model prog w) A (.compStart (.ListComp elt [⟨t0, i0, [], 0⟩, ⟨t1, i1, [], 0⟩] scope pos) 1 it acc env) R s := by
  refine codeAny_of_tree ?_
  show wpAny _ _ ((compStart (.ListComp elt [⟨t0, i0, [], 0⟩, ⟨t1, i1, [], 0⟩] scope pos) 1 it acc env).onRaise (fun x => do noteFrame x env; standAt theWindowsPlace)) _ _ s
  refine wpAny_notedAt ?_
  unfold compStart
  show wpAny _ _ (ask >>= _) _ _ s
  refine wpAny_bind (wpAny_askSetting (wpAny_ite ?_))
  split
  · first
      | exact wpAny_bind (wpAny_pure (wpAny_pure (And.intro rfl h0)))
      | exact wpAny_pure (And.intro rfl h0)
  · refine wpAny_bind (wpAny_rule ?_)
    show wpAny _ _ (standAt i1.pos >>= _) _ _ s
    exact wpAny_bind (wpAny_standAt (wpAny_bind (wpAny_mono h (fun it' s' h' => wpAny_pure (And.intro rfl h')) fun _ _ x => x)))
end

end Mine
end

-- Ev16
section
open PySem PySem.W PySem.Calls PyProof.Rows PyProof.V PySem.Spec PySem.Builtin.Str PySem.SeqAt
namespace Mine

local macro_rules | `(tactic| walk_at "mem") => `(tactic| first | exact List.mem_cons_self | (refine List.mem_cons_of_mem _ ?_; walk_at "mem"))
local macro_rules | `(tactic| walk_at "kind") => `(tactic| first | exact Or.inl (by decide +kernel) | exact Or.inr (by decide +kernel))
local macro_rules | `(tactic| walk_at "ne") => `(tactic| first | exact (fun _ h => absurd h List.not_mem_nil) | (refine List.forall_mem_cons.mpr ⟨by dsimp only; decide +kernel, ?_⟩; walk_at "ne"))
local macro_rules | `(tactic| walk_at "sub") => `(tactic| first | exact (fun _ h => absurd h List.not_mem_nil) | (refine List.forall_mem_cons.mpr ⟨⟨by walk_at "mem", by dsimp only; decide +kernel⟩, ?_⟩; walk_at "sub"))
local macro_rules | `(tactic| walk_at "subs") => `(tactic| first | exact (fun _ h => absurd h List.not_mem_nil) | (refine List.forall_mem_cons.mpr ⟨by walk_at "mem", ?_⟩; walk_at "subs"))
local macro_rules | `(tactic| walk_at "blk") => `(tactic| first | exact (fun _ h => absurd h List.not_mem_nil) | (refine List.forall_mem_cons.mpr ⟨⟨by walk_at "mem", by dsimp only; decide +kernel⟩, ?_⟩; walk_at "blk"))

section
variable {w : World} {mg mb : Str → Option Value} {A : Around} {env : Env} {own own₁ own₂ : List Addr} {ρ : List (Str × PV)} {names : List (Str × NameKind)} {s₀ : Base} {s : Shared}

theorem LocV.cellMove {own own' : List Addr} {h h' : Heap} {env : Env} {x : Str} {V : PV} (l : LocV own h env x V) (hk : env.kindOf x = some .cell) (kv : ∀ b o, IsVal o → b ∉ own → h.get? b = some o → h'.get? b = some o)
    (hu : ∀ b, (h.get? b).isSome = true → b ∉ own → b ∉ own') (kc : ∀ c v, env.cells.lookup x = some c → h.IsCell c v → h'.IsCell c v) : LocV own' h' env x V := by
  rcases l with ⟨k, -⟩ | ⟨k, c, v, e, ic, r⟩
  · rw [hk] at k; cases k
  · exact .inr ⟨k, c, v, e, kc c _ e ic, r.move kv hu⟩

/-- the inner loop of a block with two for parts -/
theorem comp2_inner {α β : Type} {inj : α → PV} {inj2 : β → PV} {ys : List β} {elt i0 i1 : Expr} {x y : Str} {px py : Pos} {scope : Scope} {pos : Pos} {ρ' : List (Str × PV)} {cl : List (Str × Addr)} {C D I₀ : Addr} {s₁ s₂ : Shared} {zs₀ : List PV} {R : Result → Shared → Prop} {S2 : PV} {v : Value} {E : Value → Shared → Prop} {P0 : Heap → Prop} {fp₀ : List Addr} {zv : List Value} {nz : Nat}
    (hh : A.handled = none) (a : α) (f : β → PV) (c : Cx w mg mb A env own ρ names s₁) (B : Blk w mg mb A env ρ names scope ρ' x) (hx : scope.names.lookup x = some .cell) (hy : scope.names.lookup y = some .local)
    (hcl : ∀ n c, (n, c) ∈ cl → (n, NameKind.free) ∈ scope.names ∧ env.cells.lookup n = some c) (hcl' : ∀ n, (n, NameKind.free) ∈ scope.names → ∃ c, (n, c) ∈ cl)
    (hD₁ : s₁.heap.get? D = none) (hC₁ : s₁.heap.get? C = none) (hI₁ : s₁.heap.get? I₀ = none) (hDC : D ≠ C) (hID : I₀ ≠ D) (hIC : I₀ ≠ C)
    (hP0 : ∀ h h', P0 h → (∀ b ∈ fp₀, ∀ o, h.get? b = some o → h'.get? b = some o) → P0 h') (hfp : ∀ b ∈ fp₀, b ≠ C ∧ b ≠ D ∧ (s₂.heap.get? b).isSome = true)
    (g₂ : Grow s₁ s₂) (p0 : P0 s₂.heap) (hDs : s₂.heap.get? D = some (listObj zv nz)) (hz : VReps (I₀ :: D :: own) s₂.heap zv zs₀) (b₂ : BlkAt scope cl C env x s₂.heap) (lx : LocV (I₀ :: D :: own) s₂.heap (blockEnv scope cl C env) x (inj a))
    (ow₂ : Ow (I₀ :: D :: own) s₂.heap) (r : VRep (I₀ :: D :: own) s₂.heap v S2) (hit2 : Its S2 (ys.map inj2)) (hsz : zs₀.length + ys.length ≤ sizeLine)
    (hbody : ∀ b ∈ ys, ∀ own' s' env', Cx w mg mb A env' own' ((y, inj2 b) :: (x, inj a) :: ρ') scope.names s' → Ev w A env' own' s' elt (f b))
    (hR : ∀ s' zv' nz', Grow s₁ s' → P0 s'.heap → s'.heap.get? D = some (listObj zv' nz') → VReps (I₀ :: D :: own) s'.heap zv' (zs₀ ++ ys.map f) → BlkAt scope cl C env x s'.heap → R (.ok .next) s') :
    wpAny (model PR w) A (pyIter v) (fun J s₄ => codeAny (model PR w) A (.compStart (.ListComp elt [⟨.Name x px, i0, [], 0⟩, ⟨.Name y py, i1, [], 0⟩] scope pos) 1 J (.ref D) (blockEnv scope cl C env)) R s₄) E s₂ := by
  refine Itr.of hh ow₂ r hit2 _ _ fun I fp P St s₃ g₃ wi => ?_
  have g₁₃ := g₂.trans g₃
  have hIfp : I ∈ fp := wi.W.sub _ (List.mem_singleton.mpr rfl)
  have hI2 : s₂.heap.get? I = none := wi.new
  have neI : ∀ {b}, (s₂.heap.get? b).isSome = true → b ≠ I := fun {b} h q => by rw [q, hI2] at h; cases h
  have hDI : D ≠ I := neI (by rw [hDs]; rfl)
  obtain ⟨⟨mC, nC⟩, hcell⟩ := id b₂
  obtain ⟨oC, esC, epC, gC, dC, -⟩ := id nC
  have hCI : C ≠ I := neI (by rw [gC]; rfl)
  obtain ⟨cx, vx, ex, ⟨ocx, gcx, dcx⟩, lC⟩ := hcell hx
  have hcxI : cx ≠ I := neI (by rw [gcx]; rfl)
  have hcxC : cx ≠ C := Ne.symm (neNat (by have := natLt lC; omega))
  have hcxD : cx ≠ D := fun q => by rw [q, hDs] at gcx; cases gcx; cases dcx
  have hI1 : s₁.heap.get? I = none := by
    cases e : s₁.heap.get? I with
    | none => rfl
    | some o => have := g₂.keep _ _ e; rw [hI2] at this; cases this
  have old1 : ∀ {b o}, s₁.heap.get? b = some o → b ≠ I ∧ b ≠ D ∧ b ≠ C := fun {b o} e =>
    ⟨(by rintro rfl; rw [hI1] at e; cases e), (by rintro rfl; rw [hD₁] at e; cases e), (by rintro rfl; rw [hC₁] at e; cases e)⟩
  have hfpI : ∀ b ∈ fp, b ≠ D ∧ b ≠ C := fun b m => by
    obtain ⟨ho, o, e, iv⟩ := wi.off b m
    refine ⟨fun q => ho (q ▸ List.mem_cons_of_mem _ List.mem_cons_self), fun q => ?_⟩
    rw [q, g₃.keep _ _ gC] at e; cases e
    rcases iv with ⟨q1, q2, q3⟩ | ⟨q1, q2⟩ <;> rw [dC] at * <;> contradiction
  have hkx : (blockEnv scope cl C env).kindOf x = some .cell := by
    show (relabel scope env).names.lookup x = _
    rw [lookup_relabel, hx]; rfl
  have hTx : tgtAt scope cl C env x = cx := by unfold tgtAt; rw [if_neg (by rw [hx]; decide), ex]; rfl
  have hTy : tgtAt scope cl C env y = C := if_pos hy
  have hup : ∀ b, (s₂.heap.get? b).isSome = true → b ∉ I₀ :: D :: own → b ∉ I :: I₀ :: D :: own := fun b hs ho hm => by
    rcases List.mem_cons.mp hm with rfl | hm
    · rw [hI2] at hs; cases hs
    · exact ho hm
  have hyl : (ys.map inj2).length = ys.length := by simp
  -- the loop
  have inv : ∀ s₄ : Shared, s₄ = s₃ → codeAny (model PR w) A (.compLoop (.ListComp elt [⟨.Name x px, i0, [], 0⟩, ⟨.Name y py, i1, [], 0⟩] scope pos) 1 (.ref I) (.ref D) (blockEnv scope cl C env)) R s₄ := by
    rintro s₄ rfl
    refine loop_two1 (I := fun k s' => ∃ j zv nz, j ≤ ys.length ∧ k = ys.length + 1 - j ∧ Grow s₁ s' ∧ (∀ b o, b ≠ D → b ≠ C → s₂.heap.get? b = some o → s'.heap.get? b = some o) ∧ St j s'.heap ∧ s'.heap.get? D = some (listObj zv nz) ∧ VReps (I :: I₀ :: D :: own) s'.heap zv (zs₀ ++ (ys.take j).map f) ∧ ∃ m, s'.heap.Ns C m)
      (turn := ?turn) (n := ys.length + 1) (h := ?start)
    case start =>
      refine ⟨0, zv, nz, Nat.zero_le _, rfl, g₁₃, fun b o _ _ e => g₃.keep b o e, wi.st, g₃.keep _ _ hDs, ?_, _, nC.keeps g₃.keep⟩
      simpa using hz.move (fun b o _ _ e => g₃.keep b o e) hup
    case turn =>
      rintro k s' ⟨j, zv, nz, hj, rfl, ⟨⟨h', t', rfl, k'⟩, l'⟩, kk, st, hD', hzs, m', nC'⟩
      dsimp only at kk st hD' hzs nC'
      have mem2 : ∀ {b : Addr}, b ∉ I₀ :: D :: own → b ≠ D := fun hb q => hb (q ▸ List.mem_cons_of_mem _ List.mem_cons_self)
      have nvC : ∀ {b o}, IsVal o → s₂.heap.get? b = some o → b ≠ C := fun {b o} iv e q => by
        rw [q, gC] at e; cases e
        rcases iv with ⟨q1, q2, q3⟩ | ⟨q1, q2⟩ <;> rw [dC] at * <;> contradiction
      have hzl : zv.length = zs₀.length + j := by
        rw [hzs.length, List.length_append, List.length_map, List.length_take]; omega
      by_cases hlt : j < ys.length
      · refine grown (wi.W.item j _ _ _ (by rw [hyl]; exact hlt) st fun v h₁ tk₁ hPv st₁ hk₁ ht₁ => ?_)
        dsimp only at hk₁ ht₁ ⊢
        have ha := List.getElem?_eq_getElem hlt
        generalize hxa : ys[j] = bb at ha
        have hmem : bb ∈ ys := hxa ▸ List.getElem_mem hlt
        have k₁ : ∀ b o, s₁.heap.get? b = some o → h₁.get? b = some o := fun b o e => hk₁ b o (by simpa using (old1 e).1) (k' b o e)
        have kk₁ : ∀ b o, b ≠ D → b ≠ C → s₂.heap.get? b = some o → h₁.get? b = some o := fun b o d1 d2 e => hk₁ b o (by simpa using neI (by rw [e]; rfl)) (kk b o d1 d2 e)
        have r1 : VRep (I :: I₀ :: D :: own) h₁ v (inj2 bb) := by
          obtain ⟨V', e2, r2⟩ := wi.item j v (by rw [hyl]; exact hlt) hPv s₂.heap (fun _ _ _ _ e => e)
          rw [List.getElem?_map, ha] at e2
          cases e2
          exact r2.move (fun b o iv hb e => kk₁ b o (mem2 hb) (nvC iv e) e) hup
        have nC₁ : h₁.Ns C m' := nC'.at' fun o e => hk₁ _ o (by simpa using hCI) e
        have hD₁' : h₁.get? D = some (listObj zv nz) := hk₁ _ _ (by simpa using hDI) hD'
        have by₁ : BlkAt scope cl C env y h₁ := ⟨⟨_, nC₁⟩, fun q => by rw [hy] at q; cases q⟩
        refine store_block (s := { s₁ with heap := h₁, toks := tk₁ }) B.kind (.inl hy) by₁ r1 fun h₂ tk₂ hs₂ ht₂ b₂' l₂ => ?_
        rw [hTy] at hs₂
        dsimp only at hs₂ ht₂ ⊢
        have k₂ : ∀ b o, s₁.heap.get? b = some o → h₂.get? b = some o := fun b o e => (hs₂.2 b (old1 e).2.2).trans (k₁ b o e)
        have kk₂ : ∀ b o, b ≠ D → b ≠ C → s₂.heap.get? b = some o → h₂.get? b = some o := fun b o d1 d2 e => (hs₂.2 b d2).trans (kk₁ b o d1 d2 e)
        have gg₂ : Grow s₁ { s₁ with heap := h₂, toks := tk₂ } := Grow.of k₂ (Nat.le_trans l' (Nat.le_trans ht₁ ht₂))
        have hD₂ : h₂.get? D = some (listObj zv nz) := (hs₂.2 D hDC).trans hD₁'
        have st₂ : St (j + 1) h₂ := wi.W.frame _ _ _ st₁ fun b hb o e => (hs₂.2 b (hfpI b hb).2).trans e
        have ow₂' : Ow (I :: I₀ :: D :: own) h₂ := fun b m => by
          rcases List.mem_cons.mp m with rfl | m
          · obtain ⟨o, e, _⟩ := wi.ex _ _ st₂; exact ⟨o, e⟩
          · rcases List.mem_cons.mp m with rfl | m
            · obtain ⟨o, e⟩ := ow₂ _ List.mem_cons_self
              exact ⟨o, kk₂ _ o hID hIC e⟩
            · rcases List.mem_cons.mp m with rfl | m
              · exact ⟨_, hD₂⟩
              · exact (c.ow.keeps k₂) b m
        have hzs₂ : VReps (I :: I₀ :: D :: own) h₂ zv (zs₀ ++ (ys.take j).map f) := hzs.move (fun b' o iv hb e => by
            have e1 := hk₁ b' o (fun hm => hb (by rw [List.mem_singleton] at hm; subst hm; exact List.mem_cons_self)) e
            refine (hs₂.2 b' ?_).trans e1
            rintro rfl
            obtain ⟨oC', esC', epC', gC', dC', -⟩ := nC₁
            rw [gC'] at e1; cases e1
            rcases iv with ⟨q1, q2, q3⟩ | ⟨q1, q2⟩ <;> rw [dC'] at * <;> contradiction) (fun _ _ z => z)
        have lx₂ : LocV (I :: I₀ :: D :: own) h₂ (blockEnv scope cl C env) x (inj a) := lx.cellMove hkx (fun b o iv hb e => kk₂ b o (mem2 hb) (nvC iv e) e) hup (fun c' v' e' ⟨o, g, d⟩ => by
          have : (blockEnv scope cl C env).cells.lookup x = some cx := ex
          rw [this] at e'; cases e'
          exact ⟨o, kk₂ _ o hcxD hcxC g, d⟩)
        have hsub : ∀ b, (s₁.heap.get? b).isSome = true → b ∉ own → b ∉ I :: I₀ :: D :: own := fun b hs ho hm => by
          rcases List.mem_cons.mp hm with rfl | hm
          · rw [hI1] at hs; cases hs
          · rcases List.mem_cons.mp hm with rfl | hm
            · rw [hI₁] at hs; cases hs
            · rcases List.mem_cons.mp hm with rfl | hm
              · rw [hD₁] at hs; cases hs
              · exact ho hm
        have cx := c.block (own' := I :: I₀ :: D :: own) B hcl hcl' gg₂ ow₂' hsub lx₂
        have cxy : Cx w mg mb A (blockEnv scope cl C env) (I :: I₀ :: D :: own) ((y, inj2 bb) :: (x, inj a) :: ρ') scope.names { s₁ with heap := h₂, toks := tk₂ } := { cx with bd := List.forall_mem_cons.mpr ⟨l₂, cx.bd⟩ }
        refine (hbody bb hmem _ _ _ cxy).then (Grow.refl _) fun z s₄ g₄ r₄ => ?_
        have ht : (ys.take (j + 1)).map f = (ys.take j).map f ++ [f bb] := by rw [List.take_succ, ha]; simp
        obtain ⟨⟨h₄, t₄, e₄, k₄⟩, l₄⟩ := gg₂.trans g₄
        subst e₄
        have hD₄ : h₄.get? D = some (listObj zv nz) := g₄.keep _ _ hD₂
        refine wpAny_list_append_plain (hsz := by rw [List.size_toArray, hzl]; omega) ⟨nz, hD₄⟩ fun h₅ hl₅ hs₅ => ?_
        obtain ⟨n', hD₅⟩ := hl₅
        refine ⟨ys.length + 1 - (j + 1), by omega, j + 1, zv ++ [z], n', hlt, rfl, Grow.of (fun b o e => (hs₅.2 b (old1 e).2.1).trans (k₄ b o e)) l₄, ?_, ?_, ?_, ?_, ?_⟩
        · exact fun b o d1 d2 e => (hs₅.2 b d1).trans (g₄.keep b o (kk₂ b o d1 d2 e))
        · exact wi.W.frame _ _ _ st₂ fun b hb o e => (hs₅.2 b (hfpI b hb).1).trans (g₄.keep b o e)
        · rw [hD₅]; simp
        · rw [ht, ← List.append_assoc]
          have mv : ∀ {vs ps}, VReps (I :: I₀ :: D :: own) h₄ vs ps → VReps (I :: I₀ :: D :: own) h₅ vs ps := fun r => r.move (fun b o _ hb e => (hs₅.2 b (by rintro rfl; simp at hb)).trans e) (fun _ _ z => z)
          exact mv ((hzs₂.keeps g₄.keep).append (.cons r₄ .nil))
        · obtain ⟨mm, nn⟩ := b₂'.ns
          exact ⟨mm, (nn.keeps g₄.keep).sameBut hs₅ (Ne.symm hDC)⟩
      · have hin : j = ys.length := by omega
        subst hin
        refine grown (wi.W.done _ _ _ (by rw [hyl]; exact st) fun h₁ tk₁ hk₁ ht₁ => ?_)
        dsimp only at hk₁ ht₁ ⊢
        have k₁ : ∀ b o, s₁.heap.get? b = some o → h₁.get? b = some o := fun b o e => hk₁ b o (by simpa using (old1 e).1) (k' b o e)
        have kk₁ : ∀ b o, b ≠ D → b ≠ C → s₂.heap.get? b = some o → h₁.get? b = some o := fun b o d1 d2 e => hk₁ b o (by simpa using neI (by rw [e]; rfl)) (kk b o d1 d2 e)
        rw [List.take_length] at hzs
        refine hR _ zv nz (Grow.of k₁ (Nat.le_trans l' ht₁)) (hP0 _ _ p0 fun b m o e => kk₁ b o (hfp b m).2.1 (hfp b m).1 e) (hk₁ _ _ (by simpa using hDI) hD') ?_ ⟨⟨m', nC'.at' fun o e => hk₁ _ o (by simpa using hCI) e⟩, fun _ => ⟨cx, vx, ex, ⟨ocx, kk₁ _ _ hcxD hcxC gcx, dcx⟩, lC⟩⟩
        exact hzs.move (fun b o _ hb e => hk₁ b o (fun hm => hb (by rw [List.mem_singleton] at hm; subst hm; exact List.mem_cons_self)) e) (fun b _ hb hm => hb (List.mem_cons_of_mem _ hm))
  exact start_two1 (inv _ rfl) (wi.W.self 0 _ _ _ wi.st (inv _ rfl))
end

end Mine
end

-- Ev17
section
open PySem PySem.W PySem.Calls PyProof.Rows PyProof.V PySem.Spec PySem.Builtin.Str PySem.SeqAt
namespace Mine

local macro_rules | `(tactic| walk_at "mem") => `(tactic| first | exact List.mem_cons_self | (refine List.mem_cons_of_mem _ ?_; walk_at "mem"))
local macro_rules | `(tactic| walk_at "kind") => `(tactic| first | exact Or.inl (by decide +kernel) | exact Or.inr (by decide +kernel))
local macro_rules | `(tactic| walk_at "ne") => `(tactic| first | exact (fun _ h => absurd h List.not_mem_nil) | (refine List.forall_mem_cons.mpr ⟨by dsimp only; decide +kernel, ?_⟩; walk_at "ne"))
local macro_rules | `(tactic| walk_at "sub") => `(tactic| first | exact (fun _ h => absurd h List.not_mem_nil) | (refine List.forall_mem_cons.mpr ⟨⟨by walk_at "mem", by dsimp only; decide +kernel⟩, ?_⟩; walk_at "sub"))
local macro_rules | `(tactic| walk_at "subs") => `(tactic| first | exact (fun _ h => absurd h List.not_mem_nil) | (refine List.forall_mem_cons.mpr ⟨by walk_at "mem", ?_⟩; walk_at "subs"))
local macro_rules | `(tactic| walk_at "blk") => `(tactic| first | exact (fun _ h => absurd h List.not_mem_nil) | (refine List.forall_mem_cons.mpr ⟨⟨by walk_at "mem", by dsimp only; decide +kernel⟩, ?_⟩; walk_at "blk"))

section
variable {w : World} {mg mb : Str → Option Value} {A : Around} {env : Env} {own own₁ own₂ : List Addr} {ρ : List (Str × PV)} {names : List (Str × NameKind)} {s₀ : Base} {s : Shared}

theorem comp2_block {α β : Type} {inj : α → PV} {inj2 : β → PV} {xs : List α} {ys : List β} {S2 : PV} {elt i0 i1 : Expr} {x y : Str} {px py : Pos} {scope : Scope} {pos : Pos} {ρ' : List (Str × PV)} {cl : List (Str × Addr)} {s₁ s₂ : Shared} {I : Addr} {fp : List Addr} {P : Nat → Value → Prop} {St : Nat → Heap → Prop}
    {RR : Value → Addr → Result → Shared → Prop} {E : Value → Shared → Prop} (f : α → β → PV) (hh : A.handled = none) (hx : scope.names.lookup x = some .cell) (hy : scope.names.lookup y = some .local)
    (c : Cx w mg mb A env own ρ names s₁) (B : Blk w mg mb A env ρ names scope ρ' x) (wi : WalkIs w A own s₁ (xs.map inj) I fp P St s₂) (g₁ : Grow s₁ s₂) (hsz : xs.length * ys.length ≤ sizeLine)
    (hcl : ∀ n c, (n, c) ∈ cl → (n, NameKind.free) ∈ scope.names ∧ env.cells.lookup n = some c) (hcl' : ∀ n, (n, NameKind.free) ∈ scope.names → ∃ c, (n, c) ∈ cl)
    (hi1 : ∀ a ∈ xs, ∀ own' s' env', Cx w mg mb A env' own' ((x, inj a) :: ρ') scope.names s' → Ev w A env' own' s' i1 S2) (hit2 : Its S2 (ys.map inj2))
    (hbody : ∀ a ∈ xs, ∀ b ∈ ys, ∀ own' s' env', Cx w mg mb A env' own' ((y, inj2 b) :: (x, inj a) :: ρ') scope.names s' → Ev w A env' own' s' elt (f a b))
    (hf : ∀ env' x, foldedSetIterable i1 env' x = pure x)
    (hRR : ∀ D C s' ys' n, Grow s₁ s' → s₁.heap.get? D = none → s₁.heap.get? C = none → D ≠ C → (∃ m, s'.heap.Ns C m) → s'.heap.get? D = some (listObj ys' n) → VReps own s'.heap ys' (xs.flatMap fun a => ys.map (f a)) → RR (.ref D) C (.ok .next) s') :
    wpAny (model PR w) A (newList []) (fun acc s₃ => wpAny (model PR w) A (newFunctionEnv scope env.globals cl [] env.qual none .none (some env)) (fun cenv s₄ =>
      codeAny (model PR w) A (.compStart (.ListComp elt [⟨.Name x px, i0, [], 0⟩, ⟨.Name y py, i1, [], 0⟩] scope pos) 0 (.ref I) acc { cenv with scope := relabel scope env }) (RR acc cenv.locals) s₄) E s₃) E s₂ := by
  refine wpAny_newObj_type (block_env ?_)
  dsimp only
  generalize hH2 : s₂.heap.push { cls := .type "list", dict := none, data := .seq ([] : List Value).toArray } = H2
  have hC : H2.objs.size = s₂.heap.objs.size + 1 := by rw [← hH2, Heap.size_push]
  have ho₂ : ∀ a, s₂.heap.objs.size ≤ a → s₁.heap.get? a = none := fun a ha => by
    cases e : s₁.heap.get? a with
    | none => rfl
    | some o => exact absurd (Heap.lt_size (g₁.keep _ _ e)) (Nat.not_lt.mpr ha)
  generalize hD : s₂.heap.objs.size = D at hC ho₂
  have hDf : D ∉ fp := fun m => by have := natLt (wi.lt _ m); omega
  generalize hCdef : H2.objs.size = C at hC
  have kp : ∀ b o, s₂.heap.get? b = some o → (pushCells (H2.push { cls := .type "dict", data := .dict #[] }) scope.names).get? b = some o := fun b o e =>
    pushCells_keeps _ _ b o (Heap.get?_push_of_some _ (hH2 ▸ Heap.get?_push_of_some _ e))
  have hDC : D ≠ C := neNat (by omega)
  have b₀ : BlkAt scope cl C env x (pushCells (H2.push { cls := .type "dict", data := .dict #[] }) scope.names) := by
    have hs : (H2.push { cls := .type "dict", data := .dict #[] }).objs.size = C + 1 := by rw [Heap.size_push, hCdef]
    refine ⟨⟨_, (hCdef ▸ Heap.Ns.new H2 (.type "dict")).keeps (pushCells_keeps _ _)⟩, fun hx => ?_⟩
    obtain ⟨c', hc'⟩ := cellsFrom_own scope.names (C + 1) cl x (mem_of_lookup hx)
    obtain ⟨c'', e⟩ := lookup_some_of_mem hc'
    have hm := mem_of_lookup e
    rw [← hs] at hm
    rcases newCells _ _ _ _ hm with q | ⟨q1, q2⟩
    · have := nodup_snd B.nd (hcl _ _ q).1 (mem_of_lookup hx); cases this
    · exact ⟨c'', _, e, q1, by rw [hs] at q2; exact q2⟩
  have hl : ¬ scope.names.lookup x = some .local := by rw [hx]; decide
  have hCf : ∀ b ∈ fp, b ≠ C ∧ b ≠ tgtAt scope cl C env x ∧ b ≠ D := fun b m => by
    have l := natLt (wi.lt _ m)
    refine ⟨neNat (by omega), ?_, neNat (by omega)⟩
    unfold tgtAt
    rw [if_neg hl]
    obtain ⟨c', v, e, -, l'⟩ := b₀.cell hx
    have l' := natLt l'
    rw [e]; show @Ne Nat b c'; omega
  have hTD : tgtAt scope cl C env x ≠ D := by
    unfold tgtAt
    rw [if_neg hl]
    obtain ⟨c', v, e, -, l'⟩ := b₀.cell hx
    have l' := natLt l'
    rw [e]; show @Ne Nat c' D; omega
  have hT₁ : s₁.heap.get? (tgtAt scope cl C env x) = none := by
    unfold tgtAt
    rw [if_neg hl]
    obtain ⟨c', v, e, -, l'⟩ := b₀.cell hx
    have l' := natLt l'
    rw [e]; exact ho₂ _ (by show @LE.le Nat _ D c'; omega)
  have hD₁ := ho₂ D (Nat.le_refl _)
  have hC₁ := ho₂ C (by omega)
  have old1 : ∀ {b o}, s₁.heap.get? b = some o → b ≠ I ∧ b ≠ D ∧ b ≠ C ∧ b ≠ tgtAt scope cl C env x := fun {b o} e =>
    ⟨(by rintro rfl; rw [wi.new] at e; cases e), (by rintro rfl; rw [hD₁] at e; cases e), (by rintro rfl; rw [hC₁] at e; cases e), (by rintro rfl; rw [hT₁] at e; cases e)⟩
  have loop : ∀ s₃ : Shared, s₃ = { s₂ with heap := pushCells (H2.push { cls := .type "dict", data := .dict #[] }) scope.names } →
      codeAny (model PR w) A (.compLoop (.ListComp elt [⟨.Name x px, i0, [], 0⟩, ⟨.Name y py, i1, [], 0⟩] scope pos) 0 (.ref I) (.ref D) (blockEnv scope cl C env)) (RR (.ref D) C) s₃ := by
    rintro s₃ rfl
    have hIfp : I ∈ fp := wi.W.sub _ (List.mem_singleton.mpr rfl)
    have hDI : D ≠ I := by rintro rfl; exact hDf hIfp
    have hCI : C ≠ I := fun q => (hCf _ hIfp).1 q.symm
    have hTI : tgtAt scope cl C env x ≠ I := fun q => (hCf _ hIfp).2.1 q.symm
    refine loop_two0 (I := fun k s' => ∃ i zs n, i ≤ xs.length ∧ k = xs.length + 1 - i ∧ Grow s₁ s' ∧ St i s'.heap ∧ s'.heap.get? D = some (listObj zs n) ∧ VReps (I :: D :: own) s'.heap zs ((xs.take i).flatMap fun a => ys.map (f a)) ∧ BlkAt scope cl C env x s'.heap ∧ (∀ b ∈ fp, (s'.heap.get? b).isSome = true))
      (turn := ?turn) (n := xs.length + 1) (h := ?start) (hf := hf _)
    case start =>
      refine ⟨0, [], 0, Nat.zero_le _, rfl, g₁.trans (Grow.of (t := s₂.toks) kp (Nat.le_refl _)), wi.W.frame _ _ _ wi.st fun b _ o e => kp b o e, ?_, by simpa using VReps.nil, b₀, fun b m => ?_⟩
      · exact pushCells_keeps _ _ _ _ (Heap.get?_push_of_some _ (hH2 ▸ hD ▸ Heap.get?_push_size _ rfl))
      · obtain ⟨-, o, e, -⟩ := wi.off b m
        rw [kp _ _ e]; rfl
    case turn =>
      rintro k s' ⟨i, zs, n, hi, rfl, ⟨⟨h', t', rfl, k'⟩, l'⟩, st, hD', hys, b, hfs⟩
      dsimp only at st hD' hys b hfs
      have hxl : (xs.map inj).length = xs.length := by simp
      by_cases hlt : i < xs.length
      · refine grown (wi.W.item i _ _ _ (by rw [hxl]; exact hlt) st fun v h₁ tk₁ hPv st₁ hk₁ ht₁ => ?_)
        dsimp only at hk₁ ht₁ ⊢
        have ha := List.getElem?_eq_getElem hlt
        generalize hxa : xs[i] = a at ha
        have hmem : a ∈ xs := hxa ▸ List.getElem_mem hlt
        have k₁ : ∀ b o, s₁.heap.get? b = some o → h₁.get? b = some o := fun b o e => hk₁ b o (by simpa using (old1 e).1) (k' b o e)
        have r1 : VRep (I :: D :: own) h₁ v (inj a) := by
          obtain ⟨V', e2, r2⟩ := wi.item i v (by rw [hxl]; exact hlt) hPv s₁.heap (fun _ _ _ _ e => e)
          rw [List.getElem?_map, ha] at e2
          cases e2
          exact r2.move (fun b o _ _ e => k₁ b o e) (fun b hs ho hm => by
            rcases List.mem_cons.mp hm with rfl | hm
            · rw [wi.new] at hs; cases hs
            · rcases List.mem_cons.mp hm with rfl | hm
              · rw [hD₁] at hs; cases hs
              · exact ho hm)
        have b₁ : BlkAt scope cl C env x h₁ := b.keeps fun b' hb o e => hk₁ b' o (by
          rw [List.mem_singleton]
          rcases hb with rfl | rfl
          · exact hCI
          · exact hTI) e
        have hD₁' : h₁.get? D = some (listObj zs n) := hk₁ _ _ (by simpa using hDI) hD'
        refine store_block (s := { s₁ with heap := h₁, toks := tk₁ }) B.kind B.tgt b₁ r1 fun h₂ tk₂ hs₂ ht₂ b₂ l₂ => ?_
        dsimp only at hs₂ ht₂ ⊢
        have k₂ : ∀ b o, s₁.heap.get? b = some o → h₂.get? b = some o := fun b o e => (hs₂.2 b (old1 e).2.2.2).trans (k₁ b o e)
        have g₂ : Grow s₁ { s₁ with heap := h₂, toks := tk₂ } := Grow.of k₂ (Nat.le_trans l' (Nat.le_trans ht₁ ht₂))
        have hD₂ : h₂.get? D = some (listObj zs n) := (hs₂.2 D (Ne.symm hTD)).trans hD₁'
        have st₂ : St (i + 1) h₂ := wi.W.frame _ _ _ st₁ fun b hb o e => (hs₂.2 b (hCf b hb).2.1).trans e
        have ow₂ : Ow (I :: D :: own) h₂ := fun a m => by
          rcases List.mem_cons.mp m with rfl | m
          · obtain ⟨o, e, _⟩ := wi.ex _ _ st₂; exact ⟨o, e⟩
          · rcases List.mem_cons.mp m with rfl | m
            · exact ⟨_, hD₂⟩
            · exact (c.ow.keeps k₂) a m
        have hys₂ : VReps (I :: D :: own) h₂ zs ((xs.take i).flatMap fun a => ys.map (f a)) := hys.move (fun b' o iv hb e => by
            obtain ⟨ot, gt, nv⟩ := b₁.val B.tgt
            have e1 := hk₁ b' o (fun hm => hb (by rw [List.mem_singleton] at hm; subst hm; exact List.mem_cons_self)) e
            refine (hs₂.2 b' ?_).trans e1
            rintro rfl
            rw [gt] at e1; cases e1; exact nv iv) (fun _ _ z => z)
        have hfs₂ : ∀ b ∈ fp, (h₂.get? b).isSome = true := fun b m => by
          by_cases hbI : b = I
          · obtain ⟨o, e, -⟩ := wi.ex _ _ st₂
            rw [hbI, e]; rfl
          · obtain ⟨o, e⟩ := Option.isSome_iff_exists.mp (hfs b m)
            rw [(hs₂.2 b (hCf b m).2.1), hk₁ b o (by simpa using hbI) e]; rfl
        have cx := c.block (own' := I :: D :: own) B hcl hcl' g₂ ow₂ (fun b hs ho hm => by
            rcases List.mem_cons.mp hm with rfl | hm
            · rw [wi.new] at hs; cases hs
            · rcases List.mem_cons.mp hm with rfl | hm
              · rw [hD₁] at hs; cases hs
              · exact ho hm) l₂
        refine (hi1 a hmem _ _ _ cx).then (Grow.refl _) fun v2 s₄ g₄ r₄ => ?_
        have ht : ((xs.take (i + 1)).flatMap fun a => ys.map (f a)) = ((xs.take i).flatMap fun a => ys.map (f a)) ++ ys.map (f a) := by rw [List.take_add_one, ha]; simp
        have hkx : (blockEnv scope cl C env).kindOf x = some .cell := by
          show (relabel scope env).names.lookup x = _
          rw [lookup_relabel, hx]; rfl
        refine comp2_inner (s₁ := s₁) (C := C) (D := D) (I₀ := I) (P0 := fun h => St (i + 1) h ∧ ∀ b ∈ fp, (h.get? b).isSome = true) (fp₀ := fp) (zv := zs) (nz := n) hh a (f a) c B hx hy hcl hcl' hD₁ hC₁ wi.new hDC (Ne.symm hDI) (Ne.symm hCI) (fun h h' p k => ⟨wi.W.frame _ _ _ p.1 k, fun b m => by obtain ⟨o, e⟩ := Option.isSome_iff_exists.mp (p.2 b m); rw [k b m o e]; rfl⟩) (fun b m => ⟨(hCf b m).1, (hCf b m).2.2, ?_⟩)
          (g₂.trans g₄) ⟨wi.W.frame _ _ _ st₂ fun b _ o e => g₄.keep b o e, fun b m => by obtain ⟨o, e⟩ := Option.isSome_iff_exists.mp (hfs₂ b m); rw [g₄.keep _ _ e]; rfl⟩ (g₄.keep _ _ hD₂) (hys₂.keeps g₄.keep) (b₂.keeps fun b _ o e => g₄.keep b o e) (l₂.keeps g₄.keep) (ow₂.keeps g₄.keep) r₄ hit2 ?_ (fun bb hb => hbody a hmem bb hb) fun s₅ zv' nz' g₅ p₅ hD₅ hz₅ b₅ => ?_
        · obtain ⟨o, e⟩ := Option.isSome_iff_exists.mp (hfs₂ b m)
          rw [g₄.keep _ _ e]; rfl
        · have e1 : ((xs.take i).flatMap fun a => ys.map (f a)).length = i * ys.length := by
            rw [List.length_flatMap]
            simp only [List.length_map, List.map_const', List.sum_replicate_nat, List.length_take]
            rw [Nat.min_eq_left hi]
          rw [e1]
          have : (i + 1) * ys.length ≤ xs.length * ys.length := Nat.mul_le_mul_right _ hlt
          rw [Nat.add_mul, Nat.one_mul] at this
          omega
        · refine ⟨xs.length + 1 - (i + 1), by omega, i + 1, zv', nz', hlt, rfl, g₅, p₅.1, hD₅, by rw [ht]; exact hz₅, b₅, p₅.2⟩
      · have hin : i = xs.length := by omega
        subst hin
        refine grown (wi.W.done _ _ _ (by rw [hxl]; exact st) fun h₁ tk₁ hk₁ ht₁ => ?_)
        dsimp only at hk₁ ht₁ ⊢
        have k₁ : ∀ b o, s₁.heap.get? b = some o → h₁.get? b = some o := fun b o e => hk₁ b o (by simpa using (old1 e).1) (k' b o e)
        rw [List.take_length] at hys
        refine hRR D C _ zs n (Grow.of k₁ (Nat.le_trans l' ht₁)) hD₁ hC₁ hDC ?_ (hk₁ _ _ (by simpa using hDI) hD') ?_
        · exact (b.keeps (h' := h₁) fun b' hb o e => hk₁ b' o (by
            rw [List.mem_singleton]
            rcases hb with rfl | rfl
            · exact hCI
            · exact hTI) e).ns
        · exact hys.move (fun b o _ hb e => hk₁ b o (fun hm => hb (by rw [List.mem_singleton] at hm; subst hm; exact List.mem_cons_self)) e) (fun b _ hb hm => hb (List.mem_cons_of_mem _ (List.mem_cons_of_mem _ hm)))
  have l := loop _ rfl
  have hst : St 0 (pushCells (H2.push { cls := .type "dict", data := .dict #[] }) scope.names) := wi.W.frame _ _ _ wi.st fun b _ o e => kp b o e
  exact codeAny_compStart_list l (wi.W.self 0 _ _ _ hst l)

theorem Ev.comp2 {α β : Type} {inj : α → PV} {inj2 : β → PV} {xs : List α} {ys : List β} {S S2 : PV} {elt i0 i1 : Expr} {x y : Str} {px py : Pos} {scope : Scope} {pos : Pos} {ρ' : List (Str × PV)} (f : α → β → PV) (hh : A.handled = none)
    (hx : scope.names.lookup x = some .cell) (hy : scope.names.lookup y = some .local)
    (c : Cx w mg mb A env own ρ names s) (hi : Ev w A env own s i0 S) (hit : Its S (xs.map inj)) (hsz : xs.length * ys.length ≤ sizeLine) (B : Blk w mg mb A env ρ names scope ρ' x)
    (hi1 : ∀ a ∈ xs, ∀ own' s' env', Cx w mg mb A env' own' ((x, inj a) :: ρ') scope.names s' → Ev w A env' own' s' i1 S2) (hit2 : Its S2 (ys.map inj2))
    (hbody : ∀ a ∈ xs, ∀ b ∈ ys, ∀ own' s' env', Cx w mg mb A env' own' ((y, inj2 b) :: (x, inj a) :: ρ') scope.names s' → Ev w A env' own' s' elt (f a b))
    (hs : ∀ x, foldedSetIterable i0 env x = pure x := by intro _; rfl) (hf : ∀ env' x, foldedSetIterable i1 env' x = pure x := by intro _ _; rfl) :
    Ev w A env own s (.ListComp elt [⟨.Name x px, i0, [], 0⟩, ⟨.Name y py, i1, [], 0⟩] scope pos) (.list (xs.flatMap fun a => ys.map (f a))) := fun s' g E => by
  have c' := c.grow g
  obtain ⟨cl, hcl, h1, h2⟩ := closureFor_some (env := env) (scope := scope) fun n h => (c'.ck n (B.free n h)).2
  rw [eval_ListComp]
  refine wpAny_comprehension_free (use := none) rfl hs hcl B.kind (hnames_of B.nd) ?_
  refine hi.then g fun v s₁ g₁ r => ?_
  have c₁ := c'.grow g₁
  refine Itr.of hh c₁.ow r hit _ _ fun I fp P St s₂ g₂ wi => ?_
  refine comp2_block (RR := fun acc C => compPost (model PR w) A E none (fun v s'' => Grow s' s'' ∧ VRep own s''.heap v (.list (xs.flatMap fun a => ys.map (f a)))) acc C) f hh hx hy c₁ B wi g₂ hsz h1 h2 hi1 hit2 hbody hf ?_
  intro D C s₃ ys n g₃ hD hC hDC hn hl hys
  obtain ⟨m, hn⟩ := hn
  refine ⟨m, hn, fun h'' hs'' => ?_⟩
  have kk : ∀ b o, s₁.heap.get? b = some o → h''.get? b = some o := fun b o e => (hs''.2 b (by rintro rfl; rw [hC] at e; cases e)).trans (g₃.keep b o e)
  refine ⟨?_, ?_⟩
  · refine g₁.trans ?_
    obtain ⟨⟨h₃, t₃, rfl, k₃⟩, l₃⟩ := g₃
    exact Grow.of kk l₃
  · refine .list ((hs''.2 D hDC).trans hl) (c₁.ow.fresh hD) (hys.move (fun b o iv _ e => (hs''.2 b ?_).trans e) (fun _ _ z => z))
    rintro rfl
    obtain ⟨o', es, ep, g', d, -⟩ := hn
    rw [e] at g'; cases g'
    rcases iv with ⟨q1, q2, q3⟩ | ⟨q1, q2⟩ <;> rw [d] at * <;> contradiction
end

end Mine
end

-- Ev18
section
open PySem PySem.W PySem.Calls PyProof.Rows PyProof.V PySem.Spec PySem.Builtin.Str PySem.SeqAt
namespace Mine

local macro_rules | `(tactic| walk_at "mem") => `(tactic| first | exact List.mem_cons_self | (refine List.mem_cons_of_mem _ ?_; walk_at "mem"))
local macro_rules | `(tactic| walk_at "kind") => `(tactic| first | exact Or.inl (by decide +kernel) | exact Or.inr (by decide +kernel))
local macro_rules | `(tactic| walk_at "ne") => `(tactic| first | exact (fun _ h => absurd h List.not_mem_nil) | (refine List.forall_mem_cons.mpr ⟨by dsimp only; decide +kernel, ?_⟩; walk_at "ne"))
local macro_rules | `(tactic| walk_at "sub") => `(tactic| first | exact (fun _ h => absurd h List.not_mem_nil) | (refine List.forall_mem_cons.mpr ⟨⟨by walk_at "mem", by dsimp only; decide +kernel⟩, ?_⟩; walk_at "sub"))
local macro_rules | `(tactic| walk_at "subs") => `(tactic| first | exact (fun _ h => absurd h List.not_mem_nil) | (refine List.forall_mem_cons.mpr ⟨by walk_at "mem", ?_⟩; walk_at "subs"))
local macro_rules | `(tactic| walk_at "blk") => `(tactic| first | exact (fun _ h => absurd h List.not_mem_nil) | (refine List.forall_mem_cons.mpr ⟨⟨by walk_at "mem", by dsimp only; decide +kernel⟩, ?_⟩; walk_at "blk"))

section
variable {w : World} {mg mb : Str → Option Value} {A : Around} {env : Env} {own own₁ own₂ : List Addr} {ρ : List (Str × PV)} {names : List (Str × NameKind)} {s₀ : Base} {s : Shared} {os : Opens} {pn : List (Addr × Obj)} {ex : List Addr}

theorem Ev.neg {e : Expr} {i : Int} {pos : Pos} (h : Ev w A env own s e (.int i)) : Ev w A env own s (.UnaryOp .USub e pos) (.int (-i)) := fun s' g E => by
  refine PyProof.Rows.UnaryOp_ (h.then g fun v s₁ g₁ r => ?_)
  cases r
  exact PyProof.Rows.neg_int ⟨g₁.trans (Grow.tok (Nat.le_succ _)), .int⟩

theorem Frm.swaps {elt : Expr} {gens : List Comprehension} {scope : Scope} {pos py : Pos} {y : Str} {line : Nat} (F : Frm w mg mb A s₀ env own ex pn os ρ names s) (hy : names.lookup y = some .local) (hl : (py.line == pos.line) = true)
    (hn : (!(scope.names.any fun (n, k) => n == y && (k == .local || k == .cell))) = true) : swapsWith (.ListComp elt gens scope pos) (some (.Name y py)) line env = pure true := by
  have hb : (env.blockKind == .function) = true := by unfold Env.blockKind; rw [F.cx.fn]; rfl
  have hk : (env.kindOf y == some .local) = true := by rw [F.kd, hy]; rfl
  show (pure (env.blockKind == .function && env.kindOf y == some .local && py.line == pos.line && _) : Sem Bool) = _
  rw [hb, hk, hl, hn]; rfl
theorem Frm.swapsNot {elt : Expr} {gens : List Comprehension} {scope : Scope} {pos py : Pos} {y : Str} {line : Nat} (F : Frm w mg mb A s₀ env own ex pn os ρ names s) (hy : names.lookup y = some .cell) : swapsWith (.ListComp elt gens scope pos) (some (.Name y py)) line env = pure false := by
  have hk : (env.kindOf y == some .local) = false := by rw [F.kd, hy]; rfl
  show (pure (env.blockKind == .function && env.kindOf y == some .local && py.line == pos.line && _) : Sem Bool) = _
  rw [hk, Bool.and_false, Bool.false_and, Bool.false_and]
end

end Mine
end

-- W79
section
open PySem PySem.W PySem.Calls PyProof.Rows PyProof.V PySem.Spec PySem.Builtin.Str PySem.SeqAt
namespace Mine

local macro_rules | `(tactic| walk_at "mem") => `(tactic| first | exact List.mem_cons_self | (refine List.mem_cons_of_mem _ ?_; walk_at "mem"))
local macro_rules | `(tactic| walk_at "kind") => `(tactic| first | exact Or.inl (by decide +kernel) | exact Or.inr (by decide +kernel))
local macro_rules | `(tactic| walk_at "ne") => `(tactic| first | exact (fun _ h => absurd h List.not_mem_nil) | (refine List.forall_mem_cons.mpr ⟨by dsimp only; decide +kernel, ?_⟩; walk_at "ne"))
local macro_rules | `(tactic| walk_at "sub") => `(tactic| first | exact (fun _ h => absurd h List.not_mem_nil) | (refine List.forall_mem_cons.mpr ⟨⟨by walk_at "mem", by dsimp only; decide +kernel⟩, ?_⟩; walk_at "sub"))
local macro_rules | `(tactic| walk_at "subs") => `(tactic| first | exact (fun _ h => absurd h List.not_mem_nil) | (refine List.forall_mem_cons.mpr ⟨by walk_at "mem", ?_⟩; walk_at "subs"))
local macro_rules | `(tactic| walk_at "blk") => `(tactic| first | exact (fun _ h => absurd h List.not_mem_nil) | (refine List.forall_mem_cons.mpr ⟨⟨by walk_at "mem", by dsimp only; decide +kernel⟩, ?_⟩; walk_at "blk"))

noncomputable def pa (x : Str) : Str := escF esc6 x
noncomputable def pb (x : Str) : Str := escF esc3 x
noncomputable def pc (x : Str) : Str := escF esc4 x
noncomputable def pd (x : Str) : Str := escF esc2 x
noncomputable def pe (x : Str) : Str := escF esc5 x
noncomputable def pages (ts : List Str) : List Str := ts.map pa ++ ts.map pb ++ ts.map pc ++ ts.map pd ++ ts.map pe
noncomputable def bares : List Str := [Str.ofString ">=", Str.ofString "=", Str.ofString "<=", Str.ofString "\"=", Str.ofString "\"="]
noncomputable def sgnJ (bare t : Str) : Str := Txt.join Str.empty ((t.cps.toList.filter fun c => Txt.contains bare ⟨#[c]⟩).map fun c => ⟨#[c]⟩)
noncomputable def strk (x : Str) : Bool := PyData.strOk x
noncomputable def lastOff (x : Str) : Str := Txt.slice x none (some (-1))
/-- what is asked of one text -/
noncomputable def okT (t : Str) : Bool := decide (t.length ≤ 100) && escOk esc2 t && escOk esc3 t && escOk esc4 t && escOk esc5 t && escOk esc6 t && okF t && strk t && strk (lastOff t) &&
  decide ((pa t).length ≤ 1000) && decide ((pb t).length ≤ 1000) && decide ((pc t).length ≤ 1000) && decide ((pd t).length ≤ 1000) && decide ((pe t).length ≤ 1000) && bares.all fun b => strk (sgnJ b t)

noncomputable def cntI (l : List (List Int)) (k : Nat) : Nat := ((List.range 6).filter fun j => (l.getD j []).any (· == (k : Int))).length
noncomputable def both (l m : List (List Int)) (k : Nat) : List Int := ((List.range 6).filter fun j => (l.getD j []).any (· == (k : Int)) && (m.getD j []).any (· == (k : Int))).map fun (j : Nat) => (j : Int)
noncomputable def abv (ps : List Int) : List (List Int) := (List.range 6).map fun k => aboveF ps k
noncomputable def led (ps : List Int) : List (List Int) := (List.range 6).map fun k => ledF ps (aboveF ps k) k k

structure OkL (ts : List Str) (ps : List Int) : Prop where
  l6 : ts.length = 6
  p6 : ps.length = 6
  hps : ∀ k, k < 6 → 0 ≤ ps.getD k 0 ∧ ps.getD k 0 ≤ k
  tx : ∀ t ∈ ts, okT t = true
  a1 : aheadF (ts.map pb) = aheadF (ts.map pc)
  a2 : aheadF (ts.map pd) = aheadF (ts.map pe)
  ab : ∀ k, k < 6 → (aboveF ps k).length ≤ 100 ∧ ∀ a ∈ aboveF ps k, 0 ≤ a ∧ a < 6
  fr : ∀ k, k < 6 → frontsF (ts.getD k Str.empty) = (aboveF ps k).map fun j => lastOff (ts.getD j.toNat Str.empty)
  c1 : ∀ k, k < 6 → both (aheadF (ts.map pa)) (aheadF (ts.map pb)) k = aboveF ps k
  c2 : ∀ k, k < 6 → both (aheadF (ts.map pb)) (aheadF (ts.map pd)) k = ledF ps (aboveF ps k) k k
  n1 : ∀ k, k < 6 → (cntI (abv ps) k : Int) = ((aheadF (ts.map pa)).getD k []).length + ((aheadF (ts.map pb)).getD k []).length - 5 + (cntF (ts.getD k Str.empty)).1
  n2 : ∀ k, k < 6 → (cntI (led ps) k : Int) = ((aheadF (ts.map pb)).getD k []).length + ((aheadF (ts.map pd)).getD k []).length - 5 + (cntF (ts.getD k Str.empty)).1 + (cntF (ts.getD k Str.empty)).2
  un : (pages ts).map undF = bares.flatMap fun b => ts.map fun t => (t, sgnJ b t)

theorem aheadF_len (pg : List Str) : (aheadF pg).length = pg.length := by simp [aheadF]
theorem filt {α β : Type} (l : List α) (f : α → β) : ((l.filter fun _ => true).map f) = l.map f := by rw [List.filter_eq_self.mpr (fun _ _ => rfl)]
theorem filtm (l : List Str) (g : Str → Str) : ((l.filter fun _ => true).map fun t => PV.str (g t)) = (l.map g).map .str := by rw [filt, List.map_map]; rfl
theorem shpLL (l : List (List Int)) : Shp 2 (pvLL l) := Shp.list fun V h => by
  obtain ⟨r, -, rfl⟩ := List.mem_map.mp h
  exact Shp.ints r
noncomputable def pvT (p : Str × Str) : PV := .tup [.str p.1, .str p.2]

section
variable {w : World} {mg mb : Str → Option Value} {A : Around} {env : Env} {own own₁ own₂ : List Addr} {ρ : List (Str × PV)} {names : List (Str × NameKind)} {s₀ : Base} {s : Shared} {os : Opens} {pn : List (Addr × Obj)} {ex : List Addr}

theorem okT_parts {t : Str} (h : okT t = true) : t.length ≤ 100 ∧ escOk esc2 t = true ∧ escOk esc3 t = true ∧ escOk esc4 t = true ∧ escOk esc5 t = true ∧ escOk esc6 t = true ∧ okF t = true ∧ strk t = true ∧ strk (lastOff t) = true ∧
    (pa t).length ≤ 1000 ∧ (pb t).length ≤ 1000 ∧ (pc t).length ≤ 1000 ∧ (pd t).length ≤ 1000 ∧ (pe t).length ≤ 1000 ∧ ∀ b ∈ bares, strk (sgnJ b t) = true := by
  simp only [okT, Bool.and_eq_true, decide_eq_true_eq, List.all_eq_true] at h
  obtain ⟨⟨⟨⟨⟨⟨⟨⟨⟨⟨⟨⟨⟨⟨h1, h2⟩, h3⟩, h4⟩, h5⟩, h6⟩, h7⟩, h8⟩, h9⟩, ha⟩, hb⟩, hc⟩, hd⟩, he⟩, hf⟩ := h
  exact ⟨h1, h2, h3, h4, h5, h6, h7, h8, h9, ha, hb, hc, hd, he, hf⟩

set_option maxHeartbeats 16000000 in
set_option maxRecDepth 100000 in
theorem c_holds {ts : List Str} {ps : List Int} (H : OkL ts ps) : CtF w mg mb 79 3 [.list (ts.map .str), .list (ps.map .int)] (.bool true) := by
  have hsz : sizeLine = 16777216 := sizeLine_eq
  have hl6 := H.l6
  have hp6 := H.p6
  refine enter (k := 2) (by decide) (by decide +kernel) rfl fun A own s₀ env s hr F => ?_
  -- the pages
  refine Ex.assignComp (inj := .str) (xs := ts) (ρ'' := [(Str.ofString "texts", .list (ts.map .str)), (Str.ofString "ports", .list (ps.map .int))]) (ρ' := []) (fun _ => true) (fun t => .str (pa t)) hr.hh F (Ev.name F.cx (by walk_at "mem")) Its.list (by omega) (Blk.of (by decide +kernel) (by walk_at "blk"))
    (fun t ht own' s' env' c' => ⟨.nil, fun _ => Ev.call_def c' (Evs.cons (Ev.name c' (by walk_at "mem")) Evs.nil) (c_esc6 (okT_parts (H.tx t ht)).2.2.2.2.2.1) (hr.less (by decide)) rfl (by decide)⟩) (by decide +kernel) (by walk_at "ne") (by walk_at "sub") (fun s F => ?_) (F.swaps (by decide +kernel) (by decide) (by decide +kernel))
  rw [filtm] at F
  refine Ex.assignComp (inj := .str) (xs := ts) (ρ'' := [(Str.ofString "first", .list ((ts.map pa).map .str)), (Str.ofString "texts", .list (ts.map .str)), (Str.ofString "ports", .list (ps.map .int))]) (ρ' := []) (fun _ => true) (fun t => .str (pb t)) hr.hh F (Ev.name F.cx (by walk_at "mem")) Its.list (by omega) (Blk.of (by decide +kernel) (by walk_at "blk"))
    (fun t ht own' s' env' c' => ⟨.nil, fun _ => Ev.call_def c' (Evs.cons (Ev.name c' (by walk_at "mem")) Evs.nil) (c_esc3 (okT_parts (H.tx t ht)).2.2.1) (hr.less (by decide)) rfl (by decide)⟩) (by decide +kernel) (by walk_at "ne") (by walk_at "sub") (fun s F => ?_) (F.swaps (by decide +kernel) (by decide) (by decide +kernel))
  rw [filtm] at F
  refine Ex.assignComp (inj := .str) (xs := ts) (ρ'' := [(Str.ofString "second", .list ((ts.map pb).map .str)), (Str.ofString "first", .list ((ts.map pa).map .str)), (Str.ofString "texts", .list (ts.map .str)), (Str.ofString "ports", .list (ps.map .int))]) (ρ' := []) (fun _ => true) (fun t => .str (pc t)) hr.hh F (Ev.name F.cx (by walk_at "mem")) Its.list (by omega) (Blk.of (by decide +kernel) (by walk_at "blk"))
    (fun t ht own' s' env' c' => ⟨.nil, fun _ => Ev.call_def c' (Evs.cons (Ev.name c' (by walk_at "mem")) Evs.nil) (c_esc4 (okT_parts (H.tx t ht)).2.2.2.1) (hr.less (by decide)) rfl (by decide)⟩) (by decide +kernel) (by walk_at "ne") (by walk_at "sub") (fun s F => ?_) (F.swaps (by decide +kernel) (by decide) (by decide +kernel))
  rw [filtm] at F
  refine Ex.assignComp (inj := .str) (xs := ts) (ρ'' := [(Str.ofString "alike", .list ((ts.map pc).map .str)), (Str.ofString "second", .list ((ts.map pb).map .str)), (Str.ofString "first", .list ((ts.map pa).map .str)), (Str.ofString "texts", .list (ts.map .str)), (Str.ofString "ports", .list (ps.map .int))]) (ρ' := []) (fun _ => true) (fun t => .str (pd t)) hr.hh F (Ev.name F.cx (by walk_at "mem")) Its.list (by omega) (Blk.of (by decide +kernel) (by walk_at "blk"))
    (fun t ht own' s' env' c' => ⟨.nil, fun _ => Ev.call_def c' (Evs.cons (Ev.name c' (by walk_at "mem")) Evs.nil) (c_esc2 (okT_parts (H.tx t ht)).2.1) (hr.less (by decide)) rfl (by decide)⟩) (by decide +kernel) (by walk_at "ne") (by walk_at "sub") (fun s F => ?_) (F.swaps (by decide +kernel) (by decide) (by decide +kernel))
  rw [filtm] at F
  refine Ex.assignComp (inj := .str) (xs := ts) (ρ'' := [(Str.ofString "third", .list ((ts.map pd).map .str)), (Str.ofString "alike", .list ((ts.map pc).map .str)), (Str.ofString "second", .list ((ts.map pb).map .str)), (Str.ofString "first", .list ((ts.map pa).map .str)), (Str.ofString "texts", .list (ts.map .str)), (Str.ofString "ports", .list (ps.map .int))]) (ρ' := []) (fun _ => true) (fun t => .str (pe t)) hr.hh F (Ev.name F.cx (by walk_at "mem")) Its.list (by omega) (Blk.of (by decide +kernel) (by walk_at "blk"))
    (fun t ht own' s' env' c' => ⟨.nil, fun _ => Ev.call_def c' (Evs.cons (Ev.name c' (by walk_at "mem")) Evs.nil) (c_esc5 (okT_parts (H.tx t ht)).2.2.2.2.1) (hr.less (by decide)) rfl (by decide)⟩) (by decide +kernel) (by walk_at "ne") (by walk_at "sub") (fun s F => ?_) (F.swaps (by decide +kernel) (by decide) (by decide +kernel))
  rw [filtm] at F
  refine Ex.assign (V := pvLL (aheadF (ts.map pa))) (ρ' := [(Str.ofString "equal", .list ((ts.map pe).map .str)), (Str.ofString "third", .list ((ts.map pd).map .str)), (Str.ofString "alike", .list ((ts.map pc).map .str)), (Str.ofString "second", .list ((ts.map pb).map .str)), (Str.ofString "first", .list ((ts.map pa).map .str)), (Str.ofString "texts", .list (ts.map .str)), (Str.ofString "ports", .list (ps.map .int))]) F (Ev.call_def F.cx (Evs.cons (Ev.name F.cx (by walk_at "mem")) Evs.nil) (c_ahead (by simp; omega)) (hr.less (by decide)) rfl (by decide)) (by walk_at "kind") (by walk_at "ne") (by walk_at "sub") fun s F => ?_
  refine Ex.assign (V := pvLL (aheadF (ts.map pb))) (ρ' := [(Str.ofString "inner", pvLL (aheadF (ts.map pa))), (Str.ofString "equal", .list ((ts.map pe).map .str)), (Str.ofString "third", .list ((ts.map pd).map .str)), (Str.ofString "alike", .list ((ts.map pc).map .str)), (Str.ofString "second", .list ((ts.map pb).map .str)), (Str.ofString "first", .list ((ts.map pa).map .str)), (Str.ofString "texts", .list (ts.map .str)), (Str.ofString "ports", .list (ps.map .int))]) F (Ev.call_def F.cx (Evs.cons (Ev.name F.cx (by walk_at "mem")) Evs.nil) (c_ahead (by simp; omega)) (hr.less (by decide)) rfl (by decide)) (by walk_at "kind") (by walk_at "ne") (by walk_at "sub") fun s F => ?_
  refine Ex.assign (V := pvLL (aheadF (ts.map pd))) (ρ' := [(Str.ofString "outer", pvLL (aheadF (ts.map pb))), (Str.ofString "inner", pvLL (aheadF (ts.map pa))), (Str.ofString "equal", .list ((ts.map pe).map .str)), (Str.ofString "third", .list ((ts.map pd).map .str)), (Str.ofString "alike", .list ((ts.map pc).map .str)), (Str.ofString "second", .list ((ts.map pb).map .str)), (Str.ofString "first", .list ((ts.map pa).map .str)), (Str.ofString "texts", .list (ts.map .str)), (Str.ofString "ports", .list (ps.map .int))]) F (Ev.call_def F.cx (Evs.cons (Ev.name F.cx (by walk_at "mem")) Evs.nil) (c_ahead (by simp; omega)) (hr.less (by decide)) rfl (by decide)) (by walk_at "kind") (by walk_at "ne") (by walk_at "sub") fun s F => ?_
  refine Ex.skip (Et.cmp (Ev.name F.cx (by walk_at "mem")) ((Ev.call_def F.cx (Evs.cons (V := .list ((ts.map pc).map .str)) (Ev.name F.cx (by walk_at "mem")) Evs.nil) (c_ahead (by simp; omega)) (hr.less (by decide)) rfl (by decide)).cast (by rw [← H.a1])) (Ec.ne_self (V := pvLL (aheadF (ts.map pb))) (hr.less (by decide)) (shpLL _))) fun s' g => ?_
  replace F := F.grow g
  clear g
  refine Ex.skip (Et.cmp (Ev.name F.cx (by walk_at "mem")) ((Ev.call_def F.cx (Evs.cons (V := .list ((ts.map pe).map .str)) (Ev.name F.cx (by walk_at "mem")) Evs.nil) (c_ahead (by simp; omega)) (hr.less (by decide)) rfl (by decide)).cast (by rw [← H.a2])) (Ec.ne_self (V := pvLL (aheadF (ts.map pd))) (hr.less (by decide)) (shpLL _))) fun s' g => ?_
  replace F := F.grow g
  clear g
  refine Ex.assign (V := .rng 0 (6 : Nat) 1) (ρ' := [(Str.ofString "later", pvLL (aheadF (ts.map pd))), (Str.ofString "outer", pvLL (aheadF (ts.map pb))), (Str.ofString "inner", pvLL (aheadF (ts.map pa))), (Str.ofString "equal", .list ((ts.map pe).map .str)), (Str.ofString "third", .list ((ts.map pd).map .str)), (Str.ofString "alike", .list ((ts.map pc).map .str)), (Str.ofString "second", .list ((ts.map pb).map .str)), (Str.ofString "first", .list ((ts.map pa).map .str)), (Str.ofString "texts", .list (ts.map .str)), (Str.ofString "ports", .list (ps.map .int))]) F ((Ev.range1 F.cx (Ev.lenL F.cx (Ev.name F.cx (by walk_at "mem")) (by simp; omega))).cast (by simp [hl6])) (by walk_at "kind") (by walk_at "ne") (by walk_at "sub") fun s F => ?_
  refine Ex.assign (V := pvLL (abv ps)) (ρ' := [(Str.ofString "places", .rng 0 (6 : Nat) 1), (Str.ofString "later", pvLL (aheadF (ts.map pd))), (Str.ofString "outer", pvLL (aheadF (ts.map pb))), (Str.ofString "inner", pvLL (aheadF (ts.map pa))), (Str.ofString "equal", .list ((ts.map pe).map .str)), (Str.ofString "third", .list ((ts.map pd).map .str)), (Str.ofString "alike", .list ((ts.map pc).map .str)), (Str.ofString "second", .list ((ts.map pb).map .str)), (Str.ofString "first", .list ((ts.map pa).map .str)), (Str.ofString "texts", .list (ts.map .str)), (Str.ofString "ports", .list (ps.map .int))]) F ((Ev.comp (α := Nat) (inj := fun k => .int k) (xs := List.range 6) (S := .rng 0 (6 : Nat) 1) (fun _ => true) (fun k => .list ((aboveF ps k).map .int)) hr.hh F.cx (ρ' := [(Str.ofString "ports", .list (ps.map .int))]) (Ev.name F.cx (by walk_at "mem")) (Its.rangeN (by omega)) (by simp; omega) (Blk.of (by decide +kernel) (by walk_at "blk")) (fun k hk own' s' env' c' => ⟨.nil, fun _ =>
      Ev.call_def c' (Evs.cons (Ev.name c' (by walk_at "mem")) (Evs.cons (Ev.name c' (by walk_at "mem")) Evs.nil)) (c_above (by have := List.mem_range.mp hk; omega) (by omega) (by rw [hp6]; exact H.hps)) hr rfl (by decide)⟩)).cast (by rw [filt]; simp [pvLL, abv, Function.comp_def])) (by walk_at "kind") (by walk_at "ne") (by walk_at "sub") (fun s F => ?_) (F.swapsNot (by decide +kernel))
  have habk : ∀ k : Nat, k < 6 → ((abv ps).map fun r => PV.list (r.map .int))[((k : Int)).toNat]? = some (.list ((aboveF ps k).map .int)) := fun k hk => by
    rw [Int.toNat_natCast, abv, List.map_map, List.getElem?_map, List.getElem?_range hk]; rfl
  refine Ex.assign (V := pvLL (led ps)) (ρ' := [(Str.ofString "above", pvLL (abv ps)), (Str.ofString "places", .rng 0 (6 : Nat) 1), (Str.ofString "later", pvLL (aheadF (ts.map pd))), (Str.ofString "outer", pvLL (aheadF (ts.map pb))), (Str.ofString "inner", pvLL (aheadF (ts.map pa))), (Str.ofString "equal", .list ((ts.map pe).map .str)), (Str.ofString "third", .list ((ts.map pd).map .str)), (Str.ofString "alike", .list ((ts.map pc).map .str)), (Str.ofString "second", .list ((ts.map pb).map .str)), (Str.ofString "first", .list ((ts.map pa).map .str)), (Str.ofString "texts", .list (ts.map .str)), (Str.ofString "ports", .list (ps.map .int))]) F ((Ev.comp (α := Nat) (inj := fun k => .int k) (xs := List.range 6) (S := .rng 0 (6 : Nat) 1) (fun _ => true) (fun k => .list ((ledF ps (aboveF ps k) k k).map .int)) hr.hh F.cx (ρ' := [(Str.ofString "above", pvLL (abv ps)), (Str.ofString "ports", .list (ps.map .int))]) (Ev.name F.cx (by walk_at "mem")) (Its.rangeN (by omega)) (by simp; omega) (Blk.of (by decide +kernel) (by walk_at "blk")) (fun k hk own' s' env' c' => ⟨.nil, fun _ =>
      Ev.call_def c' (Evs.cons (Ev.name c' (by walk_at "mem")) (Evs.cons (Ev.item (l := (abv ps).map fun r => PV.list (r.map .int)) (Ev.name c' (by walk_at "mem")) (Ev.name c' (by walk_at "mem")) (by omega) (by have := List.mem_range.mp hk; omega) (habk k (List.mem_range.mp hk))) (Evs.cons (Ev.name c' (by walk_at "mem")) Evs.nil))) (c_leading (by have := List.mem_range.mp hk; omega) (by omega) (H.ab k (List.mem_range.mp hk)).1 (by rw [hp6]; exact (H.ab k (List.mem_range.mp hk)).2)) (hr.less (by decide)) rfl (by decide)⟩)).cast (by rw [filt]; simp [pvLL, led, Function.comp_def])) (by walk_at "kind") (by walk_at "ne") (by walk_at "sub") (fun s F => ?_) (F.swapsNot (by decide +kernel))
  have hledk : ∀ k : Nat, k < 6 → ((led ps).map fun r => PV.list (r.map .int))[((k : Int)).toNat]? = some (.list ((ledF ps (aboveF ps k) k k).map .int)) := fun k hk => by
    rw [Int.toNat_natCast, led, List.map_map, List.getElem?_map, List.getElem?_range hk]; rfl
  have hah : ∀ (g : Str → Str) (k : Nat), k < 6 → ((aheadF (ts.map g)).map fun r => PV.list (r.map .int))[((k : Int)).toNat]? = some (.list (((aheadF (ts.map g)).getD k []).map .int)) := fun g k hk => by
    rw [Int.toNat_natCast]; exact map_at (l := aheadF (ts.map g)) (i := k) (fun r => PV.list (r.map .int)) [] (by rw [aheadF_len]; simp; omega)
  refine Ex.forIn (S := .rng 0 (6 : Nat) 1) (its := (List.range 6).map fun (i : Nat) => .int i) (osI := fun i => []) (ρI := fun _ => [(Str.ofString "leading", pvLL (led ps)), (Str.ofString "above", pvLL (abv ps)), (Str.ofString "places", .rng 0 (6 : Nat) 1), (Str.ofString "later", pvLL (aheadF (ts.map pd))), (Str.ofString "outer", pvLL (aheadF (ts.map pb))), (Str.ofString "inner", pvLL (aheadF (ts.map pa))), (Str.ofString "equal", .list ((ts.map pe).map .str)), (Str.ofString "third", .list ((ts.map pd).map .str)), (Str.ofString "alike", .list ((ts.map pc).map .str)), (Str.ofString "second", .list ((ts.map pb).map .str)), (Str.ofString "first", .list ((ts.map pa).map .str)), (Str.ofString "texts", .list (ts.map .str)), (Str.ofString "ports", .list (ps.map .int))])
    hr.hh F (fun _ => rfl) (Ev.name F.cx (by walk_at "mem")) (Its.rangeN (by omega)) (by simp [PV.flat]) (by walk_at "kind") (fun _ => by walk_at "ne") (fun _ => by walk_at "ne") ?_ ?_
  · intro k V hk ex pn s F
    obtain ⟨hk6, rfl⟩ := idx_range hk
    have htk := okT_parts (H.tx _ (atD (l := ts) (d := Str.empty) (k := k) (by omega)))
    have htx : ∀ {own' s' env' ρ' nms}, Cx w mg mb A env' own' ρ' nms s' → (Str.ofString "texts", PV.list (ts.map .str)) ∈ ρ' → (Str.ofString "k", PV.int k) ∈ ρ' → ∀ {p p1 p2}, Ev w A env' own' s' (.Subscript (.Name (Str.ofString "texts") p) (.Name (Str.ofString "k") p1) p2) (.str (ts.getD k Str.empty)) := fun c h1 h2 => by
      intros
      exact Ev.itemF (Ev.name c h1) (Ev.name c h2) (by omega) (by omega) (map_at (l := ts) (i := k) PV.str Str.empty (by omega)) rfl
    refine Ex.unpack2 (U := .int (cntF (ts.getD k Str.empty)).1) (V := .int (cntF (ts.getD k Str.empty)).2) (ρ' := [(Str.ofString "k", .int k), (Str.ofString "leading", pvLL (led ps)), (Str.ofString "above", pvLL (abv ps)), (Str.ofString "places", .rng 0 (6 : Nat) 1), (Str.ofString "later", pvLL (aheadF (ts.map pd))), (Str.ofString "outer", pvLL (aheadF (ts.map pb))), (Str.ofString "inner", pvLL (aheadF (ts.map pa))), (Str.ofString "equal", .list ((ts.map pe).map .str)), (Str.ofString "third", .list ((ts.map pd).map .str)), (Str.ofString "alike", .list ((ts.map pc).map .str)), (Str.ofString "second", .list ((ts.map pb).map .str)), (Str.ofString "first", .list ((ts.map pa).map .str)), (Str.ofString "texts", .list (ts.map .str)), (Str.ofString "ports", .list (ps.map .int))]) hr.hh F (Ev.call_def F.cx (Evs.cons (htx F.cx (by walk_at "mem") (by walk_at "mem")) Evs.nil) (c_counts htk.1) hr rfl (by decide)) (by walk_at "kind") (by walk_at "kind") (by decide +kernel) (by walk_at "ne") (by walk_at "ne") (by walk_at "sub") (by walk_at "ne") fun s F => ?_
    -- the fronts
    have hsl : ∀ j ∈ aboveF ps k, ∃ t ∈ ts, ts.getD j.toNat Str.empty = t := fun j hj => ⟨_, atD (l := ts) (d := Str.empty) (k := j.toNat) (by have := (H.ab k hk6).2 j hj; omega), rfl⟩
    refine Ex.skip (Et.cmp (Ev.call_def F.cx (Evs.cons (htx F.cx (by walk_at "mem") (by walk_at "mem")) Evs.nil) (c_fronts htk.2.2.2.2.2.2.1) hr rfl (by decide))
      ((Ev.comp (inj := .int) (xs := aboveF ps k) (S := .list ((aboveF ps k).map .int)) (fun _ => true) (fun j => .str (lastOff (ts.getD j.toNat Str.empty))) hr.hh F.cx (ρ' := [(Str.ofString "texts", .list (ts.map .str))]) (Ev.item (l := (abv ps).map fun r => PV.list (r.map .int)) (Ev.name F.cx (by walk_at "mem")) (Ev.name F.cx (by walk_at "mem")) (by omega) (by omega) (habk k hk6)) Its.list (by have := (H.ab k hk6).1; omega) (Blk.of (by decide +kernel) (by walk_at "blk"))
        (fun j hj own' s' env' c' => ⟨.nil, fun _ => by
          have hj' := (H.ab k hk6).2 j hj
          exact Ev.sliceS (Ev.itemF (V := .str (ts.getD j.toNat Str.empty)) (Ev.name c' (by walk_at "mem")) (Ev.name c' (by walk_at "mem")) (by omega) (by omega) (map_at (l := ts) PV.str Str.empty (by omega)) rfl) .none (.some (Ev.neg Ev.ci)) (by
            obtain ⟨t, ht, e⟩ := hsl j hj
            rw [e]; have := (okT_parts (H.tx t ht)).1; omega)⟩)).cast (V' := .list ((frontsF (ts.getD k Str.empty)).map .str)) (by rw [filt, H.fr k hk6, List.map_map]; rfl)) (Ec.ne_self (n := 1) (hr.less (by decide)) (Shp.list fun V hV => ?_))) fun s' g => ?_
    · rw [H.fr k hk6, List.map_map] at hV
      obtain ⟨j, hj, rfl⟩ := List.mem_map.mp hV
      obtain ⟨t, ht, e⟩ := hsl j hj
      exact Shp.str (by show strk (lastOff (ts.getD j.toNat Str.empty)) = true; rw [e]; exact (okT_parts (H.tx t ht)).2.2.2.2.2.2.2.2.1)
    replace F := F.grow g
    clear g
    refine Ex.skip (Et.cmp ((Ev.comp (α := Nat) (inj := fun j => .int j) (xs := List.range 6) (S := .rng 0 (6 : Nat) 1) (fun j => ((aheadF (ts.map pa)).getD j []).any (· == (k : Int)) && ((aheadF (ts.map pb)).getD j []).any (· == (k : Int))) (fun j => .int j) hr.hh F.cx (ρ' := [(Str.ofString "inner", pvLL (aheadF (ts.map pa))), (Str.ofString "outer", pvLL (aheadF (ts.map pb))), (Str.ofString "k", .int k)]) (Ev.name F.cx (by walk_at "mem")) (Its.rangeN (by omega)) (by simp; omega) (Blk.of (by decide +kernel) (by walk_at "blk"))
        (fun j hj own' s' env' c' => ⟨.one (Et.and (Et.cmp (Ev.name c' (by walk_at "mem")) (Ev.item (l := (aheadF (ts.map pa)).map fun r => PV.list (r.map .int)) (Ev.name c' (by walk_at "mem")) (Ev.name c' (by walk_at "mem")) (by omega) (by have := List.mem_range.mp hj; omega) (hah pa j (List.mem_range.mp hj))) Ec.in_ints) fun _ => Et.cmp (Ev.name c' (by walk_at "mem")) (Ev.item (l := (aheadF (ts.map pb)).map fun r => PV.list (r.map .int)) (Ev.name c' (by walk_at "mem")) (Ev.name c' (by walk_at "mem")) (by omega) (by have := List.mem_range.mp hj; omega) (hah pb j (List.mem_range.mp hj))) Ec.in_ints), fun _ => Ev.name c' (by walk_at "mem")⟩)).cast (V' := .list ((aboveF ps k).map .int)) (by rw [← H.c1 k hk6, both, List.map_map]; rfl))
      (Ev.item (l := (abv ps).map fun r => PV.list (r.map .int)) (Ev.name F.cx (by walk_at "mem")) (Ev.name F.cx (by walk_at "mem")) (by omega) (by omega) (habk k hk6)) (Ec.ne_self (n := 1) (hr.less (by decide)) (Shp.ints _))) fun s' g => ?_
    replace F := F.grow g
    clear g
    refine Ex.skip (Et.cmp ((Ev.comp (α := Nat) (inj := fun j => .int j) (xs := List.range 6) (S := .rng 0 (6 : Nat) 1) (fun j => ((aheadF (ts.map pb)).getD j []).any (· == (k : Int)) && ((aheadF (ts.map pd)).getD j []).any (· == (k : Int))) (fun j => .int j) hr.hh F.cx (ρ' := [(Str.ofString "outer", pvLL (aheadF (ts.map pb))), (Str.ofString "later", pvLL (aheadF (ts.map pd))), (Str.ofString "k", .int k)]) (Ev.name F.cx (by walk_at "mem")) (Its.rangeN (by omega)) (by simp; omega) (Blk.of (by decide +kernel) (by walk_at "blk"))
        (fun j hj own' s' env' c' => ⟨.one (Et.and (Et.cmp (Ev.name c' (by walk_at "mem")) (Ev.item (l := (aheadF (ts.map pb)).map fun r => PV.list (r.map .int)) (Ev.name c' (by walk_at "mem")) (Ev.name c' (by walk_at "mem")) (by omega) (by have := List.mem_range.mp hj; omega) (hah pb j (List.mem_range.mp hj))) Ec.in_ints) fun _ => Et.cmp (Ev.name c' (by walk_at "mem")) (Ev.item (l := (aheadF (ts.map pd)).map fun r => PV.list (r.map .int)) (Ev.name c' (by walk_at "mem")) (Ev.name c' (by walk_at "mem")) (by omega) (by have := List.mem_range.mp hj; omega) (hah pd j (List.mem_range.mp hj))) Ec.in_ints), fun _ => Ev.name c' (by walk_at "mem")⟩)).cast (V' := .list ((ledF ps (aboveF ps k) k k).map .int)) (by rw [← H.c2 k hk6, both, List.map_map]; rfl))
      (Ev.item (l := (led ps).map fun r => PV.list (r.map .int)) (Ev.name F.cx (by walk_at "mem")) (Ev.name F.cx (by walk_at "mem")) (by omega) (by omega) (hledk k hk6)) (Ec.ne_self (n := 1) (hr.less (by decide)) (Shp.ints _))) fun s' g => ?_
    replace F := F.grow g
    clear g
    have hal : ∀ (g : Str → Str) k, ((aheadF (ts.map g)).getD k []).length ≤ 16777216 := fun g k => by
      by_cases hk : k < (aheadF (ts.map g)).length
      · have := atD (l := aheadF (ts.map g)) (d := []) hk
        generalize (aheadF (ts.map g)).getD k [] = r at this
        rw [aheadF] at this
        obtain ⟨pg, -, e⟩ := List.mem_map.mp this
        rw [← e, List.length_map]
        exact Nat.le_trans (List.length_filter_le _ _) (by simp; omega)
      · simp [List.getD, List.getElem?_eq_none (Nat.le_of_not_lt hk)]
    have habg : ∀ j : Nat, j < 6 → ((abv ps).map fun r => PV.list (r.map .int))[((j : Int)).toNat]? = some (.list (((abv ps).getD j []).map .int)) := fun j hj => by
      rw [Int.toNat_natCast]; exact map_at (l := abv ps) (i := j) (fun r => PV.list (r.map .int)) [] (by simp [abv]; omega)
    have hlg : ∀ j : Nat, j < 6 → ((led ps).map fun r => PV.list (r.map .int))[((j : Int)).toNat]? = some (.list (((led ps).getD j []).map .int)) := fun j hj => by
      rw [Int.toNat_natCast]; exact map_at (l := led ps) (i := j) (fun r => PV.list (r.map .int)) [] (by simp [led]; omega)
    refine Ex.skip ((Et.cmp (Ev.lenL F.cx (Ev.comp (α := Nat) (inj := fun j => .int j) (xs := List.range 6) (S := .rng 0 (6 : Nat) 1) (fun j => ((abv ps).getD j []).any (· == (k : Int))) (fun j => .int j) hr.hh F.cx (ρ' := [(Str.ofString "above", pvLL (abv ps)), (Str.ofString "k", .int k)]) (Ev.name F.cx (by walk_at "mem")) (Its.rangeN (by omega)) (by simp; omega) (Blk.of (by decide +kernel) (by walk_at "blk"))
        (fun j hj own' s' env' c' => ⟨.one (Et.cmp (Ev.name c' (by walk_at "mem")) (Ev.item (l := (abv ps).map fun r => PV.list (r.map .int)) (Ev.name c' (by walk_at "mem")) (Ev.name c' (by walk_at "mem")) (by omega) (by have := List.mem_range.mp hj; omega) (habg j (List.mem_range.mp hj))) Ec.in_ints), fun _ => Ev.name c' (by walk_at "mem")⟩)) (Nat.le_trans (m := 6) (by rw [List.length_map]; exact Nat.le_trans (List.length_filter_le _ _) (by simp)) (by omega)))
      (Ev.add (Ev.sub (Ev.add (Ev.lenL F.cx (Ev.item (l := (aheadF (ts.map pa)).map fun r => PV.list (r.map .int)) (Ev.name F.cx (by walk_at "mem")) (Ev.name F.cx (by walk_at "mem")) (by omega) (by omega) (hah pa k hk6)) (by simpa using hal pa k)) (Ev.lenL F.cx (Ev.item (l := (aheadF (ts.map pb)).map fun r => PV.list (r.map .int)) (Ev.name F.cx (by walk_at "mem")) (Ev.name F.cx (by walk_at "mem")) (by omega) (by omega) (hah pb k hk6)) (by simpa using hal pb k))) Ev.cint) (Ev.name F.cx (by walk_at "mem"))) Ec.ne_int).cast (by rw [List.length_map, List.length_map, List.length_map]; show (((cntI (abv ps) k : Nat) : Int) != _) = false; rw [H.n1 k hk6]; simp)) fun s' g => ?_
    replace F := F.grow g
    clear g
    refine Ex.skip ((Et.cmp (Ev.lenL F.cx (Ev.comp (α := Nat) (inj := fun j => .int j) (xs := List.range 6) (S := .rng 0 (6 : Nat) 1) (fun j => ((led ps).getD j []).any (· == (k : Int))) (fun j => .int j) hr.hh F.cx (ρ' := [(Str.ofString "leading", pvLL (led ps)), (Str.ofString "k", .int k)]) (Ev.name F.cx (by walk_at "mem")) (Its.rangeN (by omega)) (by simp; omega) (Blk.of (by decide +kernel) (by walk_at "blk"))
        (fun j hj own' s' env' c' => ⟨.one (Et.cmp (Ev.name c' (by walk_at "mem")) (Ev.item (l := (led ps).map fun r => PV.list (r.map .int)) (Ev.name c' (by walk_at "mem")) (Ev.name c' (by walk_at "mem")) (by omega) (by have := List.mem_range.mp hj; omega) (hlg j (List.mem_range.mp hj))) Ec.in_ints), fun _ => Ev.name c' (by walk_at "mem")⟩)) (Nat.le_trans (m := 6) (by rw [List.length_map]; exact Nat.le_trans (List.length_filter_le _ _) (by simp)) (by omega)))
      (Ev.add (Ev.add (Ev.sub (Ev.add (Ev.lenL F.cx (Ev.item (l := (aheadF (ts.map pb)).map fun r => PV.list (r.map .int)) (Ev.name F.cx (by walk_at "mem")) (Ev.name F.cx (by walk_at "mem")) (by omega) (by omega) (hah pb k hk6)) (by simpa using hal pb k)) (Ev.lenL F.cx (Ev.item (l := (aheadF (ts.map pd)).map fun r => PV.list (r.map .int)) (Ev.name F.cx (by walk_at "mem")) (Ev.name F.cx (by walk_at "mem")) (by omega) (by omega) (hah pd k hk6)) (by simpa using hal pd k))) Ev.cint) (Ev.name F.cx (by walk_at "mem"))) (Ev.name F.cx (by walk_at "mem"))) Ec.ne_int).cast (by rw [List.length_map, List.length_map, List.length_map]; show (((cntI (led ps) k : Nat) : Int) != _) = false; rw [H.n2 k hk6]; simp)) fun s' g => ?_
    replace F := F.grow g
    clear g
    exact Ex.nil ⟨rfl, F.sub (by walk_at "subs")⟩
  · intro s F
    have hpg : ∀ pg ∈ pages ts, pg.length ≤ 1000 := fun pg h => by
      simp only [pages, List.mem_append, List.mem_map] at h
      rcases h with (((⟨t, ht, rfl⟩ | ⟨t, ht, rfl⟩) | ⟨t, ht, rfl⟩) | ⟨t, ht, rfl⟩) | ⟨t, ht, rfl⟩
      · exact (okT_parts (H.tx t ht)).2.2.2.2.2.2.2.2.2.1
      · exact (okT_parts (H.tx t ht)).2.2.2.2.2.2.2.2.2.2.1
      · exact (okT_parts (H.tx t ht)).2.2.2.2.2.2.2.2.2.2.2.1
      · exact (okT_parts (H.tx t ht)).2.2.2.2.2.2.2.2.2.2.2.2.1
      · exact (okT_parts (H.tx t ht)).2.2.2.2.2.2.2.2.2.2.2.2.2.1
    have hbt : ∀ b ∈ bares, ∀ t ∈ ts, strk t = true ∧ strk (sgnJ b t) = true := fun b hb t ht => ⟨(okT_parts (H.tx t ht)).2.2.2.2.2.2.2.1, (okT_parts (H.tx t ht)).2.2.2.2.2.2.2.2.2.2.2.2.2.2 b hb⟩
    have hun : (pages ts).map (fun pg => pvT (undF pg)) = bares.flatMap fun b => ts.map fun t => pvT (t, sgnJ b t) := by
      have := congrArg (List.map pvT) H.un
      rw [List.map_map, List.map_flatMap] at this
      simpa [Function.comp_def] using this
    refine Ex.assignComp (inj := .str) (xs := pages ts) (S := .list ((pages ts).map .str)) (ρ'' := [(Str.ofString "texts", .list (ts.map .str))]) (ρ' := []) (fun _ => true) (fun pg => pvT (undF pg)) hr.hh F
      ((Ev.catL (Ev.catL (Ev.catL (Ev.catL (Ev.name F.cx (by walk_at "mem")) (Ev.name F.cx (by walk_at "mem")) F.cx.ow (by simp; omega)) (Ev.name F.cx (by walk_at "mem")) F.cx.ow (by simp; omega)) (Ev.name F.cx (by walk_at "mem")) F.cx.ow (by simp; omega)) (Ev.name F.cx (by walk_at "mem")) F.cx.ow (by simp; omega)).cast (by simp [pages])) Its.list (by simp [pages]; omega) (Blk.of (by decide +kernel) (by walk_at "blk"))
      (fun pg hp own' s' env' c' => ⟨.nil, fun _ => Ev.call_def c' (Evs.cons (Ev.name c' (by walk_at "mem")) Evs.nil) (c_undone (hpg pg hp)) (hr.less (by decide)) rfl (by decide)⟩) (by decide +kernel) (by walk_at "ne") (by walk_at "sub") (fun s F => ?_) (F.swaps (by decide +kernel) (by decide) (by decide +kernel))
    rw [filt, hun] at F
    refine Ex.ret (own' := own) (V := .bool true) (Ev.cmp (Ev.name F.cx (by walk_at "mem")) (Ev.comp2 (α := Str) (β := Str) (inj := .str) (inj2 := .str) (xs := bares) (ys := ts) (S := .tup (bares.map .str)) (S2 := .list (ts.map .str)) (fun b t => pvT (t, sgnJ b t)) hr.hh (by decide +kernel) (by decide +kernel) F.cx (ρ' := [(Str.ofString "texts", .list (ts.map .str))]) ?_ Its.tup ?_ (Blk.of (by decide +kernel) (by walk_at "blk"))
      (fun b hb own' s' env' c' => Ev.name c' (by walk_at "mem")) Its.list (fun b hb t ht own' s' env' c' => ?_)) (Ec.eq_self (n := 2) (hr.less (by decide)) (Shp.list fun V hV => ?_))) fun v s' g r => ⟨v, rfl, F.gr.trans g, r⟩
    · exact Ev.tupD (Vs := bares.map .str) (Evs.cons Ev.cstr (Evs.cons Ev.cstr (Evs.cons Ev.cstr (Evs.cons Ev.cstr (Evs.cons Ev.cstr Evs.nil))))) F.cx.ow (by simp [bares]; omega)
    · simp [bares, hl6]; omega
    · have htl := (okT_parts (H.tx t ht)).1
      refine Ev.tupD (Vs := [.str t, .str (sgnJ b t)]) (Evs.cons (Ev.name c' (by walk_at "mem")) (Evs.cons ?_ Evs.nil)) c'.ow (by simp; omega)
      refine Ev.join (x := Str.empty) (ts := (t.cps.toList.filter fun c => Txt.contains b ⟨#[c]⟩).map fun c => ⟨#[c]⟩) ?_ ?_ (joinOk_of ?_ ?_ (by decide))
      · exact Ev.cstr
      · refine (Ev.comp (α := Nat) (inj := fun c => .str ⟨#[c]⟩) (xs := t.cps.toList) (S := .str t) (fun c => Txt.contains b ⟨#[c]⟩) (fun c => .str ⟨#[c]⟩) hr.hh c' (ρ' := [(Str.ofString "bare", .str b)]) (Ev.name c' (by walk_at "mem")) Its.str ?_ (Blk.of (by decide +kernel) (by walk_at "blk"))
          (fun c hc own' s' env' c'' => ⟨.one (Et.cmp (Ev.name c'' (by walk_at "mem")) (Ev.name c'' (by walk_at "mem")) Ec.in_str), fun _ => Ev.name c'' (by walk_at "mem")⟩)).cast (by rw [List.map_map]; rfl)
        simpa [Str.length] using Nat.le_trans htl (by omega)
      · rw [List.length_map]; exact Nat.le_trans (List.length_filter_le _ _) (by simpa [Str.length] using Nat.le_trans htl (by omega))
      · intro x hx
        obtain ⟨c, -, rfl⟩ := List.mem_map.mp hx
        exact Nat.le_trans (show (1 : Nat) ≤ 1 from Nat.le_refl _) (by decide)
    · obtain ⟨b, hb, hV⟩ := List.mem_flatMap.mp hV
      obtain ⟨t, ht, rfl⟩ := List.mem_map.mp hV
      exact Shp.tup (List.forall_mem_cons.mpr ⟨Shp.str (hbt b hb t ht).1, List.forall_mem_cons.mpr ⟨Shp.str (hbt b hb t ht).2, fun _ h => absurd h List.not_mem_nil⟩⟩)
end

end Mine
end

-- Ev19
section
open PySem PySem.W PySem.Calls PyProof.Rows PyProof.V PySem.Spec PySem.Builtin.Str PySem.SeqAt
namespace Mine

local macro_rules | `(tactic| walk_at "mem") => `(tactic| first | exact List.mem_cons_self | (refine List.mem_cons_of_mem _ ?_; walk_at "mem"))
local macro_rules | `(tactic| walk_at "kind") => `(tactic| first | exact Or.inl (by decide +kernel) | exact Or.inr (by decide +kernel))
local macro_rules | `(tactic| walk_at "ne") => `(tactic| first | exact (fun _ h => absurd h List.not_mem_nil) | (refine List.forall_mem_cons.mpr ⟨by dsimp only; decide +kernel, ?_⟩; walk_at "ne"))
local macro_rules | `(tactic| walk_at "sub") => `(tactic| first | exact (fun _ h => absurd h List.not_mem_nil) | (refine List.forall_mem_cons.mpr ⟨⟨by walk_at "mem", by dsimp only; decide +kernel⟩, ?_⟩; walk_at "sub"))
local macro_rules | `(tactic| walk_at "subs") => `(tactic| first | exact (fun _ h => absurd h List.not_mem_nil) | (refine List.forall_mem_cons.mpr ⟨by walk_at "mem", ?_⟩; walk_at "subs"))
local macro_rules | `(tactic| walk_at "blk") => `(tactic| first | exact (fun _ h => absurd h List.not_mem_nil) | (refine List.forall_mem_cons.mpr ⟨⟨by walk_at "mem", by dsimp only; decide +kernel⟩, ?_⟩; walk_at "blk"))

section
variable {w : World} {mg mb : Str → Option Value} {A : Around} {env : Env} {own own₁ own₂ : List Addr} {ρ : List (Str × PV)} {names : List (Str × NameKind)} {s₀ : Base} {s : Shared} {os : Opens} {pn : List (Addr × Obj)} {ex : List Addr}

theorem bindParam1 {env : Env} {s₀ s : Shared} {n : Str} {v : Value} {m cm : Str → Option Value} {Q : PUnit → Shared → Prop} {E : Value → Shared → Prop} (f : Str × Value → PUnit → Sem (ForInStep PUnit)) (hf : ∀ n v u, f (n, v) u = (do storeName env n v; pure (.yield ⟨⟩))) (hkf : env.scope.kind = .function) (hkl : env.kindOf n = some .local)
    (x : InCallC s₀ env.locals m env.cells cm s) (h : ∀ s', InCallC s₀ env.locals (fun y => if y = n then some v else m y) env.cells cm s' → 0 < s'.toks → Q ⟨⟩ s') : wpAny (model PR w) A (forIn [(n, v)] ⟨⟩ f) Q E s := by
  rw [List.forIn_cons, hf]
  refine wpAny_bind (wpAny_bind (wpAny_storeName_local hkl x.toInCall.ns (fun h' hn' hs' => wpAny_pure ?_) (by rw [hkf]; rfl)))
  dsimp only
  rw [List.forIn_nil]
  refine wpAny_pure (h _ ⟨⟨?_, hn', fun b o e => ?_, x.toInCall.fresh⟩, fun k c hc => ?_, x.apart, x.above⟩ (Nat.succ_pos _))
  · obtain ⟨h₁, tk, rfl⟩ := x.toInCall.same
    exact ⟨h', _, rfl⟩
  · exact hs'.extBut b o (Nat.ne_of_lt (Nat.lt_of_lt_of_le (Heap.lt_size e) x.toInCall.fresh)) (x.toInCall.keep b o e)
  · exact (x.cell k c hc).sameBut hs' (Nat.ne_of_gt (x.above k c (mem_of_lookup hc)))
/-- entering a def: the tokens' count is not nothing behind it -/
theorem newEnvT {scope : Scope} {globals : Addr} {binds : List (Str × Value)} {qual : Str} {func : Option Addr} {code : Value} {builtins : Addr} {Q : Env → Shared → Prop} {E : Value → Shared → Prop}
    (hk : scope.kind = .function) (hpos : 0 < s.toks ∨ ∃ n v, binds = [(n, v)] ∧ scope.names.lookup n = some .local)
    (hkind : ∀ x ∈ binds, scope.names.lookup x.1 = some .local ∨ (scope.names.lookup x.1 = some .cell ∧ ((cellsFrom (s.heap.objs.size + 1) scope.names []).lookup x.1).isSome = true))
    (hQ : ∀ env, env = newEnv scope s.heap.objs.size globals (cellsFrom (s.heap.objs.size + 1) scope.names []) qual func code none builtins →
      ∀ s', InCallC s env.locals (bindL env.kindOf binds fun _ => none) env.cells (bindC env.kindOf binds fun _ => none) s' → s.toks ≤ s'.toks → 0 < s'.toks → Q env s') :
    wpAny (model PR w) A (newFunctionEnv scope globals [] binds qual func code none builtins) Q E s := by
  rcases hpos with hpos | ⟨n, v, rfl, hl⟩
  · exact wpAny_with_toks (n := s.toks) (Nat.le_refl _) (wpAny_newFunctionEnv_cells hk hkind fun env he s' x ht => hQ env he s' x ht (Nat.lt_of_lt_of_le hpos ht))
  · refine wpAny_with_toks (n := s.toks) (Nat.le_refl _) ?_
    simp only [newFunctionEnv, Option.isSome_none, Bool.false_eq_true, if_false]
    refine wpAny_bind (wpAny_alloc ?_)
    refine wpAny_bind (wpAny_layCells _ (fun name kind cells => by cases hkc : kind == NameKind.cell <;> simp [hkc]) _ _ _ _ ?_)
    have ok := cellsFrom_ok scope.names (s.heap.push { cls := .type "frame", data := .dict #[] }) (s.heap.objs.size + 1) [] ⟨fun _ _ hm => (nomatch hm), List.Pairwise.nil⟩ (by rw [Heap.size_push]; exact Nat.le_refl _)
    rw [Heap.size_push] at ok
    rw [show ({ s with heap := s.heap.push { cls := .type "frame", data := .dict #[] } } : Shared).heap.objs.size = s.heap.objs.size + 1 from Heap.size_push ..]
    refine wpAny_bind (bindParam1 (s₀ := s) (m := fun _ => none) (cm := fun _ => none) (env := newEnv scope s.heap.objs.size globals (cellsFrom (s.heap.objs.size + 1) scope.names []) qual func code none builtins) _ (fun _ _ _ => rfl) hk hl
      ⟨⟨⟨_, _, rfl⟩, (Heap.Ns.new s.heap (.type "frame")).keeps (pushCells_keeps _ _), fun b o e => pushCells_keeps _ _ b o (Heap.get?_push_of_some _ e), Nat.le_refl _⟩,
        fun n c hc => (ok.empty n c (mem_of_lookup hc)).1, ok.apart, fun n c hm => (ok.empty n c hm).2⟩ fun s' x hp => wpAny_pure fun ht => hQ _ rfl s' ?_ ht hp)
    have hkl : (newEnv scope s.heap.objs.size globals (cellsFrom (s.heap.objs.size + 1) scope.names []) qual func code none builtins).kindOf n = some .local := hl
    have e1 : bindL (newEnv scope s.heap.objs.size globals (cellsFrom (s.heap.objs.size + 1) scope.names []) qual func code none builtins).kindOf [(n, v)] (fun _ => none) = fun y => if y = n then some v else none := by unfold bindL; rw [if_pos hkl]; rfl
    have e2 : bindC (newEnv scope s.heap.objs.size globals (cellsFrom (s.heap.objs.size + 1) scope.names []) qual func code none builtins).kindOf [(n, v)] (fun _ => none) = fun _ => none := by unfold bindC; rw [if_pos hkl]; rfl
    rw [e1, e2]
    exact x

theorem enterG {i : Nat} {Vs : List PV} {A : Around} {own : List Addr} {a : Addr} {s : Shared} {vs : List Value} {Q : Value → Shared → Prop} {E : Value → Shared → Prop} {B₀ : Heap} {hid : List (Addr × (Str → Option Value))}
    (hrq : A.depth < recursionLimit) (hi : i ∈ fnList) (hg : goodFn i = true) (hlen : Vs.length = (paramsAt i).length) (hv : mg (nameAt i) = some (.ref a))
    (G : GF w mg mb s.heap) (tk : 0 < s.toks ∨ ∃ p, paramsAt i = [p] ∧ (scopeAt i).names.lookup p = some .local) (rs : VReps own s.heap vs Vs) (hst : B₀.StaysIn s.heap) (hsz₀ : B₀.objs.size = s.heap.objs.size) (G₀ : GF w mg mb B₀) (ow : Ow own B₀) (hhid : ∀ p ∈ hid, s.heap.Ns p.1 p.2)
    (hb : ∀ (env : Env) (s₁ : Shared), env.frame = some env.locals → s.heap.get? env.locals = none → Grow s s₁ → Frm w mg mb (A.deeper env) ⟨{ s with heap := B₀ }, hid, []⟩ env own [] [] [] ((paramsAt i).zip Vs) (scopeAt i).names s₁ →
      wpAny (model PR w) (A.deeper env) (execs (bodyAt i) env) (fun fl s' => ∃ v, fl = .ret v ∧ Q v s') (fun e s' => wpAny (model PR w) (A.deeper env) (leaving env e) (fun _ s'' => E e s'') (fun e' s'' => E e' s'') s') s₁) :
    wpAny (model PR w) A (call (.ref a) vs) Q E s := by
  obtain ⟨a', o, fd, hv', ho, hd, hbody, hsc, hgl, hcl, hbu, hcd, hbind⟩ := G.fn i hi
  rw [hv] at hv'; cases hv'
  simp only [goodFn, Bool.and_eq_true, beq_iff_eq, Bool.not_eq_true', decide_eq_true_eq, List.all_eq_true, Bool.or_eq_true, bne_iff_ne, ne_eq] at hg
  obtain ⟨⟨⟨⟨⟨hkind, hco⟩, hgen⟩, hfree⟩, hnd⟩, hpar⟩ := hg
  have hvl : vs.length = (paramsAt i).length := rs.length.trans hlen
  have hkx : ∀ x, (callEnvC fd s.heap.objs.size a).kindOf x = (scopeAt i).names.lookup x := fun x => by show fd.scope.names.lookup x = _; rw [hsc]
  have hbn : (((paramsAt i).zip vs).map (·.1)) = paramsAt i := by rw [List.map_fst_zip (by omega)]
  refine wpAny_call (codeAny_call_function (hrq) ho hd (by rw [hsc]; exact hco) (by rw [hsc]; exact hgen) hbody hcd ?_)
  rw [hbind vs hvl, hcl]
  have htk' : 0 < s.toks ∨ ∃ n v, (paramsAt i).zip vs = [(n, v)] ∧ fd.scope.names.lookup n = some .local := by
    rcases tk with h | ⟨p, hp, hl⟩
    · exact .inl h
    · refine .inr ?_
      rw [hp] at hvl ⊢
      obtain ⟨v, rfl⟩ := List.length_eq_one_iff.mp hvl
      exact ⟨p, v, rfl, by rw [hsc]; exact hl⟩
  refine wpAny_pure (newEnvT (by rw [hsc]; exact hkind) htk' ?_ fun env' he s₁ X htk htk₁ => ?_)
  · intro x hx
    rw [hsc]
    have hx' := hpar x.1 (List.of_mem_zip hx).1
    rcases hx' with h | h
    · exact .inl h
    · refine .inr ⟨h, ?_⟩
      obtain ⟨c, hc⟩ := cellsFrom_own (scopeAt i).names (s.heap.objs.size + 1) [] x.1 (mem_of_lookup h)
      obtain ⟨c', e⟩ := lookup_some_of_mem hc
      rw [e]; rfl
  · subst he
    refine ⟨G.nl.keeps X.toInCall.keep, codeAny_func ?_⟩
    change InCallC s (callEnvC fd s.heap.objs.size a).locals (bindL (callEnvC fd s.heap.objs.size a).kindOf ((paramsAt i).zip vs) fun _ => none) (callEnvC fd s.heap.objs.size a).cells (bindC (callEnvC fd s.heap.objs.size a).kindOf ((paramsAt i).zip vs) fun _ => none) s₁ at X
    have hgr : Grow s s₁ := by
      obtain ⟨h', t', rfl, k'⟩ := X.done
      exact Grow.of k' htk
    have hgr₀ : Grow ({ s with heap := B₀ } : Shared) s₁ := by
      obtain ⟨⟨h', t', rfl, k'⟩, l'⟩ := hgr
      exact ⟨⟨h', t', rfl, fun b o e => k' b o (hst b o e)⟩, l'⟩
    have hfr : Frm w mg mb (A.deeper (callEnvC fd s.heap.objs.size a)) ⟨{ s with heap := B₀ }, hid, []⟩ (callEnvC fd s.heap.objs.size a) own [] [] [] ((paramsAt i).zip Vs) (scopeAt i).names s₁ := by
      refine { cx := ⟨by show fd.scope.kind = _; rw [hsc]; exact hkind, hgl, hbu, htk₁, G.keeps hgr.keep, by simpa using ow.keeps hgr₀.keep, fun x h => (hkx x).trans h, fun x h => ?_, fun p hp => ?_⟩, kd := hkx, G₀ := G₀, ow₀ := ow, gr := hgr₀, base := Nat.le_of_eq hsz₀, ns := ⟨_, X.toInCall.ns⟩, cells := fun n c e => ⟨⟨_, X.cell n c e⟩, X.above n c (mem_of_lookup e)⟩, apart := X.apart, ops := fun p hp => by simp at hp, opd := List.nodup_nil, pin := fun p hp => by simp at hp, exs := fun a ha => by simp at ha, hd := fun p hp => ⟨(hhid p hp).keeps hgr.keep, by show p.1 < B₀.objs.size; rw [hsz₀]; exact (hhid p hp).lt⟩, dc := fun p hp => by simp at hp }
      · rcases h with h | h
        · refine ⟨.inl ((hkx x).trans h), ?_⟩
          obtain ⟨c, hc⟩ := cellsFrom_own (scopeAt i).names (s.heap.objs.size + 1) [] x (mem_of_lookup h)
          obtain ⟨c', e⟩ := lookup_some_of_mem hc
          refine ⟨c', ?_⟩
          show (cellsFrom (s.heap.objs.size + 1) fd.scope.names []).lookup x = _
          rw [hsc]; exact e
        · exact absurd rfl (hfree _ (mem_of_lookup h))
      · obtain ⟨v, hv, rv⟩ := rs.zip hp
        have rv' : VRep (adrs [] ++ ([] ++ own)) s₁.heap v p.2 := rv.keeps hgr.keep
        rcases hpar p.1 (List.of_mem_zip hp).1 with h | h
        · exact .inl ⟨(hkx _).trans h, _, v, X.toInCall.ns, bindL_mem (by rw [hbn]; exact hnd) hv ((hkx _).trans h), rv'⟩
        · obtain ⟨c, hc⟩ := cellsFrom_own (scopeAt i).names (s.heap.objs.size + 1) [] p.1 (mem_of_lookup h)
          obtain ⟨c', e⟩ := lookup_some_of_mem hc
          have e' : (callEnvC fd s.heap.objs.size a).cells.lookup p.1 = some c' := by
            show (cellsFrom (s.heap.objs.size + 1) fd.scope.names []).lookup p.1 = _
            rw [hsc]; exact e
          refine .inr ⟨.inl ((hkx _).trans h), c', v, e', ?_, rv'⟩
          have := X.cell _ _ e'
          rwa [bindC_mem (by rw [hbn]; exact hnd) hv (by rw [hkx, h]; decide)] at this
    have hloc : s.heap.get? (callEnvC fd s.heap.objs.size a).locals = none := none_of_ge (Nat.le_refl _)
    refine wpAny_mono (hb _ s₁ rfl hloc hgr hfr) (fun f s₂ h₂ => ?_) (fun _ _ e => e)
    obtain ⟨v, rfl, q⟩ := h₂
    exact q

end

end Mine
end

-- Ev20
section
open PySem PySem.W PySem.Calls PyProof.Rows PyProof.V PySem.Spec PySem.Builtin.Str PySem.SeqAt
namespace Mine

local macro_rules | `(tactic| walk_at "mem") => `(tactic| first | exact List.mem_cons_self | (refine List.mem_cons_of_mem _ ?_; walk_at "mem"))
local macro_rules | `(tactic| walk_at "kind") => `(tactic| first | exact Or.inl (by decide +kernel) | exact Or.inr (by decide +kernel))
local macro_rules | `(tactic| walk_at "ne") => `(tactic| first | exact (fun _ h => absurd h List.not_mem_nil) | (refine List.forall_mem_cons.mpr ⟨by dsimp only; decide +kernel, ?_⟩; walk_at "ne"))
local macro_rules | `(tactic| walk_at "sub") => `(tactic| first | exact (fun _ h => absurd h List.not_mem_nil) | (refine List.forall_mem_cons.mpr ⟨⟨by walk_at "mem", by dsimp only; decide +kernel⟩, ?_⟩; walk_at "sub"))
local macro_rules | `(tactic| walk_at "subs") => `(tactic| first | exact (fun _ h => absurd h List.not_mem_nil) | (refine List.forall_mem_cons.mpr ⟨by walk_at "mem", ?_⟩; walk_at "subs"))
local macro_rules | `(tactic| walk_at "blk") => `(tactic| first | exact (fun _ h => absurd h List.not_mem_nil) | (refine List.forall_mem_cons.mpr ⟨⟨by walk_at "mem", by dsimp only; decide +kernel⟩, ?_⟩; walk_at "blk"))

section
variable {w : World} {mg mb : Str → Option Value} {A : Around} {env : Env} {own own₁ own₂ : List Addr} {ρ : List (Str × PV)} {names : List (Str × NameKind)} {s₀ : Base} {s : Shared} {os : Opens} {pn : List (Addr × Obj)} {ex : List Addr}

noncomputable def erN : Str := Str.ofString "error_reply"

/-- parse257 raises error_reply -/
theorem c_257x {r : Str} {a : Addr} {vs : List Value} {Q : Value → Shared → Prop} {E : Value → Shared → Prop} {B : Heap} {outer : List Env} (h3 : (Txt.slice r none (some 3) == Str.ofString "257") = false) (hl : r.length ≤ 1000) (hr : Room A 1) (hv : mg (nameAt 14) = some (.ref a))
    (G : GF w mg mb s.heap) (tk : 0 < s.toks) (ow : Ow own s.heap) (rs : VReps own s.heap vs [.str r]) (hfr : A.frames = some outer) (hB : B.StaysIn s.heap) (hF : s.heap.FunFrames B outer)
    (hE : ∀ e C t s', mg erN = some (.ref C) → (∃ h' tk', s' = { s with heap := h', toks := tk' }) → s.toks ≤ s'.toks → Heap.FlyingW B outer e (.ref C) (.ref t) s'.heap → s.heap.UpToSlots s'.heap → E (.ref e) s') :
    wpAny (model PR w) A (call (.ref a) vs) Q E s := by
  have hsz : sizeLine = 16777216 := sizeLine_eq
  refine enterG (B₀ := s.heap) (hid := []) (by have := hr.depth; omega) (by decide) (by decide +kernel) rfl hv G (.inl tk) rs (fun _ _ e => e) rfl G ow (fun p hp => by simp at hp) fun env s₁ hfe hloc g₁ F => ?_
  refine wpAny_execs_cons (wpAny_If ((Et.cast (Et.cmp (Ev.sliceS (Ev.name F.cx (by walk_at "mem")) .none (.some Ev.ci) (by omega)) Ev.cstr Ec.ne_str) (b' := true) (by rw [bne, h3]; rfl)).then (Grow.refl _) fun s₂ g₂ => ?_))
  rw [if_pos rfl]
  have F₂ := F.grow g₂
  have g₁₂ := g₁.trans g₂
  obtain ⟨C, O⟩ := F₂.cx.G.er
  obtain ⟨tl, N, nm, q, bs, hdct, sn, sub, ab, col, dd, k0, k1, k2, k3, k5, mN, hC, hN, hni, T⟩ := O.own.obj
  refine wpAny_execs_cons ?_
  refine wpAny_Raise_call_subT (C := C) (nm := nm) (q := q) (N := N) (bs := bs) (bm := tl) (hdct := hdct) (sn := sn) (sub := sub) (ab := ab) (col := col) (dd := dd) (k0 := k0) (k1 := k1) (k2 := k2) (k3 := k3) (k5 := k5) PySem.F.excBase_Exception (mN := mN) (T.hasType PySem.F.excBase_Exception.hasBase) hr.hh rfl hni (F₂.cx.glob (by decide +kernel) O.bound (by decide +kernel) ⟨rfl, ?_⟩)
  have he : ∀ {p : Pos}, starEach [Expr.Name (Str.ofString "resp") p] env = (false, eval (Expr.Name (Str.ofString "resp") p) env) :: starEach [] env := rfl
  have hev : ∀ {p : Pos}, Evs w (A.deeper env) env own s₂ [Expr.Name (Str.ofString "resp") p] [.str r] := Evs.cons (V := .str r) (Ev.name F₂.cx (by walk_at "mem")) Evs.nil
  have hev' := fun (p pos : Pos) (E : Value → Shared → Prop) => hev (p := p) pos s₂ (Grow.refl _) E
  rw [he]
  simp only [he] at hev'
  refine Calls.evalArgs_plain (wpAny_mono (hev' _ _ _) (fun vs' s₃ h₃ => ?_) fun _ _ y => y)
  obtain ⟨g₃, r₃⟩ := h₃
  refine ⟨rfl, ?_, g₃.keep _ _ hC, hN.keeps g₃.keep, T.keeps g₃.keep, fun h' e hm => ?_⟩
  · show vs'.length ≤ sizeLine
    rw [r₃.length]; simp; omega
  have g₁₃ := g₁₂.trans g₃
  obtain ⟨m, nL⟩ := F.ns
  have nL₃ := (nL.keeps g₂.keep).keeps g₃.keep
  refine wpAny_leaves_madeW (base := B) (outer := outer) (h := s₃.heap) (Around.frames_deeper hfr) hfe (fun b o e => g₁₃.keep _ _ (hB b o e)) ⟨by rw [F.cx.fn]; decide, ?_, hF.of_keeps fun b o e _ => ⟨o, g₁₃.keep _ _ e, rfl⟩⟩ hm fun h'' t fl tup ht up => ?_
  · obtain ⟨o, es, ep, g, d, -⟩ := nL₃
    refine ⟨env.locals, o, hfe, ?_, g, fun vs q => by rw [d] at q; cases q⟩
    cases q : B.get? env.locals with
    | none => rfl
    | some o' => have := hB _ _ q; rw [hloc] at this; cases this
  · obtain ⟨⟨h₃, t₃, rfl, k₃⟩, l₃⟩ := g₁₃
    refine hE e C t _ O.bound ⟨h'', t₃, rfl⟩ l₃ fl ?_
    exact ((Heap.UpToSlots.of_keeps k₃).trans (Heap.UpToSlots.of_keeps hm.keeps)).trans up

/-- an exception went by: the frames' slots turned -/
theorem Frm.caught {h' : Heap} {tk : Nat} (F : Frm w mg mb A s₀ env own ex pn os ρ names s) (hst : ∀ b o, s.heap.get? b = some o → b ≠ env.locals → (∀ p ∈ s₀.hid, b ≠ p.1) → h'.get? b = some o) (hns : ∀ a m, (a = env.locals ∨ ∃ p ∈ s₀.hid, a = p.1) → s.heap.Ns a m → h'.Ns a m) (htk : s.toks ≤ tk)
    (hh0 : ∀ p ∈ s₀.hid, s₀.heap.get? p.1 = none) (hd0 : s₀.dic = []) : Frm w mg mb A s₀ env own ex pn os ρ names { s with heap := h', toks := tk } := by
  obtain ⟨mL, nL⟩ := F.ns
  have notNs : ∀ {b o a m}, s.heap.Ns a m → s.heap.get? b = some o → (∀ es ep, o.data ≠ .dict es ep) → b ≠ a := fun {b o a m} n e hn q => by
    obtain ⟨o', es, ep, g, d, -⟩ := n
    rw [q, g] at e; cases e
    exact hn _ _ d
  have keepND : ∀ b o, s.heap.get? b = some o → (∀ es ep, o.data ≠ .dict es ep) → h'.get? b = some o := fun b o e hn => hst b o e (notNs nL e hn) fun p hp => notNs (F.hd p hp).1 e hn
  have kv : ∀ b o, IsVal o → s.heap.get? b = some o → h'.get? b = some o := fun b o iv e => keepND b o e (by
    rintro es ep q
    rcases iv with ⟨xs, n, e'⟩ | ⟨vs, e'⟩ <;> rw [e'] at q <;> cases q)
  have mv : ∀ {own v p}, VRep own s.heap v p → VRep own h' v p := fun r => r.move (fun b o iv _ e => kv b o iv e) (fun _ _ z => z)
  have mvs : ∀ {own v p}, VReps own s.heap v p → VReps own h' v p := fun r => r.move (fun b o iv _ e => kv b o iv e) (fun _ _ z => z)
  have icK : ∀ {c v}, s.heap.IsCell c v → h'.IsCell c v := fun {c v} ic => by
    obtain ⟨o, g, d⟩ := ic
    exact ⟨o, keepND c o g (by rintro es ep q; rw [d] at q; cases q), d⟩
  have gr : Grow s₀.toShared { s with heap := h', toks := tk } := by
    obtain ⟨⟨h₁, t₁, rfl, k₁⟩, l₁⟩ := F.gr
    refine Grow.of (fun b o e => hst b o (k₁ b o e) (Nat.ne_of_lt (Nat.lt_of_lt_of_le (Heap.lt_size e) F.base)) fun p hp q => ?_) (Nat.le_trans l₁ htk)
    rw [q, hh0 p hp] at e; cases e
  refine { cx := ⟨F.cx.fn, F.cx.gl, F.cx.bu, Nat.lt_of_lt_of_le F.cx.tk htk, F.G₀.keeps gr.keep, ?_, F.cx.gk, F.cx.ck, ?_⟩, kd := F.kd, G₀ := F.G₀, ow₀ := F.ow₀, gr := gr, base := F.base, ns := ⟨_, hns _ _ (.inl rfl) nL⟩, cells := fun n c e => let ⟨⟨v, ic⟩, l⟩ := F.cells n c e; ⟨⟨v, icK ic⟩, l⟩, apart := F.apart, ops := ?_, opd := F.opd, pin := fun p hp => let ⟨e, v, o⟩ := F.pin p hp; ⟨kv _ _ v e, v, o⟩, exs := F.exs, hd := fun p hp => let ⟨n, l⟩ := F.hd p hp; ⟨hns _ _ (.inr ⟨p, hp, rfl⟩) n, l⟩, dc := fun p hp => by rw [hd0] at hp; cases hp }
  · intro a ha
    rcases List.mem_append.mp ha with ha | ha
    · obtain ⟨p, hp, e⟩ := List.mem_map.mp ha
      obtain ⟨-, -, ⟨vs, n, g, -⟩, -⟩ := F.ops p hp
      rw [e] at g
      exact ⟨_, kv _ _ (.inl ⟨_, _, rfl⟩) g⟩
    · rcases List.mem_append.mp ha with ha | ha
      · obtain ⟨-, o, ho⟩ := F.exs a ha
        obtain ⟨e, v, -⟩ := F.pin _ ho
        exact ⟨_, kv _ _ v e⟩
      · exact (F.ow₀.keeps gr.keep) a ha
  · intro p hp
    rcases F.cx.bd p hp with ⟨k, m', v', n'', e, r'⟩ | ⟨k, c, v', e, ic, r'⟩
    · exact .inl ⟨k, m', v', hns _ _ (.inl rfl) n'', e, mv r'⟩
    · exact .inr ⟨k, c, v', e, icK ic, mv r'⟩
  · intro p hp
    obtain ⟨k', ⟨m', n', e'⟩, ⟨vs', j', g', r'⟩, hn'⟩ := F.ops p hp
    exact ⟨k', ⟨m', hns _ _ (.inl rfl) n', e'⟩, ⟨vs', j', kv _ _ (.inl ⟨_, _, rfl⟩) g', mvs r'⟩, hn'⟩
end

end Mine
end

-- Ev21
section
open PySem PySem.W PySem.Calls PyProof.Rows PyProof.V PySem.Spec PySem.Builtin.Str PySem.SeqAt
namespace Mine

local macro_rules | `(tactic| walk_at "mem") => `(tactic| first | exact List.mem_cons_self | (refine List.mem_cons_of_mem _ ?_; walk_at "mem"))
local macro_rules | `(tactic| walk_at "kind") => `(tactic| first | exact Or.inl (by decide +kernel) | exact Or.inr (by decide +kernel))
local macro_rules | `(tactic| walk_at "ne") => `(tactic| first | exact (fun _ h => absurd h List.not_mem_nil) | (refine List.forall_mem_cons.mpr ⟨by dsimp only; decide +kernel, ?_⟩; walk_at "ne"))
local macro_rules | `(tactic| walk_at "sub") => `(tactic| first | exact (fun _ h => absurd h List.not_mem_nil) | (refine List.forall_mem_cons.mpr ⟨⟨by walk_at "mem", by dsimp only; decide +kernel⟩, ?_⟩; walk_at "sub"))
local macro_rules | `(tactic| walk_at "subs") => `(tactic| first | exact (fun _ h => absurd h List.not_mem_nil) | (refine List.forall_mem_cons.mpr ⟨by walk_at "mem", ?_⟩; walk_at "subs"))
local macro_rules | `(tactic| walk_at "blk") => `(tactic| first | exact (fun _ h => absurd h List.not_mem_nil) | (refine List.forall_mem_cons.mpr ⟨⟨by walk_at "mem", by dsimp only; decide +kernel⟩, ?_⟩; walk_at "blk"))

section
variable {w : World} {mg mb : Str → Option Value} {A A' : Around} {env : Env} {own own₁ own₂ : List Addr} {ρ : List (Str × PV)} {names : List (Str × NameKind)} {s₀ : Base} {s : Shared} {os : Opens} {pn : List (Addr × Obj)} {ex : List Addr}

theorem Cx.around (c : Cx w mg mb A env own ρ names s) : Cx w mg mb A' env own ρ names s := ⟨c.fn, c.gl, c.bu, c.tk, c.G, c.ow, c.gk, c.ck, c.bd⟩
theorem Frm.around (F : Frm w mg mb A s₀ env own ex pn os ρ names s) : Frm w mg mb A' s₀ env own ex pn os ρ names s :=
  ⟨F.cx.around, F.kd, F.G₀, F.ow₀, F.gr, F.base, F.ns, F.cells, F.apart, F.ops, F.opd, F.pin, F.exs, F.hd, F.dc⟩
theorem Cx.weak (c : Cx w mg mb A env own ρ names s) (h : ∀ a ∈ own₁, a ∈ own) : Cx w mg mb A env own₁ ρ names s :=
  ⟨c.fn, c.gl, c.bu, c.tk, c.G, fun a m => c.ow a (h a m), c.gk, c.ck, fun p m => by
    rcases c.bd p m with ⟨k, m', v', n'', e, r'⟩ | ⟨k, c, v', e, ic, r'⟩
    · exact .inl ⟨k, m', v', n'', e, r'.move (fun _ _ _ _ e => e) (fun b _ hb hm => hb (h b hm))⟩
    · exact .inr ⟨k, c, v', e, ic, r'.move (fun _ _ _ _ e => e) (fun b _ hb hm => hb (h b hm))⟩⟩
theorem RoomQ.mark {k : Nat} {h : Option Value} (r : RoomQ A k) : RoomQ (A.mark h) k := ⟨r.depth, r.units⟩

theorem Ex.tryNext {body : List Stmt} {h₀ : ExceptHandler} {hs : List ExceptHandler} {pos : Pos} {rest : List Stmt} {P : Flow → Shared → Prop} (M : Shared → Prop) (hb : Ex w A env body (fun f s' => f = .next ∧ M s') s) (h : ∀ s', M s' → Ex w A env rest P s') :
    Ex w A env (.Try body (h₀ :: hs) [] [] pos :: rest) P s := fun E => by
  refine wpAny_execs_cons ?_
  rw [arm_exec_Try]
  refine wpAny_bind (wpAny_standAt ?_)
  refine wpAny_tryStmt_except (wpAny_mono (hb _) (fun f s₁ h₁ => ?_) (fun _ _ e => e))
  obtain ⟨rfl, m⟩ := h₁
  exact wpAny_execs_nil (h _ m E)

/-- x.append(parse257(y)) raises, and the handler's suite runs -/
theorem Ex.tryCatch {x y : Str} {p1 apos cpos epos np yp ccpos pos hpos enp : Pos} {suite : List Stmt} {b₀ : Stmt} {r : Str} {rest : List Stmt} {P : Flow → Shared → Prop} {a : Addr} {l : List PV} {os₁ os₂ : Opens} {le : Env} {L : Addr} {mL : Str → Option Value} (M : Shared → Prop)
    (F : Frm w mg mb A s₀ env own ex pn (os₁ ++ (x, a, l) :: os₂) ρ names s) (hr : Room A 1) (hm : (y, .str r) ∈ ρ) (h3 : (Txt.slice r none (some 3) == Str.ofString "257") = false) (hl : r.length ≤ 1000)
    (hfr : A.frames = some [env, le]) (hfe : env.frame = some env.locals) (hle : le.scope.kind ≠ .module) (hlf : le.frame = some L) (hhid : s₀.hid = [(L, mL)]) (hL₀ : s₀.heap.get? L = none) (hd0 : s₀.dic = [])
    (hs : ∀ A' s', A'.handled.isSome = true → RoomQ A' 1 → Frm w mg mb A' s₀ env own ex pn (os₁ ++ (x, a, l) :: os₂) ρ names s' → Ex w A' env (b₀ :: suite) (fun f s'' => f = .next ∧ M s'') s')
    (h : ∀ s', M s' → Ex w A env rest P s')
    (hk : (names.lookup (nameAt 14) == some .globalImplicit && !(nameAt 14 == Str.ofString "__debug__")) = true := by decide +kernel) (hke : names.lookup erN = some .globalImplicit := by decide +kernel)
    (hdo : (x == Str.ofString "__debug__") = false := by decide +kernel) (hyd : (y == Str.ofString "__debug__" || y == Str.ofString "__classdict__") = false := by decide +kernel)
    (hline : (apos.endLine == cpos.line) = true := by rfl)
    (hsw : swapsWith (.Call (.Attribute (.Name x p1) "append" apos) [.Call (.Name (nameAt 14) np) [.Name y yp] [] ccpos] [] cpos) none epos.line env = pure false := by rfl)
    (hbase : attributeBase (.Name x p1) "append" env (eval (.Name x p1) env) = eval (.Name x p1) env := by rfl) :
    Ex w A env (.Try [.Expr (.Call (.Attribute (.Name x p1) "append" apos) [.Call (.Name (nameAt 14) np) [.Name y yp] [] ccpos] [] cpos) epos] [.ExceptHandler (some (.Name erN enp)) none (b₀ :: suite) hpos] [] [] pos :: rest) P s := fun E => by
  have hi : interactive env = false := by unfold interactive; rw [F.cx.fn]; rfl
  have hmem : (x, a, l) ∈ os₁ ++ (x, a, l) :: os₂ := List.mem_append_right _ List.mem_cons_self
  obtain ⟨k, ⟨m, n, em⟩, ⟨vs, j, g, rr⟩, hn⟩ := F.ops _ hmem
  refine wpAny_execs_cons ?_
  rw [arm_exec_Try]
  refine wpAny_bind (wpAny_standAt ?_)
  refine wpAny_tryStmt_except ?_
  have hst : starEach [Expr.Call (.Name (nameAt 14) np) [.Name y yp] [] ccpos] env = [(false, eval (.Call (.Name (nameAt 14) np) [.Name y yp] [] ccpos) env)] := rfl
  refine wpAny_execs_cons (wpAny_Expr (wpAny_Call_append hbase (by rw [hst]; rfl) hline (by rw [hst]; rfl) (wpAny_Name (wpAny_loadName_local F.cx.fn k n em ⟨a, vs.toArray, rfl, ⟨_, j, g, rfl, rfl, rfl⟩, ?_⟩) hdo)) hi hsw)
  rw [Bool.and_eq_true, Bool.not_eq_true', beq_iff_eq] at hk
  obtain ⟨ad, o, fd, hv, ho, hd, -⟩ := F.cx.G.fn 14 (by decide)
  refine Call_ (F.cx.glob hk.1 hv hk.2 ?_)
  refine callWith_def_at ho hd (wpAny_mono ((show Evs w A env _ s [.Name y yp] [.str r] from Evs.cons (Ev.name F.cx hm hyd) Evs.nil) _ _ (Grow.refl _) _) (fun vs' s₁ h₁ => ?_) (fun _ _ e => e)) rfl
  obtain ⟨g₁, r₁⟩ := h₁
  refine ⟨g₁.keep _ _ ho, ?_⟩
  have F₁ := F.grow g₁
  obtain ⟨mE, nE⟩ := F₁.ns
  have nL : s₁.heap.Ns L mL := (F₁.hd (L, mL) (by rw [hhid]; exact List.mem_cons_self)).1
  have hBst : (hideAll s₁.heap [env.locals, L]).StaysIn s₁.heap := fun b o e => of_hideAll _ e
  have ff : s₁.heap.FunFrames (hideAll s₁.heap [env.locals, L]) [env, le] := by
    obtain ⟨oE, esE, epE, gE, dE, -⟩ := nE
    obtain ⟨oL, esL, epL, gL, dL, -⟩ := nL
    refine ⟨by rw [F.cx.fn]; decide, ⟨env.locals, oE, hfe, hideAll_none _ List.mem_cons_self, gE, fun vs q => by rw [dE] at q; cases q⟩, hle, ⟨L, oL, hlf, hideAll_none _ (List.mem_cons_of_mem _ List.mem_cons_self), gL, fun vs q => by rw [dL] at q; cases q⟩, trivial⟩
  refine c_257x (B := hideAll s₁.heap [env.locals, L]) h3 hl hr hv F₁.cx.G F₁.cx.tk F₁.cx.ow r₁ hfr hBst ff fun e C t s' hC hsh htk fl up => ?_
  obtain ⟨h', tk', rfl⟩ := hsh
  dsimp only at htk fl up
  -- the frame after it
  have back : ∀ {h''}, (hideAll s₁.heap [env.locals, L]).StaysIn h'' → s₁.heap.UpToSlots h'' → Frm w mg mb A s₀ env own ex pn (os₁ ++ (x, a, l) :: os₂) ρ names { s₁ with heap := h'', toks := tk' } := fun {h''} st u =>
    F₁.caught (fun b o e n1 n2 => st _ _ (hideAll_get _ e (by
      intro hm
      rcases List.mem_cons.mp hm with rfl | hm
      · exact n1 rfl
      · exact n2 (L, mL) (by rw [hhid]; exact List.mem_cons_self) (List.mem_singleton.mp hm)))) (fun a m _ n => u.ns n) htk (fun p hp => by rw [hhid] at hp; rw [List.mem_singleton.mp hp]; exact hL₀) hd0
  refine wpAny_looks_onW (s := { s₁ with heap := h', toks := tk' }) hfr hfe fl fun h₄ hheld₄ up₄ => ?_
  refine wpAny_landsW hheld₄ fun h₅ fl₅ up₅ => ?_
  have F₅ := back fl₅.1 ((up.trans up₄).trans up₅)
  obtain ⟨C', O⟩ := F₅.cx.G.er
  obtain rfl : C = C' := by have := hC.symm.trans O.bound; cases this; rfl
  refine handleBy_own (s := { s₁ with heap := h₅, toks := tk' }) (bmB := excB) (newId := "Exception.__new__") (mg := mg) (x := erN) (C := C) (by decide) ?_
  refine (F₅.cx.around (A' := A.mark (some (.ref e)))).glob hke O.bound (by decide +kernel) ⟨rfl, O, fl₅.there, ?_⟩
  refine lands_againW (s := { s₁ with heap := h₅, toks := tk' }) fl₅ fun h₆ fl₆ up₆ => ?_
  have F₆ := back fl₆.1 (((up.trans up₄).trans up₅).trans up₆)
  refine wpAny_mono (hs (A.mark (some (.ref e))) _ rfl hr.toRoomQ.mark F₆.around _) (fun f s₇ h₇ => ?_) (fun _ _ e => e)
  obtain ⟨rfl, mm⟩ := h₇
  exact h _ mm E
end

end Mine
end

-- W72
section
open PySem PySem.W PySem.Calls PyProof.Rows PyProof.V PySem.Spec PySem.Builtin.Str PySem.SeqAt
namespace Mine

local macro_rules | `(tactic| walk_at "mem") => `(tactic| first | exact List.mem_cons_self | (refine List.mem_cons_of_mem _ ?_; walk_at "mem"))
local macro_rules | `(tactic| walk_at "kind") => `(tactic| first | exact Or.inl (by decide +kernel) | exact Or.inr (by decide +kernel))
local macro_rules | `(tactic| walk_at "ne") => `(tactic| first | exact (fun _ h => absurd h List.not_mem_nil) | (refine List.forall_mem_cons.mpr ⟨by dsimp only; decide +kernel, ?_⟩; walk_at "ne"))
local macro_rules | `(tactic| walk_at "sub") => `(tactic| first | exact (fun _ h => absurd h List.not_mem_nil) | (refine List.forall_mem_cons.mpr ⟨⟨by walk_at "mem", by dsimp only; decide +kernel⟩, ?_⟩; walk_at "sub"))
local macro_rules | `(tactic| walk_at "subs") => `(tactic| first | exact (fun _ h => absurd h List.not_mem_nil) | (refine List.forall_mem_cons.mpr ⟨by walk_at "mem", ?_⟩; walk_at "subs"))
local macro_rules | `(tactic| walk_at "blk") => `(tactic| first | exact (fun _ h => absurd h List.not_mem_nil) | (refine List.forall_mem_cons.mpr ⟨⟨by walk_at "mem", by dsimp only; decide +kernel⟩, ?_⟩; walk_at "blk"))

noncomputable def txs (nms : List Str) (m : Nat) : List PV := (List.range m).map fun k => .str (nms.getD k Str.empty ++ Str.ofString "=")
noncomputable def prs (ps : List Int) (m : Nat) : List PV := (List.range m).map fun k => .tup [.int ((k + 1 : Nat) : Int), .int (ps.getD k 0)]
theorem txs_succ (nms : List Str) (m : Nat) : txs nms (m + 1) = txs nms m ++ [.str (nms.getD m Str.empty ++ Str.ofString "=")] := by simp [txs, List.range_succ]
theorem prs_succ (ps : List Int) (m : Nat) : prs ps (m + 1) = prs ps m ++ [.tup [.int ((m + 1 : Nat) : Int), .int (ps.getD m 0)]] := by simp [prs, List.range_succ]
theorem tlk_get (nms : List Str) (ps : List Int) (mark : Str) : ∀ {n k}, k < n → (tlk nms ps mark n)[2 * k]? = some (ln1 (nms.getD k Str.empty)) ∧ (tlk nms ps mark n)[2 * k + 1]? = some (ln2 mark (ps.getD k 0))
  | n + 1, k, h => by
    have hl := tlk_len nms ps mark n
    rcases Nat.lt_or_eq_of_le (Nat.le_of_lt_succ h) with h' | rfl
    · obtain ⟨h1, h2⟩ := tlk_get nms ps mark h'
      rw [tlk, List.append_assoc, List.getElem?_append_left (by omega), List.getElem?_append_left (by omega)]
      exact ⟨h1, h2⟩
    · rw [tlk, List.append_assoc]
      constructor
      · rw [List.getElem?_append_right (by omega), hl, Nat.sub_self]; rfl
      · rw [List.getElem?_append_right (by omega), hl, show 2 * k + 1 - 2 * k = 1 by omega]; rfl

/-- what is asked of the lines -/
structure OkH (nms : List Str) (ps : List Int) (mark : Str) : Prop where
  len : nms.length = ps.length
  le : ps.length ≤ 100
  l1 : ∀ nm ∈ nms, ok257 (ln1 nm) = true ∧ p257 (ln1 nm) = nm ++ Str.ofString "=" ∧ 13 ∉ (ln1 nm).cps.toList
  l2 : ∀ p ∈ ps, (Txt.slice (ln2 mark p) none (some 3) == Str.ofString "257") = false ∧ ok229 (ln2 mark p) p = true ∧ 13 ∉ (ln2 mark p).cps.toList
  pos : 0 < ps.length
  big : (Txt.join crlf (tlk nms ps mark ps.length)).length ≤ 1000

section
variable {w : World} {mg mb : Str → Option Value} {A A' : Around} {env : Env} {own own₁ own₂ : List Addr} {ρ : List (Str × PV)} {names : List (Str × NameKind)} {s₀ : Base} {s : Shared} {os : Opens} {pn : List (Addr × Obj)} {ex : List Addr}

theorem c_heard {nms : List Str} {ps : List Int} {mark : Str} (H : OkH nms ps mark) {a : Addr} {vs : List Value} {Q : Value → Shared → Prop} {E : Value → Shared → Prop} {le : Env} {L : Addr} {mL : Str → Option Value} (hr : Room A 2) (hv : mg (nameAt 72) = some (.ref a))
    (hfr : A.frames = some [le]) (hle : le.scope.kind ≠ .module) (hlf : le.frame = some L) (G : GF w mg mb s.heap) (G₀ : GF w mg mb (hideAll s.heap [L])) (tk : 0 < s.toks) (nL : s.heap.Ns L mL) (rs : VReps [] s.heap vs [.str (Txt.join crlf (tlk nms ps mark ps.length))])
    (hQ : ∀ v s', (∃ h tk, s' = { s with heap := h, toks := tk }) → s.toks ≤ s'.toks → (∀ b o, s.heap.get? b = some o → b ≠ L → s'.heap.get? b = some o) → s'.heap.Ns L mL → VRep [] s'.heap v (.tup [.list (txs nms ps.length), .list (prs ps ps.length)]) → Q v s') :
    wpAny (model PR w) A (call (.ref a) vs) Q E s := by
  have hsz : sizeLine = 16777216 := sizeLine_eq
  have hlen := H.len
  have hle' := H.le
  have htl := tlk_len nms ps mark ps.length
  have hfree : ∀ t ∈ tlk nms ps mark ps.length, 13 ∉ t.cps.toList := tlk_all (by omega) (by omega) (fun nm h => (H.l1 nm h).2.2) (fun q h => (H.l2 q h).2.2)
  have hsp : Txt.split (Txt.join crlf (tlk nms ps mark ps.length)) crlf = tlk nms ps mark ps.length := split_crlf _ (by
    intro q
    rw [q] at htl
    have := H.pos
    simp at htl; omega) hfree
  have hpb := parts_le (Txt.join crlf (tlk nms ps mark ps.length)) crlf H.big
  have hbig := H.big
  generalize hT : Txt.join crlf (tlk nms ps mark ps.length) = talk at *
  refine enterG (B₀ := hideAll s.heap [L]) (hid := [(L, mL)]) (by have := hr.depth; omega) (by decide) (by decide +kernel) rfl hv G (.inl tk) rs (fun b o e => of_hideAll _ e) (hideAll_size _ _) G₀ (fun a h => absurd h List.not_mem_nil) (List.forall_mem_cons.mpr ⟨nL, fun _ h => absurd h List.not_mem_nil⟩) fun env s₁ hfe hloc g₁ F => ?_
  have hr' : Room (A.deeper env) 1 := hr.deeper
  have hfr' : (A.deeper env).frames = some [env, le] := Around.frames_deeper hfr
  have hL₀ : (hideAll s.heap [L]).get? L = none := hideAll_none _ List.mem_cons_self
  generalize A.deeper env = A' at *
  suffices hx : Ex w A' env (bodyAt 72) (fun fl s' => ∃ v, fl = .ret v ∧ Q v s') s₁ from hx _
  refine Ex.openList (ρ' := [(Str.ofString "talk", .str talk)]) F (by decide +kernel) (by walk_at "ne") (by walk_at "sub") fun a1 s₂ F => ?_
  refine Ex.openList (ρ' := [(Str.ofString "talk", .str talk)]) F (by decide +kernel) (by walk_at "ne") (by walk_at "sub") fun a2 s₃ F => ?_
  refine Ex.forIn (S := .list ((tlk nms ps mark ps.length).map .str)) (its := (tlk nms ps mark ps.length).map .str) (osI := fun i => [(Str.ofString "pairs", a2, prs ps (i / 2)), (Str.ofString "texts", a1, txs nms ((i + 1) / 2))]) (ρI := fun _ => [(Str.ofString "talk", .str talk)])
    hr'.hh F (fun _ => rfl) ?_ Its.list (fun V hV => by obtain ⟨t, -, rfl⟩ := List.mem_map.mp hV; rfl) (by walk_at "kind") (fun _ => by walk_at "ne") (fun _ => by walk_at "ne") ?_ ?_
  · exact (Ev.split (x := talk) (y := crlf) (Ev.name F.cx (by walk_at "mem")) (Ev.crlf F.cx) F.cx.ow rfl (by omega) hpb).cast (by rw [hsp])
  · intro i V hV ex pn s F
    rw [List.getElem?_map] at hV
    rcases Nat.mod_two_eq_zero_or_one i with hi | hi
    · -- a 257 line
      obtain ⟨k, rfl⟩ : ∃ k, i = 2 * k := ⟨i / 2, by omega⟩
      have hk : k < ps.length := by
        have : 2 * k < (tlk nms ps mark ps.length).length := by
          cases e : (tlk nms ps mark ps.length)[2 * k]? with
          | none => rw [e] at hV; cases hV
          | some t => exact (List.getElem?_eq_some_iff.mp e).1
        omega
      rw [(tlk_get nms ps mark hk).1] at hV
      cases hV
      have hnm := H.l1 _ (atD (l := nms) (d := Str.empty) (k := k) (by omega))
      rw [show 2 * k / 2 = k by omega, show (2 * k + 1) / 2 = k by omega] at F
      refine Ex.tryNext (fun s' => Frm w mg mb A' _ env [] ex pn [(Str.ofString "pairs", a2, prs ps ((2 * k + 1) / 2)), (Str.ofString "texts", a1, txs nms ((2 * k + 1 + 1) / 2))] [(Str.ofString "talk", .str talk)] (scopeAt 72).names s') ?_ fun s' F' => Ex.nil ⟨rfl, F'⟩
      refine Ex.append (os₁ := [(Str.ofString "pairs", a2, prs ps k)]) (os₂ := []) (V := .str (nms.getD k Str.empty ++ Str.ofString "=")) F ((Ev.call_def F.cx (Evs.cons (Ev.name F.cx (by walk_at "mem")) Evs.nil) (c_257 hnm.1) (hr'.less (by decide)) rfl (by decide)).cast (by rw [hnm.2.1])) (by simp [txs]; omega) fun s₄ F₄ => Ex.nil ⟨rfl, ?_⟩
      rw [show (2 * k + 1) / 2 = k by omega, show (2 * k + 1 + 1) / 2 = k + 1 by omega, txs_succ]
      exact F₄.sub (by walk_at "subs")
    · -- a 229 line
      obtain ⟨k, rfl⟩ : ∃ k, i = 2 * k + 1 := ⟨i / 2, by omega⟩
      have hk : k < ps.length := by
        have : 2 * k + 1 < (tlk nms ps mark ps.length).length := by
          cases e : (tlk nms ps mark ps.length)[2 * k + 1]? with
          | none => rw [e] at hV; cases hV
          | some t => exact (List.getElem?_eq_some_iff.mp e).1
        omega
      rw [(tlk_get nms ps mark hk).2] at hV
      cases hV
      have hpm := H.l2 _ (atD (l := ps) (d := 0) (k := k) hk)
      have hrl : (ln2 mark (ps.getD k 0)).length ≤ 1000 := by
        have := hpm.2.1
        simp only [ok229, Bool.and_eq_true, decide_eq_true_eq] at this
        exact this.1.1.1.1.1.1.1.1.1.1.1.1
      rw [show (2 * k + 1) / 2 = k by omega, show (2 * k + 1 + 1) / 2 = k + 1 by omega] at F
      refine Ex.tryCatch (os₁ := [(Str.ofString "pairs", a2, prs ps k)]) (os₂ := []) (fun s' => Frm w mg mb A' _ env [] ex pn [(Str.ofString "pairs", a2, prs ps ((2 * k + 1 + 1) / 2)), (Str.ofString "texts", a1, txs nms ((2 * k + 1 + 1 + 1) / 2))] [(Str.ofString "talk", .str talk)] (scopeAt 72).names s') F hr' (by walk_at "mem") hpm.1 hrl hfr' hfe hle hlf rfl hL₀ rfl (fun A'' s' hh hq F' => ?_) fun s' F' => Ex.nil ⟨rfl, F'⟩
      refine Ex.append (os₁ := []) (os₂ := [(Str.ofString "texts", a1, txs nms (k + 1))]) (V := .tup [.int ((k + 1 : Nat) : Int), .int (ps.getD k 0)]) F' ?_ (by simp [prs]; omega) fun s₄ F₄ => Ex.nil ⟨rfl, ?_⟩
      · refine Ev.call_defG F'.cx (Evs.cons (Ev.name F'.cx (by walk_at "mem")) (Evs.cons (V := .tup [.int ((k + 1 : Nat) : Int), .int 21]) (Ev.tupD (Evs.cons (Ev.toOwn ((Ev.lenL (F'.cx.weak (own₁ := []) (fun _ h => absurd h List.not_mem_nil)) (Ev.opened F' (x := Str.ofString "texts") (a := a1) (l := txs nms (k + 1)) (by walk_at "mem")) (by simp [txs]; omega)).cast (V' := .int ((k + 1 : Nat) : Int)) (by simp [txs]))) (Evs.cons (Ev.gint F'.cx (by decide +kernel)) Evs.nil)) F'.cx.ow (by simp; omega)) Evs.nil)) (fun a' hv' => c_229 rfl hpm.2.1 _ _ a' hq hv') rfl (by decide)
      · rw [show (2 * k + 1 + 1) / 2 = k + 1 by omega, show (2 * k + 1 + 1 + 1) / 2 = k + 1 by omega, prs_succ]
        exact (F₄.sub (by walk_at "subs")).around
  · intro s F
    rw [List.length_map, htl, show 2 * ps.length / 2 = ps.length by omega, show (2 * ps.length + 1) / 2 = ps.length by omega] at F
    refine Ex.ret (own' := []) (Ev.tupD (Evs.cons (Ev.opened F (x := Str.ofString "texts") (a := a1) (l := txs nms ps.length) (by walk_at "mem")) (Evs.cons (Ev.opened F (x := Str.ofString "pairs") (a := a2) (l := prs ps ps.length) (by walk_at "mem")) Evs.nil)) (fun a h => absurd h List.not_mem_nil) (by simp; omega)) fun v s' g r => ⟨v, rfl, ?_⟩
    have F' := F.grow g
    obtain ⟨⟨h', t', rfl, k'⟩, l'⟩ := F'.gr
    exact hQ v _ ⟨h', t', rfl⟩ l' (fun b o e hb => k' b o (hideAll_get _ e (by simpa using hb))) (F'.hd (L, mL) List.mem_cons_self).1 r
end

end Mine
end

-- Ev22
section
open PySem PySem.W PySem.Calls PyProof.Rows PyProof.V PySem.Spec PySem.Builtin.Str PySem.SeqAt
namespace Mine

local macro_rules | `(tactic| walk_at "mem") => `(tactic| first | exact List.mem_cons_self | (refine List.mem_cons_of_mem _ ?_; walk_at "mem"))
local macro_rules | `(tactic| walk_at "kind") => `(tactic| first | exact Or.inl (by decide +kernel) | exact Or.inr (by decide +kernel))
local macro_rules | `(tactic| walk_at "ne") => `(tactic| first | exact (fun _ h => absurd h List.not_mem_nil) | (refine List.forall_mem_cons.mpr ⟨by dsimp only; decide +kernel, ?_⟩; walk_at "ne"))
local macro_rules | `(tactic| walk_at "sub") => `(tactic| first | exact (fun _ h => absurd h List.not_mem_nil) | (refine List.forall_mem_cons.mpr ⟨⟨by walk_at "mem", by dsimp only; decide +kernel⟩, ?_⟩; walk_at "sub"))
local macro_rules | `(tactic| walk_at "subs") => `(tactic| first | exact (fun _ h => absurd h List.not_mem_nil) | (refine List.forall_mem_cons.mpr ⟨by walk_at "mem", ?_⟩; walk_at "subs"))
local macro_rules | `(tactic| walk_at "blk") => `(tactic| first | exact (fun _ h => absurd h List.not_mem_nil) | (refine List.forall_mem_cons.mpr ⟨⟨by walk_at "mem", by dsimp only; decide +kernel⟩, ?_⟩; walk_at "blk"))

section
variable {prog : Program} {w : World} {A : Around} {E : Value → Shared → Prop} {R : Result → Shared → Prop} {s : Shared} {elt target iter : Expr} {scope : Scope} {pos : Pos} {it acc : Value} {env : Env}
/-- a block's loop whose target is a pair -/
theorem loop_pair (I : Nat → Shared → Prop)
    (turn : ∀ n s, I n s → wpAny (model prog w) A (pyNext it) (fun r s₁ => match r with
      | none => R (.ok .next) s₁
      | some v => wpAny (model prog w) A (letOwnedTupleGo target it v) (fun _ s₁' => wpAny (model prog w) A (PySem.assign target env v) (fun _ s₂ => wpAny (model prog w) A (eval elt env) (fun x s₄ =>
              wpAny (model prog w) A (call (.builtin "list.append") [acc, x]) (fun _ s₅ => ∃ m, m < n ∧ I m s₅) (notedBy (model prog w) A env fun e s' => R (.error e) s') s₄) (notedBy (model prog w) A env fun e s' => R (.error e) s') s₂) (notedBy (model prog w) A env fun e s' => R (.error e) s') s₁') (notedBy (model prog w) A env fun e s' => R (.error e) s') s₁) (notedBy (model prog w) A env fun e s' => R (.error e) s') s)
    (n : Nat) (h : I n s) : codeAny (model prog w) A (.compLoop (.ListComp elt [⟨target, iter, [], 0⟩] scope pos) 0 it acc env) R s := by
  refine codeAny_loop rfl I (fun n s hI => ?_) n h
  show wpAny _ A ((compTurn (.ListComp elt [⟨target, iter, [], 0⟩] scope pos) 0 it acc env).onRaise (fun x => do noteFrame x env; theTreesLotGoes x)) _ _ s
  refine wpAny_noted ?_
  rw [compTurn_list]
  refine wpAny_bind (wpAny_standAt (wpAny_bind (wpAny_mono (turn n s hI) (fun r s₁ h₁ => ?_) fun _ _ h' => h')))
  cases r with
  | none => exact wpAny_pure h₁
  | some v =>
    refine wpAny_bind (wpAny_mono h₁ (fun _ s₁' h₁' => ?_) fun _ _ h' => h')
    refine wpAny_bind (wpAny_mono h₁' (fun _ s₂ h₂ => wpAny_bind (wpAny_pure ?_)) fun _ _ h' => h')
    exact wpAny_bind (wpAny_bind (wpAny_mono h₂ (fun x s₄ h₄ => wpAny_bind (wpAny_mono h₄ (fun _ s₅ h₅ => wpAny_pure (wpAny_pure ⟨rfl, h₅⟩)) fun _ _ h' => h')) fun _ _ h' => h'))
end

section
variable {w : World} {mg mb : Str → Option Value} {A : Around} {env : Env} {own own₁ own₂ : List Addr} {ρ : List (Str × PV)} {names : List (Str × NameKind)} {s₀ : Base} {s : Shared}

theorem pair_block {α : Type} {U V : α → PV} {xs : List α} {elt iter : Expr} {x y : Str} {px py tp : Pos} {tk : Nat} {scope : Scope} {pos : Pos} {ρ' : List (Str × PV)} {cl : List (Str × Addr)} {s₁ s₂ : Shared} {I : Addr} {fp : List Addr} {P : Nat → Value → Prop} {St : Nat → Heap → Prop}
    {RR : Value → Addr → Result → Shared → Prop} {E : Value → Shared → Prop} (f : α → PV) (hh : A.handled = none) (hxl : scope.names.lookup x = some .local) (hyl : scope.names.lookup y = some .local) (hxy : x ≠ y)
    (c : Cx w mg mb A env own ρ names s₁) (B : Blk w mg mb A env ρ names scope ρ' x) (wi : WalkIs w A own s₁ (xs.map fun a => PV.tup [U a, V a]) I fp P St s₂) (g₁ : Grow s₁ s₂) (hsz : xs.length ≤ sizeLine)
    (hcl : ∀ n c, (n, c) ∈ cl → (n, NameKind.free) ∈ scope.names ∧ env.cells.lookup n = some c) (hcl' : ∀ n, (n, NameKind.free) ∈ scope.names → ∃ c, (n, c) ∈ cl)
    (hbody : ∀ a ∈ xs, ∀ own' s' env', Cx w mg mb A env' own' ((y, V a) :: (x, U a) :: ρ') scope.names s' → Ev w A env' own' s' elt (f a))
    (hRR : ∀ D C s' ys n, Grow s₁ s' → s₁.heap.get? D = none → s₁.heap.get? C = none → D ≠ C → (∃ m, s'.heap.Ns C m) → s'.heap.get? D = some (listObj ys n) → VReps own s'.heap ys (xs.map f) → RR (.ref D) C (.ok .next) s') :
    wpAny (model PR w) A (newList []) (fun acc s₃ => wpAny (model PR w) A (newFunctionEnv scope env.globals cl [] env.qual none .none (some env)) (fun cenv s₄ =>
      codeAny (model PR w) A (.compStart (.ListComp elt [⟨.Tuple [.Name x px, .Name y py] tk tp, iter, [], 0⟩] scope pos) 0 (.ref I) acc { cenv with scope := relabel scope env }) (RR acc cenv.locals) s₄) E s₃) E s₂ := by
  refine wpAny_newObj_type (block_env ?_)
  dsimp only
  generalize hH2 : s₂.heap.push { cls := .type "list", dict := none, data := .seq ([] : List Value).toArray } = H2
  have hC : H2.objs.size = s₂.heap.objs.size + 1 := by rw [← hH2, Heap.size_push]
  have ho₂ : ∀ a, s₂.heap.objs.size ≤ a → s₁.heap.get? a = none := fun a ha => by
    cases e : s₁.heap.get? a with
    | none => rfl
    | some o => exact absurd (Heap.lt_size (g₁.keep _ _ e)) (Nat.not_lt.mpr ha)
  generalize hD : s₂.heap.objs.size = D at hC ho₂
  have hDf : D ∉ fp := fun m => by have := natLt (wi.lt _ m); omega
  -- the state ahead of the loop
  generalize hCdef : H2.objs.size = C at hC
  have kp : ∀ b o, s₂.heap.get? b = some o → (pushCells (H2.push { cls := .type "dict", data := .dict #[] }) scope.names).get? b = some o := fun b o e =>
    pushCells_keeps _ _ b o (Heap.get?_push_of_some _ (hH2 ▸ Heap.get?_push_of_some _ e))
  have hDC : D ≠ C := neNat (by omega)
  have b₀ : BlkAt scope cl C env x (pushCells (H2.push { cls := .type "dict", data := .dict #[] }) scope.names) := by
    have hs : (H2.push { cls := .type "dict", data := .dict #[] }).objs.size = C + 1 := by rw [Heap.size_push, hCdef]
    refine ⟨⟨_, (hCdef ▸ Heap.Ns.new H2 (.type "dict")).keeps (pushCells_keeps _ _)⟩, fun hx => ?_⟩
    obtain ⟨c', hc'⟩ := cellsFrom_own scope.names (C + 1) cl x (mem_of_lookup hx)
    obtain ⟨c'', e⟩ := lookup_some_of_mem hc'
    have hm := mem_of_lookup e
    rw [← hs] at hm
    rcases newCells _ _ _ _ hm with q | ⟨q1, q2⟩
    · have := nodup_snd B.nd (hcl _ _ q).1 (mem_of_lookup hx); cases this
    · exact ⟨c'', _, e, q1, by rw [hs] at q2; exact q2⟩
  have hTx₀ : tgtAt scope cl C env x = C := if_pos hxl
  have hCf : ∀ b ∈ fp, b ≠ C ∧ b ≠ tgtAt scope cl C env x ∧ b ≠ D := fun b m => by
    have l := natLt (wi.lt _ m)
    rw [hTx₀]
    exact ⟨neNat (by omega), neNat (by omega), neNat (by omega)⟩
  have hTD : tgtAt scope cl C env x ≠ D := by
    rw [hTx₀]; exact Ne.symm hDC
  have hT₁ : s₁.heap.get? (tgtAt scope cl C env x) = none := by
    rw [hTx₀]; exact ho₂ _ (by omega)
  have hD₁ := ho₂ D (Nat.le_refl _)
  have hC₁ := ho₂ C (by omega)
  have old1 : ∀ {b o}, s₁.heap.get? b = some o → b ≠ I ∧ b ≠ D ∧ b ≠ C ∧ b ≠ tgtAt scope cl C env x := fun {b o} e =>
    ⟨(by rintro rfl; rw [wi.new] at e; cases e), (by rintro rfl; rw [hD₁] at e; cases e), (by rintro rfl; rw [hC₁] at e; cases e), (by rintro rfl; rw [hT₁] at e; cases e)⟩
  have loop : ∀ s₃ : Shared, s₃ = { s₂ with heap := pushCells (H2.push { cls := .type "dict", data := .dict #[] }) scope.names } →
      codeAny (model PR w) A (.compLoop (.ListComp elt [⟨.Tuple [.Name x px, .Name y py] tk tp, iter, [], 0⟩] scope pos) 0 (.ref I) (.ref D) (blockEnv scope cl C env)) (RR (.ref D) C) s₃ := by
    rintro s₃ rfl
    have hIfp : I ∈ fp := wi.W.sub _ (List.mem_singleton.mpr rfl)
    have hDI : D ≠ I := by rintro rfl; exact hDf hIfp
    have hCI : C ≠ I := fun q => (hCf _ hIfp).1 q.symm
    have hTI : tgtAt scope cl C env x ≠ I := fun q => (hCf _ hIfp).2.1 q.symm
    refine loop_pair (I := fun k s' => ∃ i ys n, i ≤ xs.length ∧ k = xs.length + 1 - i ∧ Grow s₁ s' ∧ St i s'.heap ∧ s'.heap.get? D = some (listObj ys n) ∧ VReps (I :: D :: own) s'.heap ys ((xs.take i).map f) ∧ BlkAt scope cl C env x s'.heap)
      (turn := ?turn) (n := xs.length + 1) (h := ?start)
    case start =>
      refine ⟨0, [], 0, Nat.zero_le _, rfl, g₁.trans (Grow.of (t := s₂.toks) kp (Nat.le_refl _)), wi.W.frame _ _ _ wi.st fun b _ o e => kp b o e, ?_, by simpa using VReps.nil, b₀⟩
      exact pushCells_keeps _ _ _ _ (Heap.get?_push_of_some _ (hH2 ▸ hD ▸ Heap.get?_push_size _ rfl))
    case turn =>
      rintro k s' ⟨i, ys, n, hi, rfl, ⟨⟨h', t', rfl, k'⟩, l'⟩, st, hD', hys, b⟩
      dsimp only at st hD' hys b
      have hxn : (xs.map fun a => PV.tup [U a, V a]).length = xs.length := by simp
      have hlys : ys.length ≤ i := by
        rw [hys.length]
        simp only [List.length_map]
        rw [List.length_take]; omega
      by_cases hlt : i < xs.length
      · refine grown (wi.W.item i _ _ _ (by rw [hxn]; exact hlt) st fun v h₁ tk₁ hPv st₁ hk₁ ht₁ => ?_)
        dsimp only at hk₁ ht₁ ⊢
        have ha := List.getElem?_eq_getElem hlt
        generalize hxa : xs[i] = a at ha
        have hmem : a ∈ xs := hxa ▸ List.getElem_mem hlt
        have k₁ : ∀ b o, s₁.heap.get? b = some o → h₁.get? b = some o := fun b o e => hk₁ b o (by simpa using (old1 e).1) (k' b o e)
        have r1 : VRep (I :: D :: own) h₁ v (.tup [U a, V a]) := by
          obtain ⟨V', e2, r2⟩ := wi.item i v (by rw [hxn]; exact hlt) hPv s₁.heap (fun _ _ _ _ e => e)
          rw [List.getElem?_map, ha] at e2
          cases e2
          exact r2.move (fun b o _ _ e => k₁ b o e) (fun b hs ho hm => by
            rcases List.mem_cons.mp hm with rfl | hm
            · rw [wi.new] at hs; cases hs
            · rcases List.mem_cons.mp hm with rfl | hm
              · rw [hD₁] at hs; cases hs
              · exact ho hm)
        have b₁ : BlkAt scope cl C env x h₁ := b.keeps fun b' hb o e => hk₁ b' o (by
          rw [List.mem_singleton]
          rcases hb with rfl | rfl
          · exact hCI
          · exact hTI) e
        have hD₁' : h₁.get? D = some (listObj ys n) := hk₁ _ _ (by simpa using hDI) hD'
        refine wi.nolet _ _ _ _ { s₁ with heap := h₁, toks := tk₁ } (i + 1) st₁ ?_
        cases r1 with
        | @tup ta tvs tn _ gT oT q =>
        cases q with
        | @cons v1 _ _ _ q1 q =>
        cases q with
        | @cons v2 _ _ _ q2 q =>
        cases q
        refine assign_Tuple_tuple (s := { s₁ with heap := h₁, toks := tk₁ }) hh (items := [v1, v2].toArray) ⟨_, gT, rfl, _, rfl⟩ rfl rfl fun hU hkU => ?_
        have kU : ∀ b o, h₁.get? b = some o → hU.get? b = some o := fun b o e => hkU b o (Nat.ne_of_lt (Heap.lt_size e)) e
        obtain ⟨mC, nC⟩ := b₁.ns
        have nCU := nC.keeps kU
        have hTx : tgtAt scope cl C env x = C := if_pos hxl
        have hkx : ∀ z, scope.names.lookup z = some .local → (blockEnv scope cl C env).kindOf z = some .local := fun z hz => by
          show (relabel scope env).names.lookup z = _
          rw [lookup_relabel, hz]; rfl
        have hfn : (blockEnv scope cl C env).scope.kind = .function := B.kind
        have nvD : ∀ {h : Heap} {m b o}, h.Ns C m → IsVal o → h.get? b = some o → b ≠ C := fun {h m b o} n iv e q => by
          obtain ⟨oC', esC', epC', gC', dC', -⟩ := n
          rw [q, gC'] at e; cases e
          rcases iv with ⟨q1, q2, q3⟩ | ⟨q1, q2⟩ <;> rw [dC'] at * <;> contradiction
        show wpAny _ A (assignInOrder [PySem.assign (.Name x px) (blockEnv scope cl C env), PySem.assign (.Name y py) (blockEnv scope cl C env)] [v1, v2]) _ _ _
        refine assignInOrder_cons (wpAny_assign_Name (wpAny_storeName_local (env := blockEnv scope cl C env) (hkx x hxl) nCU (fun hA nA hsA => ?_) (by rw [hfn]; rfl)))
        refine assignInOrder_cons (wpAny_assign_Name (wpAny_storeName_local (env := blockEnv scope cl C env) (hkx y hyl) nA (fun h₂ n₂ hsB => ?_) (by rw [hfn]; rfl)))
        refine PyProof.Rows.assignInOrder_nil ?_
        generalize htk₂ : tk₁ + 1 + 1 = tk₂
        have ht₂ : tk₁ ≤ tk₂ := by rw [← htk₂]; exact Nat.le_trans (Nat.le_succ _) (Nat.le_succ _)
        have hs₂ : ∀ b, b ≠ C → h₂.get? b = hU.get? b := fun b hb => (hsB.2 b hb).trans (hsA.2 b hb)
        have kv₂ : ∀ b o, IsVal o → h₁.get? b = some o → h₂.get? b = some o := fun b o iv e => (hs₂ b (nvD nCU iv (kU b o e))).trans (kU b o e)
        have b₂ : BlkAt scope cl C env x h₂ := ⟨⟨_, n₂⟩, fun q => by rw [hxl] at q; cases q⟩
        have lx₂ : LocV (I :: D :: own) h₂ (blockEnv scope cl C env) x (U a) := .inl ⟨hkx x hxl, _, v1, n₂, by rw [if_neg hxy, if_pos rfl], q1.move (fun b o iv _ e => kv₂ b o iv e) (fun _ _ z => z)⟩
        have ly₂ : LocV (I :: D :: own) h₂ (blockEnv scope cl C env) y (V a) := .inl ⟨hkx y hyl, _, v2, n₂, if_pos rfl, q2.move (fun b o iv _ e => kv₂ b o iv e) (fun _ _ z => z)⟩
        have k₂ : ∀ b o, s₁.heap.get? b = some o → h₂.get? b = some o := fun b o e => (hs₂ b (old1 e).2.2.1).trans (kU b o (k₁ b o e))
        have g₂ : Grow s₁ { s₁ with heap := h₂, toks := tk₂ } := Grow.of k₂ (Nat.le_trans l' (Nat.le_trans ht₁ ht₂))
        have hD₂ : h₂.get? D = some (listObj ys n) := (hs₂ D hDC).trans (kU _ _ hD₁')
        have st₂ : St (i + 1) h₂ := wi.W.frame _ _ _ st₁ fun b hb o e => (hs₂ b (hCf b hb).1).trans (kU _ _ e)
        have ow₂ : Ow (I :: D :: own) h₂ := fun a m => by
          rcases List.mem_cons.mp m with rfl | m
          · obtain ⟨o, e, _⟩ := wi.ex _ _ st₂; exact ⟨o, e⟩
          · rcases List.mem_cons.mp m with rfl | m
            · exact ⟨_, hD₂⟩
            · exact (c.ow.keeps k₂) a m
        have hys₂ : VReps (I :: D :: own) h₂ ys ((xs.take i).map f) := hys.move (fun b' o iv hb e => kv₂ b' o iv (hk₁ b' o (fun hm => hb (by rw [List.mem_singleton] at hm; subst hm; exact List.mem_cons_self)) e)) (fun _ _ z => z)
        have cx := c.block (own' := I :: D :: own) B hcl hcl' g₂ ow₂ (fun b hs ho hm => by
            rcases List.mem_cons.mp hm with rfl | hm
            · rw [wi.new] at hs; cases hs
            · rcases List.mem_cons.mp hm with rfl | hm
              · rw [hD₁] at hs; cases hs
              · exact ho hm) lx₂
        have cxy : Cx w mg mb A (blockEnv scope cl C env) (I :: D :: own) ((y, V a) :: (x, U a) :: ρ') scope.names { s₁ with heap := h₂, toks := tk₂ } := { cx with bd := List.forall_mem_cons.mpr ⟨ly₂, cx.bd⟩ }
        have ht : (xs.take (i + 1)).map f = (xs.take i).map f ++ [f a] := by rw [List.take_add_one, ha]; simp
        refine (hbody a hmem _ _ _ cxy).then (Grow.refl _) fun z s₄ g₂₄ r₄ => ?_
        obtain ⟨⟨h₄, t₄, e₄, k₄⟩, l₄⟩ := g₂.trans g₂₄
        subst e₄
        have hD₄ : h₄.get? D = some (listObj ys n) := g₂₄.keep _ _ hD₂
        refine wpAny_list_append_plain (hsz := by rw [List.size_toArray]; exact Nat.le_trans hlys (Nat.le_trans hi hsz)) ⟨n, hD₄⟩ fun h₅ hl₅ hs₅ => ?_
        obtain ⟨n', hD₅⟩ := hl₅
        refine ⟨xs.length + 1 - (i + 1), by omega, i + 1, ys ++ [z], n', hlt, rfl, Grow.of (fun b o e => (hs₅.2 b (old1 e).2.1).trans (k₄ b o e)) l₄, ?_, ?_, ?_, ?_⟩
        · exact wi.W.frame _ _ _ st₂ fun b hb o e => (hs₅.2 b (hCf b hb).2.2).trans (g₂₄.keep b o e)
        · rw [hD₅]; simp
        · rw [ht]
          have mv : ∀ {vs ps}, VReps (I :: D :: own) h₄ vs ps → VReps (I :: D :: own) h₅ vs ps := fun r => r.move (fun b o _ hb e => (hs₅.2 b (by rintro rfl; simp at hb)).trans e) (fun _ _ z => z)
          exact mv ((hys₂.keeps g₂₄.keep).append (.cons r₄ .nil))
        · exact b₂.keeps fun b hb o e => (hs₅.2 b (by
            rcases hb with rfl | rfl
            · exact Ne.symm hDC
            · exact hTD)).trans (g₂₄.keep b o e)
      · have hin : i = xs.length := by omega
        subst hin
        refine grown (wi.W.done _ _ _ (by rw [hxn]; exact st) fun h₁ tk₁ hk₁ ht₁ => ?_)
        dsimp only at hk₁ ht₁ ⊢
        have k₁ : ∀ b o, s₁.heap.get? b = some o → h₁.get? b = some o := fun b o e => hk₁ b o (by simpa using (old1 e).1) (k' b o e)
        rw [List.take_length] at hys
        refine hRR D C _ ys n (Grow.of k₁ (Nat.le_trans l' ht₁)) hD₁ hC₁ hDC ?_ (hk₁ _ _ (by simpa using hDI) hD') ?_
        · exact (b.keeps (h' := h₁) fun b' hb o e => hk₁ b' o (by
            rw [List.mem_singleton]
            rcases hb with rfl | rfl
            · exact hCI
            · exact hTI) e).ns
        · exact hys.move (fun b o _ hb e => hk₁ b o (fun hm => hb (by rw [List.mem_singleton] at hm; subst hm; exact List.mem_cons_self)) e) (fun b _ hb hm => hb (List.mem_cons_of_mem _ (List.mem_cons_of_mem _ hm)))
  have l := loop _ rfl
  have hst : St 0 (pushCells (H2.push { cls := .type "dict", data := .dict #[] }) scope.names) := wi.W.frame _ _ _ wi.st fun b _ o e => kp b o e
  exact codeAny_compStart_list l (wi.W.self 0 _ _ _ hst l)
end

end Mine
end

-- Ev23
section
open PySem PySem.W PySem.Calls PyProof.Rows PyProof.V PySem.Spec PySem.Builtin.Str PySem.SeqAt
namespace Mine

local macro_rules | `(tactic| walk_at "mem") => `(tactic| first | exact List.mem_cons_self | (refine List.mem_cons_of_mem _ ?_; walk_at "mem"))
local macro_rules | `(tactic| walk_at "kind") => `(tactic| first | exact Or.inl (by decide +kernel) | exact Or.inr (by decide +kernel))
local macro_rules | `(tactic| walk_at "ne") => `(tactic| first | exact (fun _ h => absurd h List.not_mem_nil) | (refine List.forall_mem_cons.mpr ⟨by dsimp only; decide +kernel, ?_⟩; walk_at "ne"))
local macro_rules | `(tactic| walk_at "sub") => `(tactic| first | exact (fun _ h => absurd h List.not_mem_nil) | (refine List.forall_mem_cons.mpr ⟨⟨by walk_at "mem", by dsimp only; decide +kernel⟩, ?_⟩; walk_at "sub"))
local macro_rules | `(tactic| walk_at "subs") => `(tactic| first | exact (fun _ h => absurd h List.not_mem_nil) | (refine List.forall_mem_cons.mpr ⟨by walk_at "mem", ?_⟩; walk_at "subs"))
local macro_rules | `(tactic| walk_at "blk") => `(tactic| first | exact (fun _ h => absurd h List.not_mem_nil) | (refine List.forall_mem_cons.mpr ⟨⟨by walk_at "mem", by dsimp only; decide +kernel⟩, ?_⟩; walk_at "blk"))

section
variable {w : World} {mg mb : Str → Option Value} {A : Around} {env : Env} {own own₁ own₂ : List Addr} {ρ : List (Str × PV)} {names : List (Str × NameKind)} {s₀ : Base} {s : Shared} {os : Opens} {pn : List (Addr × Obj)} {ex : List Addr}

theorem Ev.compPair {α : Type} {U V : α → PV} {xs : List α} {S : PV} {elt iter : Expr} {x y : Str} {px py tp : Pos} {tk : Nat} {scope : Scope} {pos : Pos} {ρ' : List (Str × PV)} (f : α → PV) (hh : A.handled = none) (hxl : scope.names.lookup x = some .local) (hyl : scope.names.lookup y = some .local) (hxy : x ≠ y)
    (c : Cx w mg mb A env own ρ names s) (hi : Ev w A env own s iter S) (hit : Its S (xs.map fun a => .tup [U a, V a])) (hsz : xs.length ≤ sizeLine) (B : Blk w mg mb A env ρ names scope ρ' x)
    (hbody : ∀ a ∈ xs, ∀ own' s' env', Cx w mg mb A env' own' ((y, V a) :: (x, U a) :: ρ') scope.names s' → Ev w A env' own' s' elt (f a))
    (hs : ∀ x, foldedSetIterable iter env x = pure x := by intro _; rfl) :
    Ev w A env own s (.ListComp elt [⟨.Tuple [.Name x px, .Name y py] tk tp, iter, [], 0⟩] scope pos) (.list (xs.map f)) := fun s' g E => by
  have c' := c.grow g
  obtain ⟨cl, hcl, h1, h2⟩ := closureFor_some (env := env) (scope := scope) fun n h => (c'.ck n (B.free n h)).2
  rw [eval_ListComp]
  refine wpAny_comprehension_free (use := none) rfl hs hcl B.kind (hnames_of B.nd) ?_
  refine hi.then g fun v s₁ g₁ r => ?_
  have c₁ := c'.grow g₁
  refine Itr.of hh c₁.ow r hit _ _ fun I fp P St s₂ g₂ wi => ?_
  refine pair_block (RR := fun acc C => compPost (model PR w) A E none (fun v s'' => Grow s' s'' ∧ VRep own s''.heap v (.list (xs.map f))) acc C) f hh hxl hyl hxy c₁ B wi g₂ hsz h1 h2 hbody ?_
  intro D C s₃ ys n g₃ hD hC hDC hn hl hys
  obtain ⟨m, hn⟩ := hn
  refine ⟨m, hn, fun h'' hs'' => ?_⟩
  have kk : ∀ b o, s₁.heap.get? b = some o → h''.get? b = some o := fun b o e => (hs''.2 b (by rintro rfl; rw [hC] at e; cases e)).trans (g₃.keep b o e)
  refine ⟨?_, ?_⟩
  · refine g₁.trans ?_
    obtain ⟨⟨h₃, t₃, rfl, k₃⟩, l₃⟩ := g₃
    exact Grow.of kk l₃
  · refine .list ((hs''.2 D hDC).trans hl) (c₁.ow.fresh hD) (hys.move (fun b o iv _ e => (hs''.2 b ?_).trans e) (fun _ _ z => z))
    rintro rfl
    obtain ⟨o', es, ep, g', d, -⟩ := hn
    rw [e] at g'; cases g'
    rcases iv with ⟨q1, q2, q3⟩ | ⟨q1, q2⟩ <;> rw [d] at * <;> contradiction

/-- two names bound to a pair, where the value's walk may turn the frames' slots -/
theorem Ex.unpackG {x y : Str} {px py tp pos : Pos} {k : Nat} {e : Expr} {U V : PV} {ρ' : List (Str × PV)} {rest : List Stmt} {P : Flow → Shared → Prop} (hh : A.handled = none)
    (he : ∀ E : Value → Shared → Prop, wpAny (model PR w) A (eval e env) (fun v s₁ => Frm w mg mb A s₀ env own ex pn os ρ names s₁ ∧ VRep (adrs os ++ (ex ++ own)) s₁.heap v (.tup [U, V])) E s)
    (hx : names.lookup x = some .local ∨ names.lookup x = some .cell) (hy : names.lookup y = some .local ∨ names.lookup y = some .cell) (hxy : x ≠ y) (hox : ∀ p ∈ os, p.1 ≠ x) (hoy : ∀ p ∈ os, p.1 ≠ y) (hρ : ∀ p ∈ ρ', p ∈ ρ ∧ p.1 ≠ x) (hρy : ∀ p ∈ ρ', p.1 ≠ y)
    (h : ∀ s', Frm w mg mb A s₀ env own ex pn os ((y, V) :: (x, U) :: ρ') names s' → Ex w A env rest P s')
    (hs : swapsWithSole [.Tuple [.Name x px, .Name y py] k tp] e pos.line env = pure false := by rfl) (hw : swappedStores [.Tuple [.Name x px, .Name y py] k tp] e env = pure none := by rfl) :
    Ex w A env (.Assign [.Tuple [.Name x px, .Name y py] k tp] e pos :: rest) P s := fun E => by
  refine wpAny_execs_cons (PyProof.Rows.Assign_Tuple (wpAny_mono (he _) (fun v s₁ h₁ => ?_) fun _ _ e => e) hs hw)
  obtain ⟨F, r⟩ := h₁
  cases r with
  | @tup a vs n _ g o q =>
    cases q with
    | @cons v1 _ _ _ r1 q =>
      cases q with
      | @cons v2 _ _ _ r2 q =>
        cases q
        refine assign_Tuple_tuple hh (items := [v1, v2].toArray) ⟨_, g, rfl, _, rfl⟩ rfl rfl fun h' hk => ?_
        have kk : ∀ b o, s₁.heap.get? b = some o → h'.get? b = some o := fun b o e => hk b o (Nat.ne_of_lt (Heap.lt_size e)) e
        have F₂ := F.grow (Grow.hp kk)
        show wpAny _ A (assignInOrder [PySem.assign (.Name x px) env, PySem.assign (.Name y py) env] [v1, v2]) _ E _
        refine assignInOrder_cons (wpAny_assign_Name (F₂.stored hx fun h₃ tk S => ?_))
        have F₃ := F₂.afterStore (V := U) (ρ' := ρ') hox hρ (r1.keeps kk) S
        refine assignInOrder_cons (wpAny_assign_Name (F₃.store (V := V) (ρ' := (x, U) :: ρ') hy hoy (List.forall_mem_cons.mpr ⟨⟨List.mem_cons_self, hxy⟩, fun p hp => ⟨List.mem_cons_of_mem _ hp, hρy p hp⟩⟩) ((r2.keeps kk).move (fun b o iv _ e => S.kv b o iv e) (fun _ _ z => z)) fun s₄ F₄ => ?_))
        exact PyProof.Rows.assignInOrder_nil (h _ F₄ E)
end

-- what the law draws
noncomputable def nmb (ns : List Int) : List Int := ns.take 60
noncomputable def st6 : List Int := [0, 1, 4, 5, 8, 6]
noncomputable def drw (ns : List Int) (k : Nat) : Int := st6.getD k 0 + ((rngItems k (nmb ns).length 6).map fun on => (nmb ns).getD on.toNat 0).sum
noncomputable def drws (ns : List Int) : List Int := (List.range 6).map (drw ns)
noncomputable def blw (ns : List Int) : List Int := (List.range 6).map fun k => (drw ns k).fmod ((k : Int) + 1)
noncomputable def marks : Str := Str.ofString "<>=&|\""
noncomputable def mrk (ns : List Int) : Str := Txt.item marks ((drw ns 0).fmod 6)
noncomputable def nms6 (ns : List Int) : List Str := nmsF (blw ns) 6

theorem rng6 : ∀ k : Nat, k < 6 → ∀ n : Nat, n < 61 → (Builtin.Range.small (k : Int) (n : Int) 6 && decide (0 ≤ Builtin.Range.rangeSize (k : Int) (n : Int) 6) && !Builtin.divisionGoesByPylong ((n : Int) - k) 6 && (rngItems (k : Int) (n : Int) 6).all (fun on => decide (0 ≤ on) && decide (on < n)) && decide ((rngItems (k : Int) (n : Int) 6).length ≤ 100)) = true := by
  decide +kernel

/-- what is asked of a draw -/
structure OkD (b : List Int) (mark : Str) : Prop where
  nm : ∀ x ∈ nmsF b 6, x.length ≤ 100 ∧ (ln1 x).length ≤ 1000
  l2 : ∀ p ∈ b, p.natAbs.log2 < 1920 ∧ (ln2 mark p).length ≤ 1000
  h : OkH (nmsF b 6) b mark
  l : OkL ((nmsF b 6).map fun x => x ++ Str.ofString "=") b
  sk : ∀ x ∈ nmsF b 6, PyData.strOk (x ++ Str.ofString "=") = true

theorem blw_len (ns : List Int) : (blw ns).length = 6 := by simp [blw]
theorem blw_at (ns : List Int) {k : Nat} (hk : k < 6) : (blw ns).getD k 0 = (drw ns k).fmod ((k : Int) + 1) := by
  simp [blw, List.getD, hk]
theorem blw_rng (ns : List Int) (k : Nat) (hk : k < 6) : 0 ≤ (blw ns).getD k 0 ∧ (blw ns).getD k 0 ≤ k := by
  rw [blw_at ns hk]
  have h1 := Int.fmod_nonneg_of_pos (drw ns k) (b := (k : Int) + 1) (by omega)
  have h2 := Int.fmod_lt_of_pos (drw ns k) (b := (k : Int) + 1) (by omega)
  omega

end Mine
end

-- W80
section
open PySem PySem.W PySem.Calls PyProof.Rows PyProof.V PySem.Spec PySem.Builtin.Str PySem.SeqAt
namespace Mine

local macro_rules | `(tactic| walk_at "mem") => `(tactic| first | exact List.mem_cons_self | (refine List.mem_cons_of_mem _ ?_; walk_at "mem"))
local macro_rules | `(tactic| walk_at "kind") => `(tactic| first | exact Or.inl (by decide +kernel) | exact Or.inr (by decide +kernel))
local macro_rules | `(tactic| walk_at "ne") => `(tactic| first | exact (fun _ h => absurd h List.not_mem_nil) | (refine List.forall_mem_cons.mpr ⟨by dsimp only; decide +kernel, ?_⟩; walk_at "ne"))
local macro_rules | `(tactic| walk_at "sub") => `(tactic| first | exact (fun _ h => absurd h List.not_mem_nil) | (refine List.forall_mem_cons.mpr ⟨⟨by walk_at "mem", by dsimp only; decide +kernel⟩, ?_⟩; walk_at "sub"))
local macro_rules | `(tactic| walk_at "subs") => `(tactic| first | exact (fun _ h => absurd h List.not_mem_nil) | (refine List.forall_mem_cons.mpr ⟨by walk_at "mem", ?_⟩; walk_at "subs"))
local macro_rules | `(tactic| walk_at "blk") => `(tactic| first | exact (fun _ h => absurd h List.not_mem_nil) | (refine List.forall_mem_cons.mpr ⟨⟨by walk_at "mem", by dsimp only; decide +kernel⟩, ?_⟩; walk_at "blk"))

section
variable {w : World} {mg mb : Str → Option Value} {A : Around} {env : Env} {own own₁ own₂ : List Addr} {ρ : List (Str × PV)} {names : List (Str × NameKind)} {s₀ : Base} {s : Shared} {os : Opens} {pn : List (Addr × Obj)} {ex : List Addr}

theorem Ev.charC {value slice : Expr} {x : Str} {i : Int} {pos : Pos} (hv : Ev w A env own s value (.str x)) (hi : Ev w A env own s slice (.int i)) (h1 : -(x.length : Int) ≤ i) (h2 : i < x.length) (hr : fitsSsize i = true)
    (hs : ∀ o i, subscripted slice false o i = operate [o, i] (getItem o i) := by intro _ _; with_unfolding_all rfl) : Ev w A env own s (.Subscript value slice pos) (.str (Txt.item x i)) :=
  hv.subs hi fun s' u v E g r₁ r₂ => by
    cases r₁; cases r₂
    exact PyProof.Rows.item_str hr h1 h2 (fun _ => ⟨Grow.tok (Nat.le_succ _), .str⟩) (hs _ _) (fun r => ltg_str value _ _ r)
theorem cut_map {α β : Type} (f : α → β) (l : List α) (lo hi : Option Int) : cut (l.map f) lo hi = (cut l lo hi).map f := by
  simp [cut, List.map_take, List.map_drop]
theorem cut60 (ns : List Int) : cut ns none (some 60) = nmb ns := by
  simp only [cut, kms_lo, kms_hi, nmb]
  rw [if_neg (by decide)]
  simp only [List.drop_zero, Nat.sub_zero]
  show ns.take (min 60 ns.length) = _
  rw [List.take_eq_take_iff]; omega
theorem txs_all {nms : List Str} {n : Nat} (h : nms.length = n) : txs nms n = (nms.map fun nm => PV.str (nm ++ Str.ofString "=")) := by
  subst h
  unfold txs
  apply List.ext_getElem?
  intro i
  by_cases hi : i < nms.length
  · simp [hi, List.getD]
  · simp [hi]

set_option maxHeartbeats 16000000 in
set_option maxRecDepth 100000 in
theorem c_law {ns : List Int} (hl : ns.length ≤ 1000) (D : OkD (blw ns) (mrk ns)) {a : Addr} {vs : List Value} {Q : Value → Shared → Prop} {E : Value → Shared → Prop} (hr : Room A 4) (hfr : A.frames = some []) (hv : mg (nameAt 80) = some (.ref a)) (G : GF w mg mb s.heap) (rs : VReps [] s.heap vs [.list (ns.map .int)])
    (hQ : ∀ s', Grow s s' → Q (.bool true) s') : wpAny (model PR w) A (call (.ref a) vs) Q E s := by
  have hsz : sizeLine = 16777216 := sizeLine_eq
  have hb6 := blw_len ns
  have fit : ∀ i : Int, -2000 < i → i < 2000 → fitsSsize i = true := fun i a b => fitsSsize_of (N := 2000) a b (by decide)
  have hn6 : (nms6 ns).length = 6 := len_nmsF _ _
  refine enterG (B₀ := s.heap) (hid := []) (by have := hr.depth; omega) (by decide) (by decide +kernel) rfl hv G (.inr ⟨Str.ofString "script", by decide +kernel, by decide +kernel⟩) rs (fun _ _ e => e) rfl G (fun a h => absurd h List.not_mem_nil) (fun p hp => by simp at hp) fun env s₁ hfe hloc g₁ F => ?_
  have hr' : Room (A.deeper env) 3 := hr.deeper
  have hfr' : (A.deeper env).frames = some [env] := Around.frames_deeper hfr
  have hkm : env.scope.kind ≠ .module := by rw [F.cx.fn]; decide
  generalize A.deeper env = A' at *
  obtain ⟨B, hBh, hBi, hBd, hBg, F⟩ : ∃ B : Base, B.heap = s.heap ∧ B.hid = [] ∧ B.dic = [] ∧ (∀ s', Grow B.toShared s' → Grow s s') ∧ Frm w mg mb A' B env [] [] [] [] ((paramsAt 80).zip [.list (ns.map .int)]) (scopeAt 80).names s₁ := ⟨_, rfl, rfl, rfl, fun _ g => g, F⟩
  suffices hx : Ex w A' env (bodyAt 80) (fun fl s' => ∃ v, fl = .ret v ∧ Q v s') s₁ from hx _
  have hnb : (nmb ns).length < 61 := by simp [nmb]; omega
  -- numbers, start
  refine Ex.assign (V := .list ((nmb ns).map .int)) (ρ' := []) F ((Ev.sliceL (Ev.name F.cx (by walk_at "mem")) .none (.some Ev.ci) F.cx.ow (by simp; omega)).cast (by rw [cut_map, cut60])) (by walk_at "kind") (by walk_at "ne") (by walk_at "sub") fun s F => ?_
  refine Ex.assign (V := .list (st6.map .int)) (ρ' := [(Str.ofString "numbers", .list ((nmb ns).map .int))]) F (Ev.listD (Vs := st6.map .int) (Evs.cons Ev.cint (Evs.cons Ev.cint (Evs.cons Ev.cint (Evs.cons Ev.cint (Evs.cons Ev.cint (Evs.cons Ev.cint Evs.nil)))))) F.cx.ow (by simp [st6]; omega)) (by walk_at "kind") (by walk_at "ne") (by walk_at "sub") fun s F => ?_
  -- drawn
  refine Ex.assign (V := .list ((drws ns).map .int)) (ρ' := []) F ((Ev.comp (α := Nat) (inj := fun k => .int k) (xs := List.range 6) (S := .rng 0 (6 : Nat) 1) (fun _ => true) (fun k => .int (drw ns k)) hr'.hh F.cx (ρ' := [(Str.ofString "start", .list (st6.map .int)), (Str.ofString "numbers", .list ((nmb ns).map .int))]) (Ev.range1 F.cx Ev.cint) (Its.rangeN (by omega)) (by simp; omega) (Blk.of (by decide +kernel) (by walk_at "blk")) (fun k hk own' s' env' c' => ⟨.nil, fun _ => ?_⟩)).cast (by rw [filt]; simp [drws, Function.comp_def])) (by walk_at "kind") (by walk_at "ne") (by walk_at "sub") (fun s F => ?_) (F.swapsNot (by decide +kernel))
  · have hk6 := List.mem_range.mp hk
    have h6 := rng6 k hk6 (nmb ns).length hnb
    simp only [Bool.and_eq_true, decide_eq_true_eq, Bool.not_eq_true', List.all_eq_true] at h6
    obtain ⟨⟨⟨⟨q1, q2⟩, q3⟩, q4⟩, q5⟩ := h6
    refine Ev.add (Ev.itemF (V := .int (st6.getD k 0)) (Ev.name c' (by walk_at "mem")) (Ev.name c' (by walk_at "mem")) (by omega) (by omega) (map_at (l := st6) (i := k) PV.int 0 (by simpa [st6] using hk6)) rfl)
      (Ev.call_bi c' (Evs.cons ((Ev.comp (inj := .int) (xs := rngItems (k : Int) ((nmb ns).length : Int) 6) (S := .rng (k : Int) ((nmb ns).length : Int) 6) (fun _ => true) (fun on => .int ((nmb ns).getD on.toNat 0)) hr'.hh c' (ρ' := [(Str.ofString "numbers", .list ((nmb ns).map .int))]) ?_ (Its.rng q1 q2) (by omega) (Blk.of (by decide +kernel) (by walk_at "blk")) (fun on hon own' s' env' c'' => ⟨.nil, fun _ => ?_⟩)).cast (V' := .list (((rngItems (k : Int) ((nmb ns).length : Int) 6).map fun on => (nmb ns).getD on.toNat 0).map .int)) (by rw [filt, List.map_map]; rfl)) Evs.nil) (Ct.sum hr'.hh) (by decide))
    · exact (Ev.call_ty c' (Evs.cons (V := .int k) (Ev.name c' (by walk_at "mem")) (Evs.cons (V := .int (nmb ns).length) ((Ev.lenL c' (Ev.name c' (by walk_at "mem")) (by simp; omega)).cast (by simp)) (Evs.cons Ev.cint Evs.nil))) (Ct.range3 (by decide) q3) (by decide))
    · have := q4 on hon
      exact Ev.itemF (Ev.name c'' (by walk_at "mem")) (Ev.name c'' (by walk_at "mem")) (by omega) (by omega) (map_at (l := nmb ns) PV.int 0 (by omega)) rfl
  have hdr : ∀ k : Nat, k < 6 → ((drws ns).map PV.int)[((k : Int)).toNat]? = some (.int (drw ns k)) := fun k hk => by
    rw [Int.toNat_natCast, drws, List.map_map, List.getElem?_map, List.getElem?_range hk]; rfl
  -- below
  refine Ex.assign (V := .list ((blw ns).map .int)) (ρ' := [(Str.ofString "drawn", .list ((drws ns).map .int))]) F ((Ev.comp (α := Nat) (inj := fun k => .int k) (xs := List.range 6) (S := .rng 0 (6 : Nat) 1) (fun _ => true) (fun k => .int ((drw ns k).fmod ((k : Int) + 1))) hr'.hh F.cx (ρ' := [(Str.ofString "drawn", .list ((drws ns).map .int))]) (Ev.range1 F.cx Ev.cint) (Its.rangeN (by omega)) (by simp; omega) (Blk.of (by decide +kernel) (by walk_at "blk")) (fun k hk own' s' env' c' => ⟨.nil, fun _ => Ev.mod (Ev.itemF (Ev.name c' (by walk_at "mem")) (Ev.name c' (by walk_at "mem")) (by omega) (by have := List.mem_range.mp hk; omega) (hdr k (List.mem_range.mp hk)) rfl) (Ev.add (Ev.name c' (by walk_at "mem")) Ev.cint) (by omega)⟩)).cast (by rw [filt]; simp [blw, Function.comp_def])) (by walk_at "kind") (by walk_at "ne") (by walk_at "sub") (fun s F => ?_) (F.swapsNot (by decide +kernel))
  -- called
  refine Ex.assign (V := .list ((nms6 ns).map .str)) (ρ' := [(Str.ofString "below", .list ((blw ns).map .int)), (Str.ofString "drawn", .list ((drws ns).map .int))]) F ((Ev.call_def F.cx (Evs.cons (Ev.name F.cx (by walk_at "mem")) Evs.nil) (c_names (ps := blw ns) (by omega) (by rw [hb6]; exact fun x h => (D.nm x h).1) (by rw [hb6]; exact fun k hk => blw_rng ns k hk)) (hr'.less (by decide)) rfl (by decide)).cast (by rw [hb6]; rfl)) (by walk_at "kind") (by walk_at "ne") (by walk_at "sub") fun s F => ?_
  -- heard, hosted
  have hcall : ∀ {p p1 p2 p3 p4 p5 p6 p7 p8 pa pb pc pd : Pos} {k1 k2 k3 : Nat} (E : Value → Shared → Prop), wpAny (model PR w) A' (eval (.Call (.Name (nameAt 72) p) [.Call (.Name (nameAt 71) p1) [.Name (Str.ofString "called") p2, .Name (Str.ofString "below") p3, .Subscript (.Constant (.str marks) k1 p4) (.BinOp (.Subscript (.Name (Str.ofString "drawn") p5) (.Constant (.int 0) k2 p6) p7) .Mod (.Constant (.int 6) k3 p8) pa) pb] [] pc] [] pd) env)
      (fun v s₁ => Frm w mg mb A' B env [] [] [] [] [(Str.ofString "called", .list ((nms6 ns).map .str)), (Str.ofString "below", .list ((blw ns).map .int))] (scopeAt 80).names s₁ ∧ VRep (adrs [] ++ ([] ++ [])) s₁.heap v (.tup [.list (txs (nms6 ns) 6), .list (prs (blw ns) 6)])) E _ := fun {p p1 p2 p3 p4 p5 p6 p7 p8 pa pb pc pd k1 k2 k3} E => by
    obtain ⟨ad, o, fd, hv72, ho, hd, -⟩ := F.cx.G.fn 72 (by decide)
    refine Call_ (F.cx.glob (by decide +kernel) hv72 (by decide +kernel) ?_)
    refine callWith_def_at ho hd (wpAny_mono ((show Evs w A' env [] _ [_] [.str (Txt.join crlf (tlk (nms6 ns) (blw ns) (mrk ns) (blw ns).length))] from Evs.cons (Ev.call_def F.cx (Evs.cons (Ev.name F.cx (by walk_at "mem")) (Evs.cons (Ev.name F.cx (by walk_at "mem")) (Evs.cons (V := .str (mrk ns)) (Ev.charC Ev.cstr (Ev.mod (Ev.itemF (V := .int (drw ns 0)) (Ev.name F.cx (by walk_at "mem")) Ev.cint (by omega) (by omega) (hdr 0 (by omega)) rfl) Ev.cint (by decide)) ?_ ?_ (fit _ ?_ ?_)) Evs.nil)))
      (c_talk (by rw [hn6, hb6]) (by omega) (by show (1 : Nat) ≤ 100; decide) D.nm D.l2) (hr'.less (by decide)) rfl (by decide)) Evs.nil) _ _ (Grow.refl _) _) (fun vs' s₂ h₂ => ?_) (fun _ _ e => e)) rfl
    · have h1 := Int.fmod_nonneg_of_pos (drw ns 0) (b := 6) (by decide)
      omega
    · have h2 := Int.fmod_lt_of_pos (drw ns 0) (b := 6) (by decide)
      have : marks.length = 6 := by decide +kernel
      omega
    · have h1 := Int.fmod_nonneg_of_pos (drw ns 0) (b := 6) (by decide)
      omega
    · have h2 := Int.fmod_lt_of_pos (drw ns 0) (b := 6) (by decide)
      omega
    · obtain ⟨g₂, r₂⟩ := h₂
      have F₂ := F.grow g₂
      obtain ⟨mL, nL⟩ := F₂.ns
      refine ⟨g₂.keep _ _ ho, ?_⟩
      have hne : ∀ b o, B.heap.get? b = some o → b ≠ env.locals := fun b o e => Nat.ne_of_lt (Nat.lt_of_lt_of_le (Heap.lt_size e) F.base)
      refine c_heard (le := env) (L := env.locals) (mL := mL) D.h (hr'.less (by decide)) hv72 hfr' hkm hfe F₂.cx.G (F₂.G₀.keeps fun b o e => hideAll_get _ (F₂.gr.keep _ _ e) (by simpa using hne b o e)) F₂.cx.tk nL r₂ fun v s' hsh htk hk nL' r => ?_
      obtain ⟨h', tk', rfl⟩ := hsh
      rw [hb6] at r
      refine ⟨(F₂.caught (fun b o e n1 _ => hk b o e n1) (fun a m ha n => ?_) htk (fun p hp => by rw [hBi] at hp; cases hp) hBd).sub (by walk_at "subs"), r⟩
      rcases ha with rfl | ⟨p, hp, -⟩
      · have : m = mL := funext fun x => Ns.uniq n nL x
        rw [this]; exact nL'
      · rw [hBi] at hp; cases hp
  refine Ex.unpackG (ρ' := [(Str.ofString "called", .list ((nms6 ns).map .str)), (Str.ofString "below", .list ((blw ns).map .int))]) hr'.hh (fun E => hcall E) (by walk_at "kind") (by walk_at "kind") (by decide +kernel) (by walk_at "ne") (by walk_at "ne") (by walk_at "sub") (by walk_at "ne") fun s F => ?_
  have hbl : ∀ k : Nat, k < 6 → ((blw ns).map PV.int)[((k : Int)).toNat]? = some (.int ((blw ns).getD k 0)) := fun k hk => by
    rw [Int.toNat_natCast]; exact map_at (l := blw ns) (i := k) PV.int 0 (by omega)
  have htx : txs (nms6 ns) 6 = ((nms6 ns).map fun x => x ++ Str.ofString "=").map .str := by rw [txs_all hn6, List.map_map]; rfl
  refine Ex.skip ((Et.or (Et.cmp (Ev.name F.cx (by walk_at "mem")) ((Ev.comp (inj := .str) (xs := nms6 ns) (S := .list ((nms6 ns).map .str)) (fun _ => true) (fun nm => .str (nm ++ Str.ofString "=")) hr'.hh F.cx (ρ' := []) (Ev.name F.cx (by walk_at "mem")) Its.list (by omega) (Blk.of (by decide +kernel) (by walk_at "blk")) (fun nm hnm own' s' env' c' => ⟨.nil, fun _ => Ev.cat (Ev.name c' (by walk_at "mem")) Ev.cstr (by rw [Str.length_append, show (Str.ofString "=").length = 1 by decide +kernel]; have := (D.nm nm hnm).1; omega)⟩)).cast (by rw [filt, ← txs_all hn6])) (Ec.ne_self (n := 1) (hr'.less (by decide)) ?_))
    fun _ => Et.cmp (Ev.name F.cx (by walk_at "mem")) ((Ev.comp (α := Nat) (inj := fun k => .int k) (xs := List.range 6) (S := .rng 0 (6 : Nat) 1) (fun _ => true) (fun k => .tup [.int ((k + 1 : Nat) : Int), .int ((blw ns).getD k 0)]) hr'.hh F.cx (ρ' := [(Str.ofString "below", .list ((blw ns).map .int))]) (Ev.range1 F.cx Ev.cint) (Its.rangeN (by omega)) (by simp; omega) (Blk.of (by decide +kernel) (by walk_at "blk")) (fun k hk own' s' env' c' => ⟨.nil, fun _ =>
      Ev.tupD (Evs.cons ((Ev.add (Ev.name c' (by walk_at "mem")) Ev.cint).cast (by simp)) (Evs.cons (Ev.itemF (Ev.name c' (by walk_at "mem")) (Ev.name c' (by walk_at "mem")) (by omega) (by have := List.mem_range.mp hk; omega) (hbl k (List.mem_range.mp hk)) rfl) Evs.nil)) c'.ow (by simp; omega)⟩)).cast (by rw [filt]; rfl)) (Ec.ne_self (V := .list (prs (blw ns) 6)) (n := 2) (hr'.less (by decide)) ?_)).cast rfl) fun s' g => ?_
  · rw [htx, List.map_map]
    refine Shp.list fun V hV => ?_
    obtain ⟨nm, hnm, rfl⟩ := List.mem_map.mp hV
    exact Shp.str (D.sk nm hnm)
  · refine Shp.list fun V hV => ?_
    obtain ⟨k, -, rfl⟩ := List.mem_map.mp hV
    exact Shp.tup (List.forall_mem_cons.mpr ⟨Shp.int, List.forall_mem_cons.mpr ⟨Shp.int, fun _ h => absurd h List.not_mem_nil⟩⟩)
  replace F := F.grow g
  clear g
  refine Ex.ret (own' := []) (V := .bool true) (Ev.call_def F.cx (Evs.cons ((Ev.name F.cx (by walk_at "mem")).cast (congrArg PV.list htx)) (Evs.cons (V := .list ((blw ns).map .int)) ((Ev.compPair (α := Nat) (U := fun k => .int ((k + 1 : Nat) : Int)) (V := fun k => .int ((blw ns).getD k 0)) (xs := List.range 6) (S := .list (prs (blw ns) 6)) (fun k => .int ((blw ns).getD k 0)) hr'.hh (by decide +kernel) (by decide +kernel) (by decide +kernel) F.cx (ρ' := []) (Ev.name F.cx (by walk_at "mem")) Its.list (by simp; omega) (Blk.of (by decide +kernel) (by walk_at "blk")) (fun k hk own' s' env' c' => Ev.name c' (by walk_at "mem"))).cast ?_) Evs.nil)) (c_holds D.l) hr' rfl (by decide)) fun v s' g r => ⟨v, rfl, ?_⟩
  · congr 1
  · cases r
    exact hQ s' (hBg _ (F.gr.trans g))
end

end Mine
end

-- L3
section
open PySem PySem.W PySem.Calls PyProof.Rows PyProof.V PySem.Spec PySem.Builtin.Str PySem.SeqAt
namespace Mine

theorem clip_lo (lo : Option Int) (n : Nat) : (match lo with | none => (0 : Int) | some i => max 0 (min (if i < 0 then i + (n : Int) else i) (n : Int))) = ((kms_lo lo n : Nat) : Int) := by
  cases lo with
  | none => rfl
  | some i => simp only [kms_lo]; split <;> omega
theorem clip_hi (hi : Option Int) (n : Nat) : (match hi with | none => (n : Int) | some i => max 0 (min (if i < 0 then i + (n : Int) else i) (n : Int))) = ((kms_hi hi n : Nat) : Int) := by
  cases hi with
  | none => rfl
  | some i => simp only [kms_hi]; split <;> omega
theorem ssi_eq (lo hi : Option Int) (n : Nat) : strSliceIndices lo hi 1 n = (List.range (kms_hi hi n - kms_lo lo n)).map (kms_lo lo n + ·) := by
  have h1 : (1 : Int) > 0 := by decide
  rw [← sliceRange_one, ← clip_lo, ← clip_hi]
  unfold strSliceIndices
  simp only [h1, if_true]
  cases lo <;> cases hi <;> rfl
theorem kms_hi_le (hi : Option Int) (n : Nat) : kms_hi hi n ≤ n := by
  cases hi with
  | none => exact Nat.le_refl _
  | some i => simp only [kms_hi]; split <;> omega
theorem kms_lo_le (lo : Option Int) (n : Nat) : kms_lo lo n ≤ n := by
  cases lo with
  | none => exact Nat.zero_le _
  | some i => simp only [kms_lo]; split <;> omega
theorem slice_cut (x : Str) (lo hi : Option Int) : Txt.slice x lo hi = ofL (cut x.cps.toList lo hi) := by
  apply toL_inj
  have hl : x.cps.toList.length = x.length := by simp [Str.length]
  have key : ((strSliceIndices lo hi 1 x.length).filterMap (x.cps[·]?)) = cut x.cps.toList lo hi := by
    rw [ssi_eq]
    unfold cut
    rw [hl]
    have hh := kms_hi_le hi x.length
    generalize kms_lo lo x.length = a at *
    generalize kms_hi hi x.length = b at *
    by_cases hab : a ≤ b
    · rw [← StrLaws.strSliceIndices_plain hab hh, StrLaws.sliced_plain x hab hh]
    · rw [show b - a = 0 by omega]; simp
  unfold Txt.slice
  split
  · rename_i hc
    simp only [Bool.and_eq_true, beq_iff_eq] at hc
    have h2 := hc.2
    rw [ofL_cps, ← key]
    rw [ssi_eq] at h2 ⊢
    simp only [List.length_map, List.length_range] at h2
    have hh := kms_hi_le hi x.length
    have hh2 := kms_lo_le lo x.length
    have e1 : kms_lo lo x.length = 0 := by omega
    have e2 : kms_hi hi x.length = x.length := by omega
    rw [e1, e2, ← StrLaws.strSliceIndices_plain (Nat.zero_le _) (Nat.le_refl _), StrLaws.sliced_plain x (Nat.zero_le _) (Nat.le_refl _)]
    rw [List.drop_zero, Nat.sub_zero, ← hl, List.take_length]
  · rw [ofL_cps, ← key]

noncomputable def fnd (c : Nat) : List Nat → Nat → Int
  | [], _ => -1
  | a :: r, k => bif Nat.beq a c then (k : Int) else fnd c r (k + 1)
theorem fnd_spec (c : Nat) : ∀ (l : List Nat) (k : Nat), (fnd c l k = -1 ∧ c ∉ l) ∨ ∃ j, fnd c l k = ((k + j : Nat) : Int) ∧ l[j]? = some c ∧ ∀ v, v < j → l[v]? ≠ some c
  | [], k => .inl ⟨rfl, by simp⟩
  | a :: r, k => by
    by_cases hac : a = c
    · subst hac
      refine .inr ⟨0, ?_, rfl, fun v h => by omega⟩
      simp [fnd, Nat.beq_refl]
    · have hb : Nat.beq a c = false := by
        rw [Bool.eq_false_iff]; intro q; exact hac (Nat.eq_of_beq_eq_true q)
      simp only [fnd, hb, cond_false]
      rcases fnd_spec c r (k + 1) with ⟨h1, h2⟩ | ⟨j, h1, h2, h3⟩
      · exact .inl ⟨h1, by simp [h2]; exact fun e => hac e.symm⟩
      · refine .inr ⟨j + 1, by rw [h1]; congr 1; omega, by simpa using h2, fun v hv => ?_⟩
        cases v with
        | zero => simpa using hac
        | succ v => simpa using h3 v (by omega)
theorem getD_iff {l : List Nat} {v c : Nat} (hv : v < l.length) : l.getD v 0 = c ↔ l[v]? = some c := by
  simp [List.getD, hv]
theorem find3_fnd (x : Str) (c : Nat) (i : Nat) (hi : i ≤ x.length) : Txt.find3 x ⟨#[c]⟩ i = fnd c (x.cps.toList.drop i) i := by
  have hfi : fromIndex x.length (i : Int) = i := by
    unfold fromIndex
    split <;> omega
  have hl : x.cps.toList.length = x.length := by simp [Str.length]
  have hg : ∀ v, x.cps.getD v 0 = x.cps.toList.getD v 0 := fun v => by simp [Array.getD_eq_getD_getElem?, List.getD]
  have h1 := StrLaws.find3_spec x c i
  rw [hfi] at h1
  rcases fnd_spec c (x.cps.toList.drop i) i with ⟨e, hn⟩ | ⟨j, e, hj, hm⟩
  · rw [e]
    rcases h1 with ⟨h, -⟩ | ⟨k, -, hk1, hk2, hk3, -⟩
    · exact h
    · exfalso
      rw [hg, getD_iff (by omega)] at hk3
      exact hn (List.mem_of_getElem? (i := k - i) (by rw [List.getElem?_drop, show i + (k - i) = k by omega]; exact hk3))
  · rw [e]
    rw [List.getElem?_drop] at hj
    have hlt := (List.getElem?_eq_some_iff.mp hj).1
    rcases h1 with ⟨h, ha⟩ | ⟨k, h, hk1, hk2, hk3, hk4⟩
    · exfalso
      exact ha (i + j) (by omega) (by omega) (by rw [hg, getD_iff hlt]; exact hj)
    · rw [h]
      rw [hg, getD_iff (by omega)] at hk3
      have a1 : ¬ k < i + j := fun hlt' => hm (k - i) (by omega) (by rw [List.getElem?_drop, show i + (k - i) = k by omega]; exact hk3)
      have a2 : ¬ i + j < k := fun hlt' => hk4 (i + j) (by omega) hlt' (by rw [hg, getD_iff hlt]; exact hj)
      congr 1; omega
theorem find_fnd (x : Str) (c : Nat) : Txt.find x ⟨#[c]⟩ = fnd c x.cps.toList 0 := by
  rw [find_is_find3]
  have := find3_fnd x c 0 (Nat.zero_le _)
  simpa using this
theorem item_at (x : Str) (i : Nat) (h : i < x.length) : Txt.item x i = ⟨#[x.cps.toList.getD i 0]⟩ := by
  have := item_closes (x := x) (i := (i : Int)) ⟨by omega, by omega⟩
  rw [beq_iff_eq] at this
  rw [this, Int.toNat_natCast]
  simp [Array.getD_eq_getD_getElem?, List.getD]
theorem mul_rep (c : Nat) (n : Nat) : Txt.mul ⟨#[c]⟩ n = ofL (List.replicate n c) := by
  unfold Txt.mul
  have key : ∀ k (acc : Array Nat), (List.replicate k #[c]).foldl (· ++ ·) acc = acc ++ (List.replicate k c).toArray := by
    intro k
    induction k with
    | zero => intro acc; simp
    | succ k ih => intro acc; rw [List.replicate_succ, List.foldl_cons, ih, List.replicate_succ]; apply Array.toList_inj.mp; simp
  split
  · have : n = 0 := by omega
    subst this; rfl
  · split
    · rename_i h
      have : n = 1 := by
        have h' : (n : Int) = 1 := by simpa [Str.length] using h
        omega
      subst this; rfl
    · rw [Int.toNat_natCast, key]; simp [ofL]
end Mine
end

-- L4
section
open PySem PySem.W PySem.Calls PyProof.Rows PyProof.V PySem.Spec PySem.Builtin.Str PySem.SeqAt
namespace Mine

theorem ofL_nil : ofL [] = Str.empty := rfl
theorem getD_ofL (ts : List (List Nat)) (j : Nat) : (ts.map ofL).getD j Str.empty = ofL (ts.getD j []) := by
  rw [← ofL_nil]
  simp only [List.getD, List.getElem?_map]
  cases ts[j]? <;> rfl
theorem join_ofL (sep : List Nat) (ts : List (List Nat)) : Txt.join (ofL sep) (ts.map ofL) = ofL (jn sep ts) := by
  apply toL_inj
  rw [join_jn, List.map_map]
  have : ((fun s : Str => s.cps.toList) ∘ ofL) = id := rfl
  rw [this, List.map_id]; rfl

theorem ble_dec (a b : Nat) : Nat.ble a b = decide (a ≤ b) := by
  rw [Bool.eq_iff_iff, decide_eq_true_iff, Nat.ble_eq]
-- escapes
noncomputable def conv (E : List (Nat × List Nat)) : List (Str × Str) := E.map fun p => (⟨#[p.1]⟩, ofL p.2)
noncomputable def escL : List (Nat × List Nat) → List Nat → List Nat
  | [], l => l
  | p :: r, l => escL r (rpl p.1 p.2 l)
noncomputable def escOkL : List (Nat × List Nat) → List Nat → Bool
  | [], l => Nat.ble l.length 1000
  | p :: r, l => Nat.ble l.length 1000 && escOkL r (rpl p.1 p.2 l)
theorem escF_L : ∀ (E : List (Nat × List Nat)) (l : List Nat), escF (conv E) (ofL l) = ofL (escL E l)
  | [], l => rfl
  | p :: r, l => by
    show escF (conv r) (rp ⟨#[p.1]⟩ (ofL p.2) (ofL l)) = _
    rw [rp_rpl]; exact escF_L r _
theorem escOk_L : ∀ (E : List (Nat × List Nat)) (l : List Nat), escOk (conv E) (ofL l) = escOkL E l
  | [], l => by simp only [conv, List.map_nil, escOk, escOkL, ofL_len, ble_dec]
  | p :: r, l => by
    show (decide ((ofL l).length ≤ 1000) && escOk (conv r) (rp ⟨#[p.1]⟩ (ofL p.2) (ofL l))) = _
    rw [rp_rpl, escOkL, ofL_len]
    rw [show escOk (conv r) (ofL (rpl p.1 (ofL p.2).cps.toList (ofL l).cps.toList)) = escOkL r (rpl p.1 p.2 l) from escOk_L r _, ble_dec]
noncomputable def eL2 : List (Nat × List Nat) := [(38, [38, 97, 109, 112, 59]), (60, [38, 108, 116, 59]), (62, [38, 103, 116, 59])]
noncomputable def eL3 : List (Nat × List Nat) := [(38, [38, 97, 109, 112, 59]), (60, [38, 108, 116, 59]), (62, [38, 103, 116, 59]), (34, [38, 113, 117, 111, 116, 59]), (13, [38, 35, 49, 51, 59]), (10, [38, 35, 49, 48, 59]), (9, [38, 35, 48, 57, 59])]
noncomputable def eL4 : List (Nat × List Nat) := [(38, [38, 97, 109, 112, 59]), (62, [38, 103, 116, 59]), (34, [38, 113, 117, 111, 116, 59])]
noncomputable def eL5 : List (Nat × List Nat) := [(38, [38, 97, 109, 112, 59]), (60, [38, 108, 116, 59]), (62, [38, 103, 116, 59]), (13, [38, 35, 120, 68, 59])]
noncomputable def eL6 : List (Nat × List Nat) := [(38, [38, 97, 109, 112, 59]), (60, [38, 108, 116, 59]), (34, [38, 113, 117, 111, 116, 59]), (9, [38, 35, 120, 57, 59]), (10, [38, 35, 120, 65, 59]), (13, [38, 35, 120, 68, 59])]
theorem esc2_L : esc2 = conv eL2 := by decide +kernel
theorem esc3_L : esc3 = conv eL3 := by decide +kernel
theorem esc4_L : esc4 = conv eL4 := by decide +kernel
theorem esc5_L : esc5 = conv eL5 := by decide +kernel
theorem esc6_L : esc6 = conv eL6 := by decide +kernel

-- parse257
noncomputable def pL : List Nat → List Nat
  | [] => []
  | a :: r => bif Nat.beq a 34 then (match r with
      | [] => []
      | b :: r' => bif Nat.beq b 34 then 34 :: pL r' else []) else a :: pL r
theorem pL_no {a : Nat} {r : List Nat} (h : Nat.beq a 34 = false) : pL (a :: r) = a :: pL r := by
  cases r <;> simp [pL, h]
theorem pL_end {a : Nat} (h : Nat.beq a 34 = true) : pL [a] = [] := by simp [pL, h]
theorem pL_q {a b : Nat} {r : List Nat} (h : Nat.beq a 34 = true) (h' : Nat.beq b 34 = true) : pL (a :: b :: r) = 34 :: pL r := by simp [pL, h, h']
theorem pL_stop {a b : Nat} {r : List Nat} (h : Nat.beq a 34 = true) (h' : Nat.beq b 34 = false) : pL (a :: b :: r) = [] := by simp [pL, h, h']
theorem beq_dec (a b : Nat) : Nat.beq a b = decide (a = b) := by
  by_cases h : a = b
  · subst h; simp [Nat.beq_refl]
  · rw [decide_eq_false h, Bool.eq_false_iff]; exact fun q => h (Nat.eq_of_beq_eq_true q)
theorem item_qt (r : Str) (i : Nat) (h : i < r.length) : (Txt.item r i == qt) = Nat.beq (r.cps.toList.getD i 0) 34 := by
  rw [item_at r i h, beq_dec]
  by_cases e : r.cps.toList.getD i 0 = 34
  · rw [e]; decide
  · rw [decide_eq_false e, beq_eq_false_iff_ne]
    intro q
    have := congrArg (fun s : Str => s.cps.toList) q
    simp [qt] at this
    exact e (by simpa [List.getD] using this)
theorem drop_get {l : List Nat} {i : Nat} (h : i < l.length) : l.drop i = l.getD i 0 :: l.drop (i + 1) := by
  rw [List.drop_eq_getElem_cons h]; simp [List.getD, h]
theorem pl_L (r : Str) : ∀ (f i : Nat) (d : Str), r.length ≤ f + i → pl r f i d = ofL (d.cps.toList ++ pL (r.cps.toList.drop i)) := by
  have hl : r.cps.toList.length = r.length := by simp [Str.length]
  intro f
  induction f using Nat.strongRecOn with
  | _ f ih =>
  intro i d hf
  cases f with
  | zero =>
    rw [List.drop_eq_nil_of_le (by omega)]
    simp only [pl, pL, List.append_nil, ofL_toL]
  | succ f =>
    rw [pl]
    by_cases hi : i < r.length
    · rw [if_pos hi, drop_get (by omega), item_qt r i hi]
      have hit : Txt.item r i = ofL [r.cps.toList.getD i 0] := item_at r i hi
      generalize hc : r.cps.toList.getD i 0 = c at *
      cases hb : Nat.beq c 34 with
      | false =>
        rw [pL_no hb]
        simp only [Bool.false_eq_true, if_false]
        rw [ih f (by omega) _ _ (by omega), hit]
        congr 1
        simp [Str.cps_append, ofL]
      | true =>
        have hc34 : c = 34 := Nat.eq_of_beq_eq_true hb
        simp only [if_true]
        by_cases hi1 : i + 1 < r.length
        · rw [drop_get (by omega)]
          have hn : decide (r.length ≤ i + 1) = false := by simp; omega
          rw [hn, Bool.false_or]
          generalize hcc : r.cps.toList.getD (i + 1) 0 = e
          have hq : (Txt.item r ((i + 1 : Nat) : Int) != qt) = !Nat.beq e 34 := by rw [bne, item_qt r (i + 1) hi1, hcc]
          rw [hq]
          cases he : Nat.beq e 34 with
          | true =>
            rw [pL_q hb he, if_neg (by decide), ih f (by omega) _ _ (by omega), hit, hc34]
            congr 1
            simp [Str.cps_append, ofL]
          | false =>
            rw [pL_stop hb he, if_pos (by decide), List.append_nil, ofL_toL]
        · rw [List.drop_eq_nil_of_le (by omega)]
          have hn : decide (r.length ≤ i + 1) = true := by simp; omega
          rw [hn, Bool.true_or, if_pos rfl, pL_end hb, List.append_nil, ofL_toL]
    · rw [if_neg hi, List.drop_eq_nil_of_le (by omega)]
      simp only [pL, List.append_nil, ofL_toL]

noncomputable def hd5 : List Nat := [50, 53, 55, 32, 34]
theorem p257_L (l : List Nat) : p257 (ofL (hd5 ++ l)) = ofL (pL l) := by
  unfold p257
  rw [pl_L _ _ _ _ (by omega)]
  rfl
theorem ok257_L {l : List Nat} (h : l.length ≤ 900) : ok257 (ofL (hd5 ++ l)) = true := by
  have hn : (hd5 ++ l).length = l.length + 5 := by simp [hd5]
  have e1 : cut (hd5 ++ l) none (some 3) = [50, 53, 55] := by
    unfold cut
    rw [show kms_lo none (hd5 ++ l).length = 0 from rfl, show kms_hi (some 3) (hd5 ++ l).length = 3 by simp only [kms_hi]; rw [if_neg (by decide), hn]; omega]
    rfl
  have e2 : cut (hd5 ++ l) (some 3) (some 5) = [32, 34] := by
    unfold cut
    rw [show kms_lo (some 3) (hd5 ++ l).length = 3 by simp only [kms_lo]; rw [if_neg (by decide), hn]; omega, show kms_hi (some 5) (hd5 ++ l).length = 5 by simp only [kms_hi]; rw [if_neg (by decide), hn]; omega]
    rfl
  unfold ok257
  rw [slice_cut, slice_cut, ofL_cps, e1, e2, ofL_len, hn]
  simp only [Bool.and_eq_true, decide_eq_true_eq]
  exact ⟨⟨by omega, by decide +kernel⟩, by decide +kernel⟩

noncomputable def ln1L (nm : List Nat) : List Nat := rpl 34 [34, 34] nm ++ [61, 34]
theorem ln1_L (nm : List Nat) : ln1 (ofL nm) = ofL (hd5 ++ ln1L nm) := by
  unfold ln1
  rw [show Str.ofString "\"" = ⟨#[34]⟩ by decide +kernel, replace_rpl, show Str.ofString "257 \"" = ofL hd5 by decide +kernel, show (Str.ofString "\"\"").cps.toList = [34, 34] by decide +kernel, show Str.ofString "=\"" = ofL [61, 34] by decide +kernel, ofL_app, ofL_app]
  rw [List.append_assoc]; rfl

-- the fronts
noncomputable def repL (ts : List (List Nat)) (k : Nat) : List Nat := jn [34, 34] (ts.take k) ++ [34] ++ jn [34, 34] (ts.drop k) ++ [34]
noncomputable def frL (ts : List (List Nat)) : List (List Nat) := (List.range (ts.length - 1)).map fun k => pL (repL ts (k + 1))
theorem rep_L (ts : List (List Nat)) (k : Nat) : rep (ts.map ofL) k = ofL (hd5 ++ repL ts k) := by
  unfold rep
  rw [← List.map_take, ← List.map_drop, show qq = ofL [34, 34] from rfl, join_ofL, join_ofL, show Str.ofString "257 \"" = ofL hd5 by decide +kernel, show qt = ofL [34] from rfl, ofL_app, ofL_app, ofL_app, ofL_app]
  unfold repL
  simp only [List.append_assoc]
theorem frs_map (ts : List Str) : ∀ n, frs ts n = (List.range n).map fun k => p257 (rep ts (k + 1))
  | 0 => rfl
  | n + 1 => by rw [frs, frs_map ts n, List.range_succ, List.map_append]; rfl
theorem split_qt (t : List Nat) : Txt.split (ofL t) qt = (spl 34 t).map ofL := split_spl (ofL t) 34
theorem fronts_L (t : List Nat) : frontsF (ofL t) = (frL (spl 34 t)).map ofL := by
  unfold frontsF frL
  rw [split_qt, frs_map, List.length_map, List.map_map]
  exact List.map_congr_left fun k _ => by rw [rep_L, p257_L]; rfl
theorem okF_L {t : List Nat} (h1 : t.length ≤ 100) (h2 : ∀ k, k < (spl 34 t).length - 1 → (repL (spl 34 t) (k + 1)).length ≤ 900) : okF (ofL t) = true := by
  unfold okF
  rw [split_qt, List.length_map, Bool.and_eq_true, decide_eq_true_eq, List.all_eq_true, ofL_len]
  exact ⟨h1, fun k hk => by rw [rep_L]; exact ok257_L (h2 k (List.mem_range.mp hk))⟩

-- order
noncomputable def ltL : List Nat → List Nat → Bool
  | _, [] => false
  | [], _ :: _ => true
  | a :: r, b :: s => Nat.blt a b || (Nat.beq a b && ltL r s)
theorem ltL_iff : ∀ {a b : List Nat}, ltL a b = true ↔ a < b
  | [], [] => by simp [ltL]
  | a :: r, [] => by simp [ltL]
  | [], b :: s => by simp [ltL]
  | a :: r, b :: s => by
    rw [ltL, Bool.or_eq_true, Bool.and_eq_true, ltL_iff, List.cons_lt_cons_iff, beq_dec, decide_eq_true_eq]
    have hblt : Nat.blt a b = true ↔ a < b := by unfold Nat.blt; rw [Nat.ble_eq]; exact Iff.rfl
    rw [hblt]
theorem ltS_L (a b : List Nat) : ltS (ofL a) (ofL b) = ltL a b := by
  unfold ltS
  rw [Bool.eq_iff_iff, decide_eq_true_iff, ltL_iff]; rfl
noncomputable def aheadL (pg : List (List Nat)) : List (List Int) := pg.map fun page => ((List.range pg.length).filter fun j => ltL (pg.getD j []) page).map fun (j : Nat) => (j : Int)
theorem ahead_L (pg : List (List Nat)) : aheadF (pg.map ofL) = aheadL pg := by
  unfold aheadF aheadL
  rw [List.map_map, List.length_map]
  refine List.map_congr_left fun page _ => ?_
  simp only [Function.comp, getD_ofL, ltS_L]
end Mine
end

-- L5
section
open PySem PySem.W PySem.Calls PyProof.Rows PyProof.V PySem.Spec PySem.Builtin.Str PySem.SeqAt
namespace Mine

-- undone
noncomputable def lksL (y : List Nat) : List (List Nat × List Nat) → Option (List Nat)
  | [] => none
  | p :: r => bif eqL p.1 y then some p.2 else lksL y r
theorem lks_L (y : List Nat) : ∀ l : List (List Nat × List Nat), lks y (l.map fun p => (ofL p.1, ofL p.2)) = (lksL y l).map ofL
  | [] => rfl
  | p :: r => by
    simp only [List.map_cons, lks, lksL, ofL_cps]
    cases eqL p.1 y
    · exact lks_L y r
    · rfl
noncomputable def signLL : List (List Nat × List Nat) := [([108, 116], [60]), ([103, 116], [62]), ([113, 117, 111, 116], [34])]
theorem signL_L : signL = signLL.map fun p => (ofL p.1, ofL p.2) := by decide +kernel
noncomputable def sgL (p : List Nat) : List Nat := (lksL (cut p none (some (fnd 59 p 0))) signLL).getD [38]
noncomputable def reL (p : List Nat) : List Nat := cut p (some (fnd 59 p 0 + 1)) none
theorem sgn_L (p : List Nat) : sgnF (ofL p) = ofL (sgL p) := by
  unfold sgnF sgL
  rw [show Txt.find (ofL p) semi = fnd 59 p 0 from find_fnd (ofL p) 59, slice_cut, ofL_cps, signL_L]
  show (lks (cut p none (some (fnd 59 p 0))) _).getD amp = _
  rw [lks_L]
  cases lksL (cut p none (some (fnd 59 p 0))) signLL <;> rfl
theorem res_L (p : List Nat) : resF (ofL p) = ofL (reL p) := by
  unfold resF reL
  rw [show Txt.find (ofL p) semi = fnd 59 p 0 from find_fnd (ofL p) 59, slice_cut]; rfl
noncomputable def undNL (ts : List (List Nat)) : Nat → List Nat × List Nat
  | 0 => (ts.getD 0 [], ts.getD 0 [])
  | i + 1 => ((undNL ts i).1 ++ sgL (ts.getD (i + 1) []) ++ reL (ts.getD (i + 1) []), (undNL ts i).2 ++ reL (ts.getD (i + 1) []))
noncomputable def undL (p : List Nat) : List Nat × List Nat := undNL (spl 38 p) ((spl 38 p).length - 1)
theorem undN_L (ts : List (List Nat)) : ∀ i, undN (ts.map ofL) i = (ofL (undNL ts i).1, ofL (undNL ts i).2)
  | 0 => by simp only [undN, undNL, getD_ofL]
  | i + 1 => by simp only [undN, undNL, getD_ofL, undN_L ts i, sgn_L, res_L, ofL_app]
theorem und_L (p : List Nat) : undF (ofL p) = (ofL (undL p).1, ofL (undL p).2) := by
  unfold undF undL
  rw [show Txt.split (ofL p) amp = (spl 38 p).map ofL from split_spl (ofL p) 38, List.length_map, undN_L]

-- the signs of a text within another
noncomputable def memL (c : Nat) : List Nat → Bool
  | [] => false
  | a :: r => Nat.beq a c || memL c r
theorem memL_iff (c : Nat) : ∀ l, memL c l = decide (c ∈ l)
  | [] => rfl
  | a :: r => by
    rw [memL, memL_iff c r, beq_dec, Bool.eq_iff_iff]
    simp only [Bool.or_eq_true, decide_eq_true_eq, List.mem_cons]
    exact ⟨fun h => h.imp Eq.symm id, fun h => h.imp Eq.symm id⟩
theorem jn_single : ∀ l : List Nat, jn [] (l.map fun c => [c]) = l
  | [] => rfl
  | [a] => rfl
  | a :: b :: r => by
    have := jn_single (b :: r)
    simp only [List.map_cons] at this ⊢
    simp only [jn, this]; rfl
theorem sgnJ_L (b t : List Nat) : sgnJ (ofL b) (ofL t) = ofL (t.filter fun c => memL c b) := by
  unfold sgnJ
  have e : (t.filter fun c => Txt.contains (ofL b) ⟨#[c]⟩) = t.filter fun c => memL c b := by
    congr 1; funext c; rw [contains_mem, memL_iff]; rfl
  rw [show (ofL t).cps.toList = t from rfl, e]
  have := join_ofL [] ((t.filter fun c => memL c b).map fun c => [c])
  rw [jn_single, List.map_map] at this
  exact this

-- names
noncomputable def nm1L (ps : List Int) (acc : List (List Nat)) (k : Nat) : List Nat :=
  (if ps.getD k 0 == 0 then [] else acc.getD (ps.getD k 0 - 1).toNat [] ++ [34, 60]) ++ List.replicate ((ps.take k).filter fun one => one == ps.getD k 0).length 62
noncomputable def nmL (ps : List Int) : Nat → List (List Nat)
  | 0 => []
  | k + 1 => nmL ps k ++ [nm1L ps (nmL ps k) k]
theorem nm_L (ps : List Int) : ∀ k, nmsF ps k = (nmL ps k).map ofL
  | 0 => rfl
  | k + 1 => by
    rw [nmsF, nmL, nm_L ps k, List.map_append]
    congr 1
    simp only [List.map_cons, List.map_nil, nm1, nm1L, getD_ofL, show sgt = ⟨#[62]⟩ from rfl, mul_rep, show sql = ofL [34, 60] from rfl, ofL_app]
    split
    · rw [← ofL_nil, ofL_app]
    · rw [ofL_app]

theorem lastOff_L (nm : List Nat) : lastOff (ofL (nm ++ [61])) = ofL nm := by
  unfold lastOff
  rw [slice_cut, ofL_cps]
  congr 1
  unfold cut
  have hn : (nm ++ [61]).length = nm.length + 1 := by simp
  have e0 : kms_lo none (nm ++ [61] : List Nat).length = 0 := rfl
  have e1 : kms_hi (some (-1)) (nm ++ [61] : List Nat).length = nm.length := by
    simp only [kms_hi]; rw [if_pos (by decide), hn]; rfl
  rw [e0, e1]
  simp
theorem strk_L (l : List Nat) : strk (ofL l) = l.all fun c => decide (c < 0x110000) := by
  unfold strk PyData.strOk ofL
  simp
end Mine
end

-- L6
section
open PySem PySem.W PySem.Calls PyProof.Rows PyProof.V PySem.Spec PySem.Builtin.Str PySem.SeqAt
namespace Mine
/-- the names that the 720 forests give -/
noncomputable def NL : List (List Nat) := [[], [62], [62, 62], [62, 62, 62], [62, 62, 62, 62], [62, 62, 62, 62, 62], [34, 60], [62, 34, 60], [62, 62, 34, 60], [62, 62, 62, 34, 60], [62, 62, 62, 62, 34, 60], [34, 60, 62], [34, 60, 34, 60], [62, 34, 60, 62], [62, 34, 60, 34, 60], [62, 62, 34, 60, 62], [62, 62, 34, 60, 34, 60], [62, 62, 62, 34, 60, 62], [62, 62, 62, 34, 60, 34, 60], [34, 60, 62, 62], [34, 60, 62, 34, 60], [34, 60, 34, 60, 62], [34, 60, 34, 60, 34, 60], [62, 34, 60, 62, 62], [62, 34, 60, 62, 34, 60], [62, 34, 60, 34, 60, 62], [62, 34, 60, 34, 60, 34, 60], [62, 62, 34, 60, 62, 62], [62, 62, 34, 60, 62, 34, 60], [62, 62, 34, 60, 34, 60, 62], [62, 62, 34, 60, 34, 60, 34, 60], [34, 60, 62, 62, 62], [34, 60, 62, 62, 34, 60], [34, 60, 62, 34, 60, 62], [34, 60, 62, 34, 60, 34, 60], [34, 60, 34, 60, 62, 62], [34, 60, 34, 60, 62, 34, 60], [34, 60, 34, 60, 34, 60, 62], [34, 60, 34, 60, 34, 60, 34, 60], [62, 34, 60, 62, 62, 62], [62, 34, 60, 62, 62, 34, 60], [62, 34, 60, 62, 34, 60, 62], [62, 34, 60, 62, 34, 60, 34, 60], [62, 34, 60, 34, 60, 62, 62], [62, 34, 60, 34, 60, 62, 34, 60], [62, 34, 60, 34, 60, 34, 60, 62], [62, 34, 60, 34, 60, 34, 60, 34, 60], [34, 60, 62, 62, 62, 62], [34, 60, 62, 62, 62, 34, 60], [34, 60, 62, 62, 34, 60, 62], [34, 60, 62, 62, 34, 60, 34, 60], [34, 60, 62, 34, 60, 62, 62], [34, 60, 62, 34, 60, 62, 34, 60], [34, 60, 62, 34, 60, 34, 60, 62], [34, 60, 62, 34, 60, 34, 60, 34, 60], [34, 60, 34, 60, 62, 62, 62], [34, 60, 34, 60, 62, 62, 34, 60], [34, 60, 34, 60, 62, 34, 60, 62], [34, 60, 34, 60, 62, 34, 60, 34, 60], [34, 60, 34, 60, 34, 60, 62, 62], [34, 60, 34, 60, 34, 60, 62, 34, 60], [34, 60, 34, 60, 34, 60, 34, 60, 62], [34, 60, 34, 60, 34, 60, 34, 60, 34, 60]]

noncomputable def cntL (c : Nat) : List Nat → Nat
  | [] => 0
  | a :: r => bif Nat.beq a c then cntL c r + 1 else cntL c r
noncomputable def pg6 (t : List Nat) : List Nat := escL eL6 t
noncomputable def pg3 (t : List Nat) : List Nat := escL eL3 t
noncomputable def pg4 (t : List Nat) : List Nat := escL eL4 t
noncomputable def pg2 (t : List Nat) : List Nat := escL eL2 t
noncomputable def und1 (p t b : List Nat) : Bool := eqL (undL p).1 t && eqL (undL p).2 (t.filter fun c => memL c b)
noncomputable def okNm (nm : List Nat) : Bool :=
  Nat.ble nm.length 50 && eqL (pL (ln1L nm)) (nm ++ [61]) && !(memL 13 (ln1L nm)) && Nat.ble (ln1L nm).length 60 && (nm ++ [61]).all (fun c => Nat.blt c 200) &&
  escOkL eL2 (nm ++ [61]) && escOkL eL3 (nm ++ [61]) && escOkL eL4 (nm ++ [61]) && escOkL eL5 (nm ++ [61]) && escOkL eL6 (nm ++ [61]) &&
  (List.range ((spl 34 (nm ++ [61])).length - 1)).all (fun k => Nat.ble (repL (spl 34 (nm ++ [61])) (k + 1)).length 900) &&
  eqL (escL eL5 (nm ++ [61])) (pg2 (nm ++ [61])) &&
  und1 (pg6 (nm ++ [61])) (nm ++ [61]) [62, 61] && und1 (pg3 (nm ++ [61])) (nm ++ [61]) [61] && und1 (pg4 (nm ++ [61])) (nm ++ [61]) [60, 61] && und1 (pg2 (nm ++ [61])) (nm ++ [61]) [34, 61]
set_option maxRecDepth 100000
theorem nm_ok : (NL.all okNm) = true := by decide +kernel
theorem nm_cnt : (NL.all fun nm => (cntF (ofL (nm ++ [61]))).1 == (cntL 34 nm : Int) && (cntF (ofL (nm ++ [61]))).2 == (cntL 62 nm : Int)) = true := by decide +kernel
end Mine
end

-- L7
section
open PySem PySem.W PySem.Calls PyProof.Rows PyProof.V PySem.Spec PySem.Builtin.Str PySem.SeqAt
namespace Mine
noncomputable def eqLL : List (List Nat) → List (List Nat) → Bool
  | [], [] => true
  | a :: r, b :: s => eqL a b && eqLL r s
  | _, _ => false
noncomputable def tsL (nms : List (List Nat)) : List (List Nat) := nms.map fun nm => nm ++ [61]
/-- a text of width n as a number -/
noncomputable def cdW : Nat → List Nat → Nat
  | 0, _ => 0
  | _ + 1, [] => 0
  | n + 1, a :: r => (a + 1) * 256 ^ n + cdW n r
structure Rw where
  cd : Nat
  nm : List Nat
  c6 : Nat
  c3 : Nat
  c4 : Nat
  c2 : Nat
  fr : List (List Nat)
  q : Nat
  g : Nat
set_option maxRecDepth 100000
noncomputable def TB : List Rw := [⟨0, [], 3247203483032972735053084179252978358998908909674720271167425037151364726033437158444203931587296923893679590654539590441143518493518309908901899368660992, 3247203483032972735053084179252978358998908909674720271167425037151364726033437158444203931587296923893679590654539590441143518493518309908901899368660992, 3247203483032972735053084179252978358998908909674720271167425037151364726033437158444203931587296923893679590654539590441143518493518309908901899368660992, 3247203483032972735053084179252978358998908909674720271167425037151364726033437158444203931587296923893679590654539590441143518493518309908901899368660992, [], 0, 0⟩,
  ⟨19497555618744739329661206528, [62], 3312262121364908554719596324477426892149214670339826183858405453092275385236980065222508924672274269017053463501574846852451711467367782095836803854499840, 2063966468952058009631818696883592397070293401631098623560067493201986711449042483655104829961134346940361964833554025307843484919318133729969880623480832, 2063966468952058009631818696883592397070293401631098623560067493201986711449042483655104829961134346940361964833554025307843484919318133729969880623480832, 2063966468952058009631818696883592397070293401631098623560067493201986711449042483655104829961134346940361964833554025307843484919318133729969880623480832, [], 0, 1⟩,
  ⟨19573717945380460967667695616, [62, 62], 3312516256670892679015168637544709894231833052217424253829854595342044567499493904702111678551512461771441642692383578322808384096171881596567018325147648, 2063966468676564174048276520030363691514770130440952753810557380143524544302105955600015612632411967391383304355921921396013008170258381733618433625423872, 2063966468676564174048276520030363691514770130440952753810557380143524544302105955600015612632411967391383304355921921396013008170258381733618433625423872, 2063966468676564174048276520030363691514770130440952753810557380143524544302105955600015612632411967391383304355921921396013008170258381733618433625423872, [], 0, 2⟩,
  ⟨19574015454468881755316158464, [62, 62, 62], 3312517249386931679500698216892628968458718280271633621290680568553957728367706849387578876808853235961888471517347674930114464848628147610241745725423616, 2063966468676564173984133112968774234221442999701486636304142292937815094108783187363752765881485457582466151765575710648607097326314559361598269121626112, 2063966468676564173984133112968774234221442999701486636304142292937815094108783187363752765881485457582466151765575710648607097326314559361598269121626112, 2063966468676564173984133112968774234221442999701486636304142292937815094108783187363752765881485457582466151765575710648607097326314559361598269121626112, [], 0, 3⟩,
  ⟨19574016616613758399017910272, [62, 62, 62, 62], 3312517253264728706846344816811956777342417050693720376632324420011816764152348306202756483052045973361069904442445190932486754226567429899357662629330944, 2063966468676564173984133112953839683469140959985716206666052187791083125324611693129091480992329727268163309211657192385145514323982447810184997924503552, 2063966468676564173984133112953839683469140959985716206666052187791083125324611693129091480992329727268163309211657192385145514323982447810184997924503552, 2063966468676564173984133112953839683469140959985716206666052187791083125324611693129091480992329727268163309211657192385145514323982447810184997924503552, [], 0, 4⟩,
  ⟨19574016621153386823407370240, [62, 62, 62, 62, 62], 3312517253279876351484413748842891651595868999015681653020377716306574026010882061893440770576433444991535456914808853104371020981950005220799521679736832, 2063966468676564173984133112953839683465663738921376339870528529946194588798085375946123228133563073486137461088807401411110000209683221490224653446152192, 2063966468676564173984133112953839683465663738921376339870528529946194588798085375946123228133563073486137461088807401411110000209683221490224653446152192, 2063966468676564173984133112953839683465663738921376339870528529946194588798085375946123228133563073486137461088807401411110000209683221490224653446152192, [], 0, 5⟩,
  ⟨10905719818743569785024413696, [34, 60], 2066013300254100143207362328551616957905709139085097908835355174378019046851367823122977577248107923066930143453515877168320571240316927780776287867502592, 2066013300254100143207362328551616957905709139085097908835355174378019046851367823122977577248107923066930143453515877168320571240316927780776287867502592, 2066013300254104202268781382052518914077111511023672472879879510976252920435757317897683911401668018349423212343833872570351840295690491720891484663185408, 1841165105279327828277566690452611193295246737589860372271997779500063507054041262236402758936353930316955416615036545576997733452070776058751862347661312, [[]], 1, 0⟩,
  ⟨19540156086786706399133958144, [62, 34, 60], 3307648097213428583657698973498124699176194358735960471505545805190817003677675106881410384225636811982573973473445847972479746829659964196898813184573440, 2063966468677040739097781878027749390739434159369431872421755132387197898963205646404815011847179060995574877722111338503966198009978429353044775830290432, 2063966468677040739097782823101632219555484347093935181873398175595255969493909373929633281097792310404019289607685116081414367571554357370395985002364928, 2063966468624689189137394865355652052818515619129524443451372225759506223315588435817950845679014874277689798685184784258445970516417826979543920255434752, [[62]], 1, 1⟩,
  ⟨19573884353458749901532823552, [62, 62, 34, 60], 3312498233139050960378208101017446995040532191625221653390976237342429495696527869708591762377892784204900707184461199420933493609305835432899291799093248, 2063966468676564173984244071915993504967989261464841406428212434078931189872338299346868478715262387746724867835713529310635255667838096270904702084841472, 2063966468676564173984244071915993725010149700959850354623123976765481845090193087531663943924974259147808814391669892030649265659835988671521465248514048, 2063966468676564173972055026842438883733430427254589356993303901315476381338287083221469322570706690955648722999362933956316973509370124669017887072059392, [[62, 62]], 1, 2⟩,
  ⟨19574016104500437571464069120, [62, 62, 62, 34, 60], 3312517178982510422787272589796819347758752261284945329882716199968021731993476513313385439636300034096394170988019853137529016057663827117414918668681216, 2063966468676564173984133112953865518112241178541267755565053343334240523359690024902157236132160182646274977646642806783206304275577962436781944405491712, 2063966468676564173984133112953865518112241229773825601680724662335341374276751502619601254635996414234128230394922626643319242076167447994531321131040768, 2063966468676564173984133112951027534902239427404637253452319200309252858176906102597280338618899314234634411620065978376932312625067783055321068294111232, [[62, 62, 62]], 1, 3⟩,
  ⟨19574016619152944163924738048, [62, 62, 62, 62, 34, 60], 3312517252989711436312307997956113771011557808432053625494012059197027951666511468952466664938090687416282817331002504128609467317227725522432557836140544, 2063966468676564173984133112953839683465669754017957931758754993614941731580324013517131715685284295053229564827636817735258330674190858558759741687857152, 2063966468676564173984133112953839683465669754017957943687264412960162123917649240711844557037137051629804026266295756652654878845744837674457642815193088, 2063966468676564173984133112953839683465008984560494348982121319775499732014284089663242626070927218115603246657031458595737462851900927983579366814646272, [[62, 62, 62, 62]], 1, 4⟩,
  ⟨10906017327831990572672876544, [34, 60, 62], 2066013300254100143207362382366861265182267082562619305167179984728787477607573322647666702946934576032564184390519120644662480113022316313877840700375040, 2066013300254100143207361349800898855039234326354221146962224278151712807388321660361011081538166044915840529849502962950016930403054294360635113243410432, 2066013300254104185848069174285617846985366041720346391237617186314633670945128649414395143164481507266632149215203921234438664246071964483729371690958848, 1841165105278251680482318478824278268664170474811773864968288755620928889213623541423687566681163608521842218722545795171092145652269761402516114507825152, [[]], 1, 1⟩,
  ⟨10905886226821858718889541632, [34, 60, 34, 60], 2066013300254100143207361351493998025255157582980529791901953954514950434281872739998339925466889704842143085066728154261947198166700863018119691283464192, 2066013300254100143207361351493998025255157582980529791901953954514950434281872739998339925466889704842143085066728154261947198166700863018119691283464192, 2066013300254104185876474664773807488894281563861458280896928246197321922186063092399656722297614707994353781495314355037233757627557867824067580174270464, 1841165105278049043822510347360705176325513230626963598130948188611616317647269957362038876185251901126866853466019478229148524411434446735508010939973632, [[], [34, 60]], 2, 0⟩,
  ⟨19540157248931583042835709952, [62, 34, 60, 62], 3307648097213428583657698973708340497251493413202669539459966995856249692860316534613928701122897853595720981445856016892309207411193969620856241125326848, 2063966468677040739097781878027749162856274486791921560983314609772068096534482743397395659715756802149592298638210064112513203295882324431909042595561472, 2063966468677040739097782819278387226966162179856705194522331258031871960746006849856344349473925349942491595804544440635249118974533800208598558538989568, 2063966468624689189137144305171817719000963560025073403929862791825108920775770768754527943933894067598748716057878744372713916177183671423403216487841792, [[62]], 1, 2⟩,
  ⟨19540156736818262215281868800, [62, 34, 60, 34, 60], 3307648097213428583657698969681493375220528141719927002298774706675726891909825516712954768398366428317633399026622458429876725841091151443919685854167040, 2063966468677040739097781878027749163250479856363127547792837604784817473325834597009635849317733423097702926562838283497498525268385247947452050971820032, 2063966468677040739097782819285000895599831245612710318278484741361983692493798079426846402252597213229511418720495610727723423533893847401257299412516864, 2063966468624689189137097125147886721538119760913952711432554829357834160179011018347722149233461338041612710476760725713759657881023732225385324370460672, [[62], [62, 34, 60]], 2, 1⟩,
  ⟨19573884357998378325922283520, [62, 62, 34, 60, 62], 3312498233139050960378208101018268150501763828556732235687673195118466342138647562785671912053272710148702062684353426643276577439702452641586625501986816, 2063966468676564173984244071915993504967989208406658661984444191835616906294815616755358728833474381663750898935443100084088410643513842437495278861811712, 2063966468676564173984244071915993724119981108488844454969067568474016494299455888691791212080710890949191694942123402677557652399234050761673278790565888, 2063966468676564173972055026842380545644554247411949628752530111842246959585223913322115176926608426384108477520636689744350326700767264858270178981445632, [[62, 62]], 1, 3⟩,
  ⟨19573884355997935666439651328, [62, 62, 34, 60, 34, 60], 3312498233139050960378208101002538278931330370465002772651887287738854924947434707246996232628567509268709533065528295555532700558569238508082967082958848, 2063966468676564173984244071915993504967989208498441751913519634744303258027340980504100962239351330534929596019545560249742770817013361902172227944579072, 2063966468676564173984244071915993724121520973213735032053453620049705484907805268716451411395649295727832380379142344513046583231007793925318557265035264, 2063966468676564173972055026842369560689214788300304789091538967359896060104178188359100289651712213833196255264419536564630743881630879449071491756326912, [[62, 62], [62, 62, 34, 60]], 2, 2⟩,
  ⟨19574016104518170494996840448, [62, 62, 62, 34, 60, 62], 3312517178982510422787272589796822555397272697366709043094812672459334375924891043364467783970969486932112145032941307150116293728876313903386353565958144, 2063966468676564173984133112953865518112241178541267743211482503840759024625755478179703523974369226120726614988522587909188030673676513866514587977777152, 2063966468676564173984133112953865518112241229566567075335241192639078427856526804640728169675520679835366613328905945279153043462791181377994565571575808, 2063966468676564173984133112951027534902225844509854675847649186020796262331099359170784368881169756993298373150836096380939986398058801702508723198492672, [[62, 62, 62]], 1, 4⟩,
  ⟨19574016104510356265858236416, [62, 62, 62, 34, 60, 34, 60], 3312517178982510422787272589796761110586450691671038224879829133758632768826487868147519832098216732241174674214117771481804794209809387285677354900258816, 2063966468676564173984133112953865518112241178541267743232852419745486659345488243225774171341818292118428905495364830715430451050340159636333162043277312, 2063966468676564173984133112953865518112241229566925603030277354582507123890930553127000550368558720447943702618724063940101036356539383467162171462385664, 2063966468676564173984133112951027534902223286875632480570741345356066985546787635396241866529362585683257223875711971604317437424004964618498390047588352, [[62, 62, 62], [62, 62, 62, 34, 60]], 2, 3⟩,
  ⟨10906018489976867216374628352, [34, 60, 62, 62], 2066013300254100143207362382577077063257566137029328373121601175394220166790214750380185019844195617645711192362929289564491940694556321737835268641128448, 2066013300254100143207361349800898627156074653776710835523783755536583004959598757353591729406743786069857950765601688558563935688958189439499380008681472, 2066013300254104185848069170462372854396043874483116403886550268751249662197226125341106211540614546805104455412063245788273415649051407321931945227583488, 1841165105278251680482067918640443934846618415707322825446779321686531586673805874360264664936042801842901136095239755285360091313035605846375410740232192, [[]], 1, 2⟩,
  ⟨10906017977863546388820787200, [34, 60, 62, 34, 60], 2066013300254100143207362378550229941226600865546585835960408886213697365839723732479211087119664192367623609943695731102059459124453503560898713369968640, 2066013300254100143207361349800898627550280023347916822333306750549332381750950610965831919008720407017968578690229907943549257661461112955042388384940032, 2066013300254104185848069170468986523029712940239121527642703752081361393945017354911608264319286410092124278328014415880747720208411454514590686101110784, 1841165105278251680482020738616512937383774616596202132949471359219256826077046123953458870235610072285765130514121736626405833016875666648357518622851072, [[], [34, 60, 62]], 2, 1⟩,
  ⟨10905886231361487143279001600, [34, 60, 34, 60, 62], 2066013300254100143207361351493998025255157582980574306828704738373635263447199037828367593171147243501649222350109809625386903865490307958298464474890240, 2066013300254100143207361351493998025255157582979720188283416909711449407147418737271859952478762846504647922500064026600368423953367361976648844582060032, 2066013300254104185876474664773807261011121891283947969458487723582192119757340189392237370166192449148371202411413080645780762913461762902931846939541504, 1841165105278049043822509368609987073459038417896086836257817292385310078184223794600072380475310022975777239862006564010844883574171813315366836315881472, [[], [34, 60]], 2, 1⟩,
  ⟨10905886229361044483796369408, [34, 60, 34, 60, 34, 60], 2066013300254100143207361351493998025255157582979721588782225641941718399553908796557805825620752071921958578913288576503630228982056532806718801200545792, 2066013300254100143207361351493998025255157582979721588782225641941718399553908796557805825620752071921958578913288576503630228982056532806718801200545792, 2066013300254104185876474664773807261405327260855935703061316926958573715494781475705248394790424072480386674288262190530947055847540012796123136403701760, 1841165105278049043822509184313018593000199184305809021052749683156922286150642701825045795339761457625944677340205321750458343502702438552874578924797952, [[], [34, 60], [34, 60, 34, 60]], 3, 0⟩,
  ⟨19540157253471211467225169920, [62, 34, 60, 62, 62], 3307648097213428583657698973709161652712725050134180121756663953632286539302436227691008850798277779539522336945748244114652291241590586829543574828220416, 2063966468677040739097781878027749162856274433733738816539546367528753812956960060805885909833968796066618329737939634885966358271558070598499619372531712, 2063966468677040739097782819278387226075993587385699294868274849740406609955269651016471617629661981743874476354997951282157505713931862298750372081041408, 2063966468624689189137144305171759380912087380182433675689089002351879499022707598855173798289795803027208470579152500160747269368580811612655508397228032, [[62]], 1, 3⟩,
  ⟨19540157251470768807742537728, [62, 34, 60, 62, 34, 60], 3307648097213428583657698973693431781142291592042450658720878046252675122111223372152333171373572578659529807326923113026908414360457372696039916409192448, 2063966468677040739097781878027749162856274433825521906468621810437440164689485424554628143239845744937797026822042095051620718445057590063176568455299072, 2063966468677040739097782819278387226077533452110589871952660901316095600563619031041131816944600386522515161792016893117646436545705605462395650555510784, 2063966468624689189137144305171748395956747921070788836028097857869528599541661873892158911014899590476296248322935346981027686549444426203456821172109312, [[62], [62, 34, 60, 62]], 2, 2⟩,
  ⟨19540156736835995138814640128, [62, 34, 60, 34, 60, 62], 3307648097213428583657698969681493375220528141719927176185207326925174879523752572563853313975336184328022094875385668021140162191477047713217259186946048, 2063966468677040739097781878027749163250479856363127547792649104253208991247301669541576729845807187273781333112480340989275960292286586121149404070019072, 2063966468677040739097782819285000895599831192554527573834716499118669408916275396835336652370809207146537449820225181501176578509569593567847876189487104, 2063966468624689189137097125147886493654960088336442399994114306742704357750288115340302797102039079195630131392859451322306663166927627304249591135731712, [[62], [62, 34, 60]], 2, 2⟩,
  ⟨19540156736828180909676036096, [62, 34, 60, 34, 60, 34, 60], 3307648097213428583657698969681493375220528141719923845255338267954737704274169407558890182070842453189038928299460585079258300180213634529031401127280640, 2063966468677040739097781878027749163250479856363127547792649430332248064850126372495144937710909840000008104692840857991271905153437353083517717952069632, 2063966468677040739097782819285000895599831192646310663763973956636415593723635009321066109788547603966272308013663558703862759309109328394754984236810240, 2063966468624689189137097125147886450744978293574287537339188560084570174549190280477166020198621515865353130524671103067698383546540375798744908763758592, [[62], [62, 34, 60], [62, 34, 60, 34, 60]], 3, 1⟩,
  ⟨19573884358016111249455054848, [62, 62, 34, 60, 62, 62], 3312498233139050960378208101018271358140284264638495948899769667609778986070062092836754256387942162984420036729274880655863855110914939427558060399263744, 2063966468676564173984244071915993504967989208406658649630873352342135407560881070032905016675683425138202536277322881210070137041612393867227922434097152, 2063966468676564173984244071915993724119981108281585928623584098777753547879231190712918127120235156550430077876106721313391453785857784145136523231100928, 2063966468676564173972055026842380545644540664517167051147860097553790363739417169895619207188878869142772439051406807748358000473758283505457833885827072, [[62, 62]], 1, 4⟩,
  ⟨19573884358008297020316450816, [62, 62, 34, 60, 62, 34, 60], 3312498233139050960378208101018209913329462258942825130684786128909077378971658917619806304515189408293482565910451344987552355591848012809849061733564416, 2063966468676564173984244071915993504967989208406658649652243268246863042280613835078975664043132491135904826784165124016312557418276039637046496499597312, 2063966468676564173984244071915993724119981108281944456318620260721182243913634939199190507813273197163007167165924839974339446679605986234304129121910784, 2063966468676564173972055026842380545644538106882944855870952256889061086955105446121076704837071697832731289776282682971735451499704446421447500734922752, [[62, 62], [62, 62, 34, 60, 62]], 2, 3⟩,
  ⟨19573884355998004935672201216, [62, 62, 34, 60, 34, 60, 62], 3312498233139050960378208101002538278931330370465002773331131165161704331149051609808913805072227547378125113908687526842998573356812933415384910728790016, 2063966468676564173984244071915993504967989208498441751913519634744259369327237481024850695215185584833305926235047719582050305456685140912594135979917312, 2063966468676564173984244071915993724121520973213735019699882780556223986173870721993997699237858339202284017721022125639028309629106345355051200837320704, 2063966468676564173972055026842369560689214735242122044647770725116581776526655505767590539769924207750222286364149107338083898857306625615662068533297152, [[62, 62], [62, 62, 34, 60]], 2, 3⟩,
  ⟨19573884355997974411339628544, [62, 62, 34, 60, 34, 60, 34, 60], 3312498233139050960378208101002538278931330370465002760319686364150101060933232925570613167838225618740863460914250319487756847333331435707634184720744448, 2063966468676564173984244071915993504967989208498441751913519634744259445248430030567100970583421638536915466531353335870580134812106604140692897028636672, 2063966468676564173984244071915993724121520973213735019721252696460993999472185295425236141079006518556834892703920914676382222277545329138069914381189120, 2063966468676564173972055026842369560689214725251363364197470303863985177789216788096596233120112460987292438124793153725675217025376727814552653169426432, [[62, 62], [62, 62, 34, 60], [62, 62, 34, 60, 34, 60]], 3, 2⟩,
  ⟨10906018494516495640764088320, [34, 60, 62, 62, 62], 2066013300254100143207362382577898218718797773960838955418298133170257013232334443457265169519575543589512547862821516786835024524952938946522602344022016, 2066013300254100143207361349800898627156074600718528091080015513293268721382076074762081979524955779986883981865331259332017090664633935606089956785651712, 2066013300254104185848069170462372853505875282012110504232493860459784311406488926501233479696351178606487335962516756435181802388449469412083758769635328, 1841165105278251680482067918640385596757742235864683097206005532213302164920742704460910519291944537271360890616513511073393444504432746035627702649618432, [[]], 1, 3⟩,
  ⟨10906018492516052981281456128, [34, 60, 62, 62, 34, 60], 2066013300254100143207362382562168347148364315869109492382512225790645596041121587918589490094870342709520018243996385699091147643819724813018943924994048, 2066013300254100143207361349800898627156074600810311181009090956201955073114601438510824212930832728858062678949433719497671450838133455070766905868419072, 2066013300254104185848069170462372853507415146737001081316879912035473302014838306525893679011289583385128021399535698270670733220223212575729037244104704, 1841165105278251680482067918640374611802402776753038257545014387730951265439696979497895632017048324720448668360296357893673861685296360626429015424499712, [[], [34, 60, 62, 62]], 2, 2⟩,
  ⟨10906017977881279312353558528, [34, 60, 62, 34, 60, 62], 2066013300254100143207362378550229941226600865546586009846841506463145353453650788330109632696633948378012305792458940693322895474839399830196286702747648, 2066013300254100143207361349800898627550280023347916822333118250017723899672417683497772799536794171194046985239871965435326692685362451128739741483139072, 2066013300254104185848069170468986523029712887180938783198935509838047110367494672320098514437498404009150309427743986654200875184087200681181262878081024, 1841165105278251680482020738616512709500614944018691821511030836604127023648323220946039518104187813439782551430220462234952838302779561727221785388122112, [[], [34, 60, 62]], 2, 2⟩,
  ⟨10906017977873465083214954496, [34, 60, 62, 34, 60, 34, 60], 2066013300254100143207362378550229941226600865546582678916972447492708178204067623325146500792140217239029139216533857751441033463575986646010428643082240, 2066013300254100143207361349800898627550280023347916822333118576096762973275242386451341007401896823920273756820232482437322637546513218091108055365189632, 2066013300254104185848069170468986523029712887272721873128192967355793295174854284805827971855236800828885167621182363856887055983626935508088370925404160, 1841165105278251680482020738616512666590633149256536958856105089945992840447225386082902741200770250109505550562032113980344558682392310221717103016148992, [[], [34, 60, 62], [34, 60, 62, 34, 60]], 3, 1⟩,
  ⟨10905886231379220066811772928, [34, 60, 34, 60, 62, 62], 2066013300254100143207361351493998025255157582980574480715137358623083251061126093679266138748116999512037918198873019216650340215876204227596037807669248, 2066013300254100143207361351493998025255157582979720188283228409179840925068885809803800833006836610680726329049706084092145858977268700150346197680259072, 2066013300254104185876474664773807261011121838225765225014719481338877836179817506800727620284404443065397233511142651419233917889137509069522423716511744, 1841165105278049043822509368609986845575878745318576524819376769770180275755500891592653028343887764129794660778105289619391888860075708394231103081152512, [[], [34, 60]], 2, 2⟩,
  ⟨10905886231371405837673168896, [34, 60, 34, 60, 62, 34, 60], 2066013300254100143207361351493998025255157582980571149785268299652646075811542928674303006843623268373054751622947936274768478204612791043410179748003840, 2066013300254100143207361351493998025255157582979720188283228735258879998671710512757369040871939263406953100630066601094141803838419467112714511562309632, 2066013300254104185876474664773807261011121838317548314943976938856624020987177119286457077702142839885132091704581028621920098688677243896429531763834880, 1841165105278049043822509368609986802665896950556421662164451023112046092554403056729516251440470200799517659909916941364783609239688456888726420709179392, [[], [34, 60], [34, 60, 34, 60, 62]], 3, 1⟩,
  ⟨10905886229361113753028919296, [34, 60, 34, 60, 34, 60, 62], 2066013300254100143207361351493998025255157582979721588782225641941718399590730680935272375765447645154721333610628431627303928346604044521235176426045440, 2066013300254100143207361351493998025255157582979721588782225641941718398884220379451185353662331903377254879821647577696246993928568978970338955343429632, 2066013300254104185876474664773807261405327260855932540547182016627310039607537514757098082395939201940005833809486158782269013760769178807679890908774400, 1841165105278049043822509184313018592110030591834803121398693274865456935359905502985173063495498089427327557890658832397366730242100500643026392466849792, [[], [34, 60], [34, 60, 34, 60]], 3, 1⟩,
  ⟨10905886229361083228696346624, [34, 60, 34, 60, 34, 60, 34, 60], 2066013300254100143207361351493998025255157582979721588782225641941718398885378844913672265440215329830711050621517821617393974669373352466787138002747392, 2066013300254100143207361351493998025255157582979721588782225641941718398885378844913672265440215329830711050621517821617393974669373352466787138002747392, 2066013300254104185876474664773807261405327260855932546017880488248433443976068313154139193729873116705029829431576152344870651761149027260470558139088896, 1841165105278049043822509184313018591942413475449013453966447471167573598706776214567738935460719114570568663356017471661997166649833362941833014801334272, [[], [34, 60], [34, 60, 34, 60], [34, 60, 34, 60, 34, 60]], 4, 0⟩,
  ⟨19540157253488944390757941248, [62, 34, 60, 62, 62, 62], 3307648097213428583657698973709164860351245486215943834968760426123599183233850757742091195132947232375240310990669698127239568912803073615515009725497344, 2063966468677040739097781878027749162856274433733738804185975528035272314223025514083432197676177839541069967079819416011948084669656622028232262944817152, 2063966468677040739097782819278387226075993587178440768522791380044143663535044953037598532669186247345112859288981269917991307100555595682213616521576448, 2063966468624689189137144305171759380912073797287651098084418988063422903176900855428677828552066245785872432109922618164754943141571830259843163301609472, [[62]], 1, 4⟩,
  ⟨19540157253481130161619337216, [62, 34, 60, 62, 62, 34, 60], 3307648097213428583657698973709103415540423480520273016753776887422897576135447582525143243260194477684302840171846162458928069393736146997806011059798016, 2063966468677040739097781878027749162856274433733738804207345443939999948942758279129502845043626905538772257586661658818190505046320267798050837010317312, 2063966468677040739097782819278387226075993587178799296217827541987572359569448701523870913362224287957689948578799388578939299994303797771381222412386304, 2063966468624689189137144305171759380912071239653428902807511147398693626392589131654135326200259074475831282834798493388132394167517993175832830150705152, [[62], [62, 34, 60, 62, 62]], 2, 3⟩,
  ⟨19540157251470838076975087616, [62, 34, 60, 62, 34, 60, 62], 3307648097213428583657698973693431781142291592042450659400121923675524528312840274714250743817232616768945388170082344314374287158701067603341860055023616, 2063966468677040739097781878027749162856274433825521906468621810437396275989381925075377876215679999236173357037544254383928253084729369073598476490637312, 2063966468677040739097782819278387226077533452110589859599090061822614101829684484318678104786809429996966799133896674243628162943804156892128294127796224, 2063966468624689189137144305171748395956747868012606091584329615626214315964139191300649161133111584393322279422664917754480841525120172370047397949079552, [[62], [62, 34, 60, 62]], 2, 3⟩,
  ⟨19540157251470807552642514944, [62, 34, 60, 62, 34, 60, 34, 60], 3307648097213428583657698973693431781142291592042450646388677122663921258097021590475950106583230688131683735175645136959132561135219569895591134046978048, 2063966468677040739097781878027749162856274433825521906468621810437396351910574474617628151583916052939782897333849870672458082440150832301697237539356672, 2063966468677040739097782819278387226077533452110589859620459977727384115127999057749916546627957609351517674116795463280982075592243140675147007671664640, 2063966468624689189137144305171748395956747858021847411134029194373617717226700473629654854483299837630392431183308964142072159693190274568937982585208832, [[62], [62, 34, 60, 62], [62, 34, 60, 62, 34, 60]], 3, 2⟩,
  ⟨19540156736836064408047190016, [62, 34, 60, 34, 60, 62, 62], 3307648097213428583657698969681493375220528141719927176864451204348024285725369475125770886418996222437437675718544899308606034989720742620519202832777216, 2063966468677040739097781878027749163250479856363127547792649104253165102547198170062326462821641441572157663327982500321583494931958365131571312105357312, 2063966468677040739097782819285000895599831192554527561481145659625187910182340850112882940213018250620989087162104962627158304907668144997580519761772544, 2063966468624689189137097125147886493654960035278259655550346064499390074172765432748793047220251073112656162492589022095759818142603373470840167912701952, [[62], [62, 34, 60]], 2, 3⟩,
  ⟨19540156736836033883714617344, [62, 34, 60, 34, 60, 62, 34, 60], 3307648097213428583657698969681493375220528141719927163853006403336421015509550790887470249184994293800176022724107691953364308966239244912768476824731648, 2063966468677040739097781878027749163250479856363127547792649104253165178468390719604576738189877495275767203624288116610113324287379828359670073154076672, 2063966468677040739097782819285000895599831192554527561502515575529957923480655423544121382054166429975539962145003751664512217556107128780599233305640960, 2063966468624689189137097125147886493654960025287500975100045643246793475435326715077798740570439326349726314253233068483351136310673475669730752548831232, [[62], [62, 34, 60], [62, 34, 60, 34, 60, 62]], 3, 2⟩,
  ⟨19540156736828181180258975744, [62, 34, 60, 34, 60, 34, 60, 62], 3307648097213428583657698969681493375220528141719923845255338267954737704274313243044739660782345170271979407809997068888335150568356398246666230718005248, 2063966468677040739097781878027749163250479856363127547792649430332248064850126372339220952508434279180645775246897691700945628637039116217062296672796672, 2063966468677040739097782819285000895599831192646310663763973220306213998090515740073144003853110392107585114289248097990940014914671442996995989522350080, 2063966468624689189137097125147886450744978293367029010993705090388307228128965582498292935238145781466591513458654421703532184933164109182208153204293632, [[62], [62, 34, 60], [62, 34, 60, 34, 60]], 3, 2⟩,
  ⟨19540156736828181061023301632, [62, 34, 60, 34, 60, 34, 60, 34, 60], 3307648097213428583657698969681493375220528141719923845255338267954737704271557962435280285351387231540244992642070855567983939811804715855828543067914240, 2063966468677040739097781878027749163250479856363127547792649430332248064850126372339490678767715884611031670891551320001790842784426882668824441475039232, 2063966468677040739097782819285000895599831192646310663763973221579960244474302734191511045872384736620296839199440288572427970804010451831297448299462656, 2063966468624689189137097125147886450744978293328002609898196104367789272665147462507390613727794954330798818738969437509733713519758133018922569550528512, [[62], [62, 34, 60], [62, 34, 60, 34, 60], [62, 34, 60, 34, 60, 34, 60]], 4, 1⟩,
  ⟨10906018494534228564296859648, [34, 60, 62, 62, 62, 62], 2066013300254100143207362382577901426357318210042602668630394605661569657163748973508347513854244996425230521907742970799422302196165425732494037241298944, 2066013300254100143207361349800898627156074600718528078726444673799787222648141528039628267367164823461335619207211040457998817062732487035822600357937152, 2066013300254104185848069170462372853505875281804851977887010390763521364986264228522360394735875444207725718896500075071015603775073202795547003210170368, 1841165105278251680482067918640385596757728652969900519601335517924845569074935961034414549554214980030024852147283629077401118277423764682815357553999872, [[]], 1, 4⟩,
  ⟨10906018494526414335158255616, [34, 60, 62, 62, 62, 34, 60], 2066013300254100143207362382577839981546496204346931850415411066960868050065345798291399561981492241734293051088919435131110802677098499114785038575599616, 2066013300254100143207361349800898627156074600718528078747814589704514857367874293085698914734613889459037909714053283264241237439396132805641174423437312, 2066013300254104185848069170462372853505875281805210505582046552706950061020667977008632775428913484820302808186318193731963596668821404884714609100980224, 1841165105278251680482067918640385596757726095335678324324427677260116292290624237259872047202407808719983702872159504300778569303369927598805024403095552, [[], [34, 60, 62, 62, 62]], 2, 3⟩,
  ⟨10906018492516122250514006016, [34, 60, 62, 62, 34, 60, 62], 2066013300254100143207362382562168347148364315869109493061756103213495002242738490480507062538530380818935599087155616986557020442063419720320887570825216, 2066013300254100143207361349800898627156074600810311181009090956201911184414497939031573945906666983156439009164935878829978985477805234081188813903757312, 2066013300254104185848069170462372853507415146737001068963309072541991803280903759803439966853498626859579658741415479396652459618321764005461680816390144, 1841165105278251680482067918640374611802402723694855513101246145487636981862174296906385882135260318637474699460025928667127016660972106793019592201469952, [[], [34, 60, 62, 62]], 2, 3⟩,
  ⟨10906018492516091726181433344, [34, 60, 62, 62, 34, 60, 34, 60], 2066013300254100143207362382562168347148364315869109480050311302201891732026919806242206425304528452181673946092718409631315294418581922012570161562779648, 2066013300254100143207361349800898627156074600810311181009090956201911260335690488573824221274903036860048549461241495118508814833226697309287574952476672, 2066013300254104185848069170462372853507415146737001068984678988446761816579218333234678408694646806214130533724314268434006372266760747788480394360258560, 1841165105278251680482067918640374611802402713704096832650945724235040383124735579235391575485448571874544851220669975054718334829042208991910176837599232, [[], [34, 60, 62, 62], [34, 60, 62, 62, 34, 60]], 3, 2⟩,
  ⟨10906017977881348581586108416, [34, 60, 62, 34, 60, 62, 62], 2066013300254100143207362378550229941226600865546586010526085383885994759655267690892027205140293986487427886635618171980788768273083094737498230348578816, 2066013300254100143207361349800898627550280023347916822333118250017680010972314184018522532512628425492423315455374124767634227325034230139161649518477312, 2066013300254104185848069170468986523029712887180938770845364670344565611633560125597644802279707447483601946769623767780182601582185752110913906450366464, 1841165105278251680482020738616512709500614890960509077067262594360812740070800538354529768222399807356808582529950033008405993278455307893812362165092352, [[], [34, 60, 62]], 2, 3⟩,
  ⟨10906017977881318057253535744, [34, 60, 62, 34, 60, 62, 34, 60], 2066013300254100143207362378550229941226600865546585997514640582874391489439449006653726567906292057850166233641180964625547042249601597029747504340533248, 2066013300254100143207361349800898627550280023347916822333118250017680086893506733560772807880864479196032855751679741056164056680455693367260410567196672, 2066013300254104185848069170468986523029712887180938770866734586249335624931874699028883244120855626838152821752522556817536514230624735893932619994234880, 1841165105278251680482020738616512709500614880969750396616962173108216141333361820683535461572588060593878734290594079395997311446525410092702946801221632, [[], [34, 60, 62], [34, 60, 62, 34, 60, 62]], 3, 2⟩,
  ⟨10906017977873465353797894144, [34, 60, 62, 34, 60, 34, 60, 62], 2066013300254100143207362378550229941226600865546582678916972447492708178204211458810995979503642934321969618727070341560517883851718750363645258233806848, 2066013300254100143207361349800898627550280023347916822333118576096762973275242386295417022199421263100911427374289316146996361030114981224652634085916672, 2066013300254104185848069170468986523029712887272721873128192231025591699541735015557905865919799588970197973896766903143964311589189050110329376210944000, 1841165105278251680482020738616512666590633149049278432510621620249729894027000688104029656240294515710743933496015432616178360069016043605180347456684032, [[], [34, 60, 62], [34, 60, 62, 34, 60]], 3, 2⟩,
  ⟨10906017977873465234562220032, [34, 60, 62, 34, 60, 34, 60, 34, 60], 2066013300254100143207362378550229941226600865546582678916972447492708178201456178201536604072684995590235203559144128240166673095167067972807570583715840, 2066013300254100143207361349800898627550280023347916822333118576096762973275242386295686748458702868531297323018942944447841575177502747676414778888159232, 2066013300254104185848069170468986523029712887272721873128192232299337945925522009676272907939073933482909698806959093725452267478528058944630834988056576, 1841165105278251680482020738616512666590633149010252031415112634229211938563182568113127334729943688574951238776330448422379888655610067441894763802918912, [[], [34, 60, 62], [34, 60, 62, 34, 60], [34, 60, 62, 34, 60, 34, 60]], 4, 1⟩,
  ⟨10905886231379289336044322816, [34, 60, 34, 60, 62, 62, 62], 2066013300254100143207361351493998025255157582980574481394381236045932657262742996241183711191777037621453499042032250504116213014119899134897981453500416, 2066013300254100143207361351493998025255157582979720188283228409179797036368782310324550565982670864979102659265208243424453393616940479160768105715597312, 2066013300254104185876474664773807261011121838225765212661148641845396337445882960078273908126613486539848870853022432545215644287236060499255067288797184, 1841165105278049043822509368609986845575878692260393780375608527526865992177978209001143278462099758046820691877834860392845043835751454560821679858122752, [[], [34, 60]], 2, 3⟩,
  ⟨10905886231379258811711750144, [34, 60, 34, 60, 62, 62, 34, 60], 2066013300254100143207361351493998025255157582980574468382936435034329387046924312002883073957775108984191846047595043148874486990638401427147255445454848, 2066013300254100143207361351493998025255157582979720188283228409179797112289974859866800841350906918682712199561513859712983222972361942388866866764316672, 2066013300254104185876474664773807261011121838225765212682518557750166350744197533509512349967761665894399745835921221582569556935675044282273780832665600, 1841165105278049043822509368609986845575878682269635099925308106274269393440539491330148971812288011283890843638478906780436362003821556759712264494252032, [[], [34, 60], [34, 60, 34, 60, 62, 62]], 3, 2⟩,
  ⟨10905886231371406108256108544, [34, 60, 34, 60, 62, 34, 60, 62], 2066013300254100143207361351493998025255157582980571149785268299652646075811686764160152485555125985455995231133484420083845328592755554761045009338728448, 2066013300254100143207361351493998025255157582979720188283228735258879998671710512601445055669463702587590771184123434803815527322021230246259090283036672, 2066013300254104185876474664773807261011121838317548314943976202526422425354057850038534971766705628026444897980165567908997354294239358498670537049374720, 1841165105278049043822509368609986802665896950349163135818967553415783146134178358750643166479994466400756042843900260000617410626312190272189665149714432, [[], [34, 60], [34, 60, 34, 60, 62]], 3, 2⟩,
  ⟨10905886231371405989020434432, [34, 60, 34, 60, 62, 34, 60, 34, 60], 2066013300254100143207361351493998025255157582980571149785268299652646075808931483550693110124168046724260815965558206763494117836203872370207321688637440, 2066013300254100143207361351493998025255157582979720188283228735258879998671710512601714781928745308017976666828777063104660741469408996698021235085279232, 2066013300254104185876474664773807261011121838317548314943976203800168671737844844156902013785979972539156622890357758490485310183578367332971995826487296, 1841165105278049043822509368609986802665896950310136734723458567395265190670360238759740844969643639264963348124215275806818939212906214108904081495949312, [[], [34, 60], [34, 60, 34, 60, 62], [34, 60, 34, 60, 62, 34, 60]], 4, 1⟩,
  ⟨10905886229361114023611858944, [34, 60, 34, 60, 34, 60, 62, 62], 2066013300254100143207361351493998025255157582979721588782225641941718399590874516421121854476950362237661813121164915436380778734746808238870006016770048, 2066013300254100143207361351493998025255157582979721588782225641941718398884220379295261368459856342557892550375704411405920717412170742103883534064156672, 2066013300254104185876474664773807261405327260855932540547181280297108443974418245509175976460501990081318640085070698069346269366331293409920896194314240, 1841165105278049043822509184313018592110030591627544595053209805169193988939680805006299978535022355028565940824642151033200531628724234026489636907384832, [[], [34, 60], [34, 60, 34, 60]], 3, 2⟩,
  ⟨10905886229361113904376184832, [34, 60, 34, 60, 34, 60, 62, 34, 60], 2066013300254100143207361351493998025255157582979721588782225641941718399588119235811662479045992423505927397953238702116029567978195125848032318366679040, 2066013300254100143207361351493998025255157582979721588782225641941718398884220379295531094719137947988278446020358039706765931559558508555645678866399232, 2066013300254104185876474664773807261405327260855932540547181281570854690358205239627543018479776334594030364995262888650834225255670302244222354971426816, 1841165105278049043822509184313018592110030591588518193957700819148676033475862685015397657024671527892773246104957166839402060215318257863204053253619712, [[], [34, 60], [34, 60, 34, 60], [34, 60, 34, 60, 34, 60, 62]], 4, 1⟩,
  ⟨10905886229361083229753311232, [34, 60, 34, 60, 34, 60, 34, 60, 62], 2066013300254100143207361351493998025255157582979721588782225641941718398885378844913672265440215360289059925331058881489541139281768376889227191401840640, 2066013300254100143207361351493998025255157582979721588782225641941718398885378844913672265440214775877435968699698374534123151487004983753302139031519232, 2066013300254104185876474664773807261405327260855932546017880488248389555275964813674888926705707371003406159647078311677178186400820806270892466174427136, 1841165105278049043822509184313018591942413475448203850347910426364072571572322211841258962472592256233073500789353344000418392436499861900362168099930112, [[], [34, 60], [34, 60, 34, 60], [34, 60, 34, 60, 34, 60]], 4, 1⟩,
  ⟨10905886229361083229287546880, [34, 60, 34, 60, 34, 60, 34, 60, 34, 60], 2066013300254100143207361351493998025255157582979721588782225641941718398885378844913672265440214776835696139581148562091711859353890244869249210874068992, 2066013300254100143207361351493998025255157582979721588782225641941718398885378844913672265440214776835696139581148562091711859353890244869249210874068992, 2066013300254104185876474664773807261405327260855932546017880488248389631197157363367698157889656008207239293387010187751980500532554932441707030062825472, 1841165105278049043822509184313018591942413475448051403468631094387429923308791672310044500279192448314574310575604574530911367157541244805974333788782592, [[], [34, 60], [34, 60, 34, 60], [34, 60, 34, 60, 34, 60], [34, 60, 34, 60, 34, 60, 34, 60]], 5, 0⟩]
noncomputable def d0 : Rw := ⟨0, [], 0, 0, 0, 0, [], 0, 0⟩
noncomputable def pgOk (p : List Nat) (c : Nat) : Bool := Nat.ble p.length 64 && p.all (fun c => Nat.blt c 255) && Nat.beq (cdW 64 p) c
noncomputable def rowOk (x : Rw) : Bool :=
  NL.any (eqL x.nm) && pgOk (pg6 (x.nm ++ [61])) x.c6 && pgOk (pg3 (x.nm ++ [61])) x.c3 && pgOk (pg4 (x.nm ++ [61])) x.c4 && pgOk (pg2 (x.nm ++ [61])) x.c2 &&
  eqLL (frL (spl 34 (x.nm ++ [61]))) x.fr && Nat.beq (cntL 34 x.nm) x.q && Nat.beq (cntL 62 x.nm) x.g
theorem rows_ok : (TB.all rowOk) = true := by decide +kernel
noncomputable def look (c : Nat) (nm : List Nat) : List Rw → Option Rw
  | [] => none
  | x :: r => bif Nat.beq c x.cd then (bif eqL nm x.nm then some x else none) else look c nm r
noncomputable def withRows : List (List Nat) → (List Rw → Bool) → Bool
  | [], k => k []
  | nm :: r, k => match look (cdW 12 nm) nm TB with
    | none => false
    | some x => withRows r fun rs => k (x :: rs)
noncomputable def r6 : List Nat := [0, 1, 2, 3, 4, 5]
noncomputable def eqI : List Nat → List Int → Bool
  | [], [] => true
  | a :: r, b :: s => (match b with | .ofNat n => Nat.beq a n | .negSucc _ => false) && eqI r s
  | _, _ => false
/-- for one place: the orders and the counts -/
noncomputable def chkK (ps : List Int) (rs : List Rw) (R6 R3 R4 R2 : Nat → Nat → Bool) (k : Nat) (ab : List Int) : Bool :=
  r6.all (fun i => R3 i k == R4 i k) &&
  eqI (r6.filter fun j => R6 k j && R3 k j) ab &&
  eqI (r6.filter fun j => R3 k j && R2 k j) (ledF ps ab k k) &&
  eqLL (rs.getD k d0).fr (ab.map fun j => (rs.getD j.toNat d0).nm) &&
  Nat.beq ((r6.filter fun j => R6 j k && R3 j k).length + 5) ((r6.filter fun j => R6 j k).length + (r6.filter fun j => R3 j k).length + (rs.getD k d0).q) &&
  Nat.beq ((r6.filter fun j => R3 j k && R2 j k).length + 5) ((r6.filter fun j => R3 j k).length + (r6.filter fun j => R2 j k).length + (rs.getD k d0).q + (rs.getD k d0).g)
noncomputable def rel (f : Rw → Nat) (rs : List Rw) (i j : Nat) : Bool := Nat.blt (f (rs.getD i d0)) (f (rs.getD j d0))
noncomputable def chkR (ps : List Int) (rs : List Rw) : Bool :=
  r6.all fun k => chkK ps rs (rel Rw.c6 rs) (rel Rw.c3 rs) (rel Rw.c4 rs) (rel Rw.c2 rs) k (aboveF ps k)
noncomputable def chk (ps : List Int) : Bool := withRows (nmL ps 6) (chkR ps)
noncomputable def fr6 (a b c d e : Nat) : List Int := [0, (a : Int), (b : Int), (c : Int), (d : Int), (e : Int)]
noncomputable def fors (d e : Nat) : Bool := (List.range 2).all fun a => (List.range 3).all fun b => (List.range 4).all fun c => chk (fr6 a b c d e)
theorem f_0_0 : fors 0 0 = true := by decide +kernel
theorem f_0_1 : fors 0 1 = true := by decide +kernel
theorem f_0_2 : fors 0 2 = true := by decide +kernel
theorem f_0_3 : fors 0 3 = true := by decide +kernel
theorem f_0_4 : fors 0 4 = true := by decide +kernel
theorem f_0_5 : fors 0 5 = true := by decide +kernel
theorem f_1_0 : fors 1 0 = true := by decide +kernel
theorem f_1_1 : fors 1 1 = true := by decide +kernel
theorem f_1_2 : fors 1 2 = true := by decide +kernel
theorem f_1_3 : fors 1 3 = true := by decide +kernel
theorem f_1_4 : fors 1 4 = true := by decide +kernel
theorem f_1_5 : fors 1 5 = true := by decide +kernel
theorem f_2_0 : fors 2 0 = true := by decide +kernel
theorem f_2_1 : fors 2 1 = true := by decide +kernel
theorem f_2_2 : fors 2 2 = true := by decide +kernel
theorem f_2_3 : fors 2 3 = true := by decide +kernel
theorem f_2_4 : fors 2 4 = true := by decide +kernel
theorem f_2_5 : fors 2 5 = true := by decide +kernel
theorem f_3_0 : fors 3 0 = true := by decide +kernel
theorem f_3_1 : fors 3 1 = true := by decide +kernel
theorem f_3_2 : fors 3 2 = true := by decide +kernel
theorem f_3_3 : fors 3 3 = true := by decide +kernel
theorem f_3_4 : fors 3 4 = true := by decide +kernel
theorem f_3_5 : fors 3 5 = true := by decide +kernel
theorem f_4_0 : fors 4 0 = true := by decide +kernel
theorem f_4_1 : fors 4 1 = true := by decide +kernel
theorem f_4_2 : fors 4 2 = true := by decide +kernel
theorem f_4_3 : fors 4 3 = true := by decide +kernel
theorem f_4_4 : fors 4 4 = true := by decide +kernel
theorem f_4_5 : fors 4 5 = true := by decide +kernel
theorem chk_all {a b c d e : Nat} (ha : a < 2) (hb : b < 3) (hc : c < 4) (hd : d < 5) (he : e < 6) : chk (fr6 a b c d e) = true := by
  have h : fors d e = true := by
    have hd' : d = 0 ∨ d = 1 ∨ d = 2 ∨ d = 3 ∨ d = 4 := by omega
    have he' : e = 0 ∨ e = 1 ∨ e = 2 ∨ e = 3 ∨ e = 4 ∨ e = 5 := by omega
    rcases hd' with rfl | rfl | rfl | rfl | rfl <;> rcases he' with rfl | rfl | rfl | rfl | rfl | rfl
    · exact f_0_0
    · exact f_0_1
    · exact f_0_2
    · exact f_0_3
    · exact f_0_4
    · exact f_0_5
    · exact f_1_0
    · exact f_1_1
    · exact f_1_2
    · exact f_1_3
    · exact f_1_4
    · exact f_1_5
    · exact f_2_0
    · exact f_2_1
    · exact f_2_2
    · exact f_2_3
    · exact f_2_4
    · exact f_2_5
    · exact f_3_0
    · exact f_3_1
    · exact f_3_2
    · exact f_3_3
    · exact f_3_4
    · exact f_3_5
    · exact f_4_0
    · exact f_4_1
    · exact f_4_2
    · exact f_4_3
    · exact f_4_4
    · exact f_4_5
  unfold fors at h
  simp only [List.all_eq_true, List.mem_range] at h
  exact h a ha b hb c hc
end Mine
end

-- L8
section
open PySem PySem.W PySem.Calls PyProof.Rows PyProof.V PySem.Spec PySem.Builtin.Str PySem.SeqAt
namespace Mine

-- the 229 lines
noncomputable def mks : List Nat := [60, 62, 61, 38, 124, 34]
noncomputable def lnM (m p : Nat) : List Nat := [50, 50, 57, 32, 40, m, m, m, 48 + p, m, 41]
noncomputable def ok229B (l : List Nat) (p : Int) : Bool :=
  Nat.ble l.length 1000 && eqL (cut l none (some 3)) [50, 50, 57] && (fnd 40 l 0 == 4) && (fnd 41 (l.drop 5) 5 == 10) && Nat.beq l.length 11 && Nat.beq (l.getD 5 0) (l.getD 9 0) &&
    Nat.beq (spl (l.getD 5 0) (cut l (some 5) (some 10))).length 5 && Nat.ble (cut l (some 5) (some 10)).length 900 && (PySem.intText? (ofL ((spl (l.getD 5 0) (cut l (some 5) (some 10))).getD 3 [])) == some p) && Nat.ble ((spl (l.getD 5 0) (cut l (some 5) (some 10))).getD 3 []).length 640 && !(memL 13 l)
theorem ok229_L {l : List Nat} {p : Int} (h : ok229B l p = true) : ok229 (ofL l) p = true := by
  simp only [ok229B, Bool.and_eq_true, Nat.ble_eq, eqL_iff, beq_iff_eq, Bool.not_eq_true'] at h
  obtain ⟨⟨⟨⟨⟨⟨⟨⟨⟨⟨h1, h2⟩, h3⟩, h4⟩, h5⟩, h6⟩, h7⟩, h8⟩, h9⟩, h10⟩, h11⟩ := h
  replace h5 := Nat.eq_of_beq_eq_true h5
  replace h6 := Nat.eq_of_beq_eq_true h6
  replace h7 := Nat.eq_of_beq_eq_true h7
  have e1 : Txt.find (ofL l) "(" = 4 := (find_fnd (ofL l) 40).trans h3
  have e2 : Txt.find3 (ofL l) ")" 5 = 10 := by
    have := find3_fnd (ofL l) 41 5 (by rw [ofL_len, h5]; omega)
    exact this.trans h4
  have hlen : (ofL l).length = 11 := by rw [ofL_len, h5]
  have e3 : Txt.item (ofL l) 5 = ⟨#[l.getD 5 0]⟩ := item_at (ofL l) 5 (by rw [hlen]; omega)
  have e4 : Txt.item (ofL l) 9 = ⟨#[l.getD 9 0]⟩ := item_at (ofL l) 9 (by rw [hlen]; omega)
  have e5 : Txt.slice (ofL l) (some 5) (some 10) = ofL (cut l (some 5) (some 10)) := slice_cut _ _ _
  have e6 := split_spl (ofL (cut l (some 5) (some 10))) (l.getD 5 0)
  have e7 := parts_le (ofL (cut l (some 5) (some 10))) ⟨#[l.getD 5 0]⟩ (by rw [ofL_len]; omega)
  have hsz : sizeLine = 16777216 := sizeLine_eq
  unfold ok229
  simp only [e1, show (4 : Int) + 1 = 5 from rfl, e2, e3, e5, show (10 : Int) - 1 = 9 from rfl, e4, e6, ofL_cps]
  generalize hsp : spl (l.getD 5 0) (cut l (some 5) (some 10)) = sp at *
  have g3 : (sp.map ofL).getD 3 Str.empty = ofL (sp.getD 3 []) := getD_ofL sp 3
  have e8 : Txt.slice (ofL l) none (some 3) = ofL [50, 50, 57] := by rw [slice_cut, ofL_cps, h2]
  simp only [Bool.and_eq_true, decide_eq_true_eq, beq_iff_eq]
  refine ⟨⟨⟨⟨⟨⟨⟨⟨⟨⟨⟨⟨?_, ?_⟩, by decide⟩, by decide⟩, ?_⟩, by decide⟩, ?_⟩, ?_⟩, ?_⟩, ?_⟩, ?_⟩, ?_⟩, ?_⟩
  · rw [hlen]; omega
  · rw [e8]; decide +kernel
  · rw [hlen]; decide
  · rw [hlen]; decide
  · rw [h6]
  · rw [ofL_len]; omega
  · have : (partsBetween (ofL (cut l (some 5) (some 10))) (Builtin.Str.occurrences (ofL (cut l (some 5) (some 10))) ⟨#[l.getD 5 0]⟩ 0 (ofL (cut l (some 5) (some 10))).length ((ofL (cut l (some 5) (some 10))).length + 1)) (⟨#[l.getD 5 0]⟩ : Str).length).length ≤ 1000 := by
      rw [length_partsBetween]
      have := StrLaws.occ_length_le (ofL (cut l (some 5) (some 10))) ⟨#[l.getD 5 0]⟩ 0 (ofL (cut l (some 5) (some 10))).length ((ofL (cut l (some 5) (some 10))).length + 1)
      have h8' := ofL_len (cut l (some 5) (some 10))
      omega
    exact this
  · rw [List.length_map, h7]
  · rw [g3]; exact h9
  · rw [g3, ofL_len]; omega
theorem mk_ok : (mks.all fun m => (List.range 6).all fun p => ok229B (lnM m p) (p : Int)) = true := by decide +kernel
theorem dig (p : Nat) (h : p < 6) : Str.ofString (toString (p : Int)) = ofL [48 + p] := by
  have : p = 0 ∨ p = 1 ∨ p = 2 ∨ p = 3 ∨ p = 4 ∨ p = 5 := by omega
  rcases this with rfl | rfl | rfl | rfl | rfl | rfl <;> decide +kernel
theorem ln2_L (m p : Nat) (h : p < 6) : ln2 (ofL [m]) (p : Int) = ofL (lnM m p) := by
  unfold ln2
  rw [dig p h, show Txt.mul (ofL [m]) 3 = ofL (List.replicate 3 m) from mul_rep m 3, show Str.ofString "229 (" = ofL [50, 50, 57, 32, 40] by decide +kernel, show Str.ofString ")" = ofL [41] by decide +kernel]
  simp only [ofL_app]
  rfl
theorem mark_L (i : Int) (h0 : 0 ≤ i) (h6 : i < 6) : ∃ m ∈ mks, Txt.item marks i = ofL [m] := by
  have : i = 0 ∨ i = 1 ∨ i = 2 ∨ i = 3 ∨ i = 4 ∨ i = 5 := by omega
  rcases this with rfl | rfl | rfl | rfl | rfl | rfl
  · exact ⟨60, by decide, by decide +kernel⟩
  · exact ⟨62, by decide, by decide +kernel⟩
  · exact ⟨61, by decide, by decide +kernel⟩
  · exact ⟨38, by decide, by decide +kernel⟩
  · exact ⟨124, by decide, by decide +kernel⟩
  · exact ⟨34, by decide, by decide +kernel⟩
end Mine
end

-- L9
section
open PySem PySem.W PySem.Calls PyProof.Rows PyProof.V PySem.Spec PySem.Builtin.Str PySem.SeqAt
namespace Mine

theorem eqB : Str.ofString "=" = ofL [61] := by decide +kernel
theorem pa_L (t : List Nat) : pa (ofL t) = ofL (pg6 t) := by unfold pa pg6; rw [esc6_L, escF_L]
theorem pb_L (t : List Nat) : pb (ofL t) = ofL (pg3 t) := by unfold pb pg3; rw [esc3_L, escF_L]
theorem pc_L (t : List Nat) : pc (ofL t) = ofL (pg4 t) := by unfold pc pg4; rw [esc4_L, escF_L]
theorem pd_L (t : List Nat) : pd (ofL t) = ofL (pg2 t) := by unfold pd pg2; rw [esc2_L, escF_L]
theorem pe_L (t : List Nat) : pe (ofL t) = ofL (escL eL5 t) := by unfold pe; rw [esc5_L, escF_L]
theorem escOk_last : ∀ (E : List (Nat × List Nat)) (l : List Nat), escOkL E l = true → (escL E l).length ≤ 1000
  | [], l, h => by simpa [escOkL, escL, ble_dec] using h
  | p :: r, l, h => by
    simp only [escOkL, Bool.and_eq_true] at h
    exact escOk_last r _ h.2

structure NmOk (nm : List Nat) : Prop where
  len : nm.length ≤ 50
  p : pL (ln1L nm) = nm ++ [61]
  n13 : 13 ∉ ln1L nm
  l1 : (ln1L nm).length ≤ 60
  c200 : ∀ c ∈ nm ++ [61], c < 200
  o2 : escOkL eL2 (nm ++ [61]) = true
  o3 : escOkL eL3 (nm ++ [61]) = true
  o4 : escOkL eL4 (nm ++ [61]) = true
  o5 : escOkL eL5 (nm ++ [61]) = true
  o6 : escOkL eL6 (nm ++ [61]) = true
  rp : ∀ k, k < (spl 34 (nm ++ [61])).length - 1 → (repL (spl 34 (nm ++ [61])) (k + 1)).length ≤ 900
  e5 : escL eL5 (nm ++ [61]) = pg2 (nm ++ [61])
  u6 : undL (pg6 (nm ++ [61])) = (nm ++ [61], (nm ++ [61]).filter fun c => memL c [62, 61])
  u3 : undL (pg3 (nm ++ [61])) = (nm ++ [61], (nm ++ [61]).filter fun c => memL c [61])
  u4 : undL (pg4 (nm ++ [61])) = (nm ++ [61], (nm ++ [61]).filter fun c => memL c [60, 61])
  u2 : undL (pg2 (nm ++ [61])) = (nm ++ [61], (nm ++ [61]).filter fun c => memL c [34, 61])
  ct : cntF (ofL (nm ++ [61])) = ((cntL 34 nm : Int), (cntL 62 nm : Int))
theorem und1_eq {p t b : List Nat} (h : und1 p t b = true) : undL p = (t, t.filter fun c => memL c b) := by
  simp only [und1, Bool.and_eq_true, eqL_iff] at h
  exact Prod.ext h.1 h.2
theorem nmOk {nm : List Nat} (h : nm ∈ NL) : NmOk nm := by
  have h1 := List.all_eq_true.mp nm_ok nm h
  have h2 := List.all_eq_true.mp nm_cnt nm h
  simp only [okNm, Bool.and_eq_true, Nat.ble_eq, eqL_iff, Bool.not_eq_true', List.all_eq_true, List.mem_range] at h1
  obtain ⟨⟨⟨⟨⟨⟨⟨⟨⟨⟨⟨⟨⟨⟨⟨a1, a2⟩, a3⟩, a4⟩, a5⟩, a6⟩, a7⟩, a8⟩, a9⟩, b1⟩, b2⟩, b3⟩, b4⟩, b5⟩, b6⟩, b7⟩ := h1
  simp only [Bool.and_eq_true, beq_iff_eq] at h2
  exact ⟨a1, a2, by rw [memL_iff] at a3; simpa using a3, a4, fun c hc => by have := a5 c hc; unfold Nat.blt at this; rw [Nat.ble_eq] at this; omega, a6, a7, a8, a9, b1, b2, b3, und1_eq b4, und1_eq b5, und1_eq b6, und1_eq b7, Prod.ext h2.1 h2.2⟩

theorem bares_L : bares = [[62, 61], [61], [60, 61], [34, 61], [34, 61]].map ofL := by decide +kernel
theorem okT_L {nm : List Nat} (N : NmOk nm) : okT (ofL (nm ++ [61])) = true := by
  have hl := N.len
  have hsk : ∀ l : List Nat, (∀ c ∈ l, c < 200) → strk (ofL l) = true := fun l h => by
    rw [strk_L, List.all_eq_true]
    intro c hc
    have := h c hc
    simp; omega
  simp only [okT, Bool.and_eq_true, decide_eq_true_eq, List.all_eq_true, esc2_L, esc3_L, esc4_L, esc5_L, esc6_L, escOk_L, pa_L, pb_L, pc_L, pd_L, pe_L, ofL_len, lastOff_L]
  refine ⟨⟨⟨⟨⟨⟨⟨⟨⟨⟨⟨⟨⟨⟨by simp; omega, N.o2⟩, N.o3⟩, N.o4⟩, N.o5⟩, N.o6⟩, okF_L (by simp; omega) N.rp⟩, hsk _ N.c200⟩, hsk _ fun c hc => N.c200 c (List.mem_append_left _ hc)⟩, escOk_last _ _ N.o6⟩, escOk_last _ _ N.o3⟩, escOk_last _ _ N.o4⟩, escOk_last _ _ N.o2⟩, escOk_last _ _ N.o5⟩, fun b hb => ?_⟩
  rw [bares_L] at hb
  obtain ⟨b', -, rfl⟩ := List.mem_map.mp hb
  rw [sgnJ_L]
  exact hsk _ fun c hc => N.c200 c (List.mem_filter.mp hc).1

theorem blw_fr6 (ns : List Int) : ∃ a b c d e : Nat, a < 2 ∧ b < 3 ∧ c < 4 ∧ d < 5 ∧ e < 6 ∧ blw ns = fr6 a b c d e := by
  have hb : ∀ k : Nat, k < 6 → 0 ≤ (drw ns k).fmod ((k : Int) + 1) ∧ (drw ns k).fmod ((k : Int) + 1) ≤ k := fun k hk => by
    have := blw_rng ns k hk
    rwa [blw_at ns hk] at this
  have h0 := hb 0 (by omega); have h1 := hb 1 (by omega); have h2 := hb 2 (by omega); have h3 := hb 3 (by omega); have h4 := hb 4 (by omega); have h5 := hb 5 (by omega)
  have e : blw ns = [(drw ns 0).fmod (((0 : Nat) : Int) + 1), (drw ns 1).fmod (((1 : Nat) : Int) + 1), (drw ns 2).fmod (((2 : Nat) : Int) + 1), (drw ns 3).fmod (((3 : Nat) : Int) + 1), (drw ns 4).fmod (((4 : Nat) : Int) + 1), (drw ns 5).fmod (((5 : Nat) : Int) + 1)] := rfl
  generalize (drw ns 0).fmod (((0 : Nat) : Int) + 1) = x0 at *
  generalize (drw ns 1).fmod (((1 : Nat) : Int) + 1) = x1 at *
  generalize (drw ns 2).fmod (((2 : Nat) : Int) + 1) = x2 at *
  generalize (drw ns 3).fmod (((3 : Nat) : Int) + 1) = x3 at *
  generalize (drw ns 4).fmod (((4 : Nat) : Int) + 1) = x4 at *
  generalize (drw ns 5).fmod (((5 : Nat) : Int) + 1) = x5 at *
  refine ⟨x1.toNat, x2.toNat, x3.toNat, x4.toNat, x5.toNat, by omega, by omega, by omega, by omega, by omega, ?_⟩
  rw [e, fr6, Int.toNat_of_nonneg h1.1, Int.toNat_of_nonneg h2.1, Int.toNat_of_nonneg h3.1, Int.toNat_of_nonneg h4.1, Int.toNat_of_nonneg h5.1]
  rw [show x0 = 0 by omega]
end Mine
end

-- L10
section
open PySem PySem.W PySem.Calls PyProof.Rows PyProof.V PySem.Spec PySem.Builtin.Str PySem.SeqAt
namespace Mine
theorem eqLL_iff : ∀ {a b : List (List Nat)}, eqLL a b = true ↔ a = b
  | [], [] => by simp [eqLL]
  | [], _ :: _ => by simp [eqLL]
  | _ :: _, [] => by simp [eqLL]
  | a :: r, b :: s => by rw [eqLL, Bool.and_eq_true, eqL_iff, eqLL_iff, List.cons.injEq]
theorem nmL_len (ps : List Int) : ∀ k, (nmL ps k).length = k
  | 0 => rfl
  | k + 1 => by simp [nmL, nmL_len ps k]
theorem map_text (nms : List (List Nat)) : (nms.map ofL).map (fun x => x ++ Str.ofString "=") = (tsL nms).map ofL := by
  rw [tsL, List.map_map, List.map_map]
  refine List.map_congr_left fun nm _ => ?_
  simp only [Function.comp, eqB, ofL_app]
theorem map_pg (f : Str → Str) (g : List Nat → List Nat) (h : ∀ t, f (ofL t) = ofL (g t)) (ts : List (List Nat)) : (ts.map ofL).map f = (ts.map g).map ofL := by
  rw [List.map_map, List.map_map]
  exact List.map_congr_left fun t _ => h t
theorem tsL_at (nms : List (List Nat)) {k : Nat} (h : k < nms.length) : (tsL nms).getD k [] = nms.getD k [] ++ [61] := by
  simp [tsL, List.getD, h]

structure Chk (ps : List Int) (nms : List (List Nat)) : Prop where
  nl : ∀ nm ∈ nms, NmOk nm
  fr : ∀ k, k < 6 → frL (spl 34 (nms.getD k [] ++ [61])) = (aboveF ps k).map fun j => nms.getD j.toNat []
  ab : ∀ k, k < 6 → (aboveF ps k).length ≤ 100 ∧ ∀ a ∈ aboveF ps k, 0 ≤ a ∧ a < 6
  a1 : aheadL ((tsL nms).map pg3) = aheadL ((tsL nms).map pg4)
  c1 : ∀ k, k < 6 → both (aheadL ((tsL nms).map pg6)) (aheadL ((tsL nms).map pg3)) k = aboveF ps k
  c2 : ∀ k, k < 6 → both (aheadL ((tsL nms).map pg3)) (aheadL ((tsL nms).map pg2)) k = ledF ps (aboveF ps k) k k
  n1 : ∀ k, k < 6 → (cntI (abv ps) k : Int) = ((aheadL ((tsL nms).map pg6)).getD k []).length + ((aheadL ((tsL nms).map pg3)).getD k []).length - 5 + (cntL 34 (nms.getD k []) : Int)
  n2 : ∀ k, k < 6 → (cntI (led ps) k : Int) = ((aheadL ((tsL nms).map pg3)).getD k []).length + ((aheadL ((tsL nms).map pg2)).getD k []).length - 5 + (cntL 34 (nms.getD k []) : Int) + (cntL 62 (nms.getD k []) : Int)
theorem eqI_eq : ∀ {a : List Nat} {b : List Int}, eqI a b = true → b = a.map fun (n : Nat) => (n : Int)
  | [], [], _ => rfl
  | [], _ :: _, h => by simp [eqI] at h
  | _ :: _, [], h => by simp [eqI] at h
  | a :: r, b :: s, h => by
    cases b with
    | ofNat n =>
      have h' : (Nat.beq a n && eqI r s) = true := h
      rw [Bool.and_eq_true] at h'
      have e := Nat.eq_of_beq_eq_true h'.1
      subst e
      rw [eqI_eq h'.2]; rfl
    | negSucc n =>
      have h' : (false && eqI r s) = true := h
      cases h'
theorem cdW_lt : ∀ (n : Nat) {l : List Nat}, (∀ c ∈ l, c < 255) → cdW n l < 256 ^ n
  | 0, l, _ => by simp [cdW]
  | n + 1, [], _ => by rw [cdW]; exact Nat.pow_pos (by decide)
  | n + 1, a :: r, h => by
    have h1 := cdW_lt n (l := r) fun c hc => h c (List.mem_cons_of_mem _ hc)
    have h2 := h a List.mem_cons_self
    have h3 : (a + 1) * 256 ^ n ≤ 255 * 256 ^ n := Nat.mul_le_mul_right _ (by omega)
    rw [cdW, Nat.pow_succ]
    generalize 256 ^ n = P at *
    omega
theorem blt_dec (a b : Nat) : Nat.blt a b = decide (a < b) := by
  unfold Nat.blt; rw [ble_dec]; rfl
theorem lt_cdW : ∀ (n : Nat) {a b : List Nat}, a.length ≤ n → b.length ≤ n → (∀ c ∈ a, c < 255) → (∀ c ∈ b, c < 255) → ltL a b = Nat.blt (cdW n a) (cdW n b)
  | 0, a, b, ha, hb, _, _ => by
    have e1 : a = [] := List.eq_nil_of_length_eq_zero (by omega)
    have e2 : b = [] := List.eq_nil_of_length_eq_zero (by omega)
    subst e1; subst e2; simp [ltL, cdW, blt_dec]
  | n + 1, a, [], _, _, _, _ => by
    rw [blt_dec]; cases a <;> simp [ltL, cdW]
  | n + 1, [], b :: s, _, _, _, _ => by
    rw [blt_dec, Bool.eq_iff_iff, decide_eq_true_eq]; simp only [ltL, cdW]
    have hp : 0 < 256 ^ n := Nat.pow_pos (by decide)
    have : 0 < (b + 1) * 256 ^ n := Nat.mul_pos (by omega) hp
    exact ⟨fun _ => by omega, fun _ => trivial⟩
  | n + 1, a :: r, b :: s, ha, hb, hA, hB => by
    have h1 := cdW_lt n (l := r) fun c hc => hA c (List.mem_cons_of_mem _ hc)
    have h2 := cdW_lt n (l := s) fun c hc => hB c (List.mem_cons_of_mem _ hc)
    rw [ltL, lt_cdW n (a := r) (b := s) (by simpa using ha) (by simpa using hb) (fun c hc => hA c (List.mem_cons_of_mem _ hc)) (fun c hc => hB c (List.mem_cons_of_mem _ hc)), blt_dec, blt_dec, blt_dec, beq_dec]
    rw [Bool.eq_iff_iff]
    simp only [Bool.or_eq_true, Bool.and_eq_true, decide_eq_true_eq]
    simp only [cdW]
    generalize cdW n r = x at *
    generalize cdW n s = y at *
    generalize 256 ^ n = P at *
    rcases Nat.lt_trichotomy a b with h | h | h
    · have h3 : (a + 1 + 1) * P ≤ (b + 1) * P := Nat.mul_le_mul_right _ (by omega)
      rw [Nat.add_mul (a + 1) 1, Nat.one_mul] at h3
      exact ⟨fun _ => by omega, fun _ => .inl h⟩
    · subst h
      exact ⟨fun q => by rcases q with q | q <;> omega, fun q => .inr ⟨rfl, by omega⟩⟩
    · have h3 : (b + 1 + 1) * P ≤ (a + 1) * P := Nat.mul_le_mul_right _ (by omega)
      rw [Nat.add_mul (b + 1) 1, Nat.one_mul] at h3
      exact ⟨fun q => by rcases q with q | q <;> omega, fun q => by omega⟩

noncomputable def PgP (p : List Nat) (c : Nat) : Prop := p.length ≤ 64 ∧ (∀ c ∈ p, c < 255) ∧ cdW 64 p = c
theorem pgP_of {p : List Nat} {c : Nat} (h : pgOk p c = true) : PgP p c := by
  simp only [pgOk, Bool.and_eq_true, Nat.ble_eq, List.all_eq_true, blt_dec, decide_eq_true_eq] at h
  exact ⟨h.1.1, h.1.2, Nat.eq_of_beq_eq_true h.2⟩
theorem PgP.lt {p p' : List Nat} {c c' : Nat} (h : PgP p c) (h' : PgP p' c') : ltL p p' = Nat.blt c c' := by
  rw [lt_cdW 64 h.1 h'.1 h.2.1 h'.2.1, h.2.2, h'.2.2]
structure RowP (x : Rw) : Prop where
  nl : NmOk x.nm
  p6 : PgP (pg6 (x.nm ++ [61])) x.c6
  p3 : PgP (pg3 (x.nm ++ [61])) x.c3
  p4 : PgP (pg4 (x.nm ++ [61])) x.c4
  p2 : PgP (pg2 (x.nm ++ [61])) x.c2
  fr : frL (spl 34 (x.nm ++ [61])) = x.fr
  q : cntL 34 x.nm = x.q
  g : cntL 62 x.nm = x.g
theorem rowP {x : Rw} (hx : x ∈ TB) : RowP x := by
  have h := List.all_eq_true.mp rows_ok x hx
  simp only [rowOk, Bool.and_eq_true, eqLL_iff] at h
  obtain ⟨⟨⟨⟨⟨⟨⟨h1, h2⟩, h3⟩, h4⟩, h5⟩, h6⟩, h7⟩, h8⟩ := h
  rw [List.any_eq_true] at h1
  obtain ⟨y, hy, e⟩ := h1
  rw [eqL_iff] at e
  exact ⟨nmOk (e ▸ hy), pgP_of h2, pgP_of h3, pgP_of h4, pgP_of h5, h6, Nat.eq_of_beq_eq_true h7, Nat.eq_of_beq_eq_true h8⟩
theorem look_some {c : Nat} {nm : List Nat} : ∀ {l : List Rw} {x : Rw}, look c nm l = some x → x ∈ l ∧ x.nm = nm
  | [], _, h => by simp [look] at h
  | y :: r, x, h => by
    rw [look] at h
    cases hb : Nat.beq c y.cd with
    | true =>
      rw [hb, cond_true] at h
      cases he : eqL nm y.nm with
      | true => rw [he, cond_true] at h; cases h; exact ⟨List.mem_cons_self, (eqL_iff.mp he).symm⟩
      | false => rw [he, cond_false] at h; cases h
    | false =>
      rw [hb, cond_false] at h
      obtain ⟨h1, h2⟩ := look_some h
      exact ⟨List.mem_cons_of_mem _ h1, h2⟩
theorem rows_of : ∀ {nms : List (List Nat)} {k : List Rw → Bool}, withRows nms k = true → ∃ rs : List Rw, rs.map Rw.nm = nms ∧ (∀ x ∈ rs, x ∈ TB) ∧ k rs = true
  | [], k, h => ⟨[], rfl, (fun _ hx => nomatch hx), h⟩
  | nm :: r, k, h => by
    rw [withRows] at h
    cases hl : look (cdW 12 nm) nm TB with
    | none => rw [hl] at h; cases h
    | some x =>
      rw [hl] at h
      obtain ⟨rs, h1, h2, h3⟩ := rows_of h
      obtain ⟨g1, g2⟩ := look_some hl
      exact ⟨x :: rs, by rw [List.map_cons, h1, g2], fun y hy => by rcases List.mem_cons.mp hy with rfl | hy; exact g1; exact h2 y hy, h3⟩

noncomputable def flt (T : Nat → Bool) : List Int := ((List.range 6).filter T).map fun (j : Nat) => (j : Int)
noncomputable def ahR (R : Nat → Nat → Bool) : List (List Int) := (List.range 6).map fun k => flt fun j => R j k
theorem any_flt {T : Nat → Bool} {k : Nat} (hk : k < 6) : (flt T).any (· == (k : Int)) = T k := by
  unfold flt
  rw [Bool.eq_iff_iff, List.any_eq_true]
  constructor
  · rintro ⟨x, hx, e⟩
    obtain ⟨j, hj, rfl⟩ := List.mem_map.mp hx
    have ej : j = k := by have := beq_iff_eq.mp e; omega
    subst ej
    exact (List.mem_filter.mp hj).2
  · intro h
    exact ⟨(k : Int), List.mem_map.mpr ⟨k, List.mem_filter.mpr ⟨List.mem_range.mpr hk, h⟩, rfl⟩, by simp⟩
theorem at_r6 {α : Type} (f : Nat → List α) {k : Nat} (hk : k < 6) : ((List.range 6).map f).getD k [] = f k := by
  simp [List.getD, hk]
theorem both_R {R S : Nat → Nat → Bool} {k : Nat} (hk : k < 6) : both (ahR R) (ahR S) k = flt fun j => R k j && S k j := by
  unfold both
  show _ = ((List.range 6).filter fun j => R k j && S k j).map _
  congr 1
  refine List.filter_congr fun j hj => ?_
  have hj' := List.mem_range.mp hj
  rw [ahR, ahR, at_r6 _ hj', at_r6 _ hj', any_flt hk, any_flt hk]
theorem ahead_R {pg : List (List Nat)} {R : Nat → Nat → Bool} (h6 : pg.length = 6) (h : ∀ i j, i < 6 → j < 6 → ltL (pg.getD i []) (pg.getD j []) = R i j) : aheadL pg = ahR R := by
  unfold aheadL ahR flt
  rw [h6]
  refine List.ext_getElem (by simp [h6]) fun k h1 h2 => ?_
  have hk : k < 6 := by simpa using h2
  have e : pg.getD k [] = pg[k]'(by omega) := by simp [List.getD, h6, hk]
  simp only [List.getElem_map, List.getElem_range]
  congr 1
  refine List.filter_congr fun j hj => ?_
  rw [← h j k (List.mem_range.mp hj) hk, e]
theorem cnt_R {l : List (List Int)} {f : Nat → List Int} {R : Nat → Nat → Bool} {k : Nat} (hk : k < 6) (hl : l = (List.range 6).map f) (hf : ∀ j, j < 6 → f j = flt fun i => R j i) : cntI l k = ((List.range 6).filter fun j => R j k).length := by
  unfold cntI
  congr 1
  refine List.filter_congr fun j hj => ?_
  have hj' := List.mem_range.mp hj
  rw [hl, at_r6 _ hj', hf j hj', any_flt hk]

theorem chk_of {ps : List Int} (h : chk ps = true) : Chk ps (nmL ps 6) := by
  obtain ⟨rs, hm, hT, hr⟩ := rows_of h
  have h6 := nmL_len ps 6
  rw [← hm] at h6 ⊢
  clear h hm
  rw [List.length_map] at h6
  have hd : ∀ k, (rs.map Rw.nm).getD k [] = (rs.getD k d0).nm := fun k => by
    simp only [List.getD, List.getElem?_map]
    cases rs[k]? <;> rfl
  have hP : ∀ k, k < 6 → RowP (rs.getD k d0) := fun k hk => rowP (hT _ (atD (by omega)))
  have hpg : ∀ (pg : List Nat → List Nat) (c : Rw → Nat), (∀ k, k < 6 → PgP (pg ((rs.getD k d0).nm ++ [61])) (c (rs.getD k d0))) → aheadL ((tsL (rs.map Rw.nm)).map pg) = ahR (rel c rs) := fun pg c hp => by
    refine ahead_R (by simp [tsL, h6]) fun i j hi hj => ?_
    have e : ∀ k, k < 6 → ((tsL (rs.map Rw.nm)).map pg).getD k [] = pg ((rs.getD k d0).nm ++ [61]) := fun k hk => by
      have hk' : k < rs.length := by omega
      simp [tsL, List.getD, hk']
    rw [e i hi, e j hj, (hp i hi).lt (hp j hj)]; rfl
  have e6 := hpg pg6 Rw.c6 fun k hk => (hP k hk).p6
  have e3 := hpg pg3 Rw.c3 fun k hk => (hP k hk).p3
  have e4 := hpg pg4 Rw.c4 fun k hk => (hP k hk).p4
  have e2 := hpg pg2 Rw.c2 fun k hk => (hP k hk).p2
  have hr6 : r6 = List.range 6 := rfl
  simp only [chkR, chkK, hr6, Bool.and_eq_true, List.all_eq_true, List.mem_range, eqLL_iff, beq_iff_eq] at hr
  have c1 : ∀ k, k < 6 → aboveF ps k = flt fun j => rel Rw.c6 rs k j && rel Rw.c3 rs k j := fun k hk => eqI_eq (hr k hk).1.1.1.1.2
  have c2 : ∀ k, k < 6 → ledF ps (aboveF ps k) k k = flt fun j => rel Rw.c3 rs k j && rel Rw.c2 rs k j := fun k hk => eqI_eq (hr k hk).1.1.1.2
  have hlen : ∀ (R : Nat → Nat → Bool) k, k < 6 → ((ahR R).getD k []).length = ((List.range 6).filter fun j => R j k).length := fun R k hk => by
    rw [ahR, at_r6 _ hk, flt, List.length_map]
  refine ⟨fun nm hn => ?_, fun k hk => ?_, fun k hk => ?_, ?_, fun k hk => ?_, fun k hk => ?_, fun k hk => ?_, fun k hk => ?_⟩
  · obtain ⟨x, hx, rfl⟩ := List.mem_map.mp hn
    exact (rowP (hT x hx)).nl
  · rw [hd, (hP k hk).fr, (hr k hk).1.1.2]
    exact List.map_congr_left fun j _ => (hd _).symm
  · rw [c1 k hk]
    refine ⟨?_, fun a ha => ?_⟩
    · rw [flt, List.length_map]
      have := List.length_filter_le (fun j => rel Rw.c6 rs k j && rel Rw.c3 rs k j) (List.range 6)
      rw [List.length_range] at this
      omega
    · obtain ⟨j, hj, rfl⟩ := List.mem_map.mp ha
      have := List.mem_range.mp (List.mem_filter.mp hj).1
      omega
  · rw [e3, e4]
    refine List.map_congr_left fun k hk => ?_
    unfold flt
    congr 1
    refine List.filter_congr fun i hi => ?_
    exact (hr k (List.mem_range.mp hk)).1.1.1.1.1 i (List.mem_range.mp hi)
  · rw [e6, e3, both_R hk, c1 k hk]
  · rw [e3, e2, both_R hk, c2 k hk]
  · rw [e6, e3, hlen _ k hk, hlen _ k hk, hd, (hP k hk).q, cnt_R (l := abv ps) hk rfl c1]
    have := Nat.eq_of_beq_eq_true (hr k hk).1.2
    omega
  · rw [e3, e2, hlen _ k hk, hlen _ k hk, hd, (hP k hk).q, (hP k hk).g, cnt_R (l := led ps) hk rfl c2]
    have := Nat.eq_of_beq_eq_true (hr k hk).2
    omega

theorem okL_of {ps : List Int} (hp6 : ps.length = 6) (hps : ∀ k, k < 6 → 0 ≤ ps.getD k 0 ∧ ps.getD k 0 ≤ k) (C : Chk ps (nmL ps 6)) : OkL ((nmsF ps 6).map fun x => x ++ Str.ofString "=") ps := by
  rw [nm_L, map_text]
  have hn := nmL_len ps 6
  generalize nmL ps 6 = nms at *
  have htl : (tsL nms).length = 6 := by simp [tsL, hn]
  have hat : ∀ k, k < 6 → ((tsL nms).map ofL).getD k Str.empty = ofL (nms.getD k [] ++ [61]) := fun k hk => by rw [getD_ofL, tsL_at nms (by omega)]
  have hmem : ∀ t ∈ (tsL nms).map ofL, ∃ nm, NmOk nm ∧ t = ofL (nm ++ [61]) := fun t ht => by
    obtain ⟨l, hl, rfl⟩ := List.mem_map.mp ht
    obtain ⟨nm, hnm, rfl⟩ := List.mem_map.mp hl
    exact ⟨nm, C.nl nm hnm, rfl⟩
  have hat' : ∀ k, k < 6 → NmOk (nms.getD k []) := fun k hk => C.nl _ (atD (by omega))
  have epe : (tsL nms).map (fun t => escL eL5 t) = (tsL nms).map pg2 := by
    refine List.map_congr_left fun t ht => ?_
    obtain ⟨nm, hnm, rfl⟩ := List.mem_map.mp ht
    exact (C.nl nm hnm).e5
  have q6 : aheadF (((tsL nms).map ofL).map pa) = aheadL ((tsL nms).map pg6) := by rw [map_pg pa pg6 pa_L, ahead_L]
  have q3 : aheadF (((tsL nms).map ofL).map pb) = aheadL ((tsL nms).map pg3) := by rw [map_pg pb pg3 pb_L, ahead_L]
  have q4 : aheadF (((tsL nms).map ofL).map pc) = aheadL ((tsL nms).map pg4) := by rw [map_pg pc pg4 pc_L, ahead_L]
  have q2 : aheadF (((tsL nms).map ofL).map pd) = aheadL ((tsL nms).map pg2) := by rw [map_pg pd pg2 pd_L, ahead_L]
  have q5 : aheadF (((tsL nms).map ofL).map pe) = aheadL ((tsL nms).map pg2) := by rw [map_pg pe (fun t => escL eL5 t) pe_L, epe, ahead_L]
  constructor
  · simp [htl]
  · exact hp6
  · exact hps
  · intro t ht
    obtain ⟨nm, N, rfl⟩ := hmem t ht
    exact okT_L N
  · rw [q3, q4]; exact C.a1
  · rw [q2, q5]
  · exact C.ab
  · intro k hk
    rw [hat k hk, fronts_L, C.fr k hk, List.map_map]
    refine List.map_congr_left fun j hj => ?_
    have hj' := (C.ab k hk).2 j hj
    rw [hat _ (by omega), lastOff_L]; rfl
  · intro k hk; rw [q6, q3]; exact C.c1 k hk
  · intro k hk; rw [q3, q2]; exact C.c2 k hk
  · intro k hk; rw [q6, q3, hat k hk, (hat' k hk).ct]; exact C.n1 k hk
  · intro k hk; rw [q3, q2, hat k hk, (hat' k hk).ct]; exact C.n2 k hk
  · have key : ∀ (f : Str → Str) (g : List Nat → List Nat) (b : List Nat), (∀ t, f (ofL t) = ofL (g t)) → (∀ nm ∈ nms, undL (g (nm ++ [61])) = (nm ++ [61], (nm ++ [61]).filter fun c => memL c b)) →
        (((tsL nms).map ofL).map f).map undF = ((tsL nms).map ofL).map fun t => (t, sgnJ (ofL b) t) := fun f g b hf hu => by
      rw [map_pg f g hf, List.map_map, List.map_map, List.map_map]
      refine List.map_congr_left fun t ht => ?_
      obtain ⟨nm, hnm, rfl⟩ := List.mem_map.mp ht
      simp only [Function.comp, und_L, hu nm hnm, sgnJ_L]
    unfold pages
    rw [bares_L]
    simp only [List.map_append, List.map_cons, List.map_nil, List.flatMap_cons, List.flatMap_nil, List.append_nil]
    rw [key pa pg6 [62, 61] pa_L fun nm h => (C.nl nm h).u6, key pb pg3 [61] pb_L fun nm h => (C.nl nm h).u3, key pc pg4 [60, 61] pc_L fun nm h => (C.nl nm h).u4, key pd pg2 [34, 61] pd_L fun nm h => (C.nl nm h).u2,
      key pe (fun t => escL eL5 t) [34, 61] pe_L fun nm h => by rw [(C.nl nm h).e5]; exact (C.nl nm h).u2]
    simp only [List.append_assoc]

theorem fr6_at {a b c d e : Nat} (ha : a < 2) (hb : b < 3) (hc : c < 4) (hd : d < 5) (he : e < 6) : ∀ p ∈ fr6 a b c d e, ∃ k : Nat, k < 6 ∧ p = (k : Int) := by
  intro p hp
  simp only [fr6, List.mem_cons, List.not_mem_nil, or_false] at hp
  rcases hp with rfl | rfl | rfl | rfl | rfl | rfl
  · exact ⟨0, by omega, rfl⟩
  · exact ⟨a, by omega, rfl⟩
  · exact ⟨b, by omega, rfl⟩
  · exact ⟨c, by omega, rfl⟩
  · exact ⟨d, by omega, rfl⟩
  · exact ⟨e, by omega, rfl⟩

theorem okD (ns : List Int) : OkD (blw ns) (mrk ns) := by
  obtain ⟨m, hm, em⟩ := mark_L ((drw ns 0).fmod 6) (Int.fmod_nonneg_of_pos _ (by decide)) (Int.fmod_lt_of_pos _ (by decide))
  have hps := blw_rng ns
  obtain ⟨a, b, c, d, e, ha, hb, hc, hd, he, eb⟩ := blw_fr6 ns
  have C := chk_of (chk_all ha hb hc hd he)
  have hin := fr6_at ha hb hc hd he
  rw [show mrk ns = ofL [m] from em, eb]
  rw [eb] at hps
  have hp6 : (fr6 a b c d e).length = 6 := rfl
  generalize fr6 a b c d e = ps at *
  have hnn : ∀ x ∈ nmsF ps 6, ∃ nm, NmOk nm ∧ x = ofL nm := fun x hx => by
    rw [nm_L] at hx
    obtain ⟨nm, hnm, rfl⟩ := List.mem_map.mp hx
    exact ⟨nm, C.nl nm hnm, rfl⟩
  have hmk : ∀ k, k < 6 → ok229B (lnM m k) (k : Int) = true := fun k hk => List.all_eq_true.mp (List.all_eq_true.mp mk_ok m hm) k (List.mem_range.mpr hk)
  have hlm : ∀ k, (lnM m k).length = 11 := fun k => rfl
  have hl1 : ∀ nm, NmOk nm → (ln1 (ofL nm)).length ≤ 65 := fun nm N => by
    rw [ln1_L, ofL_len, List.length_append]
    have := N.l1
    have h5 : hd5.length = 5 := rfl
    omega
  refine ⟨fun x hx => ?_, fun p hp => ?_, ⟨by rw [len_nmsF, hp6], by omega, fun x hx => ?_, fun p hp => ?_, by omega, ?_⟩, okL_of hp6 hps C, fun x hx => ?_⟩
  · obtain ⟨nm, N, rfl⟩ := hnn x hx
    exact ⟨by rw [ofL_len]; have := N.len; omega, by have := hl1 nm N; omega⟩
  · obtain ⟨k, hk, rfl⟩ := hin p hp
    refine ⟨?_, by rw [ln2_L m k hk, ofL_len, hlm]; omega⟩
    rw [Int.natAbs_natCast]
    have : k = 0 ∨ k = 1 ∨ k = 2 ∨ k = 3 ∨ k = 4 ∨ k = 5 := by omega
    rcases this with rfl | rfl | rfl | rfl | rfl | rfl <;> decide +kernel
  · obtain ⟨nm, N, rfl⟩ := hnn x hx
    rw [ln1_L]
    refine ⟨ok257_L (by have := N.l1; omega), by rw [p257_L, N.p, eqB, ofL_app], ?_⟩
    rw [ofL_cps, List.mem_append]
    rintro (h | h)
    · revert h; decide
    · exact N.n13 h
  · obtain ⟨k, hk, rfl⟩ := hin p hp
    rw [ln2_L m k hk]
    have h229 := hmk k hk
    refine ⟨?_, ok229_L h229, ?_⟩
    · simp only [ok229B, Bool.and_eq_true, eqL_iff] at h229
      rw [slice_cut, ofL_cps, h229.1.1.1.1.1.1.1.1.1.2]
      decide +kernel
    · simp only [ok229B, Bool.and_eq_true, Bool.not_eq_true'] at h229
      have := h229.2
      rw [memL_iff, decide_eq_false_iff_not] at this
      exact this
  · show (glued crlf _).length ≤ 1000
    rw [StrLaws.glued_eq_join]
    refine Nat.le_trans (StrLaws.join_length_le crlf _) ?_
    rw [tlk_len, hp6]
    have hall : ∀ t ∈ tlk (nmsF ps 6) ps (ofL [m]) ps.length, t.length ≤ 65 := tlk_all (by rw [len_nmsF]; omega) (Nat.le_refl _) (fun x hx => by obtain ⟨nm, N, rfl⟩ := hnn x hx; exact hl1 nm N) (fun p hp => by obtain ⟨k, hk, rfl⟩ := hin p hp; rw [ln2_L m k hk, ofL_len, hlm]; omega)
    have hsum : ∀ l : List Str, (∀ t ∈ l, t.length ≤ 65) → (l.map (·.length)).sum ≤ 65 * l.length := by
      intro l
      induction l with
      | nil => intro _; simp
      | cons t r ih =>
        intro h
        have h1 := h t List.mem_cons_self
        have h2 := ih fun x hx => h x (List.mem_cons_of_mem _ hx)
        simp only [List.map_cons, List.sum_cons, List.length_cons]
        omega
    have h3 := hsum _ hall
    rw [tlk_len, hp6] at h3
    rw [hp6] at hall
    have h4 : crlf.length = 2 := rfl
    rw [h4]
    omega
  · obtain ⟨nm, N, rfl⟩ := hnn x hx
    rw [eqB, ofL_app]
    show strk (ofL (nm ++ [61])) = true
    rw [strk_L, List.all_eq_true]
    intro c hc
    have := N.c200 c hc
    simp; omega
end Mine
end

-- Jall
section
open PySem PySem.W PySem.Calls PyProof.Rows PyProof.V PySem.Spec PySem.Builtin.Str PySem.SeqAt
namespace Mine
set_option maxRecDepth 100000
theorem bind1 {vs : List Value} {fd : FuncData} {p : Str} (h : ∀ v, bindArgs fd ⟨[v], []⟩ = pure [(p, v)]) (hl : vs.length = 1) : bindArgs fd ⟨vs, []⟩ = pure ([p].zip vs) := by
  obtain ⟨v, rfl⟩ := List.length_eq_one_iff.mp hl
  rw [h v]; rfl
theorem bind2 {vs : List Value} {fd : FuncData} {p q : Str} (h : ∀ v u, bindArgs fd ⟨[v, u], []⟩ = pure [(p, v), (q, u)]) (hl : vs.length = 2) : bindArgs fd ⟨vs, []⟩ = pure ([p, q].zip vs) := by
  obtain ⟨v, u, rfl⟩ : ∃ v u, vs = [v, u] := by
    rcases vs with _ | ⟨v, _ | ⟨u, _ | ⟨t, l⟩⟩⟩ <;> simp at hl
    exact ⟨v, u, rfl⟩
  rw [h v u]; rfl
theorem bind3 {vs : List Value} {fd : FuncData} {p q r : Str} (h : ∀ v u t, bindArgs fd ⟨[v, u, t], []⟩ = pure [(p, v), (q, u), (r, t)]) (hl : vs.length = 3) : bindArgs fd ⟨vs, []⟩ = pure ([p, q, r].zip vs) := by
  obtain ⟨v, u, t, rfl⟩ : ∃ v u t, vs = [v, u, t] := by
    rcases vs with _ | ⟨v, _ | ⟨u, _ | ⟨t, _ | ⟨x, l⟩⟩⟩⟩ <;> simp at hl
    exact ⟨v, u, t, rfl⟩
  rw [h v u t]; rfl

noncomputable def exL : List (Str × Tok × Int × Tok) := [(⟨#[33]⟩, 415, 54, 411), (⟨#[33, 61]⟩, 417, 28, 359), (⟨#[37]⟩, 419, 24, 351), (⟨#[37, 61]⟩, 421, 40, 383), (⟨#[38]⟩, 423, 19, 341), (⟨#[38, 61]⟩, 425, 41, 385), (⟨#[40]⟩, 427, 7, 317), (⟨#[41]⟩, 429, 8, 319), (⟨#[42]⟩, 431, 16, 335), (⟨#[42, 42]⟩, 433, 35, 373), (⟨#[42, 42, 61]⟩, 435, 46, 395), (⟨#[42, 61]⟩, 437, 38, 379), (⟨#[43]⟩, 439, 14, 331), (⟨#[43, 61]⟩, 441, 36, 375), (⟨#[44]⟩, 443, 12, 327), (⟨#[45]⟩, 445, 15, 333), (⟨#[45, 61]⟩, 447, 37, 377), (⟨#[45, 62]⟩, 449, 51, 405), (⟨#[46]⟩, 451, 23, 349), (⟨#[46, 46, 46]⟩, 453, 52, 407), (⟨#[47]⟩, 455, 17, 337), (⟨#[47, 47]⟩, 457, 47, 397), (⟨#[47, 47, 61]⟩, 459, 48, 399), (⟨#[47, 61]⟩, 461, 39, 381), (⟨#[58]⟩, 463, 11, 325), (⟨#[58, 61]⟩, 465, 53, 409), (⟨#[59]⟩, 467, 13, 329), (⟨#[60]⟩, 469, 20, 343), (⟨#[60, 60]⟩, 471, 33, 369), (⟨#[60, 60, 61]⟩, 473, 44, 391), (⟨#[60, 61]⟩, 475, 29, 361), (⟨#[61]⟩, 477, 22, 347), (⟨#[61, 61]⟩, 479, 27, 357), (⟨#[62]⟩, 481, 21, 345), (⟨#[62, 61]⟩, 483, 30, 363), (⟨#[62, 62]⟩, 484, 34, 371), (⟨#[62, 62, 61]⟩, 485, 45, 393), (⟨#[64]⟩, 486, 49, 401), (⟨#[64, 61]⟩, 487, 50, 403), (⟨#[91]⟩, 488, 9, 321), (⟨#[93]⟩, 489, 10, 323), (⟨#[94]⟩, 490, 32, 367), (⟨#[94, 61]⟩, 491, 43, 389), (⟨#[123]⟩, 492, 25, 353), (⟨#[124]⟩, 493, 18, 339), (⟨#[124, 61]⟩, 494, 42, 387), (⟨#[125]⟩, 495, 26, 355), (⟨#[126]⟩, 496, 31, 365)]

theorem pairs_lit {w : World} {P : Params} : ∀ L : List (Str × Tok × Int × Tok), Pairs (strKind PR w) (L.map fun q => (⟨PyData.keyHash P q.1, .str q.1 q.2.1, .int q.2.2.1 q.2.2.2⟩ : DictEntry)) (L.map fun q => (q.1, Value.int q.2.2.1 q.2.2.2))
  | [] => .nil
  | q :: L => .cons (strKind_is PR w _ _) rfl (pairs_lit L)

theorem flat_lit : ∀ L : List (Str × Tok × Int × Tok), FlatPairs PyData.str (L.map fun q => (q.1, Value.int q.2.2.1 q.2.2.2)) (L.map fun q => (PyData.str q.1, PyData.int q.2.2.1))
  | [] => .nil
  | q :: L => .cons (Flat.int _ _) (flat_lit L)

theorem reps_well {P : Params} {h : Heap} : ∀ {vs : List Value} {ns : List Int}, WellAll P h vs (ofPys (ns.map PyData.int)) → VReps [] h vs (ns.map .int)
  | vs, [], w => by
    simp only [List.map_nil, ofPys] at w
    cases w; exact .nil
  | vs, n :: ns, w => by
    simp only [List.map_cons, ofPys, ofPy] at w
    cases w with
    | cons a r => cases a; exact .cons .int (reps_well r)
theorem rep_well {P : Params} {h : Heap} {v : Value} {ns : List Int} (w : Well P h v (ofPy (.list (ns.map PyData.int)))) : VRep [] h v (.list (ns.map .int)) := by
  simp only [ofPy] at w
  cases w with
  | list g r => exact .list g List.not_mem_nil (reps_well r)

theorem all.tw11244733290786131243 : True := trivial
theorem all.tw7614656934216026563 : True := trivial
theorem all.tw525001674005675781 : True := trivial
theorem all.tw15671812041987572844 : True := trivial
theorem all.tw13358604424828501309 : True := trivial
theorem all.tw6853843781069519680 : True := trivial
theorem all.tw17740860788197283744 : True := trivial
theorem all.tw9514876090768664877 : True := trivial
theorem all.tw10389294372677164839 : True := trivial
theorem all.tw15451204947285891726 : True := trivial
theorem all.tw4942582282674782268 : True := trivial
theorem all.tw14331890051309236264 : True := trivial
theorem all.tw11242623580682996947 : True := trivial
theorem all.tw16739083755425606968 : True := trivial
theorem all.tw10034031380863371641 : True := trivial
theorem all.tw3855190133869164905 : True := trivial
theorem all.tw10681620039792923934 : True := trivial
theorem all.tw7899379758991183832 : True := trivial
theorem all.tw2711446468545577505 : True := trivial
theorem all.tw12588980310967471357 : True := trivial
theorem all.tw5002070824922625533 : True := trivial
theorem all.tw4515135292898193881 : True := trivial
theorem all.tw11116879363250112325 : True := trivial
theorem all.tw11488495728068971930 : True := trivial
theorem all.tw16444899576201249432 : True := trivial
theorem all.tw13185015893256467352 : True := trivial
theorem all.tw12381699962588209086 : True := trivial
theorem all.tw12447178028490564450 : True := trivial
theorem all.tw4613487602407358717 : True := trivial
theorem all.tw5213130599944360801 : True := trivial
theorem all.tw9111709882147129655 : True := trivial
theorem all.tw8838840417862019655 : True := trivial
theorem all.tw12540455083557110006 : True := trivial
theorem all.tw4831860214510110302 : True := trivial
theorem all.tw14822214895437561417 : True := trivial
theorem all.tw7686242042924871683 : True := trivial
theorem all.tw5615151462926910227 : True := trivial
theorem all.tw7317653850160689691 : True := trivial
theorem all.tw785864177541677141 : True := trivial
theorem all.tw17053130121481772103 : True := trivial
theorem all.tw6888782338466086140 : True := trivial
theorem all.tw2997595627926355555 : True := trivial
theorem all.tw9642480246203547912 : True := trivial
theorem all.tw10323370424266482742 : True := trivial
theorem all.tw15059917014629022394 : True := trivial
theorem all.tw17368901067910498557 : True := trivial
theorem all.tw9397017562490477109 : True := trivial
theorem all.tw6836359950869179439 : True := trivial
theorem all.tw3140866203998610647 : True := trivial
theorem all.tw3586251380002802234 : True := trivial
theorem all.tw17523770736405063376 : True := trivial
theorem all.tw14984247238865676675 : True := trivial
theorem all.tw14288127532215574351 : True := trivial
theorem all.tw11273133048781285286 : True := trivial
theorem all.tw7347661181068853997 : True := trivial
theorem all.tw4835796080096327916 : True := trivial
theorem all.tw2496985677507960046 : True := trivial
theorem all.tw5854907428364158380 : True := trivial
theorem all.tw4847766330237268548 : True := trivial
theorem all.tw596421839371371174 : True := trivial
theorem all.tw17314943208353570444 : True := trivial
theorem all.tw14647661154017913664 : True := trivial
theorem all.tw7193976414177721783 : True := trivial
theorem all.tw15888951733556516598 : True := trivial
theorem all.tw2286941943676669977 : True := trivial
theorem all.tw5689438673786977140 : True := trivial
theorem all.tw15284455985751111415 : True := trivial
theorem all.tw1323426155142419162 : True := trivial
theorem all.tw7091565871241343341 : True := trivial
theorem all.tw3357559941945735724 : True := trivial
theorem all.tw13423135486485445016 : True := trivial
theorem all.tw9305783451064888827 : True := trivial
theorem all.tw5377772837010204750 : True := trivial
theorem all.tw2235618017368140517 : True := trivial
theorem all.tw9743695723290020096 : True := trivial
theorem all.tw16727532447511142511 : True := trivial
theorem all.tw14721843458392949018 : True := trivial
theorem all.tw3835962111665225711 : True := trivial
theorem all.tw7205895575636617080 : True := trivial
theorem all.tw6674347012523051200 : True := trivial
theorem all.tw11536899603342547138 : True := trivial
theorem all.tw8968355716326206664 : True := trivial
theorem all.tw3239841934065285509 : True := trivial
theorem all.tw9208896001059489655 : True := trivial
theorem all.tw13288577186741363895 : True := trivial
theorem all.tw9133701021851612117 : True := trivial
theorem all.tw3630066180865283129 : True := trivial
theorem all.tw10696458614491829572 : True := trivial
theorem all.tw14648276583578725374 : True := trivial
theorem all.tw2090246831465914633 : True := trivial
theorem all.tw16038885495234672192 : True := trivial
theorem all.tw4645612490112672357 : True := trivial
theorem all.tw2199258339994215634 : True := trivial
theorem all.tw15906678047913336000 : True := trivial
theorem all.tw7657994479303150727 : True := trivial
theorem all.tw7062720368445256129 : True := trivial
theorem all.tw7234240908195146063 : True := trivial
theorem all.tw4907521953547317329 : True := trivial
theorem all.tw14970210157437980911 : True := trivial
theorem all.tw14849280956162755979 : True := trivial
theorem all.tw306535358961565008 : True := trivial
theorem all.tw16644902639655322133 : True := trivial
theorem all.tw16838893715234930207 : True := trivial
theorem all.tw4258606087713283508 : True := trivial
theorem all.tw9022205114861038860 : True := trivial
theorem all.tw18068929663759586442 : True := trivial
theorem all.tw4814944892674192296 : True := trivial
theorem all.tw5187159431361770467 : True := trivial
theorem all.tw12180536567876656950 : True := trivial
theorem all.tw10658958392246782621 : True := trivial
theorem all.tw18124843273605240230 : True := trivial
theorem all.tw3949192924188805160 : True := trivial
theorem all.tw9764797518255496921 : True := trivial
theorem all.tw5815207240830897808 : True := trivial
theorem all.tw1973140245219671491 : True := trivial
theorem all.tw9496632788025766839 : True := trivial
theorem all.tw2627396739876165418 : True := trivial
theorem all.tw6900727353157573822 : True := trivial
theorem all.tw15151187641303801864 : True := trivial
theorem all.tw9285670843845949155 : True := trivial
theorem all.tw6189357195160471388 : True := trivial
theorem all.tw17800948086707717751 : True := trivial
theorem all.tw7785168158365692624 : True := trivial
theorem all.tw5827993322838903629 : True := trivial
theorem all.tw629097876249571350 : True := trivial
theorem all.tw15618092478124507917 : True := trivial
theorem all.tw15926794790568321017 : True := trivial
theorem all.tw7957553974722075628 : True := trivial
theorem all.tw5543487718492105064 : True := trivial
theorem all.tw3153289441736887298 : True := trivial
theorem all.tw10331167273965929257 : True := trivial
theorem all.tw2891402810631288588 : True := trivial
theorem all.tw12803817524326497440 : True := trivial
theorem all.tw8909644736058714228 : True := trivial
theorem all.tw13042374122123996364 : True := trivial
theorem all.tw6405578165278201989 : True := trivial
theorem all.tw15097909243742831393 : True := trivial
theorem all.tw8316665608867782698 : True := trivial
theorem all.tw29985565223642888 : True := trivial
theorem all.tw14832659646925512398 : True := trivial
theorem all.tw8951482229492004806 : True := trivial
theorem all.tw10073889100849167130 : True := trivial
theorem all.tw13270532327374429287 : True := trivial
theorem all.tw18440353960458814819 : True := trivial
theorem all.tw10942295900298899174 : True := trivial
theorem all.tw3165661143165402847 : True := trivial
theorem all.tw7654578318931278690 : True := trivial
theorem all.tw16739844878667351699 : True := trivial
theorem all.tw1238725946784135233 : True := trivial
theorem all.tw4244794441018138637 : True := trivial
theorem all.tw9163178095015654352 : True := trivial
theorem all.tw17260577670642009320 : True := trivial
theorem all.tw2406872565856053176 : True := trivial
theorem all.tw11961059351148515626 : True := trivial
theorem all.tw12563031120210811263 : True := trivial
theorem all.tw13057232943065969744 : True := trivial
theorem all.tw15145278206449419223 : True := trivial
theorem all.tw5747321363474778693 : True := trivial
theorem all.tw9448091282758670523 : True := trivial
theorem all.tw10705108097460422218 : True := trivial
theorem all.tw8322597137079436277 : True := trivial
theorem all.tw3020832510069240704 : True := trivial
theorem all.tw1075291646940621582 : True := trivial
theorem all.tw17360653242477243975 : True := trivial
theorem all.tw1639981616727947583 : True := trivial
theorem all.tw8857914048673524507 : True := trivial
theorem all.tw15242674970999812785 : True := trivial
theorem all.tw8543756510809834644 : True := trivial
theorem all.tw12405882331826627501 : True := trivial
theorem all.tw14444207656584330654 : True := trivial
theorem all.tw16457593375850944212 : True := trivial
theorem all.tw4965207536615798822 : True := trivial
theorem all.tw8711421783369662179 : True := trivial
theorem all.tw11639333894188339638 : True := trivial
theorem all.tw3443626597506986169 : True := trivial
theorem all.tw13320810954380615167 : True := trivial
theorem all.tw15176617289070330970 : True := trivial
theorem all.tw18120535436291149196 : True := trivial
theorem all.tw8670540905479144303 : True := trivial
theorem all.tw8108845850537571710 : True := trivial
theorem all.tw1717485560449817402 : True := trivial
theorem all.tw13338274903956020161 : True := trivial
theorem all.tw11446199593928302625 : True := trivial
theorem all.tw10175558820241607032 : True := trivial
theorem all.tw15541118713287057729 : True := trivial
theorem all.tw9833964599435250050 : True := trivial
theorem all.tw2690882624139800689 : True := trivial
theorem all.tw13370487131934946175 : True := trivial
theorem all.tw12428716410969305734 : True := trivial
theorem all.tw11051709101105081487 : True := trivial
theorem all.tw14099800850047386279 : True := trivial
theorem all.tw6946980451890315270 : True := trivial
theorem all.tw15105651507014581045 : True := trivial
theorem all.tw4818641064637329869 : True := trivial
theorem all.tw3282140407130366615 : True := trivial
theorem all.tw4631590275013254457 : True := trivial
theorem all.tw3804168243799541492 : True := trivial
theorem all.tw5103420120806187630 : True := trivial
theorem all.tw5888963250497168203 : True := trivial
theorem all.tw9600454056292803967 : True := trivial
theorem all.tw14648097213134440425 : True := trivial
theorem all.tw17717444079117462278 : True := trivial
theorem all.tw16987476370533704557 : True := trivial
theorem all.tw16573077582942348641 : True := trivial
theorem all.tw12784588452913835247 : True := trivial
theorem all.tw14953325984322379511 : True := trivial
theorem all.tw13100642850353945058 : True := trivial
theorem all.tw11084693905056812178 : True := trivial
theorem all.tw8013882960148741844 : True := trivial
theorem all.tw200202858802481044 : True := trivial
theorem all.tw10187130706547518558 : True := trivial

set_option Elab.async true in
set_option maxRecDepth 100000 in
set_option maxHeartbeats 40000000 in
theorem all : PySem.Challenge.rw_xn0021_01.Holds := by
  w_on; o_law; k_head; (case hw => w_witness2)
  have fn_2 : ∀ {w : World} {mg : Str → Option Value} {h : Heap} , (_root_.Mine.all.heap_1_39 w.params).In h → h.Ns mainGlobals mg → FnAt mg h 2 := fun KX g =>
    ⟨28, _, _, mg_of KX g (by kernel_rfl), KX 28 _ rfl, rfl, rfl, rfl, rfl, rfl, rfl, ⟨_, _, _, _, rfl, KX _ _ rfl, rfl, rfl⟩, fun vs hl => bind1 (fun v => rfl) hl⟩
  have fn_3 : ∀ {w : World} {mg : Str → Option Value} {h : Heap} , (_root_.Mine.all.heap_1_39 w.params).In h → h.Ns mainGlobals mg → FnAt mg h 3 := fun KX g =>
    ⟨35, _, _, mg_of KX g (by kernel_rfl), KX 35 _ rfl, rfl, rfl, rfl, rfl, rfl, rfl, ⟨_, _, _, _, rfl, KX _ _ rfl, rfl, rfl⟩, fun vs hl => bind1 (fun v => rfl) hl⟩
  have fn_4 : ∀ {w : World} {mg : Str → Option Value} {h : Heap} , (_root_.Mine.all.heap_1_39 w.params).In h → h.Ns mainGlobals mg → FnAt mg h 4 := fun KX g =>
    ⟨42, _, _, mg_of KX g (by kernel_rfl), KX 42 _ rfl, rfl, rfl, rfl, rfl, rfl, rfl, ⟨_, _, _, _, rfl, KX _ _ rfl, rfl, rfl⟩, fun vs hl => bind1 (fun v => rfl) hl⟩
  have fn_5 : ∀ {w : World} {mg : Str → Option Value} {h : Heap} , (_root_.Mine.all.heap_1_39 w.params).In h → h.Ns mainGlobals mg → FnAt mg h 5 := fun KX g =>
    ⟨49, _, _, mg_of KX g (by kernel_rfl), KX 49 _ rfl, rfl, rfl, rfl, rfl, rfl, rfl, ⟨_, _, _, _, rfl, KX _ _ rfl, rfl, rfl⟩, fun vs hl => bind1 (fun v => rfl) hl⟩
  have fn_6 : ∀ {w : World} {mg : Str → Option Value} {h : Heap} , (_root_.Mine.all.heap_1_39 w.params).In h → h.Ns mainGlobals mg → FnAt mg h 6 := fun KX g =>
    ⟨56, _, _, mg_of KX g (by kernel_rfl), KX 56 _ rfl, rfl, rfl, rfl, rfl, rfl, rfl, ⟨_, _, _, _, rfl, KX _ _ rfl, rfl, rfl⟩, fun vs hl => bind1 (fun v => rfl) hl⟩
  have fn_13 : ∀ {w : World} {mg : Str → Option Value} {h : Heap} , (_root_.Mine.all.heap_1_39 w.params).In h → h.Ns mainGlobals mg → FnAt mg h 13 := fun KX g =>
    ⟨100, _, _, mg_of KX g (by kernel_rfl), KX 100 _ rfl, rfl, rfl, rfl, rfl, rfl, rfl, ⟨_, _, _, _, rfl, KX _ _ rfl, rfl, rfl⟩, fun vs hl => bind2 (fun v u => rfl) hl⟩
  have fn_14 : ∀ {w : World} {mg : Str → Option Value} {h : Heap} , (_root_.Mine.all.heap_1_39 w.params).In h → h.Ns mainGlobals mg → FnAt mg h 14 := fun KX g =>
    ⟨107, _, _, mg_of KX g (by kernel_rfl), KX 107 _ rfl, rfl, rfl, rfl, rfl, rfl, rfl, ⟨_, _, _, _, rfl, KX _ _ rfl, rfl, rfl⟩, fun vs hl => bind1 (fun v => rfl) hl⟩
  have fn_67 : ∀ {w : World} {mg : Str → Option Value} {h : Heap} , (_root_.Mine.all.heap_1_39 w.params).In h → h.Ns mainGlobals mg → FnAt mg h 67 := fun KX g =>
    ⟨117, _, _, mg_of KX g (by kernel_rfl), KX 117 _ rfl, rfl, rfl, rfl, rfl, rfl, rfl, ⟨_, _, _, _, rfl, KX _ _ rfl, rfl, rfl⟩, fun vs hl => bind1 (fun v => rfl) hl⟩
  have fn_68 : ∀ {w : World} {mg : Str → Option Value} {h : Heap} , (_root_.Mine.all.heap_1_39 w.params).In h → h.Ns mainGlobals mg → FnAt mg h 68 := fun KX g =>
    ⟨124, _, _, mg_of KX g (by kernel_rfl), KX 124 _ rfl, rfl, rfl, rfl, rfl, rfl, rfl, ⟨_, _, _, _, rfl, KX _ _ rfl, rfl, rfl⟩, fun vs hl => bind1 (fun v => rfl) hl⟩
  have fn_70 : ∀ {w : World} {mg : Str → Option Value} {h : Heap} , (_root_.Mine.all.heap_1_39 w.params).In h → h.Ns mainGlobals mg → FnAt mg h 70 := fun KX g =>
    ⟨129, _, _, mg_of KX g (by kernel_rfl), KX 129 _ rfl, rfl, rfl, rfl, rfl, rfl, rfl, ⟨_, _, _, _, rfl, KX _ _ rfl, rfl, rfl⟩, fun vs hl => bind1 (fun v => rfl) hl⟩
  have fn_71 : ∀ {w : World} {mg : Str → Option Value} {h : Heap} , (_root_.Mine.all.heap_1_39 w.params).In h → h.Ns mainGlobals mg → FnAt mg h 71 := fun KX g =>
    ⟨136, _, _, mg_of KX g (by kernel_rfl), KX 136 _ rfl, rfl, rfl, rfl, rfl, rfl, rfl, ⟨_, _, _, _, rfl, KX _ _ rfl, rfl, rfl⟩, fun vs hl => bind3 (fun v u t => rfl) hl⟩
  have fn_72 : ∀ {w : World} {mg : Str → Option Value} {h : Heap} , (_root_.Mine.all.heap_1_39 w.params).In h → h.Ns mainGlobals mg → FnAt mg h 72 := fun KX g =>
    ⟨143, _, _, mg_of KX g (by kernel_rfl), KX 143 _ rfl, rfl, rfl, rfl, rfl, rfl, rfl, ⟨_, _, _, _, rfl, KX _ _ rfl, rfl, rfl⟩, fun vs hl => bind1 (fun v => rfl) hl⟩
  have fn_73 : ∀ {w : World} {mg : Str → Option Value} {h : Heap} , (_root_.Mine.all.heap_1_39 w.params).In h → h.Ns mainGlobals mg → FnAt mg h 73 := fun KX g =>
    ⟨150, _, _, mg_of KX g (by kernel_rfl), KX 150 _ rfl, rfl, rfl, rfl, rfl, rfl, rfl, ⟨_, _, _, _, rfl, KX _ _ rfl, rfl, rfl⟩, fun vs hl => bind1 (fun v => rfl) hl⟩
  have fn_74 : ∀ {w : World} {mg : Str → Option Value} {h : Heap} , (_root_.Mine.all.heap_1_39 w.params).In h → h.Ns mainGlobals mg → FnAt mg h 74 := fun KX g =>
    ⟨157, _, _, mg_of KX g (by kernel_rfl), KX 157 _ rfl, rfl, rfl, rfl, rfl, rfl, rfl, ⟨_, _, _, _, rfl, KX _ _ rfl, rfl, rfl⟩, fun vs hl => bind2 (fun v u => rfl) hl⟩
  have fn_75 : ∀ {w : World} {mg : Str → Option Value} {h : Heap} , (_root_.Mine.all.heap_1_39 w.params).In h → h.Ns mainGlobals mg → FnAt mg h 75 := fun KX g =>
    ⟨162, _, _, mg_of KX g (by kernel_rfl), KX 162 _ rfl, rfl, rfl, rfl, rfl, rfl, rfl, ⟨_, _, _, _, rfl, KX _ _ rfl, rfl, rfl⟩, fun vs hl => bind3 (fun v u t => rfl) hl⟩
  have fn_76 : ∀ {w : World} {mg : Str → Option Value} {h : Heap} , (_root_.Mine.all.heap_1_39 w.params).In h → h.Ns mainGlobals mg → FnAt mg h 76 := fun KX g =>
    ⟨167, _, _, mg_of KX g (by kernel_rfl), KX 167 _ rfl, rfl, rfl, rfl, rfl, rfl, rfl, ⟨_, _, _, _, rfl, KX _ _ rfl, rfl, rfl⟩, fun vs hl => bind1 (fun v => rfl) hl⟩
  have fn_77 : ∀ {w : World} {mg : Str → Option Value} {h : Heap} , (_root_.Mine.all.heap_1_39 w.params).In h → h.Ns mainGlobals mg → FnAt mg h 77 := fun KX g =>
    ⟨172, _, _, mg_of KX g (by kernel_rfl), KX 172 _ rfl, rfl, rfl, rfl, rfl, rfl, rfl, ⟨_, _, _, _, rfl, KX _ _ rfl, rfl, rfl⟩, fun vs hl => bind1 (fun v => rfl) hl⟩
  have fn_78 : ∀ {w : World} {mg : Str → Option Value} {h : Heap} , (_root_.Mine.all.heap_1_39 w.params).In h → h.Ns mainGlobals mg → FnAt mg h 78 := fun KX g =>
    ⟨179, _, _, mg_of KX g (by kernel_rfl), KX 179 _ rfl, rfl, rfl, rfl, rfl, rfl, rfl, ⟨_, _, _, _, rfl, KX _ _ rfl, rfl, rfl⟩, fun vs hl => bind1 (fun v => rfl) hl⟩
  have fn_79 : ∀ {w : World} {mg : Str → Option Value} {h : Heap} , (_root_.Mine.all.heap_1_39 w.params).In h → h.Ns mainGlobals mg → FnAt mg h 79 := fun KX g =>
    ⟨184, _, _, mg_of KX g (by kernel_rfl), KX 184 _ rfl, rfl, rfl, rfl, rfl, rfl, rfl, ⟨_, _, _, _, rfl, KX _ _ rfl, rfl, rfl⟩, fun vs hl => bind2 (fun v u => rfl) hl⟩
  have fn_80 : ∀ {w : World} {mg : Str → Option Value} {h : Heap} , (_root_.Mine.all.heap_1_39 w.params).In h → h.Ns mainGlobals mg → FnAt mg h 80 := fun KX g =>
    ⟨189, _, _, mg_of KX g (by kernel_rfl), KX 189 _ rfl, rfl, rfl, rfl, rfl, rfl, rfl, ⟨_, _, _, _, rfl, KX _ _ rfl, rfl, rfl⟩, fun vs hl => bind1 (fun v => rfl) hl⟩
  have tabK : ∀ {w : World} {h : Heap} , (_root_.Mine.all.heap_1_39 w.params).In h → StrTab PR w h 108 exD := by
    intro w h KX
    have ho : h.get? 108 = some { cls := .type "dict", data := .dict (exL.map fun q => (⟨PyData.keyHash w.params q.1, .str q.1 q.2.1, .int q.2.2.1 q.2.2.2⟩ : DictEntry)).toArray 48 } := KX 108 _ (by kernel_rfl)
    have e : exD = exL.map fun q => (PyData.str q.1, PyData.int q.2.2.1) := by kernel_rfl
    rw [e]
    refine TabAt.ofObj (by decide) ho ⟨_, _, ⟨rfl, rfl, rfl⟩, rfl, fun x hx => ?_, pairs_lit exL, ?_⟩ (flat_lit exL)
    · have hx' := List.mem_toArray.mp hx
      obtain ⟨q, -, rfl⟩ := List.mem_map.mp hx'
      exact ⟨q.1, strKind_is PR w _ _, rfl⟩
    · rw [List.map_map]; decide +kernel
  have erK : ∀ {w : World} {mg : Str → Option Value} {h : Heap} , (_root_.Mine.all.heap_1_39 w.params).In h → h.Ns mainGlobals mg → OwnClsQ (Str.ofString "error_reply") 79 excB "Exception.__new__" mg h := by
    intro w mg h KX g
    have quiet : ∀ N, nsOkIn (_root_.Mine.all.heap_1_39 w.params) N = true → nsIn (_root_.Mine.all.heap_1_39 w.params) N "__init__" = some none → nsIn (_root_.Mine.all.heap_1_39 w.params) N "__getattribute__" = some none → nsIn (_root_.Mine.all.heap_1_39 w.params) N "__getattr__" = some none → nsIn (_root_.Mine.all.heap_1_39 w.params) N "args" = some none →
        h.Ns N (h.nsMap N) ∧ ∀ n ∈ quietNames, h.nsMap N n = none := fun N h0 h1 h2 h3 h4 => by
      refine ⟨.of_isNs (isNs_of_in KX h0), fun n hn => ?_⟩
      simp only [quietNames, List.mem_cons, List.not_mem_nil, or_false] at hn
      rcases hn with rfl | rfl | rfl | rfl
      · exact nsMap_none_of_in KX h0 h1
      · exact nsMap_none_of_in KX h0 h2
      · exact nsMap_none_of_in KX h0 h3
      · exact nsMap_none_of_in KX h0 h4
    obtain ⟨a1, a2⟩ := quiet 78 (by kernel_rfl) (by kernel_rfl) (by kernel_rfl) (by kernel_rfl) (by kernel_rfl)
    obtain ⟨b1, b2⟩ := quiet 65 (by kernel_rfl) (by kernel_rfl) (by kernel_rfl) (by kernel_rfl) (by kernel_rfl)
    exact ⟨mg_of KX g (by kernel_rfl), _, 78, _, _, _, _, _, _, _, _, _, _, _, _, _, _, _, KX 79 _ rfl, a1, a2, .own (KX 66 _ rfl) b1 b2 .base⟩
  have gf_of : ∀ {w : World} {mg : Str → Option Value} {mb : Str → Option Value} {h : Heap} {p : Program} {loose : List Str}, (_root_.Mine.all.heap_1_39 w.params).In h → TopRead p loose mg mb h → GF w mg mb h := fun {w} {mg} {mb} {h} {p} {loose} KX T =>
    { g := T.g,
      b := T.b,
      nl := T.nolimit,
      bn := by
            have key : ∀ (x : Str) (v : Value), x ≠ "__name__" → bootBuiltins x = some v → nsIn (_root_.Mine.all.heap_1_39 w.params) mainGlobals x = some none → mg x = none ∧ mb x = some v := fun x v hx hb e => ⟨ns_none_of KX T.g e, (T.builtins x hx).trans hb⟩
            intro q hq
            simp only [bnames, List.mem_cons, List.not_mem_nil, or_false] at hq
            rcases hq with rfl | rfl | rfl | rfl | rfl | rfl | rfl
            all_goals exact key _ _ (by decide +kernel) (by kernel_rfl) (by kernel_rfl),
      fn := by
            intro i hi
            simp only [fnList, List.mem_cons, List.not_mem_nil, or_false] at hi
            rcases hi with rfl | rfl | rfl | rfl | rfl | rfl | rfl | rfl | rfl | rfl | rfl | rfl | rfl | rfl | rfl | rfl | rfl | rfl | rfl | rfl
            · exact fn_2 KX T.g
            · exact fn_3 KX T.g
            · exact fn_4 KX T.g
            · exact fn_5 KX T.g
            · exact fn_6 KX T.g
            · exact fn_13 KX T.g
            · exact fn_14 KX T.g
            · exact fn_67 KX T.g
            · exact fn_68 KX T.g
            · exact fn_70 KX T.g
            · exact fn_71 KX T.g
            · exact fn_72 KX T.g
            · exact fn_73 KX T.g
            · exact fn_74 KX T.g
            · exact fn_75 KX T.g
            · exact fn_76 KX T.g
            · exact fn_77 KX T.g
            · exact fn_78 KX T.g
            · exact fn_79 KX T.g
            · exact fn_80 KX T.g,
      ic := by
            have key : ∀ (x : Str) (i : Int) (t : Tok), nsIn (_root_.Mine.all.heap_1_39 w.params) mainGlobals x = some (some (.int i t)) → ∃ t, mg x = some (.int i t) := fun x i t e => ⟨t, mg_of KX T.g e⟩
            intro q hq
            simp only [iconsts, List.mem_cons, List.not_mem_nil, or_false] at hq
            rcases hq with rfl | rfl | rfl | rfl | rfl | rfl | rfl
            · exact key _ _ 233 (by kernel_rfl)
            · exact key _ _ 315 (by kernel_rfl)
            · exact key _ _ 413 (by kernel_rfl)
            · exact key _ _ 345 (by kernel_rfl)
            · exact key _ _ 363 (by kernel_rfl)
            · exact key _ _ 371 (by kernel_rfl)
            · exact key _ _ 393 (by kernel_rfl),
      crlf := ⟨287, mg_of KX T.g (by kernel_rfl)⟩,
      tab := ⟨108, mg_of KX T.g (by kernel_rfl), tabK KX⟩,
      er := ⟨79, erK KX T.g⟩ }
  intro w s₀ s₁ mg mb G Y fa o pm cd doc dV kV ho hd' hcd hD hmg hg args vals as hpre hlay hrd hwl hlo
  have KX := kIn_of Y
  refine Ground.open G ?_
  intro T B D TE TW
  have GG := gf_of KX (topRead_of T)
  wrow_args hpre hlay hrd hwl hlo
  rename_i ns _ _ _ _ _ _ _ l _ _ _ _ w1 _ _ _ hcond _
  have hn : ns.length ≤ 63 := by omega
  refine Mine.c_law (by omega) (Mine.okD ns) ⟨⟨by decide, by decide⟩, rfl⟩ rfl hmg GG (.cons (Mine.rep_well w1) .nil) fun s' g => ?_
  obtain ⟨⟨h', tk, rfl, hk⟩, -⟩ := g
  exact ⟨.inl ⟨.bool true, .bool true, [], rfl, fun _ => rfl, .bool true, postW_of (by wrow_shape) (by wtm_val) (by first | w_fin | (str_meet; first | done | w_fin)), fun _ => ⟨List.nodup_nil, fun a h => by cases h⟩⟩, .of_keep hk, rfl, .of_eq hg⟩
end Mine
end

-- the statement
theorem PySem.Challenge.cw_xn0021_01_holds : PySem.Challenge.rw_xn0021_01.Holds :=
  Mine.all
